import JvmDerived
import JvmDerived.Pilot.@@N@@Statement
import JvmDerived.Pilot.@@N@@Code
set_option linter.unusedVariables false
set_option linter.unusedSimpArgs false
namespace Jvm.Pilot.@@N@@
open Jvm Jvm.ClassFile Sem Op Lib Jvm.Free Jvm.Stand Jvm.LawKit Jvm.RoadKit Bundle Jvm.Pilot.@@N@@.Jvm.D
section Own
variable {p : Program} {l : Launch} {e : Env} {R : Room} {s : State} {m : MethodId} {args : Array Value} {below : List Frame} {meth : Method} {c : Code} {T T' : State} {locs : List Loc} {cells slots : Nat} {Qf : Option Value → Heap → List Loc → Prop} {C S : Nat} {F F' : JFrame}
/-- from the state T with the frame F on top the invocation ends as Qf says -/
def own_Go (p : Program) (e : Env) (below : List Frame) (s : State) (Qf : Option Value → Heap → List Loc → Prop) (C S : Nat) (T : State) (F : JFrame) : Prop :=
  ∃ s₂ o, Steps p.tables e below (T.setTop F) s₂ ∧ s₂.status = .running ∧ Ended s₂ below o ∧ ∃ v L, o = .returned v ∧ Qf v s₂.heap L ∧ FrameEnd s o s₂ L C S
theorem own_enter (q : F = F') (hr : own_Go p e below s Qf C S T F') : ∃ s₂ o, Steps p.tables e below (T.setTop F) s₂ ∧ s₂.status = .running ∧ Ended s₂ below o ∧ ∃ v L, o = .returned v ∧ Qf v s₂.heap L ∧ FrameEnd s o s₂ L C S := by
  subst q; exact hr
theorem own_st (st : ∀ t, Steps p.tables e below (T'.setTop F') t → Steps p.tables e below (T.setTop F) t) (hr : own_Go p e below s Qf C S T' F') : own_Go p e below s Qf C S T F := by
  obtain ⟨s2, o, h1, h2⟩ := hr
  exact ⟨s2, o, st _ h1, h2⟩
theorem own_tr (st : Steps p.tables e below (T.setTop F) (T'.setTop F')) (hr : own_Go p e below s Qf C S T' F') : own_Go p e below s Qf C S T F := by
  obtain ⟨s2, o, h1, h2⟩ := hr
  exact ⟨s2, o, st.trans h1, h2⟩
theorem own_ret (X : Stand p l e R s m args below meth c T locs cells slots) (hlk : meth.locks = false) {v : Option Value} (hv : meth.sig.returnType = none → v = none)
    (st : ∀ fs, (∀ (f : JFrame) (acts : List Action), f.method = m → f.locked = none → f.entered = [] → (doReturn e (T.setTop f) acts v).1 = T.setFrames fs) → Steps p.tables e below (T.setTop F) (T.setFrames fs))
    (hQ : Qf v T.heap locs) (hC : cells ≤ C) (hS : slots ≤ S) : own_Go p e below s Qf C S T F := by
  obtain ⟨fs, hr, hrun, hended, hW, hsame⟩ := X.leave (v := v) hv hlk
  exact ⟨_, _, st fs hr, hrun, hended, _, _, rfl, hQ, ⟨_, rfl⟩, hW, hsame.mono hC hS⟩
theorem own_retN (X : Stand p l e R s m args below meth c T locs cells slots) (hx : p.tables.exec = Jvm.exec) (hlk : meth.locks = false) {pc : Nat} {Ls : Array Slot} {z : Int32} {t : FieldType} {rest : List Value} (hret : meth.sig.returnType = some t) (ht : t = .boolean ∨ t = .byte ∨ t = .char ∨ t = .short) (hd : decode c.code pc = .ok (.ireturn, 1))
    (hQ : Qf (some (.int (nar t z))) T.heap locs) (hC : cells ≤ C) (hS : slots ≤ S) : own_Go p e below s Qf C S T (mkF m pc Ls (.int z :: rest)) :=
  own_ret X hlk (fun h => by rw [hret] at h; cases h) (fun _ hr => retN X hx hret ht hd hr) hQ hC hS
theorem own_retI (X : Stand p l e R s m args below meth c T locs cells slots) (hx : p.tables.exec = Jvm.exec) (hlk : meth.locks = false) {pc : Nat} {Ls : Array Slot} {z : Int32} {rest : List Value} (hret : meth.sig.returnType = some .int) (hd : decode c.code pc = .ok (.ireturn, 1))
    (hQ : Qf (some (.int z)) T.heap locs) (hC : cells ≤ C) (hS : slots ≤ S) : own_Go p e below s Qf C S T (mkF m pc Ls (.int z :: rest)) :=
  own_ret X hlk (fun h => by rw [hret] at h; cases h) (fun _ hr => retOut X hx hret rfl (Or.inl ⟨rfl, Or.inl rfl, _, rfl⟩) hd hr) hQ hC hS
theorem own_retJ (X : Stand p l e R s m args below meth c T locs cells slots) (hx : p.tables.exec = Jvm.exec) (hlk : meth.locks = false) {pc : Nat} {Ls : Array Slot} {z : Int64} {rest : List Value} (hret : meth.sig.returnType = some .long) (hd : decode c.code pc = .ok (.lreturn, 1))
    (hQ : Qf (some (.long z)) T.heap locs) (hC : cells ≤ C) (hS : slots ≤ S) : own_Go p e below s Qf C S T (mkF m pc Ls (.long z :: rest)) :=
  own_ret X hlk (fun h => by rw [hret] at h; cases h) (fun _ hr => retOut X hx hret rfl (Or.inr (Or.inl ⟨rfl, rfl, _, rfl⟩)) hd hr) hQ hC hS
theorem own_retA (X : Stand p l e R s m args below meth c T locs cells slots) (hx : p.tables.exec = Jvm.exec) (hlk : meth.locks = false) {pc : Nat} {Ls : Array Slot} {w : Value} {t : FieldType} {rest : List Value} (hret : meth.sig.returnType = some t) (ht : t.isReference = true) (hw : w.isRef = true) (hn : narrow t w = w) (hd : decode c.code pc = .ok (.areturn, 1))
    (hQ : Qf (some w) T.heap locs) (hC : cells ≤ C) (hS : slots ≤ S) : own_Go p e below s Qf C S T (mkF m pc Ls (w :: rest)) :=
  own_ret X hlk (fun h => by rw [hret] at h; cases h) (fun _ hr => retOut X hx hret hn (Or.inr (Or.inr (Or.inr (Or.inr ⟨rfl, ht, hw⟩)))) hd hr) hQ hC hS
theorem own_retV (X : Stand p l e R s m args below meth c T locs cells slots) (hx : p.tables.exec = Jvm.exec) (hlk : meth.locks = false) {pc : Nat} {Ls : Array Slot} (hret : meth.sig.returnType = none) (hd : decode c.code pc = .ok (.return_, 1))
    (hQ : Qf none T.heap locs) (hC : cells ≤ C) (hS : slots ≤ S) : own_Go p e below s Qf C S T (mkF m pc Ls []) :=
  own_ret X hlk (fun _ => rfl) (fun _ hr => X.returnOut hx hret hd hr) hQ hC hS
def own_cc : ClassFile.Cond → Int32 → Int32 → Prop
  | .eq, x, y => x = y
  | .ne, x, y => ¬ x = y
  | .lt, x, y => x < y
  | .ge, x, y => ¬ x < y
  | .gt, x, y => y < x
  | .le, x, y => ¬ y < x
def own_nn : ClassFile.Cond → Int32 → Int32 → Prop
  | .eq, x, y => ¬ x = y
  | .ne, x, y => x = y
  | .lt, x, y => ¬ x < y
  | .ge, x, y => x < y
  | .gt, x, y => ¬ y < x
  | .le, x, y => y < x
theorem own_split (cd : ClassFile.Cond) (x y : Int32) : (own_cc cd x y ∧ if_icmp.holds cd x y = true) ∨ (own_nn cd x y ∧ if_icmp.holds cd x y = false) := by
  cases cd
  · by_cases h : x = y
    · exact Or.inl ⟨h, (teq h).1⟩
    · exact Or.inr ⟨h, (feq h).1⟩
  · by_cases h : x = y
    · exact Or.inr ⟨h, (teq h).2⟩
    · exact Or.inl ⟨h, (feq h).2⟩
  · by_cases h : x < y
    · exact Or.inl ⟨h, (tlt h).1⟩
    · exact Or.inr ⟨h, (flt h).1⟩
  · by_cases h : x < y
    · exact Or.inr ⟨h, (tlt h).2.1⟩
    · exact Or.inl ⟨h, (flt h).2.1⟩
  · by_cases h : y < x
    · exact Or.inl ⟨h, (tlt h).2.2.1⟩
    · exact Or.inr ⟨h, (flt h).2.2.1⟩
  · by_cases h : y < x
    · exact Or.inr ⟨h, (tlt h).2.2.2⟩
    · exact Or.inl ⟨h, (flt h).2.2.2⟩
theorem own_icmp (X : Stand p l e R s m args below meth c T locs cells slots) (hx : p.tables.exec = Jvm.exec) {pc pc' pc2 : Nat} {Ls : Array Slot} {st : List Value} {x y : Int32} {cd : ClassFile.Cond} {o : Int} (hd : decode c.code pc = .ok (.if_icmp cd o, 3)) (ho : 0 ≤ (pc : Int) + o) (hp : ((pc : Int) + o).toNat = pc') (h2 : pc + 3 = pc2)
    (hY : own_cc cd x y → own_Go p e below s Qf C S T (mkF m pc' Ls st)) (hN : own_nn cd x y → own_Go p e below s Qf C S T (mkF m pc2 Ls st)) : own_Go p e below s Qf C S T (mkF m pc Ls (.int y :: .int x :: st)) := by
  subst h2
  rcases own_split cd x y with ⟨h, q⟩ | ⟨h, q⟩
  · exact own_st (fun _ k => XS.icmpYes X.here hx rfl (pc0 := pc) (pc' := pc') rfl hd rfl q ho hp k) (hY h)
  · exact own_st (fun _ k => XS.icmpNo X.here hx rfl hd rfl q k) (hN h)
theorem own_ifc (X : Stand p l e R s m args below meth c T locs cells slots) (hx : p.tables.exec = Jvm.exec) {pc pc' pc2 : Nat} {Ls : Array Slot} {st : List Value} {x : Int32} {cd : ClassFile.Cond} {o : Int} (hd : decode c.code pc = .ok (.ifCond cd o, 3)) (ho : 0 ≤ (pc : Int) + o) (hp : ((pc : Int) + o).toNat = pc') (h2 : pc + 3 = pc2)
    (hY : own_cc cd x 0 → own_Go p e below s Qf C S T (mkF m pc' Ls st)) (hN : own_nn cd x 0 → own_Go p e below s Qf C S T (mkF m pc2 Ls st)) : own_Go p e below s Qf C S T (mkF m pc Ls (.int x :: st)) := by
  subst h2
  rcases own_split cd x 0 with ⟨h, q⟩ | ⟨h, q⟩
  · exact own_st (fun _ k => XS.ifYes X.here hx rfl (pc0 := pc) (pc' := pc') rfl hd rfl ((if0 _ _).trans q) ho hp k) (hY h)
  · exact own_st (fun _ k => XS.ifNo X.here hx rfl hd rfl ((if0 _ _).trans q) k) (hN h)
def own_ccL : ClassFile.Cond → Int64 → Int64 → Prop
  | .eq, x, y => x = y
  | .ne, x, y => ¬ x = y
  | .lt, x, y => x < y
  | .ge, x, y => ¬ x < y
  | .gt, x, y => y < x
  | .le, x, y => ¬ y < x
def own_nnL : ClassFile.Cond → Int64 → Int64 → Prop
  | .eq, x, y => ¬ x = y
  | .ne, x, y => x = y
  | .lt, x, y => ¬ x < y
  | .ge, x, y => x < y
  | .gt, x, y => ¬ y < x
  | .le, x, y => y < x
theorem own_lc (cd : ClassFile.Cond) (x y : Int64) : (own_cc cd (lcmpW x y) 0 → own_ccL cd x y) ∧ (own_nn cd (lcmpW x y) 0 → own_nnL cd x y) := by
  have h1 : x > y → lcmpW x y = 1 := fun h => by simp [lcmpW, h]
  have h2 : x = y → lcmpW x y = 0 := fun h => by subst h; simp [lcmpW, Int64.lt_irrefl]
  have h3 : ¬ x > y → ¬ x = y → lcmpW x y = -1 := fun h h' => by simp [lcmpW, h, h']
  have lt : x < y ↔ lcmpW x y < 0 := by
    by_cases a : x > y
    · rw [h1 a]; exact ⟨fun b => absurd (Int64.lt_trans a b) (Int64.lt_irrefl), fun b => absurd b (by decide)⟩
    · by_cases b : x = y
      · rw [h2 b, b]; exact ⟨fun q => absurd q (Int64.lt_irrefl), fun q => absurd q (by decide)⟩
      · rw [h3 a b]; exact ⟨fun _ => by decide, fun _ => by
          rw [Int64.lt_iff_toInt_lt]; simp only [gt_iff_lt, Int64.lt_iff_toInt_lt] at a
          have : x.toInt ≠ y.toInt := fun q => b (Int64.toInt_inj.mp q)
          omega⟩
  have gt : y < x ↔ 0 < lcmpW x y := by
    by_cases a : x > y
    · rw [h1 a]; exact ⟨fun _ => by decide, fun _ => a⟩
    · by_cases b : x = y
      · rw [h2 b]; exact ⟨fun q => absurd q a, fun q => absurd q (by decide)⟩
      · rw [h3 a b]; exact ⟨fun q => absurd q a, fun q => absurd q (by decide)⟩
  have eq : x = y ↔ lcmpW x y = 0 := by
    by_cases a : x > y
    · rw [h1 a]; exact ⟨fun b => absurd a (by rw [b]; exact Int64.lt_irrefl), fun b => absurd b (by decide)⟩
    · by_cases b : x = y
      · exact ⟨fun _ => h2 b, fun _ => b⟩
      · rw [h3 a b]; exact ⟨fun q => absurd q b, fun q => absurd q (by decide)⟩
  cases cd
  · exact ⟨fun h => eq.mpr h, fun h q => h (eq.mp q)⟩
  · exact ⟨fun h q => h (eq.mp q), fun h => eq.mpr h⟩
  · exact ⟨fun h => lt.mpr h, fun h q => h (lt.mp q)⟩
  · exact ⟨fun h q => h (lt.mp q), fun h => lt.mpr h⟩
  · exact ⟨fun h => gt.mpr h, fun h q => h (gt.mp q)⟩
  · exact ⟨fun h q => h (gt.mp q), fun h => gt.mpr h⟩
theorem own_iflc (X : Stand p l e R s m args below meth c T locs cells slots) (hx : p.tables.exec = Jvm.exec) {pc pc' pc2 : Nat} {Ls : Array Slot} {st : List Value} {x y : Int64} {cd : ClassFile.Cond} {o : Int} (hd : decode c.code pc = .ok (.ifCond cd o, 3)) (ho : 0 ≤ (pc : Int) + o) (hp : ((pc : Int) + o).toNat = pc') (h2 : pc + 3 = pc2)
    (hY : own_ccL cd x y → own_Go p e below s Qf C S T (mkF m pc' Ls st)) (hN : own_nnL cd x y → own_Go p e below s Qf C S T (mkF m pc2 Ls st)) : own_Go p e below s Qf C S T (mkF m pc Ls (.int (lcmpW x y) :: st)) :=
  own_ifc X hx hd ho hp h2 (fun h => hY ((own_lc cd x y).1 h)) (fun h => hN ((own_lc cd x y).2 h))
theorem own_acmp (X : Stand p l e R s m args below meth c T locs cells slots) (hx : p.tables.exec = Jvm.exec) {pc pc' pc2 : Nat} {Ls : Array Slot} {st : List Value} {x y : Addr} {o : Int} {cd : ACond} (hd : decode c.code pc = .ok (.if_acmp cd o, 3)) (ho : 0 ≤ (pc : Int) + o) (hp : ((pc : Int) + o).toNat = pc') (h2 : pc + 3 = pc2)
    (hE : x = y → own_Go p e below s Qf C S T (mkF m (if acV cd true = true then pc' else pc2) Ls st)) (hN : ¬ x = y → own_Go p e below s Qf C S T (mkF m (if acV cd false = true then pc' else pc2) Ls st)) : own_Go p e below s Qf C S T (mkF m pc Ls (.ref y :: .ref x :: st)) := by
  subst h2 hp
  by_cases h : x = y
  · exact own_st (fun _ k => Jvm.RoadKit.acmp (g := mkF m pc Ls (.ref y :: .ref x :: st)) X hx rfl rfl rfl (pc0 := pc) (same := true) rfl hd rfl (decide_eq_true (congrArg Value.ref h)) ho rfl k) (hE h)
  · exact own_st (fun _ k => Jvm.RoadKit.acmp (g := mkF m pc Ls (.ref y :: .ref x :: st)) X hx rfl rfl rfl (pc0 := pc) (same := false) rfl hd rfl (decide_eq_false fun q => h (Value.ref.inj q)) ho rfl k) (hN h)
theorem own_ord {Z : State} {a0 : Array Value} {t : Term} {a : Addr} {C n d : String} {k : Int32} (ev : t.eval a0 Z none [] Z = some (.ref a)) (h : (Cond.eq (Term.field t C n d) (Term.int k)).value a0 Z none Z [] = some true) : Fld Z Z.heap a C n d (.int k) := by
  have e1 : (Term.field t C n d).eval a0 Z none [] Z = Z.fieldOf? a C n d := fld_at ev
  simp only [Cond.value, e1] at h
  cases hq : Z.fieldOf? a C n d with
  | none => simp [hq] at h
  | some v =>
    rw [hq] at h
    cases v <;> simp [Term.eval] at h
    subst h
    exact Fld.start hq
theorem own_narb {z : Int32} (h : z = 0 ∨ z = 1) : nar .boolean z = z := by rcases h with rfl | rfl <;> rfl
theorem own_stk {Z : State} {h h' : Heap} {C n d : String} {v : Value} {ws : List Addr} (F : Sta Z h C n d v) (K : Keep h h' ws) (q : ∀ x ∈ ws, ∀ c : Cell, h[x]? = some c → c.vm.isStatics = false) : Sta Z h' C n d v := by
  obtain ⟨cf, i, k, f, st, cell, h1, h2, h3, h4, h5, h6, h7⟩ := F
  exact ⟨cf, i, k, f, st, cell, h1, h2, h3, h4, K.2.1 st cell h5 (fun z => by rw [q st z cell h5] at h6; cases h6), h6, h7⟩
theorem own_npE {Z : State} {h : Heap} {a : Addr} {C : String} (E : Exa Z h a C) : ∀ c : Cell, h[a]? = some c → c.vm.isStatics = false := fun c hc => by
  obtain ⟨cell, k, h1, h2, h3, h4, h5⟩ := E
  cases h1.symm.trans hc
  exact h4
theorem own_npA {Z : State} {h : Heap} {a : Addr} {k : ClassId} {ty : FieldType} {z : Int32} {vs : List Value} {dv : Value} (V : Arv Z h a k ty z vs dv) : ∀ c : Cell, h[a]? = some c → c.vm.isStatics = false := fun c hc => by
  obtain ⟨cl, A, r⟩ := V
  cases A.1.symm.trans hc
  exact A.plain
theorem own_len {Z : State} {a0 : Array Value} {t : Term} {a : Addr} {cl : Cell} {ty : FieldType} {k : Int32} (ev : t.eval a0 Z none [] Z = some (.ref a)) (A : Arr Z Z.heap a cl ty) (h : (Cond.eq (Term.length t) (Term.int k)).value a0 Z none Z [] = some true) : cl.slots.size < 2 ^ 31 ∧ cl.slots.size.toInt32 = k := by
  have ha : Z.arrayAt? a = some cl := IntBox.arrayAt_of A.1 A.2.1 A.2.2
  simp only [Cond.value, Term.eval, ev, Option.bind_eq_bind, Option.bind_some, ha] at h
  by_cases q : cl.slots.size < 2 ^ 31
  · simp [q] at h; exact ⟨q, h⟩
  · simp [q] at h
theorem own_elem {Z : State} {a0 : Array Value} {t : Term} {a : Addr} {cl : Cell} {ty : FieldType} {j v : Int32} (ev : t.eval a0 Z none [] Z = some (.ref a)) (A : Arr Z Z.heap a cl ty) (hj : ¬ j < 0) (h : (Cond.eq (Term.elem t (Term.int j)) (Term.int v)).value a0 Z none Z [] = some true) : cl.slots[j.toNatClampNeg]? = some (.int v) := by
  have ha : Z.arrayAt? a = some cl := IntBox.arrayAt_of A.1 A.2.1 A.2.2
  have e1 : (Term.elem t (Term.int j)).eval a0 Z none [] Z = cl.slots[j.toNatClampNeg]? := elem_f ev rfl ha hj
  simp only [Cond.value, e1] at h
  cases hq : cl.slots[j.toNatClampNeg]? with
  | none => simp [hq] at h
  | some w =>
    rw [hq] at h
    cases w <;> simp [Term.eval] at h
    rw [h]
theorem own_arvex {Z : State} {a : Addr} {cl : Cell} {ty : FieldType} {z : Int32} {dv : Value} (hf : Fit Z) (A : Arr Z Z.heap a cl ty) (q : cl.slots.size < 2 ^ 31) (e : cl.slots.size.toInt32 = z) (hz : ¬ z < 0) : ∃ vs, Arv Z Z.heap a cl.cls ty z vs dv := by
  have S : cl.slots.size = z.toNatClampNeg := by rw [← e]; simp only [Int32.toNatClampNeg, len_toInt q]; rfl
  have H : Has cl cl.slots.toList dv := fun k hk => by
    rw [List.getD_eq_getElem?_getD, Array.getElem?_toList, Array.getElem?_eq_getElem hk]; rfl
  refine ⟨cl.slots.toList, cl, A, rfl, S, hz, H, fun j hj => ?_⟩
  have e1 : (Nat.toInt32 j).toNatClampNeg = j := by simp only [Int32.toNatClampNeg, len_toInt (Nat.lt_trans hj q)]; rfl
  exact elem_fits (j := Nat.toInt32 j) hf A (idx_in hj q) (by rw [e1]; exact H j hj)
theorem own_selp {s : State} {args : Array Value} {y : MethodName} {n : Nat} (wi : (Cond.instantiable y.cls n).before args s = true) (hp : s.PrivateAt y) (hi : (Cond.instanceMethod y).before args s = true) (hy : y.cls ≠ "java/lang/invoke/MethodHandle" ∧ y.cls ≠ "java/lang/invoke/VarHandle") : (Cond.selects y.cls y y).before args s = true := by
  obtain ⟨c, k, hc, hk, -, hf, -⟩ := Cond.instantiable_spec wi
  exact selects_self_of_private hc hk (by simp only [Bool.or_eq_false_iff] at hf; exact hf.1) hp hi hy
theorem own_nar0 : nar .boolean (0 : Int32) = 0 := rfl
theorem own_nar1 : nar .boolean (1 : Int32) = 1 := rfl
end Own

theorem own_ltof {a b n : Int32} (h : ¬ n < b) (hab : a < b) : a < n := by
  rw [Int32.lt_iff_toInt_lt] at *; omega
theorem own_m7 (x : Int32) : ¬ (x &&& 7) < 0 ∧ (x &&& 7).toNatClampNeg ≤ 7 := by
  have h := c_and x 7 (by decide)
  have e7 : (7 : Int32).toInt = 7 := rfl
  have e0 : (0 : Int32).toInt = 0 := rfl
  refine ⟨by rw [Int32.lt_iff_toInt_lt]; omega, ?_⟩
  simp only [Int32.toNatClampNeg]; omega
def own_M (n d0 d1 d2 d3 : Int32) : Prop := ¬ n < 4 ∧ d0 = 84 ∧ d1 = 90 ∧ d2 = 105 ∧ d3 = 102

theorem d3_0 : decode method_4_code 0 = .ok (.iload_n 0, 1) := by decide +kernel
theorem d3_1 : decode method_4_code 1 = .ok (.ifCond .ne 6, 3) := by decide +kernel
theorem d3_4 : decode method_4_code 4 = .ok (.bipush 84, 2) := by decide +kernel
theorem d3_6 : decode method_4_code 6 = .ok (.ireturn, 1) := by decide +kernel
theorem d3_7 : decode method_4_code 7 = .ok (.iload_n 0, 1) := by decide +kernel
theorem d3_8 : decode method_4_code 8 = .ok (.iconst 1, 1) := by decide +kernel
theorem d3_9 : decode method_4_code 9 = .ok (.if_icmp .ne 6, 3) := by decide +kernel
theorem d3_12 : decode method_4_code 12 = .ok (.bipush 90, 2) := by decide +kernel
theorem d3_14 : decode method_4_code 14 = .ok (.ireturn, 1) := by decide +kernel
theorem d3_15 : decode method_4_code 15 = .ok (.iload_n 0, 1) := by decide +kernel
theorem d3_16 : decode method_4_code 16 = .ok (.iconst 2, 1) := by decide +kernel
theorem d3_17 : decode method_4_code 17 = .ok (.if_icmp .ne 6, 3) := by decide +kernel
theorem d3_20 : decode method_4_code 20 = .ok (.bipush 105, 2) := by decide +kernel
theorem d3_22 : decode method_4_code 22 = .ok (.ireturn, 1) := by decide +kernel
theorem d3_23 : decode method_4_code 23 = .ok (.bipush 102, 2) := by decide +kernel
theorem d3_25 : decode method_4_code 25 = .ok (.ireturn, 1) := by decide +kernel
theorem own_pn3 : plainName "sundrywick/calendar/TzifParserHasMagicPinLaw" = true := by first | (simp [plainName, overriddenIn]; done) | decide +kernel
theorem own_ef3 (m : MethodId) (x0 : Int32) : entryFrame m #[(.int x0)] 1 = (mkF m 0 #[.val (.int x0)] []) := by first | (simp [entryFrame, mkF, argsToLocals, Value.category]; done) | rfl
def Q3 (Z : State) (x0 : Int32)  (h0 : Heap) (n0 : Nat) (v : Option Value) (h : Heap) (L : List Loc) : Prop := (∃ z : Int32, v = some (.int z) ∧ (True)) ∧ Fr n0 L ∧ h = h0
set_option maxRecDepth 65536 in
set_option maxHeartbeats 40000000 in
theorem rm3 (l : Launch) (Z : State) (a0 : Array Value) (hw : ∀ d ∈ tables_1, d.before a0 Z = true) (ws : List Jvm.Cond) (x0 : Int32)  (h0 : Heap) (n0 : Nat) (Z0 : n0 ≤ h0.size)  :
    MetFree l (⟨"sundrywick/calendar/TzifParserHasMagicPinLaw", "magic", "(I)B"⟩ : MethodName) (head1 (Jvm.Cond.code (⟨"sundrywick/calendar/TzifParserHasMagicPinLaw", "magic", "(I)B"⟩ : MethodName) method_4_code 1 (some .byte) :: ws) ({ frames := 0, cells := 0, slots := 0, locals := 0 } : Room)) (fun a U => a = #[(.int x0)] ∧ Z.Warmed39 U.vm ∧ U.heap = h0) (fun _ _ _ _ _ => True) (fun _ U oc U' => ∃ v L, oc = .returned v ∧ Q3 Z x0  h0 n0 v U'.heap L ∧ FrameEnd U oc U' L ({ frames := 0, cells := 0, slots := 0, locals := 0 } : Room).cells ({ frames := 0, cells := 0, slots := 0, locals := 0 } : Room).slots) := by
  refine MetFree.of_bodySF (plainFor_of_name own_pn3) hisR ?_
  intro p e s m args below meth c s₁ Bd hml0 hP hK
  obtain ⟨rfl, hZ, hh⟩ := hP
  have hx := Bd.exec
  have hby := Bd.bytes
  have hlk : meth.locks = false := BodyLoose.notSynchronized Bd
  have hml : c.maxLocals = 1 := hml0
  have hown : s.vm.findClass "sundrywick/calendar/TzifParserHasMagicPinLaw" = some m.cls := findClass_of_methodNamed Bd.named
  have hnm := (name_of_methodNamed Bd.named Bd.method).1
  have X0 : Stand p l e ({ frames := 0, cells := 0, slots := 0, locals := 0 } : Room) s m #[(.int x0)] below meth c s₁ [] 0 0 := Stand.of_body Bd
  have e0 : s₁.heap = h0 := by rw [← hh, Bd.state]; rfl
  have N0 := Fr.nil n0
  refine own_enter (own_ef3 m x0) ?_
  show own_Go p e below s (Q3 Z x0  h0 n0) ({ frames := 0, cells := 0, slots := 0, locals := 0 } : Room).cells ({ frames := 0, cells := 0, slots := 0, locals := 0 } : Room).slots s₁ (mkF m 0 #[.val (.int x0)] [])
  refine own_st (T' := s₁) (F' := (mkF m 1 #[.val (.int x0)] [(.int x0)])) (fun _ k => XS.iloadN X0.here hx rfl (hb hby d3_0) rfl  k) ?_
  refine own_ifc X0 hx (pc' := 7) (pc2 := 4) (hb hby d3_1) (by decide) (by decide) rfl (fun (hc1 : ¬ (x0 = (0 : Int32))) => ?_) (fun (hc1 : x0 = (0 : Int32)) => ?_)
  ·
    refine own_st (T' := s₁) (F' := (mkF m 8 #[.val (.int x0)] [(.int x0)])) (fun _ k => XS.iloadN X0.here hx rfl (hb hby d3_7) rfl  k) ?_
    refine own_st (T' := s₁) (F' := (mkF m 9 #[.val (.int x0)] [(.int (1 : Int32)), (.int x0)])) (fun _ k => XS.iconst X0.here hx rfl (hb hby d3_8) k) ?_
    refine own_icmp X0 hx (pc' := 15) (pc2 := 12) (hb hby d3_9) (by decide) (by decide) rfl (fun (hc9 : ¬ (x0 = (1 : Int32))) => ?_) (fun (hc9 : x0 = (1 : Int32)) => ?_)
    ·
      refine own_st (T' := s₁) (F' := (mkF m 16 #[.val (.int x0)] [(.int x0)])) (fun _ k => XS.iloadN X0.here hx rfl (hb hby d3_15) rfl  k) ?_
      refine own_st (T' := s₁) (F' := (mkF m 17 #[.val (.int x0)] [(.int (2 : Int32)), (.int x0)])) (fun _ k => XS.iconst X0.here hx rfl (hb hby d3_16) k) ?_
      refine own_icmp X0 hx (pc' := 23) (pc2 := 20) (hb hby d3_17) (by decide) (by decide) rfl (fun (hc17 : ¬ (x0 = (2 : Int32))) => ?_) (fun (hc17 : x0 = (2 : Int32)) => ?_)
      ·
        refine own_st (T' := s₁) (F' := (mkF m 25 #[.val (.int x0)] [(.int (102 : Int32))])) (fun _ k => XS.bipush X0.here hx rfl (hb hby d3_23) k) ?_
        refine own_retN X0 hx hlk (t := .byte) Bd.returns (by simp) (hb hby d3_25) ?_ (by decide) (by decide)
        rw [e0]
        refine ⟨⟨_, rfl, ?_⟩, N0, rfl⟩
        trivial
      ·
        refine own_st (T' := s₁) (F' := (mkF m 22 #[.val (.int x0)] [(.int (105 : Int32))])) (fun _ k => XS.bipush X0.here hx rfl (hb hby d3_20) k) ?_
        refine own_retN X0 hx hlk (t := .byte) Bd.returns (by simp) (hb hby d3_22) ?_ (by decide) (by decide)
        rw [e0]
        refine ⟨⟨_, rfl, ?_⟩, N0, rfl⟩
        trivial
    ·
      refine own_st (T' := s₁) (F' := (mkF m 14 #[.val (.int x0)] [(.int (90 : Int32))])) (fun _ k => XS.bipush X0.here hx rfl (hb hby d3_12) k) ?_
      refine own_retN X0 hx hlk (t := .byte) Bd.returns (by simp) (hb hby d3_14) ?_ (by decide) (by decide)
      rw [e0]
      refine ⟨⟨_, rfl, ?_⟩, N0, rfl⟩
      trivial
  ·
    refine own_st (T' := s₁) (F' := (mkF m 6 #[.val (.int x0)] [(.int (84 : Int32))])) (fun _ k => XS.bipush X0.here hx rfl (hb hby d3_4) k) ?_
    refine own_retN X0 hx hlk (t := .byte) Bd.returns (by simp) (hb hby d3_6) ?_ (by decide) (by decide)
    rw [e0]
    refine ⟨⟨_, rfl, ?_⟩, N0, rfl⟩
    trivial
theorem own_pd0 : parseMethodDescriptor "(I)B" = some ⟨[.int], some .byte⟩ := by decide +kernel
theorem d2_0 : decode method_3_code 0 = .ok (.iload_n 0, 1) := by decide +kernel
theorem d2_1 : decode method_3_code 1 = .ok (.iconst 4, 1) := by decide +kernel
theorem d2_2 : decode method_3_code 2 = .ok (.if_icmp .ge 16, 3) := by decide +kernel
theorem d2_5 : decode method_3_code 5 = .ok (.iload_n 1, 1) := by decide +kernel
theorem d2_6 : decode method_3_code 6 = .ok (.iload_n 0, 1) := by decide +kernel
theorem d2_7 : decode method_3_code 7 = .ok (.iushr, 1) := by decide +kernel
theorem d2_8 : decode method_3_code 8 = .ok (.iconst 1, 1) := by decide +kernel
theorem d2_9 : decode method_3_code 9 = .ok (.iand, 1) := by decide +kernel
theorem d2_10 : decode method_3_code 10 = .ok (.ifCond .eq 8, 3) := by decide +kernel
theorem d2_13 : decode method_3_code 13 = .ok (.iload_n 0, 1) := by decide +kernel
theorem d2_14 : decode method_3_code 14 = .ok (.invokestatic 19, 3) := by decide +kernel
theorem d2_17 : decode method_3_code 17 = .ok (.ireturn, 1) := by decide +kernel
theorem d2_18 : decode method_3_code 18 = .ok (.lload_n 2, 1) := by decide +kernel
theorem d2_19 : decode method_3_code 19 = .ok (.bipush 8, 2) := by decide +kernel
theorem d2_21 : decode method_3_code 21 = .ok (.iload_n 0, 1) := by decide +kernel
theorem d2_22 : decode method_3_code 22 = .ok (.imul, 1) := by decide +kernel
theorem d2_23 : decode method_3_code 23 = .ok (.lushr, 1) := by decide +kernel
theorem d2_24 : decode method_3_code 24 = .ok (.l2i, 1) := by decide +kernel
theorem d2_25 : decode method_3_code 25 = .ok (.i2b, 1) := by decide +kernel
theorem d2_26 : decode method_3_code 26 = .ok (.ireturn, 1) := by decide +kernel
theorem own_pn2 : plainName "sundrywick/calendar/TzifParserHasMagicPinLaw" = true := by first | (simp [plainName, overriddenIn]; done) | decide +kernel
theorem own_ef2 (m : MethodId) (x0 : Int32) (x1 : Int32) (x2 : Int64) : entryFrame m #[(.int x0), (.int x1), (.long x2)] 4 = (mkF m 0 #[.val (.int x0), .val (.int x1), .val (.long x2), .second] []) := by first | (simp [entryFrame, mkF, argsToLocals, Value.category]; done) | rfl
def Q2 (Z : State) (x0 : Int32) (x1 : Int32) (x2 : Int64)  (h0 : Heap) (n0 : Nat) (v : Option Value) (h : Heap) (L : List Loc) : Prop := (∃ z : Int32, v = some (.int z) ∧ (True)) ∧ Fr n0 L ∧ h = h0
set_option maxRecDepth 65536 in
set_option maxHeartbeats 40000000 in
theorem rm2 (l : Launch) (Z : State) (a0 : Array Value) (hw : ∀ d ∈ tables_1, d.before a0 Z = true) (ws : List Jvm.Cond) (x0 : Int32) (x1 : Int32) (x2 : Int64)  (h0 : Heap) (n0 : Nat) (Z0 : n0 ≤ h0.size)  :
    MetFree l (⟨"sundrywick/calendar/TzifParserHasMagicPinLaw", "at", "(IIJ)B"⟩ : MethodName) (head1 (Jvm.Cond.code (⟨"sundrywick/calendar/TzifParserHasMagicPinLaw", "at", "(IIJ)B"⟩ : MethodName) method_3_code 4 (some .byte) :: ws) ({ frames := 1, cells := 0, slots := 0, locals := 12 } : Room)) (fun a U => a = #[(.int x0), (.int x1), (.long x2)] ∧ Z.Warmed39 U.vm ∧ U.heap = h0) (fun _ _ _ _ _ => True) (fun _ U oc U' => ∃ v L, oc = .returned v ∧ Q2 Z x0 x1 x2  h0 n0 v U'.heap L ∧ FrameEnd U oc U' L ({ frames := 1, cells := 0, slots := 0, locals := 12 } : Room).cells ({ frames := 1, cells := 0, slots := 0, locals := 12 } : Room).slots) := by
  refine MetFree.of_bodySF (plainFor_of_name own_pn2) hisR ?_
  intro p e s m args below meth c s₁ Bd hml0 hP hK
  obtain ⟨rfl, hZ, hh⟩ := hP
  have hx := Bd.exec
  have hby := Bd.bytes
  have hlk : meth.locks = false := BodyLoose.notSynchronized Bd
  have hml : c.maxLocals = 4 := hml0
  have hown : s.vm.findClass "sundrywick/calendar/TzifParserHasMagicPinLaw" = some m.cls := findClass_of_methodNamed Bd.named
  have hnm := (name_of_methodNamed Bd.named Bd.method).1
  have X0 : Stand p l e ({ frames := 1, cells := 0, slots := 0, locals := 12 } : Room) s m #[(.int x0), (.int x1), (.long x2)] below meth c s₁ [] 0 0 := Stand.of_body Bd
  have e0 : s₁.heap = h0 := by rw [← hh, Bd.state]; rfl
  have N0 := Fr.nil n0
  refine own_enter (own_ef2 m x0 x1 x2) ?_
  show own_Go p e below s (Q2 Z x0 x1 x2  h0 n0) ({ frames := 1, cells := 0, slots := 0, locals := 12 } : Room).cells ({ frames := 1, cells := 0, slots := 0, locals := 12 } : Room).slots s₁ (mkF m 0 #[.val (.int x0), .val (.int x1), .val (.long x2), .second] [])
  refine own_st (T' := s₁) (F' := (mkF m 1 #[.val (.int x0), .val (.int x1), .val (.long x2), .second] [(.int x0)])) (fun _ k => XS.iloadN X0.here hx rfl (hb hby d2_0) rfl  k) ?_
  refine own_st (T' := s₁) (F' := (mkF m 2 #[.val (.int x0), .val (.int x1), .val (.long x2), .second] [(.int (4 : Int32)), (.int x0)])) (fun _ k => XS.iconst X0.here hx rfl (hb hby d2_1) k) ?_
  refine own_icmp X0 hx (pc' := 18) (pc2 := 5) (hb hby d2_2) (by decide) (by decide) rfl (fun (hc2 : ¬ (x0 < (4 : Int32))) => ?_) (fun (hc2 : x0 < (4 : Int32)) => ?_)
  ·
    refine own_st (T' := s₁) (F' := (mkF m 19 #[.val (.int x0), .val (.int x1), .val (.long x2), .second] [(.long x2)])) (fun _ k => XS.lloadN X0.here hx rfl (hb hby d2_18) rfl  k) ?_
    refine own_st (T' := s₁) (F' := (mkF m 21 #[.val (.int x0), .val (.int x1), .val (.long x2), .second] [(.int (8 : Int32)), (.long x2)])) (fun _ k => XS.bipush X0.here hx rfl (hb hby d2_19) k) ?_
    refine own_st (T' := s₁) (F' := (mkF m 22 #[.val (.int x0), .val (.int x1), .val (.long x2), .second] [(.int x0), (.int (8 : Int32)), (.long x2)])) (fun _ k => XS.iloadN X0.here hx rfl (hb hby d2_21) rfl  k) ?_
    refine own_st (T' := s₁) (F' := (mkF m 23 #[.val (.int x0), .val (.int x1), .val (.long x2), .second] [(.int ((8 : Int32) * x0)), (.long x2)])) (fun _ k => XS.imul X0.here hx rfl (hb hby d2_22) rfl k) ?_
    refine own_st (T' := s₁) (F' := (mkF m 24 #[.val (.int x0), .val (.int x1), .val (.long x2), .second] [(.long ((x2.toUInt64 >>> (((8 : Int32) * x0) &&& 0x3f).toInt64.toUInt64).toInt64))])) (fun _ k => XS.lushr X0.here hx rfl (hb hby d2_23) rfl k) ?_
    refine own_st (T' := s₁) (F' := (mkF m 25 #[.val (.int x0), .val (.int x1), .val (.long x2), .second] [(.int (((x2.toUInt64 >>> (((8 : Int32) * x0) &&& 0x3f).toInt64.toUInt64).toInt64).toInt32))])) (fun _ k => XS.l2i X0.here hx rfl (hb hby d2_24) rfl k) ?_
    refine own_st (T' := s₁) (F' := (mkF m 26 #[.val (.int x0), .val (.int x1), .val (.long x2), .second] [(.int ((((x2.toUInt64 >>> (((8 : Int32) * x0) &&& 0x3f).toInt64.toUInt64).toInt64).toInt32).toInt8.toInt32))])) (fun _ k => XS.i2b X0.here hx rfl (hb hby d2_25) rfl k) ?_
    refine own_retN X0 hx hlk (t := .byte) Bd.returns (by simp) (hb hby d2_26) ?_ (by decide) (by decide)
    rw [e0]
    refine ⟨⟨_, rfl, ?_⟩, N0, rfl⟩
    trivial
  ·
    refine own_st (T' := s₁) (F' := (mkF m 6 #[.val (.int x0), .val (.int x1), .val (.long x2), .second] [(.int x1)])) (fun _ k => XS.iloadN X0.here hx rfl (hb hby d2_5) rfl  k) ?_
    refine own_st (T' := s₁) (F' := (mkF m 7 #[.val (.int x0), .val (.int x1), .val (.long x2), .second] [(.int x0), (.int x1)])) (fun _ k => XS.iloadN X0.here hx rfl (hb hby d2_6) rfl  k) ?_
    refine own_st (T' := s₁) (F' := (mkF m 8 #[.val (.int x0), .val (.int x1), .val (.long x2), .second] [(.int ((x1.toUInt32 >>> (x0 &&& 31).toUInt32).toInt32))])) (fun _ k => XS.iushr X0.here hx rfl (hb hby d2_7) rfl k) ?_
    refine own_st (T' := s₁) (F' := (mkF m 9 #[.val (.int x0), .val (.int x1), .val (.long x2), .second] [(.int (1 : Int32)), (.int ((x1.toUInt32 >>> (x0 &&& 31).toUInt32).toInt32))])) (fun _ k => XS.iconst X0.here hx rfl (hb hby d2_8) k) ?_
    refine own_st (T' := s₁) (F' := (mkF m 10 #[.val (.int x0), .val (.int x1), .val (.long x2), .second] [(.int (((x1.toUInt32 >>> (x0 &&& 31).toUInt32).toInt32) &&& (1 : Int32)))])) (fun _ k => XS.iand X0.here hx rfl (hb hby d2_9) rfl k) ?_
    refine own_ifc X0 hx (pc' := 18) (pc2 := 13) (hb hby d2_10) (by decide) (by decide) rfl (fun (hc10 : (((x1.toUInt32 >>> (x0 &&& 31).toUInt32).toInt32) &&& (1 : Int32)) = (0 : Int32)) => ?_) (fun (hc10 : ¬ ((((x1.toUInt32 >>> (x0 &&& 31).toUInt32).toInt32) &&& (1 : Int32)) = (0 : Int32))) => ?_)
    ·
      refine own_st (T' := s₁) (F' := (mkF m 19 #[.val (.int x0), .val (.int x1), .val (.long x2), .second] [(.long x2)])) (fun _ k => XS.lloadN X0.here hx rfl (hb hby d2_18) rfl  k) ?_
      refine own_st (T' := s₁) (F' := (mkF m 21 #[.val (.int x0), .val (.int x1), .val (.long x2), .second] [(.int (8 : Int32)), (.long x2)])) (fun _ k => XS.bipush X0.here hx rfl (hb hby d2_19) k) ?_
      refine own_st (T' := s₁) (F' := (mkF m 22 #[.val (.int x0), .val (.int x1), .val (.long x2), .second] [(.int x0), (.int (8 : Int32)), (.long x2)])) (fun _ k => XS.iloadN X0.here hx rfl (hb hby d2_21) rfl  k) ?_
      refine own_st (T' := s₁) (F' := (mkF m 23 #[.val (.int x0), .val (.int x1), .val (.long x2), .second] [(.int ((8 : Int32) * x0)), (.long x2)])) (fun _ k => XS.imul X0.here hx rfl (hb hby d2_22) rfl k) ?_
      refine own_st (T' := s₁) (F' := (mkF m 24 #[.val (.int x0), .val (.int x1), .val (.long x2), .second] [(.long ((x2.toUInt64 >>> (((8 : Int32) * x0) &&& 0x3f).toInt64.toUInt64).toInt64))])) (fun _ k => XS.lushr X0.here hx rfl (hb hby d2_23) rfl k) ?_
      refine own_st (T' := s₁) (F' := (mkF m 25 #[.val (.int x0), .val (.int x1), .val (.long x2), .second] [(.int (((x2.toUInt64 >>> (((8 : Int32) * x0) &&& 0x3f).toInt64.toUInt64).toInt64).toInt32))])) (fun _ k => XS.l2i X0.here hx rfl (hb hby d2_24) rfl k) ?_
      refine own_st (T' := s₁) (F' := (mkF m 26 #[.val (.int x0), .val (.int x1), .val (.long x2), .second] [(.int ((((x2.toUInt64 >>> (((8 : Int32) * x0) &&& 0x3f).toInt64.toUInt64).toInt64).toInt32).toInt8.toInt32))])) (fun _ k => XS.i2b X0.here hx rfl (hb hby d2_25) rfl k) ?_
      refine own_retN X0 hx hlk (t := .byte) Bd.returns (by simp) (hb hby d2_26) ?_ (by decide) (by decide)
      rw [e0]
      refine ⟨⟨_, rfl, ?_⟩, N0, rfl⟩
      trivial
    ·
      refine own_st (T' := s₁) (F' := (mkF m 14 #[.val (.int x0), .val (.int x1), .val (.long x2), .second] [(.int x0)])) (fun _ k => XS.iloadN X0.here hx rfl (hb hby d2_13) rfl  k) ?_
      obtain ⟨_, _, ⟨T1, L1, k1, n1⟩, -, X1, ⟨Lc1, hQ1, l1, y1, z1⟩, st1⟩ := Jvm.LawKit.callS X0 hx (y := (⟨"sundrywick/calendar/TzifParserHasMagicPinLaw", "magic", "(I)B"⟩ : MethodName)) hown (mvT hZ (hw _ (List.mem_of_getElem? (i := 11) rfl))) (mvT hZ (hw _ (List.mem_of_getElem? (i := 12) rfl))) (mvT hZ (hw _ (List.mem_of_getElem? (i := 9) rfl))) (mvT hZ (hw _ (List.mem_of_getElem? (i := 13) rfl))) (by decide) (backOf (W := 0) (rm3 l Z a0 hw [] x0  h0 n0 Z0 ) hZ (hw _ (List.mem_of_getElem? (i := 13) rfl)) (hw _ (List.mem_of_getElem? (i := 9) rfl)) (by decide) (by decide)) (g := (mkF m 14 #[.val (.int x0), .val (.int x1), .val (.long x2), .second] [(.int x0)])) rfl (by rw [hml]; rfl) (argsL := [(.int x0)]) (rest := []) (lenOf own_pd0 rfl) rfl (by show 2 * 0 + _ ≤ _; exact Nat.le_of_eq rfl) (hb hby d2_14) (fun _ _ => ⟨rfl, e0, (by decide : 0 + 0 ≤ _), (by decide : 0 + 0 ≤ _)⟩)
      dsimp only [Pt.U, Pt.locs, Pt.cells, Pt.slots] at X1 l1 y1 z1 st1 hQ1
      subst l1 y1 z1
      obtain ⟨⟨r1, rfl, hr1⟩, Nq1, eq1⟩ := hQ1
      have N1 := Fr.app N0 Nq1
      refine own_st (T' := T1) (F' := (mkF m 17 #[.val (.int x0), .val (.int x1), .val (.long x2), .second] [(.int r1)])) (fun _ k => st1 _ k) ?_
      refine own_retN X1 hx hlk (t := .byte) Bd.returns (by simp) (hb hby d2_17) ?_ (by decide) (by decide)
      rw [eq1]
      refine ⟨⟨_, rfl, ?_⟩, N1, rfl⟩
      trivial
theorem d1_0 : decode prog_17_method_3_code 0 = .ok (.aload_n 0, 1) := by decide +kernel
theorem d1_1 : decode prog_17_method_3_code 1 = .ok (.arraylength, 1) := by decide +kernel
theorem d1_2 : decode prog_17_method_3_code 2 = .ok (.getstatic 22, 3) := by decide +kernel
theorem d1_5 : decode prog_17_method_3_code 5 = .ok (.arraylength, 1) := by decide +kernel
theorem d1_6 : decode prog_17_method_3_code 6 = .ok (.if_icmp .ge 5, 3) := by decide +kernel
theorem d1_9 : decode prog_17_method_3_code 9 = .ok (.iconst 0, 1) := by decide +kernel
theorem d1_10 : decode prog_17_method_3_code 10 = .ok (.ireturn, 1) := by decide +kernel
theorem d1_11 : decode prog_17_method_3_code 11 = .ok (.iconst 0, 1) := by decide +kernel
theorem d1_12 : decode prog_17_method_3_code 12 = .ok (.istore_n 1, 1) := by decide +kernel
theorem d1_13 : decode prog_17_method_3_code 13 = .ok (.iload_n 1, 1) := by decide +kernel
theorem d1_14 : decode prog_17_method_3_code 14 = .ok (.getstatic 22, 3) := by decide +kernel
theorem d1_17 : decode prog_17_method_3_code 17 = .ok (.arraylength, 1) := by decide +kernel
theorem d1_18 : decode prog_17_method_3_code 18 = .ok (.if_icmp .ge 22, 3) := by decide +kernel
theorem d1_21 : decode prog_17_method_3_code 21 = .ok (.aload_n 0, 1) := by decide +kernel
theorem d1_22 : decode prog_17_method_3_code 22 = .ok (.iload_n 1, 1) := by decide +kernel
theorem d1_23 : decode prog_17_method_3_code 23 = .ok (.baload, 1) := by decide +kernel
theorem d1_24 : decode prog_17_method_3_code 24 = .ok (.getstatic 22, 3) := by decide +kernel
theorem d1_27 : decode prog_17_method_3_code 27 = .ok (.iload_n 1, 1) := by decide +kernel
theorem d1_28 : decode prog_17_method_3_code 28 = .ok (.baload, 1) := by decide +kernel
theorem d1_29 : decode prog_17_method_3_code 29 = .ok (.if_icmp .eq 5, 3) := by decide +kernel
theorem d1_32 : decode prog_17_method_3_code 32 = .ok (.iconst 0, 1) := by decide +kernel
theorem d1_33 : decode prog_17_method_3_code 33 = .ok (.ireturn, 1) := by decide +kernel
theorem d1_34 : decode prog_17_method_3_code 34 = .ok (.iinc 1 1, 3) := by decide +kernel
theorem d1_37 : decode prog_17_method_3_code 37 = .ok (.goto (-24), 3) := by decide +kernel
theorem d1_40 : decode prog_17_method_3_code 40 = .ok (.iconst 1, 1) := by decide +kernel
theorem d1_41 : decode prog_17_method_3_code 41 = .ok (.ireturn, 1) := by decide +kernel
theorem own_pn1 : plainName "sundrywick/calendar/TzifParser" = true := by first | (simp [plainName, overriddenIn]; done) | decide +kernel
theorem own_ef1 (m : MethodId) (x0 : Addr) : entryFrame m #[(.ref x0)] 2 = (mkF m 0 #[.val (.ref x0), .unset] []) := by first | (simp [entryFrame, mkF, argsToLocals, Value.category]; done) | rfl
def Q1 (Z : State) (x0 : Addr) (aM : Addr) (km : ClassId) (kd : ClassId) (n : Int32) (d0 : Int32) (d1 : Int32) (d2 : Int32) (d3 : Int32) (d4 : Int32) (d5 : Int32) (d6 : Int32) (h0 : Heap) (n0 : Nat) (v : Option Value) (h : Heap) (L : List Loc) : Prop := (∃ z : Int32, v = some (.int z) ∧ ((z = 1 ∧ own_M n d0 d1 d2 d3) ∨ (z = 0 ∧ ¬ own_M n d0 d1 d2 d3))) ∧ Fr n0 L ∧ h = h0
set_option maxRecDepth 65536 in
set_option maxHeartbeats 40000000 in
theorem rm1 (l : Launch) (Z : State) (a0 : Array Value) (hw : ∀ d ∈ tables_1, d.before a0 Z = true) (ws : List Jvm.Cond) (x0 : Addr) (aM : Addr) (km : ClassId) (kd : ClassId) (n : Int32) (d0 : Int32) (d1 : Int32) (d2 : Int32) (d3 : Int32) (d4 : Int32) (d5 : Int32) (d6 : Int32) (h0 : Heap) (n0 : Nat) (Z0 : n0 ≤ h0.size) (S_M : Sta Z h0 "sundrywick/calendar/TzifParser" "MAGIC" "[B" (.ref aM)) (V_M : Arv Z h0 aM km .byte (4 : Int32) [(.int (84 : Int32)), (.int (90 : Int32)), (.int (105 : Int32)), (.int (102 : Int32))] (.int (0 : Int32))) (V_D : Arv Z h0 x0 kd .byte n [(.int d0), (.int d1), (.int d2), (.int d3), (.int d4), (.int d5), (.int d6)] (.int (0 : Int32))) :
    MetFree l (⟨"sundrywick/calendar/TzifParser", "hasMagic", "([B)Z"⟩ : MethodName) (head1 (Jvm.Cond.code (⟨"sundrywick/calendar/TzifParser", "hasMagic", "([B)Z"⟩ : MethodName) prog_17_method_3_code 2 (some .boolean) :: ws) ({ frames := 0, cells := 0, slots := 0, locals := 0 } : Room)) (fun a U => a = #[(.ref x0)] ∧ Z.Warmed39 U.vm ∧ U.heap = h0) (fun _ _ _ _ _ => True) (fun _ U oc U' => ∃ v L, oc = .returned v ∧ Q1 Z x0 aM km kd n d0 d1 d2 d3 d4 d5 d6 h0 n0 v U'.heap L ∧ FrameEnd U oc U' L ({ frames := 0, cells := 0, slots := 0, locals := 0 } : Room).cells ({ frames := 0, cells := 0, slots := 0, locals := 0 } : Room).slots) := by
  refine MetFree.of_bodySF (plainFor_of_name own_pn1) hisR ?_
  intro p e s m args below meth c s₁ Bd hml0 hP hK
  obtain ⟨rfl, hZ, hh⟩ := hP
  have hx := Bd.exec
  have hby := Bd.bytes
  have hlk : meth.locks = false := BodyLoose.notSynchronized Bd
  have hml : c.maxLocals = 2 := hml0
  have hown : s.vm.findClass "sundrywick/calendar/TzifParser" = some m.cls := findClass_of_methodNamed Bd.named
  have hnm := (name_of_methodNamed Bd.named Bd.method).1
  have X0 : Stand p l e ({ frames := 0, cells := 0, slots := 0, locals := 0 } : Room) s m #[(.ref x0)] below meth c s₁ [] 0 0 := Stand.of_body Bd
  have e0 : s₁.heap = h0 := by rw [← hh, Bd.state]; rfl
  have N0 := Fr.nil n0
  refine own_enter (own_ef1 m x0) ?_
  show own_Go p e below s (Q1 Z x0 aM km kd n d0 d1 d2 d3 d4 d5 d6 h0 n0) ({ frames := 0, cells := 0, slots := 0, locals := 0 } : Room).cells ({ frames := 0, cells := 0, slots := 0, locals := 0 } : Room).slots s₁ (mkF m 0 #[.val (.ref x0), .unset] [])
  refine own_st (T' := s₁) (F' := (mkF m 1 #[.val (.ref x0), .unset] [(.ref x0)])) (fun _ k => XS.aloadN X0.here hx rfl (hb hby d1_0) rfl rfl k) ?_
  obtain ⟨cl1, Ar1, Aq1, As1, Am1, Ah1, Au1⟩ := id V_D
  refine own_st (T' := s₁) (F' := (mkF m 2 #[.val (.ref x0), .unset] [(.int n)])) (fun _ k => X0.arraylength hx (cell := cl1) (by rw [e0]; exact Ar1.1) (State.isArrayOf_alike hZ.alike Ar1.2.1) (g := (mkF m 1 #[.val (.ref x0), .unset] [(.ref x0)])) rfl (rest := []) rfl (hb hby d1_1) _ (by rw [len_of As1 Am1]; exact k)) ?_
  obtain ⟨T2, X2, e2, st2⟩ := getS2 X0 hx hZ hown (host := "") (Or.inl (hw _ (List.mem_of_getElem? (i := 5) rfl))) Via.refl e0 S_M (g := (mkF m 2 #[.val (.ref x0), .unset] [(.int n)])) rfl (hb hby d1_2)
  refine own_st (T' := T2) (F' := (mkF m 5 #[.val (.ref x0), .unset] [(.ref aM), (.int n)])) (fun _ k => st2 _ k) ?_
  obtain ⟨cl3, Ar3, Aq3, As3, Am3, Ah3, Au3⟩ := id V_M
  refine own_st (T' := T2) (F' := (mkF m 6 #[.val (.ref x0), .unset] [(.int (4 : Int32)), (.int n)])) (fun _ k => X2.arraylength hx (cell := cl3) (by rw [e2]; exact Ar3.1) (State.isArrayOf_alike hZ.alike Ar3.2.1) (g := (mkF m 5 #[.val (.ref x0), .unset] [(.ref aM), (.int n)])) rfl (rest := [(.int n)]) rfl (hb hby d1_5) _ (by rw [len_of As3 Am3]; exact k)) ?_
  refine own_icmp X2 hx (pc' := 11) (pc2 := 9) (hb hby d1_6) (by decide) (by decide) rfl (fun (hc6_4 : ¬ (n < (4 : Int32))) => ?_) (fun (hc6_4 : n < (4 : Int32)) => ?_)
  ·
    refine own_st (T' := T2) (F' := (mkF m 12 #[.val (.ref x0), .unset] [(.int (0 : Int32))])) (fun _ k => XS.iconst X2.here hx rfl (hb hby d1_11) k) ?_
    refine own_st (T' := T2) (F' := (mkF m 13 #[.val (.ref x0), .val (.int (0 : Int32))] [])) (fun _ k => XS.istoreN X2.here hx rfl (hb hby d1_12) rfl (l' := #[.val (.ref x0), .val (.int (0 : Int32))]) rfl k) ?_
    refine own_st (T' := T2) (F' := (mkF m 14 #[.val (.ref x0), .val (.int (0 : Int32))] [(.int (0 : Int32))])) (fun _ k => XS.iloadN X2.here hx rfl (hb hby d1_13) rfl  k) ?_
    obtain ⟨T5, X5, e5, st5⟩ := getS2 X2 hx hZ hown (host := "") (Or.inl (hw _ (List.mem_of_getElem? (i := 5) rfl))) Via.refl e2 S_M (g := (mkF m 14 #[.val (.ref x0), .val (.int (0 : Int32))] [(.int (0 : Int32))])) rfl (hb hby d1_14)
    refine own_st (T' := T5) (F' := (mkF m 17 #[.val (.ref x0), .val (.int (0 : Int32))] [(.ref aM), (.int (0 : Int32))])) (fun _ k => st5 _ k) ?_
    obtain ⟨cl6, Ar6, Aq6, As6, Am6, Ah6, Au6⟩ := id V_M
    refine own_st (T' := T5) (F' := (mkF m 18 #[.val (.ref x0), .val (.int (0 : Int32))] [(.int (4 : Int32)), (.int (0 : Int32))])) (fun _ k => X5.arraylength hx (cell := cl6) (by rw [e5]; exact Ar6.1) (State.isArrayOf_alike hZ.alike Ar6.2.1) (g := (mkF m 17 #[.val (.ref x0), .val (.int (0 : Int32))] [(.ref aM), (.int (0 : Int32))])) rfl (rest := [(.int (0 : Int32))]) rfl (hb hby d1_17) _ (by rw [len_of As6 Am6]; exact k)) ?_
    refine own_icmp X5 hx (pc' := 40) (pc2 := 21) (hb hby d1_18) (by decide) (by decide) rfl (fun (hc18_7 : ¬ ((0 : Int32) < (4 : Int32))) => ?_) (fun (hc18_7 : (0 : Int32) < (4 : Int32)) => ?_)
    · exact absurd hc18_7 (by decide)
    refine own_st (T' := T5) (F' := (mkF m 22 #[.val (.ref x0), .val (.int (0 : Int32))] [(.ref x0)])) (fun _ k => XS.aloadN X5.here hx rfl (hb hby d1_21) rfl rfl k) ?_
    refine own_st (T' := T5) (F' := (mkF m 23 #[.val (.ref x0), .val (.int (0 : Int32))] [(.int (0 : Int32)), (.ref x0)])) (fun _ k => XS.iloadN X5.here hx rfl (hb hby d1_22) rfl  k) ?_
    obtain ⟨cl8, Ar8, Aq8, As8, Am8, Ah8, Au8⟩ := id V_D
    have hin8 : ¬ ((0 : Int32) < 0 ∨ cl8.slots.size ≤ ((0 : Int32)).toNatClampNeg) := inb_of As8 ⟨by decide, own_ltof hc6_4 (by decide)⟩
    have hat8 : cl8.slots[((0 : Int32)).toNatClampNeg]? = some (.int d0) := Ah8.at hin8 (rfl)
    refine own_st (T' := T5) (F' := (mkF m 24 #[.val (.ref x0), .val (.int (0 : Int32))] [(.int d0)])) (fun _ k => X5.baloadBytes hx (j := (0 : Int32)) (v := (.int d0)) (by rw [e5]; exact Ar8.1) (State.isArrayOf_alike hZ.alike Ar8.2.1) Ar8.2.2 hin8 hat8 (g := (mkF m 23 #[.val (.ref x0), .val (.int (0 : Int32))] [(.int (0 : Int32)), (.ref x0)])) rfl rfl (hb hby d1_23) _ k) ?_
    obtain ⟨T9, X9, e9, st9⟩ := getS2 X5 hx hZ hown (host := "") (Or.inl (hw _ (List.mem_of_getElem? (i := 5) rfl))) Via.refl e5 S_M (g := (mkF m 24 #[.val (.ref x0), .val (.int (0 : Int32))] [(.int d0)])) rfl (hb hby d1_24)
    refine own_st (T' := T9) (F' := (mkF m 27 #[.val (.ref x0), .val (.int (0 : Int32))] [(.ref aM), (.int d0)])) (fun _ k => st9 _ k) ?_
    refine own_st (T' := T9) (F' := (mkF m 28 #[.val (.ref x0), .val (.int (0 : Int32))] [(.int (0 : Int32)), (.ref aM), (.int d0)])) (fun _ k => XS.iloadN X9.here hx rfl (hb hby d1_27) rfl  k) ?_
    obtain ⟨cl10, Ar10, Aq10, As10, Am10, Ah10, Au10⟩ := id V_M
    have hin10 : ¬ ((0 : Int32) < 0 ∨ cl10.slots.size ≤ ((0 : Int32)).toNatClampNeg) := inb_of As10 ⟨by decide, by decide⟩
    have hat10 : cl10.slots[((0 : Int32)).toNatClampNeg]? = some (.int (84 : Int32)) := Ah10.at hin10 (rfl)
    refine own_st (T' := T9) (F' := (mkF m 29 #[.val (.ref x0), .val (.int (0 : Int32))] [(.int (84 : Int32)), (.int d0)])) (fun _ k => X9.baloadBytes hx (j := (0 : Int32)) (v := (.int (84 : Int32))) (by rw [e9]; exact Ar10.1) (State.isArrayOf_alike hZ.alike Ar10.2.1) Ar10.2.2 hin10 hat10 (g := (mkF m 28 #[.val (.ref x0), .val (.int (0 : Int32))] [(.int (0 : Int32)), (.ref aM), (.int d0)])) rfl rfl (hb hby d1_28) _ k) ?_
    refine own_icmp X9 hx (pc' := 34) (pc2 := 32) (hb hby d1_29) (by decide) (by decide) rfl (fun (hc29_11 : d0 = (84 : Int32)) => ?_) (fun (hc29_11 : ¬ (d0 = (84 : Int32))) => ?_)
    ·
      refine own_st (T' := T9) (F' := (mkF m 37 #[.val (.ref x0), .val (.int (1 : Int32))] [])) (fun _ k => XS.iinc X9.here hx rfl (hb hby d1_34) rfl (l' := #[.val (.ref x0), .val (.int (1 : Int32))]) rfl k) ?_
      refine own_st (T' := T9) (F' := (mkF m 13 #[.val (.ref x0), .val (.int (1 : Int32))] [])) (fun _ k => XS.goto X9.here hx rfl (pc0 := 37) (pc' := 13) rfl (hb hby d1_37) (by decide) (by decide) k) ?_
      refine own_st (T' := T9) (F' := (mkF m 14 #[.val (.ref x0), .val (.int (1 : Int32))] [(.int (1 : Int32))])) (fun _ k => XS.iloadN X9.here hx rfl (hb hby d1_13) rfl  k) ?_
      obtain ⟨T12, X12, e12, st12⟩ := getS2 X9 hx hZ hown (host := "") (Or.inl (hw _ (List.mem_of_getElem? (i := 5) rfl))) Via.refl e9 S_M (g := (mkF m 14 #[.val (.ref x0), .val (.int (1 : Int32))] [(.int (1 : Int32))])) rfl (hb hby d1_14)
      refine own_st (T' := T12) (F' := (mkF m 17 #[.val (.ref x0), .val (.int (1 : Int32))] [(.ref aM), (.int (1 : Int32))])) (fun _ k => st12 _ k) ?_
      obtain ⟨cl13, Ar13, Aq13, As13, Am13, Ah13, Au13⟩ := id V_M
      refine own_st (T' := T12) (F' := (mkF m 18 #[.val (.ref x0), .val (.int (1 : Int32))] [(.int (4 : Int32)), (.int (1 : Int32))])) (fun _ k => X12.arraylength hx (cell := cl13) (by rw [e12]; exact Ar13.1) (State.isArrayOf_alike hZ.alike Ar13.2.1) (g := (mkF m 17 #[.val (.ref x0), .val (.int (1 : Int32))] [(.ref aM), (.int (1 : Int32))])) rfl (rest := [(.int (1 : Int32))]) rfl (hb hby d1_17) _ (by rw [len_of As13 Am13]; exact k)) ?_
      refine own_icmp X12 hx (pc' := 40) (pc2 := 21) (hb hby d1_18) (by decide) (by decide) rfl (fun (hc18_14 : ¬ ((1 : Int32) < (4 : Int32))) => ?_) (fun (hc18_14 : (1 : Int32) < (4 : Int32)) => ?_)
      · exact absurd hc18_14 (by decide)
      refine own_st (T' := T12) (F' := (mkF m 22 #[.val (.ref x0), .val (.int (1 : Int32))] [(.ref x0)])) (fun _ k => XS.aloadN X12.here hx rfl (hb hby d1_21) rfl rfl k) ?_
      refine own_st (T' := T12) (F' := (mkF m 23 #[.val (.ref x0), .val (.int (1 : Int32))] [(.int (1 : Int32)), (.ref x0)])) (fun _ k => XS.iloadN X12.here hx rfl (hb hby d1_22) rfl  k) ?_
      obtain ⟨cl15, Ar15, Aq15, As15, Am15, Ah15, Au15⟩ := id V_D
      have hin15 : ¬ ((1 : Int32) < 0 ∨ cl15.slots.size ≤ ((1 : Int32)).toNatClampNeg) := inb_of As15 ⟨by decide, own_ltof hc6_4 (by decide)⟩
      have hat15 : cl15.slots[((1 : Int32)).toNatClampNeg]? = some (.int d1) := Ah15.at hin15 (rfl)
      refine own_st (T' := T12) (F' := (mkF m 24 #[.val (.ref x0), .val (.int (1 : Int32))] [(.int d1)])) (fun _ k => X12.baloadBytes hx (j := (1 : Int32)) (v := (.int d1)) (by rw [e12]; exact Ar15.1) (State.isArrayOf_alike hZ.alike Ar15.2.1) Ar15.2.2 hin15 hat15 (g := (mkF m 23 #[.val (.ref x0), .val (.int (1 : Int32))] [(.int (1 : Int32)), (.ref x0)])) rfl rfl (hb hby d1_23) _ k) ?_
      obtain ⟨T16, X16, e16, st16⟩ := getS2 X12 hx hZ hown (host := "") (Or.inl (hw _ (List.mem_of_getElem? (i := 5) rfl))) Via.refl e12 S_M (g := (mkF m 24 #[.val (.ref x0), .val (.int (1 : Int32))] [(.int d1)])) rfl (hb hby d1_24)
      refine own_st (T' := T16) (F' := (mkF m 27 #[.val (.ref x0), .val (.int (1 : Int32))] [(.ref aM), (.int d1)])) (fun _ k => st16 _ k) ?_
      refine own_st (T' := T16) (F' := (mkF m 28 #[.val (.ref x0), .val (.int (1 : Int32))] [(.int (1 : Int32)), (.ref aM), (.int d1)])) (fun _ k => XS.iloadN X16.here hx rfl (hb hby d1_27) rfl  k) ?_
      obtain ⟨cl17, Ar17, Aq17, As17, Am17, Ah17, Au17⟩ := id V_M
      have hin17 : ¬ ((1 : Int32) < 0 ∨ cl17.slots.size ≤ ((1 : Int32)).toNatClampNeg) := inb_of As17 ⟨by decide, by decide⟩
      have hat17 : cl17.slots[((1 : Int32)).toNatClampNeg]? = some (.int (90 : Int32)) := Ah17.at hin17 (rfl)
      refine own_st (T' := T16) (F' := (mkF m 29 #[.val (.ref x0), .val (.int (1 : Int32))] [(.int (90 : Int32)), (.int d1)])) (fun _ k => X16.baloadBytes hx (j := (1 : Int32)) (v := (.int (90 : Int32))) (by rw [e16]; exact Ar17.1) (State.isArrayOf_alike hZ.alike Ar17.2.1) Ar17.2.2 hin17 hat17 (g := (mkF m 28 #[.val (.ref x0), .val (.int (1 : Int32))] [(.int (1 : Int32)), (.ref aM), (.int d1)])) rfl rfl (hb hby d1_28) _ k) ?_
      refine own_icmp X16 hx (pc' := 34) (pc2 := 32) (hb hby d1_29) (by decide) (by decide) rfl (fun (hc29_18 : d1 = (90 : Int32)) => ?_) (fun (hc29_18 : ¬ (d1 = (90 : Int32))) => ?_)
      ·
        refine own_st (T' := T16) (F' := (mkF m 37 #[.val (.ref x0), .val (.int (2 : Int32))] [])) (fun _ k => XS.iinc X16.here hx rfl (hb hby d1_34) rfl (l' := #[.val (.ref x0), .val (.int (2 : Int32))]) rfl k) ?_
        refine own_st (T' := T16) (F' := (mkF m 13 #[.val (.ref x0), .val (.int (2 : Int32))] [])) (fun _ k => XS.goto X16.here hx rfl (pc0 := 37) (pc' := 13) rfl (hb hby d1_37) (by decide) (by decide) k) ?_
        refine own_st (T' := T16) (F' := (mkF m 14 #[.val (.ref x0), .val (.int (2 : Int32))] [(.int (2 : Int32))])) (fun _ k => XS.iloadN X16.here hx rfl (hb hby d1_13) rfl  k) ?_
        obtain ⟨T19, X19, e19, st19⟩ := getS2 X16 hx hZ hown (host := "") (Or.inl (hw _ (List.mem_of_getElem? (i := 5) rfl))) Via.refl e16 S_M (g := (mkF m 14 #[.val (.ref x0), .val (.int (2 : Int32))] [(.int (2 : Int32))])) rfl (hb hby d1_14)
        refine own_st (T' := T19) (F' := (mkF m 17 #[.val (.ref x0), .val (.int (2 : Int32))] [(.ref aM), (.int (2 : Int32))])) (fun _ k => st19 _ k) ?_
        obtain ⟨cl20, Ar20, Aq20, As20, Am20, Ah20, Au20⟩ := id V_M
        refine own_st (T' := T19) (F' := (mkF m 18 #[.val (.ref x0), .val (.int (2 : Int32))] [(.int (4 : Int32)), (.int (2 : Int32))])) (fun _ k => X19.arraylength hx (cell := cl20) (by rw [e19]; exact Ar20.1) (State.isArrayOf_alike hZ.alike Ar20.2.1) (g := (mkF m 17 #[.val (.ref x0), .val (.int (2 : Int32))] [(.ref aM), (.int (2 : Int32))])) rfl (rest := [(.int (2 : Int32))]) rfl (hb hby d1_17) _ (by rw [len_of As20 Am20]; exact k)) ?_
        refine own_icmp X19 hx (pc' := 40) (pc2 := 21) (hb hby d1_18) (by decide) (by decide) rfl (fun (hc18_21 : ¬ ((2 : Int32) < (4 : Int32))) => ?_) (fun (hc18_21 : (2 : Int32) < (4 : Int32)) => ?_)
        · exact absurd hc18_21 (by decide)
        refine own_st (T' := T19) (F' := (mkF m 22 #[.val (.ref x0), .val (.int (2 : Int32))] [(.ref x0)])) (fun _ k => XS.aloadN X19.here hx rfl (hb hby d1_21) rfl rfl k) ?_
        refine own_st (T' := T19) (F' := (mkF m 23 #[.val (.ref x0), .val (.int (2 : Int32))] [(.int (2 : Int32)), (.ref x0)])) (fun _ k => XS.iloadN X19.here hx rfl (hb hby d1_22) rfl  k) ?_
        obtain ⟨cl22, Ar22, Aq22, As22, Am22, Ah22, Au22⟩ := id V_D
        have hin22 : ¬ ((2 : Int32) < 0 ∨ cl22.slots.size ≤ ((2 : Int32)).toNatClampNeg) := inb_of As22 ⟨by decide, own_ltof hc6_4 (by decide)⟩
        have hat22 : cl22.slots[((2 : Int32)).toNatClampNeg]? = some (.int d2) := Ah22.at hin22 (rfl)
        refine own_st (T' := T19) (F' := (mkF m 24 #[.val (.ref x0), .val (.int (2 : Int32))] [(.int d2)])) (fun _ k => X19.baloadBytes hx (j := (2 : Int32)) (v := (.int d2)) (by rw [e19]; exact Ar22.1) (State.isArrayOf_alike hZ.alike Ar22.2.1) Ar22.2.2 hin22 hat22 (g := (mkF m 23 #[.val (.ref x0), .val (.int (2 : Int32))] [(.int (2 : Int32)), (.ref x0)])) rfl rfl (hb hby d1_23) _ k) ?_
        obtain ⟨T23, X23, e23, st23⟩ := getS2 X19 hx hZ hown (host := "") (Or.inl (hw _ (List.mem_of_getElem? (i := 5) rfl))) Via.refl e19 S_M (g := (mkF m 24 #[.val (.ref x0), .val (.int (2 : Int32))] [(.int d2)])) rfl (hb hby d1_24)
        refine own_st (T' := T23) (F' := (mkF m 27 #[.val (.ref x0), .val (.int (2 : Int32))] [(.ref aM), (.int d2)])) (fun _ k => st23 _ k) ?_
        refine own_st (T' := T23) (F' := (mkF m 28 #[.val (.ref x0), .val (.int (2 : Int32))] [(.int (2 : Int32)), (.ref aM), (.int d2)])) (fun _ k => XS.iloadN X23.here hx rfl (hb hby d1_27) rfl  k) ?_
        obtain ⟨cl24, Ar24, Aq24, As24, Am24, Ah24, Au24⟩ := id V_M
        have hin24 : ¬ ((2 : Int32) < 0 ∨ cl24.slots.size ≤ ((2 : Int32)).toNatClampNeg) := inb_of As24 ⟨by decide, by decide⟩
        have hat24 : cl24.slots[((2 : Int32)).toNatClampNeg]? = some (.int (105 : Int32)) := Ah24.at hin24 (rfl)
        refine own_st (T' := T23) (F' := (mkF m 29 #[.val (.ref x0), .val (.int (2 : Int32))] [(.int (105 : Int32)), (.int d2)])) (fun _ k => X23.baloadBytes hx (j := (2 : Int32)) (v := (.int (105 : Int32))) (by rw [e23]; exact Ar24.1) (State.isArrayOf_alike hZ.alike Ar24.2.1) Ar24.2.2 hin24 hat24 (g := (mkF m 28 #[.val (.ref x0), .val (.int (2 : Int32))] [(.int (2 : Int32)), (.ref aM), (.int d2)])) rfl rfl (hb hby d1_28) _ k) ?_
        refine own_icmp X23 hx (pc' := 34) (pc2 := 32) (hb hby d1_29) (by decide) (by decide) rfl (fun (hc29_25 : d2 = (105 : Int32)) => ?_) (fun (hc29_25 : ¬ (d2 = (105 : Int32))) => ?_)
        ·
          refine own_st (T' := T23) (F' := (mkF m 37 #[.val (.ref x0), .val (.int (3 : Int32))] [])) (fun _ k => XS.iinc X23.here hx rfl (hb hby d1_34) rfl (l' := #[.val (.ref x0), .val (.int (3 : Int32))]) rfl k) ?_
          refine own_st (T' := T23) (F' := (mkF m 13 #[.val (.ref x0), .val (.int (3 : Int32))] [])) (fun _ k => XS.goto X23.here hx rfl (pc0 := 37) (pc' := 13) rfl (hb hby d1_37) (by decide) (by decide) k) ?_
          refine own_st (T' := T23) (F' := (mkF m 14 #[.val (.ref x0), .val (.int (3 : Int32))] [(.int (3 : Int32))])) (fun _ k => XS.iloadN X23.here hx rfl (hb hby d1_13) rfl  k) ?_
          obtain ⟨T26, X26, e26, st26⟩ := getS2 X23 hx hZ hown (host := "") (Or.inl (hw _ (List.mem_of_getElem? (i := 5) rfl))) Via.refl e23 S_M (g := (mkF m 14 #[.val (.ref x0), .val (.int (3 : Int32))] [(.int (3 : Int32))])) rfl (hb hby d1_14)
          refine own_st (T' := T26) (F' := (mkF m 17 #[.val (.ref x0), .val (.int (3 : Int32))] [(.ref aM), (.int (3 : Int32))])) (fun _ k => st26 _ k) ?_
          obtain ⟨cl27, Ar27, Aq27, As27, Am27, Ah27, Au27⟩ := id V_M
          refine own_st (T' := T26) (F' := (mkF m 18 #[.val (.ref x0), .val (.int (3 : Int32))] [(.int (4 : Int32)), (.int (3 : Int32))])) (fun _ k => X26.arraylength hx (cell := cl27) (by rw [e26]; exact Ar27.1) (State.isArrayOf_alike hZ.alike Ar27.2.1) (g := (mkF m 17 #[.val (.ref x0), .val (.int (3 : Int32))] [(.ref aM), (.int (3 : Int32))])) rfl (rest := [(.int (3 : Int32))]) rfl (hb hby d1_17) _ (by rw [len_of As27 Am27]; exact k)) ?_
          refine own_icmp X26 hx (pc' := 40) (pc2 := 21) (hb hby d1_18) (by decide) (by decide) rfl (fun (hc18_28 : ¬ ((3 : Int32) < (4 : Int32))) => ?_) (fun (hc18_28 : (3 : Int32) < (4 : Int32)) => ?_)
          · exact absurd hc18_28 (by decide)
          refine own_st (T' := T26) (F' := (mkF m 22 #[.val (.ref x0), .val (.int (3 : Int32))] [(.ref x0)])) (fun _ k => XS.aloadN X26.here hx rfl (hb hby d1_21) rfl rfl k) ?_
          refine own_st (T' := T26) (F' := (mkF m 23 #[.val (.ref x0), .val (.int (3 : Int32))] [(.int (3 : Int32)), (.ref x0)])) (fun _ k => XS.iloadN X26.here hx rfl (hb hby d1_22) rfl  k) ?_
          obtain ⟨cl29, Ar29, Aq29, As29, Am29, Ah29, Au29⟩ := id V_D
          have hin29 : ¬ ((3 : Int32) < 0 ∨ cl29.slots.size ≤ ((3 : Int32)).toNatClampNeg) := inb_of As29 ⟨by decide, own_ltof hc6_4 (by decide)⟩
          have hat29 : cl29.slots[((3 : Int32)).toNatClampNeg]? = some (.int d3) := Ah29.at hin29 (rfl)
          refine own_st (T' := T26) (F' := (mkF m 24 #[.val (.ref x0), .val (.int (3 : Int32))] [(.int d3)])) (fun _ k => X26.baloadBytes hx (j := (3 : Int32)) (v := (.int d3)) (by rw [e26]; exact Ar29.1) (State.isArrayOf_alike hZ.alike Ar29.2.1) Ar29.2.2 hin29 hat29 (g := (mkF m 23 #[.val (.ref x0), .val (.int (3 : Int32))] [(.int (3 : Int32)), (.ref x0)])) rfl rfl (hb hby d1_23) _ k) ?_
          obtain ⟨T30, X30, e30, st30⟩ := getS2 X26 hx hZ hown (host := "") (Or.inl (hw _ (List.mem_of_getElem? (i := 5) rfl))) Via.refl e26 S_M (g := (mkF m 24 #[.val (.ref x0), .val (.int (3 : Int32))] [(.int d3)])) rfl (hb hby d1_24)
          refine own_st (T' := T30) (F' := (mkF m 27 #[.val (.ref x0), .val (.int (3 : Int32))] [(.ref aM), (.int d3)])) (fun _ k => st30 _ k) ?_
          refine own_st (T' := T30) (F' := (mkF m 28 #[.val (.ref x0), .val (.int (3 : Int32))] [(.int (3 : Int32)), (.ref aM), (.int d3)])) (fun _ k => XS.iloadN X30.here hx rfl (hb hby d1_27) rfl  k) ?_
          obtain ⟨cl31, Ar31, Aq31, As31, Am31, Ah31, Au31⟩ := id V_M
          have hin31 : ¬ ((3 : Int32) < 0 ∨ cl31.slots.size ≤ ((3 : Int32)).toNatClampNeg) := inb_of As31 ⟨by decide, by decide⟩
          have hat31 : cl31.slots[((3 : Int32)).toNatClampNeg]? = some (.int (102 : Int32)) := Ah31.at hin31 (rfl)
          refine own_st (T' := T30) (F' := (mkF m 29 #[.val (.ref x0), .val (.int (3 : Int32))] [(.int (102 : Int32)), (.int d3)])) (fun _ k => X30.baloadBytes hx (j := (3 : Int32)) (v := (.int (102 : Int32))) (by rw [e30]; exact Ar31.1) (State.isArrayOf_alike hZ.alike Ar31.2.1) Ar31.2.2 hin31 hat31 (g := (mkF m 28 #[.val (.ref x0), .val (.int (3 : Int32))] [(.int (3 : Int32)), (.ref aM), (.int d3)])) rfl rfl (hb hby d1_28) _ k) ?_
          refine own_icmp X30 hx (pc' := 34) (pc2 := 32) (hb hby d1_29) (by decide) (by decide) rfl (fun (hc29_32 : d3 = (102 : Int32)) => ?_) (fun (hc29_32 : ¬ (d3 = (102 : Int32))) => ?_)
          ·
            refine own_st (T' := T30) (F' := (mkF m 37 #[.val (.ref x0), .val (.int (4 : Int32))] [])) (fun _ k => XS.iinc X30.here hx rfl (hb hby d1_34) rfl (l' := #[.val (.ref x0), .val (.int (4 : Int32))]) rfl k) ?_
            refine own_st (T' := T30) (F' := (mkF m 13 #[.val (.ref x0), .val (.int (4 : Int32))] [])) (fun _ k => XS.goto X30.here hx rfl (pc0 := 37) (pc' := 13) rfl (hb hby d1_37) (by decide) (by decide) k) ?_
            refine own_st (T' := T30) (F' := (mkF m 14 #[.val (.ref x0), .val (.int (4 : Int32))] [(.int (4 : Int32))])) (fun _ k => XS.iloadN X30.here hx rfl (hb hby d1_13) rfl  k) ?_
            obtain ⟨T33, X33, e33, st33⟩ := getS2 X30 hx hZ hown (host := "") (Or.inl (hw _ (List.mem_of_getElem? (i := 5) rfl))) Via.refl e30 S_M (g := (mkF m 14 #[.val (.ref x0), .val (.int (4 : Int32))] [(.int (4 : Int32))])) rfl (hb hby d1_14)
            refine own_st (T' := T33) (F' := (mkF m 17 #[.val (.ref x0), .val (.int (4 : Int32))] [(.ref aM), (.int (4 : Int32))])) (fun _ k => st33 _ k) ?_
            obtain ⟨cl34, Ar34, Aq34, As34, Am34, Ah34, Au34⟩ := id V_M
            refine own_st (T' := T33) (F' := (mkF m 18 #[.val (.ref x0), .val (.int (4 : Int32))] [(.int (4 : Int32)), (.int (4 : Int32))])) (fun _ k => X33.arraylength hx (cell := cl34) (by rw [e33]; exact Ar34.1) (State.isArrayOf_alike hZ.alike Ar34.2.1) (g := (mkF m 17 #[.val (.ref x0), .val (.int (4 : Int32))] [(.ref aM), (.int (4 : Int32))])) rfl (rest := [(.int (4 : Int32))]) rfl (hb hby d1_17) _ (by rw [len_of As34 Am34]; exact k)) ?_
            refine own_icmp X33 hx (pc' := 40) (pc2 := 21) (hb hby d1_18) (by decide) (by decide) rfl (fun (hc18_35 : ¬ ((4 : Int32) < (4 : Int32))) => ?_) (fun (hc18_35 : (4 : Int32) < (4 : Int32)) => ?_)
            rotate_left
            · exact absurd hc18_35 (by decide)
            refine own_st (T' := T33) (F' := (mkF m 41 #[.val (.ref x0), .val (.int (4 : Int32))] [(.int (1 : Int32))])) (fun _ k => XS.iconst X33.here hx rfl (hb hby d1_40) k) ?_
            refine own_retN X33 hx hlk (t := .boolean) Bd.returns (by simp) (hb hby d1_41) ?_ (by decide) (by decide)
            rw [e33]
            refine ⟨⟨_, rfl, ?_⟩, N0, rfl⟩
            exact Or.inl ⟨rfl, hc6_4, hc29_11, hc29_18, hc29_25, hc29_32⟩
          ·
            refine own_st (T' := T30) (F' := (mkF m 33 #[.val (.ref x0), .val (.int (3 : Int32))] [(.int (0 : Int32))])) (fun _ k => XS.iconst X30.here hx rfl (hb hby d1_32) k) ?_
            refine own_retN X30 hx hlk (t := .boolean) Bd.returns (by simp) (hb hby d1_33) ?_ (by decide) (by decide)
            rw [e30]
            refine ⟨⟨_, rfl, ?_⟩, N0, rfl⟩
            exact Or.inr ⟨rfl, fun q => hc29_32 q.2.2.2.2⟩
        ·
          refine own_st (T' := T23) (F' := (mkF m 33 #[.val (.ref x0), .val (.int (2 : Int32))] [(.int (0 : Int32))])) (fun _ k => XS.iconst X23.here hx rfl (hb hby d1_32) k) ?_
          refine own_retN X23 hx hlk (t := .boolean) Bd.returns (by simp) (hb hby d1_33) ?_ (by decide) (by decide)
          rw [e23]
          refine ⟨⟨_, rfl, ?_⟩, N0, rfl⟩
          exact Or.inr ⟨rfl, fun q => hc29_25 q.2.2.2.1⟩
      ·
        refine own_st (T' := T16) (F' := (mkF m 33 #[.val (.ref x0), .val (.int (1 : Int32))] [(.int (0 : Int32))])) (fun _ k => XS.iconst X16.here hx rfl (hb hby d1_32) k) ?_
        refine own_retN X16 hx hlk (t := .boolean) Bd.returns (by simp) (hb hby d1_33) ?_ (by decide) (by decide)
        rw [e16]
        refine ⟨⟨_, rfl, ?_⟩, N0, rfl⟩
        exact Or.inr ⟨rfl, fun q => hc29_18 q.2.2.1⟩
    ·
      refine own_st (T' := T9) (F' := (mkF m 33 #[.val (.ref x0), .val (.int (0 : Int32))] [(.int (0 : Int32))])) (fun _ k => XS.iconst X9.here hx rfl (hb hby d1_32) k) ?_
      refine own_retN X9 hx hlk (t := .boolean) Bd.returns (by simp) (hb hby d1_33) ?_ (by decide) (by decide)
      rw [e9]
      refine ⟨⟨_, rfl, ?_⟩, N0, rfl⟩
      exact Or.inr ⟨rfl, fun q => hc29_11 q.2.1⟩
  ·
    refine own_st (T' := T2) (F' := (mkF m 10 #[.val (.ref x0), .unset] [(.int (0 : Int32))])) (fun _ k => XS.iconst X2.here hx rfl (hb hby d1_9) k) ?_
    refine own_retN X2 hx hlk (t := .boolean) Bd.returns (by simp) (hb hby d1_10) ?_ (by decide) (by decide)
    rw [e2]
    refine ⟨⟨_, rfl, ?_⟩, N0, rfl⟩
    exact Or.inr ⟨rfl, fun q => q.1 hc6_4⟩
theorem own_pd1 : parseMethodDescriptor "(IIJ)B" = some ⟨[.int, .int, .long], some .byte⟩ := by decide +kernel
theorem own_pd2 : parseMethodDescriptor "([B)Z" = some ⟨[(.array .byte)], some .boolean⟩ := by decide +kernel
theorem own_pn0 : plainName "sundrywick/calendar/TzifParserHasMagicPinLaw" = true := by first | (simp [plainName, overriddenIn]; done) | decide +kernel
theorem own_ef0 (m : MethodId) (x0 : Int32) (x1 : Int32) (x2 : Int64) : entryFrame m #[(.int x0), (.int x1), (.long x2)] maxLocals = (mkF m 0 #[.val (.int x0), .val (.int x1), .val (.long x2), .second, .unset, .unset, .unset] []) := by first | (simp [entryFrame, mkF, argsToLocals, Value.category, maxLocals]; done) | rfl
def Q0 (Z : State) (x0 : Int32) (x1 : Int32) (x2 : Int64) (aM : Addr) (km : ClassId) (h0 : Heap) (n0 : Nat) (v : Option Value) (h : Heap) (L : List Loc) : Prop := (∃ z : Int32, v = some (.int z) ∧ (z = 1)) ∧ Fr n0 L
set_option maxRecDepth 65536 in
set_option maxHeartbeats 40000000 in
theorem rm0 (l : Launch) (Z : State) (a0 : Array Value) (hw : ∀ d ∈ tables_1, d.before a0 Z = true) (ws : List Jvm.Cond) (x0 : Int32) (x1 : Int32) (x2 : Int64) (aM : Addr) (km : ClassId) (h0 : Heap) (n0 : Nat) (Z0 : n0 ≤ h0.size) (S_M : Sta Z h0 "sundrywick/calendar/TzifParser" "MAGIC" "[B" (.ref aM)) (V_M : Arv Z h0 aM km .byte (4 : Int32) [(.int (84 : Int32)), (.int (90 : Int32)), (.int (105 : Int32)), (.int (102 : Int32))] (.int (0 : Int32))) :
    MetFree l x (head1 (Jvm.Cond.code x code maxLocals ret :: ws) room_1) (fun a U => a = #[(.int x0), (.int x1), (.long x2)] ∧ Z.Warmed39 U.vm ∧ U.heap = h0) (fun _ _ _ _ _ => True) (fun _ U oc U' => ∃ v L, oc = .returned v ∧ Q0 Z x0 x1 x2 aM km h0 n0 v U'.heap L ∧ FrameEnd U oc U' L room_1.cells room_1.slots) := by
  refine MetFree.of_bodySF (plainFor_of_name own_pn0) hisR ?_
  intro p e s m args below meth c s₁ Bd hml0 hP hK
  obtain ⟨rfl, hZ, hh⟩ := hP
  have hx := Bd.exec
  have hby := Bd.bytes
  have hlk : meth.locks = false := BodyLoose.notSynchronized Bd
  have hml : c.maxLocals = 7 := hml0
  have hown : s.vm.findClass "sundrywick/calendar/TzifParserHasMagicPinLaw" = some m.cls := findClass_of_methodNamed Bd.named
  have hnm := (name_of_methodNamed Bd.named Bd.method).1
  have X0 : Stand p l e room_1 s m #[(.int x0), (.int x1), (.long x2)] below meth c s₁ [] 0 0 := Stand.of_body Bd
  have e0 : s₁.heap = h0 := by rw [← hh, Bd.state]; rfl
  have N0 := Fr.nil n0
  refine own_enter (own_ef0 m x0 x1 x2) ?_
  show own_Go p e below s (Q0 Z x0 x1 x2 aM km h0 n0) room_1.cells room_1.slots s₁ (mkF m 0 #[.val (.int x0), .val (.int x1), .val (.long x2), .second, .unset, .unset, .unset] [])
  refine own_st (T' := s₁) (F' := (mkF m 1 #[.val (.int x0), .val (.int x1), .val (.long x2), .second, .unset, .unset, .unset] [(.int x0)])) (fun _ k => XS.iloadN X0.here hx rfl (hb hby at_0) rfl  k) ?_
  refine own_st (T' := s₁) (F' := (mkF m 3 #[.val (.int x0), .val (.int x1), .val (.long x2), .second, .unset, .unset, .unset] [(.int (7 : Int32)), (.int x0)])) (fun _ k => XS.bipush X0.here hx rfl (hb hby at_1) k) ?_
  refine own_st (T' := s₁) (F' := (mkF m 4 #[.val (.int x0), .val (.int x1), .val (.long x2), .second, .unset, .unset, .unset] [(.int (x0 &&& (7 : Int32)))])) (fun _ k => XS.iand X0.here hx rfl (hb hby at_3) rfl k) ?_
  refine own_st (T' := s₁) (F' := (mkF m 6 #[.val (.int x0), .val (.int x1), .val (.long x2), .second, .val (.int (x0 &&& (7 : Int32))), .unset, .unset] [])) (fun _ k => XS.istore X0.here hx rfl (hb hby at_4) rfl (l' := #[.val (.int x0), .val (.int x1), .val (.long x2), .second, .val (.int (x0 &&& (7 : Int32))), .unset, .unset]) rfl k) ?_
  refine own_st (T' := s₁) (F' := (mkF m 8 #[.val (.int x0), .val (.int x1), .val (.long x2), .second, .val (.int (x0 &&& (7 : Int32))), .unset, .unset] [(.int (x0 &&& (7 : Int32)))])) (fun _ k => XS.iload X0.here hx rfl (hb hby at_6) rfl  k) ?_
  obtain ⟨T1, h1, k1, X1, e1, E1, A1, AE1, st1⟩ := newPE X0 hx hZ (hw _ (List.mem_of_getElem? (i := 0) rfl)) e0 (g := (mkF m 8 #[.val (.int x0), .val (.int x1), .val (.long x2), .second, .val (.int (x0 &&& (7 : Int32))), .unset, .unset] [(.int (x0 &&& (7 : Int32)))])) rfl (hb hby at_8) rfl (own_m7 x0).1 (cap := 7) (own_m7 x0).2 (by decide) (by decide) (by decide) (ad := "[B") (by decide)
  obtain ⟨b1, g1⟩ : ∃ z, z = h0.size := ⟨_, rfl⟩
  rw [← g1] at A1 AE1 st1
  have ge1 : n0 ≤ b1 := by rw [g1]; exact Z0
  have hge1 : h0.size ≤ b1 := by rw [g1]; exact (Keep.refl h0 []).1
  have ne1_1 : aM ≠ b1 := by rw [g1]; exact Nat.ne_of_lt V_M.lt
  have f2 : Sta Z h1 "sundrywick/calendar/TzifParser" "MAGIC" "[B" (.ref aM) := S_M.ext E1
  have f3 : Arv Z h1 aM km .byte (4 : Int32) [(.int (84 : Int32)), (.int (90 : Int32)), (.int (105 : Int32)), (.int (102 : Int32))] (.int (0 : Int32)) := V_M.ext E1
  have K1 : Keep h0 h1 [] := (Keep.refl h0 []).ext E1
  have Zs1 : n0 ≤ h1.size := Nat.le_trans Z0 K1.1
  have V1 : Arv Z h1 b1 k1 .byte (x0 &&& (7 : Int32)) [(.int (0 : Int32)), (.int (0 : Int32)), (.int (0 : Int32)), (.int (0 : Int32)), (.int (0 : Int32)), (.int (0 : Int32)), (.int (0 : Int32))] (.int (0 : Int32)) := (Arv.new A1 (own_m7 x0).1).pad (pad_rep [] (.int (0 : Int32)) 7)
  refine own_st (T' := T1) (F' := (mkF m 10 #[.val (.int x0), .val (.int x1), .val (.long x2), .second, .val (.int (x0 &&& (7 : Int32))), .unset, .unset] [(.ref b1)])) (fun _ k => st1 _ k) ?_
  refine own_st (T' := T1) (F' := (mkF m 12 #[.val (.int x0), .val (.int x1), .val (.long x2), .second, .val (.int (x0 &&& (7 : Int32))), .val (.ref b1), .unset] [])) (fun _ k => XS.astore X1.here hx rfl (hb hby at_10) rfl rfl (l' := #[.val (.int x0), .val (.int x1), .val (.long x2), .second, .val (.int (x0 &&& (7 : Int32))), .val (.ref b1), .unset]) rfl k) ?_
  refine own_st (T' := T1) (F' := (mkF m 14 #[.val (.int x0), .val (.int x1), .val (.long x2), .second, .val (.int (x0 &&& (7 : Int32))), .val (.ref b1), .unset] [(.int (x0 &&& (7 : Int32)))])) (fun _ k => XS.iload X1.here hx rfl (hb hby at_12) rfl  k) ?_
  have J27_4 : ∀ (j27_1300 : Int32) (TJ4 : State) (LJ4 : List Loc) (XJ4 : Stand p l e room_1 s m #[(.int x0), (.int x1), (.long x2)] below meth c TJ4 LJ4 1 7) (NJ4 : Fr n0 LJ4) (hJ4 : Heap) (eJ4 : TJ4.heap = hJ4) (zJ4 : n0 ≤ hJ4.size) (kJ4 : Keep h0 hJ4 []) (fJ4_0 : Sta Z hJ4 "sundrywick/calendar/TzifParser" "MAGIC" "[B" (.ref aM)) (fJ4_1 : Arv Z hJ4 aM km .byte (4 : Int32) [(.int (84 : Int32)), (.int (90 : Int32)), (.int (105 : Int32)), (.int (102 : Int32))] (.int (0 : Int32))) (fJ4_2 : Exa Z hJ4 b1 "[B") (fJ4_3 : Arv Z hJ4 b1 k1 .byte (x0 &&& (7 : Int32)) [(.int j27_1300), (.int (0 : Int32)), (.int (0 : Int32)), (.int (0 : Int32)), (.int (0 : Int32)), (.int (0 : Int32)), (.int (0 : Int32))] (.int (0 : Int32))), (True) → own_Go p e below s (Q0 Z x0 x1 x2 aM km h0 n0) room_1.cells room_1.slots TJ4 (mkF m 27 #[.val (.int x0), .val (.int x1), .val (.long x2), .second, .val (.int (x0 &&& (7 : Int32))), .val (.ref b1), .unset] []) := by
    intro j27_1300 TJ4 LJ4 XJ4 NJ4 hJ4 eJ4 zJ4 kJ4 fJ4_0 fJ4_1 fJ4_2 fJ4_3 hJ27_4
    refine own_st (T' := TJ4) (F' := (mkF m 29 #[.val (.int x0), .val (.int x1), .val (.long x2), .second, .val (.int (x0 &&& (7 : Int32))), .val (.ref b1), .unset] [(.int (x0 &&& (7 : Int32)))])) (fun _ k => XS.iload XJ4.here hx rfl (hb hby at_27) rfl  k) ?_
    refine own_st (T' := TJ4) (F' := (mkF m 30 #[.val (.int x0), .val (.int x1), .val (.long x2), .second, .val (.int (x0 &&& (7 : Int32))), .val (.ref b1), .unset] [(.int (1 : Int32)), (.int (x0 &&& (7 : Int32)))])) (fun _ k => XS.iconst XJ4.here hx rfl (hb hby at_29) k) ?_
    have J43_5 : ∀ (j43_1301 : Int32) (TJ5 : State) (LJ5 : List Loc) (XJ5 : Stand p l e room_1 s m #[(.int x0), (.int x1), (.long x2)] below meth c TJ5 LJ5 1 7) (NJ5 : Fr n0 LJ5) (hJ5 : Heap) (eJ5 : TJ5.heap = hJ5) (zJ5 : n0 ≤ hJ5.size) (kJ5 : Keep h0 hJ5 []) (fJ5_0 : Sta Z hJ5 "sundrywick/calendar/TzifParser" "MAGIC" "[B" (.ref aM)) (fJ5_1 : Arv Z hJ5 aM km .byte (4 : Int32) [(.int (84 : Int32)), (.int (90 : Int32)), (.int (105 : Int32)), (.int (102 : Int32))] (.int (0 : Int32))) (fJ5_2 : Exa Z hJ5 b1 "[B") (fJ5_3 : Arv Z hJ5 b1 k1 .byte (x0 &&& (7 : Int32)) [(.int j27_1300), (.int j43_1301), (.int (0 : Int32)), (.int (0 : Int32)), (.int (0 : Int32)), (.int (0 : Int32)), (.int (0 : Int32))] (.int (0 : Int32))), (True) → own_Go p e below s (Q0 Z x0 x1 x2 aM km h0 n0) room_1.cells room_1.slots TJ5 (mkF m 43 #[.val (.int x0), .val (.int x1), .val (.long x2), .second, .val (.int (x0 &&& (7 : Int32))), .val (.ref b1), .unset] []) := by
      intro j43_1301 TJ5 LJ5 XJ5 NJ5 hJ5 eJ5 zJ5 kJ5 fJ5_0 fJ5_1 fJ5_2 fJ5_3 hJ43_5
      refine own_st (T' := TJ5) (F' := (mkF m 45 #[.val (.int x0), .val (.int x1), .val (.long x2), .second, .val (.int (x0 &&& (7 : Int32))), .val (.ref b1), .unset] [(.int (x0 &&& (7 : Int32)))])) (fun _ k => XS.iload XJ5.here hx rfl (hb hby at_43) rfl  k) ?_
      refine own_st (T' := TJ5) (F' := (mkF m 46 #[.val (.int x0), .val (.int x1), .val (.long x2), .second, .val (.int (x0 &&& (7 : Int32))), .val (.ref b1), .unset] [(.int (2 : Int32)), (.int (x0 &&& (7 : Int32)))])) (fun _ k => XS.iconst XJ5.here hx rfl (hb hby at_45) k) ?_
      have J59_6 : ∀ (j59_1302 : Int32) (TJ6 : State) (LJ6 : List Loc) (XJ6 : Stand p l e room_1 s m #[(.int x0), (.int x1), (.long x2)] below meth c TJ6 LJ6 1 7) (NJ6 : Fr n0 LJ6) (hJ6 : Heap) (eJ6 : TJ6.heap = hJ6) (zJ6 : n0 ≤ hJ6.size) (kJ6 : Keep h0 hJ6 []) (fJ6_0 : Sta Z hJ6 "sundrywick/calendar/TzifParser" "MAGIC" "[B" (.ref aM)) (fJ6_1 : Arv Z hJ6 aM km .byte (4 : Int32) [(.int (84 : Int32)), (.int (90 : Int32)), (.int (105 : Int32)), (.int (102 : Int32))] (.int (0 : Int32))) (fJ6_2 : Exa Z hJ6 b1 "[B") (fJ6_3 : Arv Z hJ6 b1 k1 .byte (x0 &&& (7 : Int32)) [(.int j27_1300), (.int j43_1301), (.int j59_1302), (.int (0 : Int32)), (.int (0 : Int32)), (.int (0 : Int32)), (.int (0 : Int32))] (.int (0 : Int32))), (True) → own_Go p e below s (Q0 Z x0 x1 x2 aM km h0 n0) room_1.cells room_1.slots TJ6 (mkF m 59 #[.val (.int x0), .val (.int x1), .val (.long x2), .second, .val (.int (x0 &&& (7 : Int32))), .val (.ref b1), .unset] []) := by
        intro j59_1302 TJ6 LJ6 XJ6 NJ6 hJ6 eJ6 zJ6 kJ6 fJ6_0 fJ6_1 fJ6_2 fJ6_3 hJ59_6
        refine own_st (T' := TJ6) (F' := (mkF m 61 #[.val (.int x0), .val (.int x1), .val (.long x2), .second, .val (.int (x0 &&& (7 : Int32))), .val (.ref b1), .unset] [(.int (x0 &&& (7 : Int32)))])) (fun _ k => XS.iload XJ6.here hx rfl (hb hby at_59) rfl  k) ?_
        refine own_st (T' := TJ6) (F' := (mkF m 62 #[.val (.int x0), .val (.int x1), .val (.long x2), .second, .val (.int (x0 &&& (7 : Int32))), .val (.ref b1), .unset] [(.int (3 : Int32)), (.int (x0 &&& (7 : Int32)))])) (fun _ k => XS.iconst XJ6.here hx rfl (hb hby at_61) k) ?_
        have J75_7 : ∀ (j75_1303 : Int32) (TJ7 : State) (LJ7 : List Loc) (XJ7 : Stand p l e room_1 s m #[(.int x0), (.int x1), (.long x2)] below meth c TJ7 LJ7 1 7) (NJ7 : Fr n0 LJ7) (hJ7 : Heap) (eJ7 : TJ7.heap = hJ7) (zJ7 : n0 ≤ hJ7.size) (kJ7 : Keep h0 hJ7 []) (fJ7_0 : Sta Z hJ7 "sundrywick/calendar/TzifParser" "MAGIC" "[B" (.ref aM)) (fJ7_1 : Arv Z hJ7 aM km .byte (4 : Int32) [(.int (84 : Int32)), (.int (90 : Int32)), (.int (105 : Int32)), (.int (102 : Int32))] (.int (0 : Int32))) (fJ7_2 : Exa Z hJ7 b1 "[B") (fJ7_3 : Arv Z hJ7 b1 k1 .byte (x0 &&& (7 : Int32)) [(.int j27_1300), (.int j43_1301), (.int j59_1302), (.int j75_1303), (.int (0 : Int32)), (.int (0 : Int32)), (.int (0 : Int32))] (.int (0 : Int32))), (True) → own_Go p e below s (Q0 Z x0 x1 x2 aM km h0 n0) room_1.cells room_1.slots TJ7 (mkF m 75 #[.val (.int x0), .val (.int x1), .val (.long x2), .second, .val (.int (x0 &&& (7 : Int32))), .val (.ref b1), .unset] []) := by
          intro j75_1303 TJ7 LJ7 XJ7 NJ7 hJ7 eJ7 zJ7 kJ7 fJ7_0 fJ7_1 fJ7_2 fJ7_3 hJ75_7
          refine own_st (T' := TJ7) (F' := (mkF m 77 #[.val (.int x0), .val (.int x1), .val (.long x2), .second, .val (.int (x0 &&& (7 : Int32))), .val (.ref b1), .unset] [(.int (x0 &&& (7 : Int32)))])) (fun _ k => XS.iload XJ7.here hx rfl (hb hby at_75) rfl  k) ?_
          refine own_st (T' := TJ7) (F' := (mkF m 78 #[.val (.int x0), .val (.int x1), .val (.long x2), .second, .val (.int (x0 &&& (7 : Int32))), .val (.ref b1), .unset] [(.int (4 : Int32)), (.int (x0 &&& (7 : Int32)))])) (fun _ k => XS.iconst XJ7.here hx rfl (hb hby at_77) k) ?_
          have J91_8 : ∀ (j91_1304 : Int32) (TJ8 : State) (LJ8 : List Loc) (XJ8 : Stand p l e room_1 s m #[(.int x0), (.int x1), (.long x2)] below meth c TJ8 LJ8 1 7) (NJ8 : Fr n0 LJ8) (hJ8 : Heap) (eJ8 : TJ8.heap = hJ8) (zJ8 : n0 ≤ hJ8.size) (kJ8 : Keep h0 hJ8 []) (fJ8_0 : Sta Z hJ8 "sundrywick/calendar/TzifParser" "MAGIC" "[B" (.ref aM)) (fJ8_1 : Arv Z hJ8 aM km .byte (4 : Int32) [(.int (84 : Int32)), (.int (90 : Int32)), (.int (105 : Int32)), (.int (102 : Int32))] (.int (0 : Int32))) (fJ8_2 : Exa Z hJ8 b1 "[B") (fJ8_3 : Arv Z hJ8 b1 k1 .byte (x0 &&& (7 : Int32)) [(.int j27_1300), (.int j43_1301), (.int j59_1302), (.int j75_1303), (.int j91_1304), (.int (0 : Int32)), (.int (0 : Int32))] (.int (0 : Int32))), (True) → own_Go p e below s (Q0 Z x0 x1 x2 aM km h0 n0) room_1.cells room_1.slots TJ8 (mkF m 91 #[.val (.int x0), .val (.int x1), .val (.long x2), .second, .val (.int (x0 &&& (7 : Int32))), .val (.ref b1), .unset] []) := by
            intro j91_1304 TJ8 LJ8 XJ8 NJ8 hJ8 eJ8 zJ8 kJ8 fJ8_0 fJ8_1 fJ8_2 fJ8_3 hJ91_8
            refine own_st (T' := TJ8) (F' := (mkF m 93 #[.val (.int x0), .val (.int x1), .val (.long x2), .second, .val (.int (x0 &&& (7 : Int32))), .val (.ref b1), .unset] [(.int (x0 &&& (7 : Int32)))])) (fun _ k => XS.iload XJ8.here hx rfl (hb hby at_91) rfl  k) ?_
            refine own_st (T' := TJ8) (F' := (mkF m 94 #[.val (.int x0), .val (.int x1), .val (.long x2), .second, .val (.int (x0 &&& (7 : Int32))), .val (.ref b1), .unset] [(.int (5 : Int32)), (.int (x0 &&& (7 : Int32)))])) (fun _ k => XS.iconst XJ8.here hx rfl (hb hby at_93) k) ?_
            have J107_9 : ∀ (j107_1305 : Int32) (TJ9 : State) (LJ9 : List Loc) (XJ9 : Stand p l e room_1 s m #[(.int x0), (.int x1), (.long x2)] below meth c TJ9 LJ9 1 7) (NJ9 : Fr n0 LJ9) (hJ9 : Heap) (eJ9 : TJ9.heap = hJ9) (zJ9 : n0 ≤ hJ9.size) (kJ9 : Keep h0 hJ9 []) (fJ9_0 : Sta Z hJ9 "sundrywick/calendar/TzifParser" "MAGIC" "[B" (.ref aM)) (fJ9_1 : Arv Z hJ9 aM km .byte (4 : Int32) [(.int (84 : Int32)), (.int (90 : Int32)), (.int (105 : Int32)), (.int (102 : Int32))] (.int (0 : Int32))) (fJ9_2 : Exa Z hJ9 b1 "[B") (fJ9_3 : Arv Z hJ9 b1 k1 .byte (x0 &&& (7 : Int32)) [(.int j27_1300), (.int j43_1301), (.int j59_1302), (.int j75_1303), (.int j91_1304), (.int j107_1305), (.int (0 : Int32))] (.int (0 : Int32))), (True) → own_Go p e below s (Q0 Z x0 x1 x2 aM km h0 n0) room_1.cells room_1.slots TJ9 (mkF m 107 #[.val (.int x0), .val (.int x1), .val (.long x2), .second, .val (.int (x0 &&& (7 : Int32))), .val (.ref b1), .unset] []) := by
              intro j107_1305 TJ9 LJ9 XJ9 NJ9 hJ9 eJ9 zJ9 kJ9 fJ9_0 fJ9_1 fJ9_2 fJ9_3 hJ107_9
              refine own_st (T' := TJ9) (F' := (mkF m 109 #[.val (.int x0), .val (.int x1), .val (.long x2), .second, .val (.int (x0 &&& (7 : Int32))), .val (.ref b1), .unset] [(.int (x0 &&& (7 : Int32)))])) (fun _ k => XS.iload XJ9.here hx rfl (hb hby at_107) rfl  k) ?_
              refine own_st (T' := TJ9) (F' := (mkF m 111 #[.val (.int x0), .val (.int x1), .val (.long x2), .second, .val (.int (x0 &&& (7 : Int32))), .val (.ref b1), .unset] [(.int (6 : Int32)), (.int (x0 &&& (7 : Int32)))])) (fun _ k => XS.bipush XJ9.here hx rfl (hb hby at_109) k) ?_
              have J126_10 : ∀ (j126_1306 : Int32) (TJ10 : State) (LJ10 : List Loc) (XJ10 : Stand p l e room_1 s m #[(.int x0), (.int x1), (.long x2)] below meth c TJ10 LJ10 1 7) (NJ10 : Fr n0 LJ10) (hJ10 : Heap) (eJ10 : TJ10.heap = hJ10) (zJ10 : n0 ≤ hJ10.size) (kJ10 : Keep h0 hJ10 []) (fJ10_0 : Sta Z hJ10 "sundrywick/calendar/TzifParser" "MAGIC" "[B" (.ref aM)) (fJ10_1 : Arv Z hJ10 aM km .byte (4 : Int32) [(.int (84 : Int32)), (.int (90 : Int32)), (.int (105 : Int32)), (.int (102 : Int32))] (.int (0 : Int32))) (fJ10_2 : Exa Z hJ10 b1 "[B") (fJ10_3 : Arv Z hJ10 b1 k1 .byte (x0 &&& (7 : Int32)) [(.int j27_1300), (.int j43_1301), (.int j59_1302), (.int j75_1303), (.int j91_1304), (.int j107_1305), (.int j126_1306)] (.int (0 : Int32))), (True) → own_Go p e below s (Q0 Z x0 x1 x2 aM km h0 n0) room_1.cells room_1.slots TJ10 (mkF m 126 #[.val (.int x0), .val (.int x1), .val (.long x2), .second, .val (.int (x0 &&& (7 : Int32))), .val (.ref b1), .unset] []) := by
                intro j126_1306 TJ10 LJ10 XJ10 NJ10 hJ10 eJ10 zJ10 kJ10 fJ10_0 fJ10_1 fJ10_2 fJ10_3 hJ126_10
                refine own_st (T' := TJ10) (F' := (mkF m 128 #[.val (.int x0), .val (.int x1), .val (.long x2), .second, .val (.int (x0 &&& (7 : Int32))), .val (.ref b1), .unset] [(.int (x0 &&& (7 : Int32)))])) (fun _ k => XS.iload XJ10.here hx rfl (hb hby at_126) rfl  k) ?_
                refine own_st (T' := TJ10) (F' := (mkF m 129 #[.val (.int x0), .val (.int x1), .val (.long x2), .second, .val (.int (x0 &&& (7 : Int32))), .val (.ref b1), .unset] [(.int (4 : Int32)), (.int (x0 &&& (7 : Int32)))])) (fun _ k => XS.iconst XJ10.here hx rfl (hb hby at_128) k) ?_
                have J173_11 : ∀ (j173_1 : Int32), ((((x0 &&& (7 : Int32)) < (4 : Int32)) ∧ j173_1 = (0 : Int32)) ∨ ((¬ ((x0 &&& (7 : Int32)) < (4 : Int32))) ∧ (¬ (j27_1300 = (84 : Int32))) ∧ j173_1 = (0 : Int32)) ∨ ((¬ ((x0 &&& (7 : Int32)) < (4 : Int32))) ∧ (j27_1300 = (84 : Int32)) ∧ (¬ (j43_1301 = (90 : Int32))) ∧ j173_1 = (0 : Int32)) ∨ ((¬ ((x0 &&& (7 : Int32)) < (4 : Int32))) ∧ (j27_1300 = (84 : Int32)) ∧ (j43_1301 = (90 : Int32)) ∧ (¬ (j59_1302 = (105 : Int32))) ∧ j173_1 = (0 : Int32)) ∨ ((¬ ((x0 &&& (7 : Int32)) < (4 : Int32))) ∧ (j27_1300 = (84 : Int32)) ∧ (j43_1301 = (90 : Int32)) ∧ (j59_1302 = (105 : Int32)) ∧ (¬ (j75_1303 = (102 : Int32))) ∧ j173_1 = (0 : Int32)) ∨ ((¬ ((x0 &&& (7 : Int32)) < (4 : Int32))) ∧ (j27_1300 = (84 : Int32)) ∧ (j43_1301 = (90 : Int32)) ∧ (j59_1302 = (105 : Int32)) ∧ (j75_1303 = (102 : Int32)) ∧ j173_1 = (1 : Int32))) → own_Go p e below s (Q0 Z x0 x1 x2 aM km h0 n0) room_1.cells room_1.slots TJ10 (mkF m 173 #[.val (.int x0), .val (.int x1), .val (.long x2), .second, .val (.int (x0 &&& (7 : Int32))), .val (.ref b1), .unset] [(.int j173_1)]) := by
                  intro j173_1 hJ173_11
                  refine own_st (T' := TJ10) (F' := (mkF m 175 #[.val (.int x0), .val (.int x1), .val (.long x2), .second, .val (.int (x0 &&& (7 : Int32))), .val (.ref b1), .val (.int j173_1)] [])) (fun _ k => XS.istore XJ10.here hx rfl (hb hby at_173) rfl (l' := #[.val (.int x0), .val (.int x1), .val (.long x2), .second, .val (.int (x0 &&& (7 : Int32))), .val (.ref b1), .val (.int j173_1)]) rfl k) ?_
                  refine own_st (T' := TJ10) (F' := (mkF m 177 #[.val (.int x0), .val (.int x1), .val (.long x2), .second, .val (.int (x0 &&& (7 : Int32))), .val (.ref b1), .val (.int j173_1)] [(.ref b1)])) (fun _ k => XS.aload XJ10.here hx rfl (hb hby at_175) rfl rfl k) ?_
                  obtain ⟨_, _, ⟨T12, L12, k12, n12⟩, -, X12, ⟨Lc12, hQ12, l12, y12, z12⟩, st12⟩ := Jvm.LawKit.callS XJ10 hx (y := (⟨"sundrywick/calendar/TzifParser", "hasMagic", "([B)Z"⟩ : MethodName)) hown (mvT hZ (hw _ (List.mem_of_getElem? (i := 1) rfl))) (mvT hZ (hw _ (List.mem_of_getElem? (i := 2) rfl))) (mvT hZ (hw _ (List.mem_of_getElem? (i := 3) rfl))) (mvT hZ (hw _ (List.mem_of_getElem? (i := 4) rfl))) (by decide) (backOf (W := 0) (rm1 l Z a0 hw [] b1 aM km k1 (x0 &&& (7 : Int32)) j27_1300 j43_1301 j59_1302 j75_1303 j91_1304 j107_1305 j126_1306 hJ10 n0 zJ10 fJ10_0 fJ10_1 fJ10_3) hZ (hw _ (List.mem_of_getElem? (i := 4) rfl)) (hw _ (List.mem_of_getElem? (i := 3) rfl)) (by decide) (by decide)) (g := (mkF m 177 #[.val (.int x0), .val (.int x1), .val (.long x2), .second, .val (.int (x0 &&& (7 : Int32))), .val (.ref b1), .val (.int j173_1)] [(.ref b1)])) rfl (by rw [hml]; rfl) (argsL := [(.ref b1)]) (rest := []) (lenOf own_pd2 rfl) rfl (by show 2 * 0 + _ ≤ _; exact Nat.le_of_eq rfl) (hb hby at_177) (fun _ _ => ⟨rfl, eJ10, (by decide : 1 + 0 ≤ _), (by decide : 7 + 0 ≤ _)⟩)
                  dsimp only [Pt.U, Pt.locs, Pt.cells, Pt.slots] at X12 l12 y12 z12 st12 hQ12
                  subst l12 y12 z12
                  obtain ⟨⟨r12, rfl, hr12⟩, Nq12, eq12⟩ := hQ12
                  have N12 := Fr.app NJ10 Nq12
                  refine own_st (T' := T12) (F' := (mkF m 180 #[.val (.int x0), .val (.int x1), .val (.long x2), .second, .val (.int (x0 &&& (7 : Int32))), .val (.ref b1), .val (.int j173_1)] [(.int r12)])) (fun _ k => st12 _ k) ?_
                  refine own_st (T' := T12) (F' := (mkF m 182 #[.val (.int x0), .val (.int x1), .val (.long x2), .second, .val (.int (x0 &&& (7 : Int32))), .val (.ref b1), .val (.int j173_1)] [(.int j173_1), (.int r12)])) (fun _ k => XS.iload X12.here hx rfl (hb hby at_180) rfl  k) ?_
                  have J190_13 : ∀ (j190_1 : Int32), (((¬ (r12 = j173_1)) ∧ j190_1 = (0 : Int32)) ∨ ((r12 = j173_1) ∧ j190_1 = (1 : Int32))) → own_Go p e below s (Q0 Z x0 x1 x2 aM km h0 n0) room_1.cells room_1.slots T12 (mkF m 190 #[.val (.int x0), .val (.int x1), .val (.long x2), .second, .val (.int (x0 &&& (7 : Int32))), .val (.ref b1), .val (.int j173_1)] [(.int j190_1)]) := by
                    intro j190_1 hJ190_13
                    refine own_retN X12 hx hlk (t := .boolean) Bd.returns (by simp) (hb hby at_190) ?_ (by decide) (by decide)
                    rw [eq12]
                    refine ⟨⟨_, rfl, ?_⟩, N12⟩
                    rcases hJ190_13 with ⟨h, rfl⟩ | ⟨h, rfl⟩
                    · refine absurd ?_ h
                      rcases hr12 with ⟨a, b1, b2, b3, b4, b5⟩ | ⟨a, b⟩
                      · rcases hJ173_11 with ⟨c1, q⟩ | ⟨c1, c2, q⟩ | ⟨c1, c2, c3, q⟩ | ⟨c1, c2, c3, c4, q⟩ | ⟨c1, c2, c3, c4, c5, q⟩ | ⟨c1, c2, c3, c4, c5, q⟩
                        · exact absurd c1 b1
                        · exact absurd b2 c2
                        · exact absurd b3 c3
                        · exact absurd b4 c4
                        · exact absurd b5 c5
                        · rw [a, q]
                      · rcases hJ173_11 with ⟨c1, q⟩ | ⟨c1, c2, q⟩ | ⟨c1, c2, c3, q⟩ | ⟨c1, c2, c3, c4, q⟩ | ⟨c1, c2, c3, c4, c5, q⟩ | ⟨c1, c2, c3, c4, c5, q⟩
                        · rw [a, q]
                        · rw [a, q]
                        · rw [a, q]
                        · rw [a, q]
                        · rw [a, q]
                        · exact absurd ⟨c1, c2, c3, c4, c5⟩ b
                    · rfl
                  refine own_icmp X12 hx (pc' := 189) (pc2 := 185) (hb hby at_182) (by decide) (by decide) rfl (fun (hc182 : ¬ (r12 = j173_1)) => ?_) (fun (hc182 : r12 = j173_1) => ?_)
                  ·
                    refine own_st (T' := T12) (F' := (mkF m 190 #[.val (.int x0), .val (.int x1), .val (.long x2), .second, .val (.int (x0 &&& (7 : Int32))), .val (.ref b1), .val (.int j173_1)] [(.int (0 : Int32))])) (fun _ k => XS.iconst X12.here hx rfl (hb hby at_189) k) ?_
                    exact J190_13 (0 : Int32) (Or.inl (⟨hc182, rfl⟩))
                  ·
                    refine own_st (T' := T12) (F' := (mkF m 186 #[.val (.int x0), .val (.int x1), .val (.long x2), .second, .val (.int (x0 &&& (7 : Int32))), .val (.ref b1), .val (.int j173_1)] [(.int (1 : Int32))])) (fun _ k => XS.iconst X12.here hx rfl (hb hby at_185) k) ?_
                    refine own_st (T' := T12) (F' := (mkF m 190 #[.val (.int x0), .val (.int x1), .val (.long x2), .second, .val (.int (x0 &&& (7 : Int32))), .val (.ref b1), .val (.int j173_1)] [(.int (1 : Int32))])) (fun _ k => XS.goto X12.here hx rfl (pc0 := 186) (pc' := 190) rfl (hb hby at_186) (by decide) (by decide) k) ?_
                    exact J190_13 (1 : Int32) (Or.inr (⟨hc182, rfl⟩))
                refine own_icmp XJ10 hx (pc' := 172) (pc2 := 132) (hb hby at_129) (by decide) (by decide) rfl (fun (hc129 : (x0 &&& (7 : Int32)) < (4 : Int32)) => ?_) (fun (hc129 : ¬ ((x0 &&& (7 : Int32)) < (4 : Int32))) => ?_)
                ·
                  refine own_st (T' := TJ10) (F' := (mkF m 173 #[.val (.int x0), .val (.int x1), .val (.long x2), .second, .val (.int (x0 &&& (7 : Int32))), .val (.ref b1), .unset] [(.int (0 : Int32))])) (fun _ k => XS.iconst XJ10.here hx rfl (hb hby at_172) k) ?_
                  exact J173_11 (0 : Int32) (Or.inl (⟨hc129, rfl⟩))
                ·
                  refine own_st (T' := TJ10) (F' := (mkF m 134 #[.val (.int x0), .val (.int x1), .val (.long x2), .second, .val (.int (x0 &&& (7 : Int32))), .val (.ref b1), .unset] [(.ref b1)])) (fun _ k => XS.aload XJ10.here hx rfl (hb hby at_132) rfl rfl k) ?_
                  refine own_st (T' := TJ10) (F' := (mkF m 135 #[.val (.int x0), .val (.int x1), .val (.long x2), .second, .val (.int (x0 &&& (7 : Int32))), .val (.ref b1), .unset] [(.int (0 : Int32)), (.ref b1)])) (fun _ k => XS.iconst XJ10.here hx rfl (hb hby at_134) k) ?_
                  obtain ⟨cl14, Ar14, Aq14, As14, Am14, Ah14, Au14⟩ := id fJ10_3
                  have hin14 : ¬ ((0 : Int32) < 0 ∨ cl14.slots.size ≤ ((0 : Int32)).toNatClampNeg) := inb_of As14 ⟨by decide, own_ltof hc129 (by decide)⟩
                  have hat14 : cl14.slots[((0 : Int32)).toNatClampNeg]? = some (.int j27_1300) := Ah14.at hin14 (rfl)
                  refine own_st (T' := TJ10) (F' := (mkF m 136 #[.val (.int x0), .val (.int x1), .val (.long x2), .second, .val (.int (x0 &&& (7 : Int32))), .val (.ref b1), .unset] [(.int j27_1300)])) (fun _ k => XJ10.baloadBytes hx (j := (0 : Int32)) (v := (.int j27_1300)) (by rw [eJ10]; exact Ar14.1) (State.isArrayOf_alike hZ.alike Ar14.2.1) Ar14.2.2 hin14 hat14 (g := (mkF m 135 #[.val (.int x0), .val (.int x1), .val (.long x2), .second, .val (.int (x0 &&& (7 : Int32))), .val (.ref b1), .unset] [(.int (0 : Int32)), (.ref b1)])) rfl rfl (hb hby at_135) _ k) ?_
                  refine own_st (T' := TJ10) (F' := (mkF m 138 #[.val (.int x0), .val (.int x1), .val (.long x2), .second, .val (.int (x0 &&& (7 : Int32))), .val (.ref b1), .unset] [(.int (84 : Int32)), (.int j27_1300)])) (fun _ k => XS.bipush XJ10.here hx rfl (hb hby at_136) k) ?_
                  refine own_icmp XJ10 hx (pc' := 172) (pc2 := 141) (hb hby at_138) (by decide) (by decide) rfl (fun (hc138 : ¬ (j27_1300 = (84 : Int32))) => ?_) (fun (hc138 : j27_1300 = (84 : Int32)) => ?_)
                  ·
                    refine own_st (T' := TJ10) (F' := (mkF m 173 #[.val (.int x0), .val (.int x1), .val (.long x2), .second, .val (.int (x0 &&& (7 : Int32))), .val (.ref b1), .unset] [(.int (0 : Int32))])) (fun _ k => XS.iconst XJ10.here hx rfl (hb hby at_172) k) ?_
                    exact J173_11 (0 : Int32) (Or.inr (Or.inl (⟨hc129, hc138, rfl⟩)))
                  ·
                    refine own_st (T' := TJ10) (F' := (mkF m 143 #[.val (.int x0), .val (.int x1), .val (.long x2), .second, .val (.int (x0 &&& (7 : Int32))), .val (.ref b1), .unset] [(.ref b1)])) (fun _ k => XS.aload XJ10.here hx rfl (hb hby at_141) rfl rfl k) ?_
                    refine own_st (T' := TJ10) (F' := (mkF m 144 #[.val (.int x0), .val (.int x1), .val (.long x2), .second, .val (.int (x0 &&& (7 : Int32))), .val (.ref b1), .unset] [(.int (1 : Int32)), (.ref b1)])) (fun _ k => XS.iconst XJ10.here hx rfl (hb hby at_143) k) ?_
                    obtain ⟨cl15, Ar15, Aq15, As15, Am15, Ah15, Au15⟩ := id fJ10_3
                    have hin15 : ¬ ((1 : Int32) < 0 ∨ cl15.slots.size ≤ ((1 : Int32)).toNatClampNeg) := inb_of As15 ⟨by decide, own_ltof hc129 (by decide)⟩
                    have hat15 : cl15.slots[((1 : Int32)).toNatClampNeg]? = some (.int j43_1301) := Ah15.at hin15 (rfl)
                    refine own_st (T' := TJ10) (F' := (mkF m 145 #[.val (.int x0), .val (.int x1), .val (.long x2), .second, .val (.int (x0 &&& (7 : Int32))), .val (.ref b1), .unset] [(.int j43_1301)])) (fun _ k => XJ10.baloadBytes hx (j := (1 : Int32)) (v := (.int j43_1301)) (by rw [eJ10]; exact Ar15.1) (State.isArrayOf_alike hZ.alike Ar15.2.1) Ar15.2.2 hin15 hat15 (g := (mkF m 144 #[.val (.int x0), .val (.int x1), .val (.long x2), .second, .val (.int (x0 &&& (7 : Int32))), .val (.ref b1), .unset] [(.int (1 : Int32)), (.ref b1)])) rfl rfl (hb hby at_144) _ k) ?_
                    refine own_st (T' := TJ10) (F' := (mkF m 147 #[.val (.int x0), .val (.int x1), .val (.long x2), .second, .val (.int (x0 &&& (7 : Int32))), .val (.ref b1), .unset] [(.int (90 : Int32)), (.int j43_1301)])) (fun _ k => XS.bipush XJ10.here hx rfl (hb hby at_145) k) ?_
                    refine own_icmp XJ10 hx (pc' := 172) (pc2 := 150) (hb hby at_147) (by decide) (by decide) rfl (fun (hc147 : ¬ (j43_1301 = (90 : Int32))) => ?_) (fun (hc147 : j43_1301 = (90 : Int32)) => ?_)
                    ·
                      refine own_st (T' := TJ10) (F' := (mkF m 173 #[.val (.int x0), .val (.int x1), .val (.long x2), .second, .val (.int (x0 &&& (7 : Int32))), .val (.ref b1), .unset] [(.int (0 : Int32))])) (fun _ k => XS.iconst XJ10.here hx rfl (hb hby at_172) k) ?_
                      exact J173_11 (0 : Int32) (Or.inr (Or.inr (Or.inl (⟨hc129, hc138, hc147, rfl⟩))))
                    ·
                      refine own_st (T' := TJ10) (F' := (mkF m 152 #[.val (.int x0), .val (.int x1), .val (.long x2), .second, .val (.int (x0 &&& (7 : Int32))), .val (.ref b1), .unset] [(.ref b1)])) (fun _ k => XS.aload XJ10.here hx rfl (hb hby at_150) rfl rfl k) ?_
                      refine own_st (T' := TJ10) (F' := (mkF m 153 #[.val (.int x0), .val (.int x1), .val (.long x2), .second, .val (.int (x0 &&& (7 : Int32))), .val (.ref b1), .unset] [(.int (2 : Int32)), (.ref b1)])) (fun _ k => XS.iconst XJ10.here hx rfl (hb hby at_152) k) ?_
                      obtain ⟨cl16, Ar16, Aq16, As16, Am16, Ah16, Au16⟩ := id fJ10_3
                      have hin16 : ¬ ((2 : Int32) < 0 ∨ cl16.slots.size ≤ ((2 : Int32)).toNatClampNeg) := inb_of As16 ⟨by decide, own_ltof hc129 (by decide)⟩
                      have hat16 : cl16.slots[((2 : Int32)).toNatClampNeg]? = some (.int j59_1302) := Ah16.at hin16 (rfl)
                      refine own_st (T' := TJ10) (F' := (mkF m 154 #[.val (.int x0), .val (.int x1), .val (.long x2), .second, .val (.int (x0 &&& (7 : Int32))), .val (.ref b1), .unset] [(.int j59_1302)])) (fun _ k => XJ10.baloadBytes hx (j := (2 : Int32)) (v := (.int j59_1302)) (by rw [eJ10]; exact Ar16.1) (State.isArrayOf_alike hZ.alike Ar16.2.1) Ar16.2.2 hin16 hat16 (g := (mkF m 153 #[.val (.int x0), .val (.int x1), .val (.long x2), .second, .val (.int (x0 &&& (7 : Int32))), .val (.ref b1), .unset] [(.int (2 : Int32)), (.ref b1)])) rfl rfl (hb hby at_153) _ k) ?_
                      refine own_st (T' := TJ10) (F' := (mkF m 156 #[.val (.int x0), .val (.int x1), .val (.long x2), .second, .val (.int (x0 &&& (7 : Int32))), .val (.ref b1), .unset] [(.int (105 : Int32)), (.int j59_1302)])) (fun _ k => XS.bipush XJ10.here hx rfl (hb hby at_154) k) ?_
                      refine own_icmp XJ10 hx (pc' := 172) (pc2 := 159) (hb hby at_156) (by decide) (by decide) rfl (fun (hc156 : ¬ (j59_1302 = (105 : Int32))) => ?_) (fun (hc156 : j59_1302 = (105 : Int32)) => ?_)
                      ·
                        refine own_st (T' := TJ10) (F' := (mkF m 173 #[.val (.int x0), .val (.int x1), .val (.long x2), .second, .val (.int (x0 &&& (7 : Int32))), .val (.ref b1), .unset] [(.int (0 : Int32))])) (fun _ k => XS.iconst XJ10.here hx rfl (hb hby at_172) k) ?_
                        exact J173_11 (0 : Int32) (Or.inr (Or.inr (Or.inr (Or.inl (⟨hc129, hc138, hc147, hc156, rfl⟩)))))
                      ·
                        refine own_st (T' := TJ10) (F' := (mkF m 161 #[.val (.int x0), .val (.int x1), .val (.long x2), .second, .val (.int (x0 &&& (7 : Int32))), .val (.ref b1), .unset] [(.ref b1)])) (fun _ k => XS.aload XJ10.here hx rfl (hb hby at_159) rfl rfl k) ?_
                        refine own_st (T' := TJ10) (F' := (mkF m 162 #[.val (.int x0), .val (.int x1), .val (.long x2), .second, .val (.int (x0 &&& (7 : Int32))), .val (.ref b1), .unset] [(.int (3 : Int32)), (.ref b1)])) (fun _ k => XS.iconst XJ10.here hx rfl (hb hby at_161) k) ?_
                        obtain ⟨cl17, Ar17, Aq17, As17, Am17, Ah17, Au17⟩ := id fJ10_3
                        have hin17 : ¬ ((3 : Int32) < 0 ∨ cl17.slots.size ≤ ((3 : Int32)).toNatClampNeg) := inb_of As17 ⟨by decide, own_ltof hc129 (by decide)⟩
                        have hat17 : cl17.slots[((3 : Int32)).toNatClampNeg]? = some (.int j75_1303) := Ah17.at hin17 (rfl)
                        refine own_st (T' := TJ10) (F' := (mkF m 163 #[.val (.int x0), .val (.int x1), .val (.long x2), .second, .val (.int (x0 &&& (7 : Int32))), .val (.ref b1), .unset] [(.int j75_1303)])) (fun _ k => XJ10.baloadBytes hx (j := (3 : Int32)) (v := (.int j75_1303)) (by rw [eJ10]; exact Ar17.1) (State.isArrayOf_alike hZ.alike Ar17.2.1) Ar17.2.2 hin17 hat17 (g := (mkF m 162 #[.val (.int x0), .val (.int x1), .val (.long x2), .second, .val (.int (x0 &&& (7 : Int32))), .val (.ref b1), .unset] [(.int (3 : Int32)), (.ref b1)])) rfl rfl (hb hby at_162) _ k) ?_
                        refine own_st (T' := TJ10) (F' := (mkF m 165 #[.val (.int x0), .val (.int x1), .val (.long x2), .second, .val (.int (x0 &&& (7 : Int32))), .val (.ref b1), .unset] [(.int (102 : Int32)), (.int j75_1303)])) (fun _ k => XS.bipush XJ10.here hx rfl (hb hby at_163) k) ?_
                        refine own_icmp XJ10 hx (pc' := 172) (pc2 := 168) (hb hby at_165) (by decide) (by decide) rfl (fun (hc165 : ¬ (j75_1303 = (102 : Int32))) => ?_) (fun (hc165 : j75_1303 = (102 : Int32)) => ?_)
                        ·
                          refine own_st (T' := TJ10) (F' := (mkF m 173 #[.val (.int x0), .val (.int x1), .val (.long x2), .second, .val (.int (x0 &&& (7 : Int32))), .val (.ref b1), .unset] [(.int (0 : Int32))])) (fun _ k => XS.iconst XJ10.here hx rfl (hb hby at_172) k) ?_
                          exact J173_11 (0 : Int32) (Or.inr (Or.inr (Or.inr (Or.inr (Or.inl (⟨hc129, hc138, hc147, hc156, hc165, rfl⟩))))))
                        ·
                          refine own_st (T' := TJ10) (F' := (mkF m 169 #[.val (.int x0), .val (.int x1), .val (.long x2), .second, .val (.int (x0 &&& (7 : Int32))), .val (.ref b1), .unset] [(.int (1 : Int32))])) (fun _ k => XS.iconst XJ10.here hx rfl (hb hby at_168) k) ?_
                          refine own_st (T' := TJ10) (F' := (mkF m 173 #[.val (.int x0), .val (.int x1), .val (.long x2), .second, .val (.int (x0 &&& (7 : Int32))), .val (.ref b1), .unset] [(.int (1 : Int32))])) (fun _ k => XS.goto XJ10.here hx rfl (pc0 := 169) (pc' := 173) rfl (hb hby at_169) (by decide) (by decide) k) ?_
                          exact J173_11 (1 : Int32) (Or.inr (Or.inr (Or.inr (Or.inr (Or.inr (⟨hc129, hc138, hc147, hc156, hc165, rfl⟩))))))
              refine own_icmp XJ9 hx (pc' := 126) (pc2 := 114) (hb hby at_111) (by decide) (by decide) rfl (fun (hc111 : ¬ ((6 : Int32) < (x0 &&& (7 : Int32)))) => ?_) (fun (hc111 : (6 : Int32) < (x0 &&& (7 : Int32))) => ?_)
              ·
                exact J126_10 (0 : Int32) TJ9 _ XJ9 NJ9 hJ9 eJ9 zJ9 kJ9 fJ9_0 fJ9_1 fJ9_2 fJ9_3 (trivial)
              ·
                refine own_st (T' := TJ9) (F' := (mkF m 116 #[.val (.int x0), .val (.int x1), .val (.long x2), .second, .val (.int (x0 &&& (7 : Int32))), .val (.ref b1), .unset] [(.ref b1)])) (fun _ k => XS.aload XJ9.here hx rfl (hb hby at_114) rfl rfl k) ?_
                refine own_st (T' := TJ9) (F' := (mkF m 118 #[.val (.int x0), .val (.int x1), .val (.long x2), .second, .val (.int (x0 &&& (7 : Int32))), .val (.ref b1), .unset] [(.int (6 : Int32)), (.ref b1)])) (fun _ k => XS.bipush XJ9.here hx rfl (hb hby at_116) k) ?_
                refine own_st (T' := TJ9) (F' := (mkF m 120 #[.val (.int x0), .val (.int x1), .val (.long x2), .second, .val (.int (x0 &&& (7 : Int32))), .val (.ref b1), .unset] [(.int (6 : Int32)), (.int (6 : Int32)), (.ref b1)])) (fun _ k => XS.bipush XJ9.here hx rfl (hb hby at_118) k) ?_
                refine own_st (T' := TJ9) (F' := (mkF m 121 #[.val (.int x0), .val (.int x1), .val (.long x2), .second, .val (.int (x0 &&& (7 : Int32))), .val (.ref b1), .unset] [(.int x1), (.int (6 : Int32)), (.int (6 : Int32)), (.ref b1)])) (fun _ k => XS.iloadN XJ9.here hx rfl (hb hby at_120) rfl  k) ?_
                refine own_st (T' := TJ9) (F' := (mkF m 122 #[.val (.int x0), .val (.int x1), .val (.long x2), .second, .val (.int (x0 &&& (7 : Int32))), .val (.ref b1), .unset] [(.long x2), (.int x1), (.int (6 : Int32)), (.int (6 : Int32)), (.ref b1)])) (fun _ k => XS.lloadN XJ9.here hx rfl (hb hby at_121) rfl  k) ?_
                obtain ⟨_, _, ⟨T18, L18, k18, n18⟩, -, X18, ⟨Lc18, hQ18, l18, y18, z18⟩, st18⟩ := Jvm.LawKit.callS XJ9 hx (y := (⟨"sundrywick/calendar/TzifParserHasMagicPinLaw", "at", "(IIJ)B"⟩ : MethodName)) hown (mvT hZ (hw _ (List.mem_of_getElem? (i := 7) rfl))) (mvT hZ (hw _ (List.mem_of_getElem? (i := 8) rfl))) (mvT hZ (hw _ (List.mem_of_getElem? (i := 9) rfl))) (mvT hZ (hw _ (List.mem_of_getElem? (i := 10) rfl))) (by decide) (backOf (W := 2) (rm2 l Z a0 hw [] (6 : Int32) x1 x2  hJ9 n0 zJ9 ) hZ (hw _ (List.mem_of_getElem? (i := 10) rfl)) (hw _ (List.mem_of_getElem? (i := 9) rfl)) (by decide) (by decide)) (g := (mkF m 122 #[.val (.int x0), .val (.int x1), .val (.long x2), .second, .val (.int (x0 &&& (7 : Int32))), .val (.ref b1), .unset] [(.long x2), (.int x1), (.int (6 : Int32)), (.int (6 : Int32)), (.ref b1)])) rfl (by rw [hml]; rfl) (argsL := [(.int (6 : Int32)), (.int x1), (.long x2)]) (rest := [(.int (6 : Int32)), (.ref b1)]) (lenOf own_pd1 rfl) rfl (by show 2 * 0 + _ ≤ _; exact Nat.le_of_eq rfl) (hb hby at_122) (fun _ _ => ⟨rfl, eJ9, (by decide : 1 + 0 ≤ _), (by decide : 7 + 0 ≤ _)⟩)
                dsimp only [Pt.U, Pt.locs, Pt.cells, Pt.slots] at X18 l18 y18 z18 st18 hQ18
                subst l18 y18 z18
                obtain ⟨⟨r18, rfl, hr18⟩, Nq18, eq18⟩ := hQ18
                have N18 := Fr.app NJ9 Nq18
                refine own_st (T' := T18) (F' := (mkF m 125 #[.val (.int x0), .val (.int x1), .val (.long x2), .second, .val (.int (x0 &&& (7 : Int32))), .val (.ref b1), .unset] [(.int r18), (.int (6 : Int32)), (.ref b1)])) (fun _ k => st18 _ k) ?_
                obtain ⟨cl19, Ar19, Aq19, As19, Am19, Ah19, Au19⟩ := id fJ9_3
                have hin19 : ¬ ((6 : Int32) < 0 ∨ cl19.slots.size ≤ ((6 : Int32)).toNatClampNeg) := inb_of As19 ⟨by decide, hc111⟩
                obtain ⟨T19, h19, X19, e19, W19, st19⟩ := stB X18 hx hZ eq18 Ar19 (j := (6 : Int32)) hin19 (g := (mkF m 125 #[.val (.int x0), .val (.int x1), .val (.long x2), .second, .val (.int (x0 &&& (7 : Int32))), .val (.ref b1), .unset] [(.int r18), (.int (6 : Int32)), (.ref b1)])) rfl rfl (hb hby at_125)
                have V19 : Arv Z h19 b1 k1 .byte (x0 &&& (7 : Int32)) [(.int j27_1300), (.int j43_1301), (.int j59_1302), (.int j75_1303), (.int j91_1304), (.int j107_1305), (.int (r18.toInt8.toInt32))] (.int (0 : Int32)) := Arv.set Ar19 Aq19 As19 Am19 Ah19 Au19 (fits_nar_byte _) W19 6 rfl (show 6 < 7 by decide)
                have N19 := Fr.snoc X19 N18 ge1
                have f20 : Sta Z h19 "sundrywick/calendar/TzifParser" "MAGIC" "[B" (.ref aM) := fJ9_0.wr W19
                have f21 : Arv Z h19 aM km .byte (4 : Int32) [(.int (84 : Int32)), (.int (90 : Int32)), (.int (105 : Int32)), (.int (102 : Int32))] (.int (0 : Int32)) := fJ9_1.other W19 ne1_1
                have f22 : Exa Z h19 b1 "[B" := fJ9_2.wr W19
                have K19 : Keep h0 h19 [] := kJ9.wr W19 (Or.inr hge1)
                have Zs19 : n0 ≤ h19.size := Nat.le_trans Z0 K19.1
                refine own_st (T' := T19) (F' := (mkF m 126 #[.val (.int x0), .val (.int x1), .val (.long x2), .second, .val (.int (x0 &&& (7 : Int32))), .val (.ref b1), .unset] [])) (fun _ k => st19 _ k) ?_
                exact J126_10 (r18.toInt8.toInt32) T19 _ X19 N19 h19 e19 Zs19 K19 f20 f21 f22 V19 (trivial)
            refine own_icmp XJ8 hx (pc' := 107) (pc2 := 97) (hb hby at_94) (by decide) (by decide) rfl (fun (hc94 : ¬ ((5 : Int32) < (x0 &&& (7 : Int32)))) => ?_) (fun (hc94 : (5 : Int32) < (x0 &&& (7 : Int32))) => ?_)
            ·
              exact J107_9 (0 : Int32) TJ8 _ XJ8 NJ8 hJ8 eJ8 zJ8 kJ8 fJ8_0 fJ8_1 fJ8_2 fJ8_3 (trivial)
            ·
              refine own_st (T' := TJ8) (F' := (mkF m 99 #[.val (.int x0), .val (.int x1), .val (.long x2), .second, .val (.int (x0 &&& (7 : Int32))), .val (.ref b1), .unset] [(.ref b1)])) (fun _ k => XS.aload XJ8.here hx rfl (hb hby at_97) rfl rfl k) ?_
              refine own_st (T' := TJ8) (F' := (mkF m 100 #[.val (.int x0), .val (.int x1), .val (.long x2), .second, .val (.int (x0 &&& (7 : Int32))), .val (.ref b1), .unset] [(.int (5 : Int32)), (.ref b1)])) (fun _ k => XS.iconst XJ8.here hx rfl (hb hby at_99) k) ?_
              refine own_st (T' := TJ8) (F' := (mkF m 101 #[.val (.int x0), .val (.int x1), .val (.long x2), .second, .val (.int (x0 &&& (7 : Int32))), .val (.ref b1), .unset] [(.int (5 : Int32)), (.int (5 : Int32)), (.ref b1)])) (fun _ k => XS.iconst XJ8.here hx rfl (hb hby at_100) k) ?_
              refine own_st (T' := TJ8) (F' := (mkF m 102 #[.val (.int x0), .val (.int x1), .val (.long x2), .second, .val (.int (x0 &&& (7 : Int32))), .val (.ref b1), .unset] [(.int x1), (.int (5 : Int32)), (.int (5 : Int32)), (.ref b1)])) (fun _ k => XS.iloadN XJ8.here hx rfl (hb hby at_101) rfl  k) ?_
              refine own_st (T' := TJ8) (F' := (mkF m 103 #[.val (.int x0), .val (.int x1), .val (.long x2), .second, .val (.int (x0 &&& (7 : Int32))), .val (.ref b1), .unset] [(.long x2), (.int x1), (.int (5 : Int32)), (.int (5 : Int32)), (.ref b1)])) (fun _ k => XS.lloadN XJ8.here hx rfl (hb hby at_102) rfl  k) ?_
              obtain ⟨_, _, ⟨T23, L23, k23, n23⟩, -, X23, ⟨Lc23, hQ23, l23, y23, z23⟩, st23⟩ := Jvm.LawKit.callS XJ8 hx (y := (⟨"sundrywick/calendar/TzifParserHasMagicPinLaw", "at", "(IIJ)B"⟩ : MethodName)) hown (mvT hZ (hw _ (List.mem_of_getElem? (i := 7) rfl))) (mvT hZ (hw _ (List.mem_of_getElem? (i := 8) rfl))) (mvT hZ (hw _ (List.mem_of_getElem? (i := 9) rfl))) (mvT hZ (hw _ (List.mem_of_getElem? (i := 10) rfl))) (by decide) (backOf (W := 2) (rm2 l Z a0 hw [] (5 : Int32) x1 x2  hJ8 n0 zJ8 ) hZ (hw _ (List.mem_of_getElem? (i := 10) rfl)) (hw _ (List.mem_of_getElem? (i := 9) rfl)) (by decide) (by decide)) (g := (mkF m 103 #[.val (.int x0), .val (.int x1), .val (.long x2), .second, .val (.int (x0 &&& (7 : Int32))), .val (.ref b1), .unset] [(.long x2), (.int x1), (.int (5 : Int32)), (.int (5 : Int32)), (.ref b1)])) rfl (by rw [hml]; rfl) (argsL := [(.int (5 : Int32)), (.int x1), (.long x2)]) (rest := [(.int (5 : Int32)), (.ref b1)]) (lenOf own_pd1 rfl) rfl (by show 2 * 0 + _ ≤ _; exact Nat.le_of_eq rfl) (hb hby at_103) (fun _ _ => ⟨rfl, eJ8, (by decide : 1 + 0 ≤ _), (by decide : 7 + 0 ≤ _)⟩)
              dsimp only [Pt.U, Pt.locs, Pt.cells, Pt.slots] at X23 l23 y23 z23 st23 hQ23
              subst l23 y23 z23
              obtain ⟨⟨r23, rfl, hr23⟩, Nq23, eq23⟩ := hQ23
              have N23 := Fr.app NJ8 Nq23
              refine own_st (T' := T23) (F' := (mkF m 106 #[.val (.int x0), .val (.int x1), .val (.long x2), .second, .val (.int (x0 &&& (7 : Int32))), .val (.ref b1), .unset] [(.int r23), (.int (5 : Int32)), (.ref b1)])) (fun _ k => st23 _ k) ?_
              obtain ⟨cl24, Ar24, Aq24, As24, Am24, Ah24, Au24⟩ := id fJ8_3
              have hin24 : ¬ ((5 : Int32) < 0 ∨ cl24.slots.size ≤ ((5 : Int32)).toNatClampNeg) := inb_of As24 ⟨by decide, hc94⟩
              obtain ⟨T24, h24, X24, e24, W24, st24⟩ := stB X23 hx hZ eq23 Ar24 (j := (5 : Int32)) hin24 (g := (mkF m 106 #[.val (.int x0), .val (.int x1), .val (.long x2), .second, .val (.int (x0 &&& (7 : Int32))), .val (.ref b1), .unset] [(.int r23), (.int (5 : Int32)), (.ref b1)])) rfl rfl (hb hby at_106)
              have V24 : Arv Z h24 b1 k1 .byte (x0 &&& (7 : Int32)) [(.int j27_1300), (.int j43_1301), (.int j59_1302), (.int j75_1303), (.int j91_1304), (.int (r23.toInt8.toInt32)), (.int (0 : Int32))] (.int (0 : Int32)) := Arv.set Ar24 Aq24 As24 Am24 Ah24 Au24 (fits_nar_byte _) W24 5 rfl (show 5 < 7 by decide)
              have N24 := Fr.snoc X24 N23 ge1
              have f25 : Sta Z h24 "sundrywick/calendar/TzifParser" "MAGIC" "[B" (.ref aM) := fJ8_0.wr W24
              have f26 : Arv Z h24 aM km .byte (4 : Int32) [(.int (84 : Int32)), (.int (90 : Int32)), (.int (105 : Int32)), (.int (102 : Int32))] (.int (0 : Int32)) := fJ8_1.other W24 ne1_1
              have f27 : Exa Z h24 b1 "[B" := fJ8_2.wr W24
              have K24 : Keep h0 h24 [] := kJ8.wr W24 (Or.inr hge1)
              have Zs24 : n0 ≤ h24.size := Nat.le_trans Z0 K24.1
              refine own_st (T' := T24) (F' := (mkF m 107 #[.val (.int x0), .val (.int x1), .val (.long x2), .second, .val (.int (x0 &&& (7 : Int32))), .val (.ref b1), .unset] [])) (fun _ k => st24 _ k) ?_
              exact J107_9 (r23.toInt8.toInt32) T24 _ X24 N24 h24 e24 Zs24 K24 f25 f26 f27 V24 (trivial)
          refine own_icmp XJ7 hx (pc' := 91) (pc2 := 81) (hb hby at_78) (by decide) (by decide) rfl (fun (hc78 : ¬ ((4 : Int32) < (x0 &&& (7 : Int32)))) => ?_) (fun (hc78 : (4 : Int32) < (x0 &&& (7 : Int32))) => ?_)
          ·
            exact J91_8 (0 : Int32) TJ7 _ XJ7 NJ7 hJ7 eJ7 zJ7 kJ7 fJ7_0 fJ7_1 fJ7_2 fJ7_3 (trivial)
          ·
            refine own_st (T' := TJ7) (F' := (mkF m 83 #[.val (.int x0), .val (.int x1), .val (.long x2), .second, .val (.int (x0 &&& (7 : Int32))), .val (.ref b1), .unset] [(.ref b1)])) (fun _ k => XS.aload XJ7.here hx rfl (hb hby at_81) rfl rfl k) ?_
            refine own_st (T' := TJ7) (F' := (mkF m 84 #[.val (.int x0), .val (.int x1), .val (.long x2), .second, .val (.int (x0 &&& (7 : Int32))), .val (.ref b1), .unset] [(.int (4 : Int32)), (.ref b1)])) (fun _ k => XS.iconst XJ7.here hx rfl (hb hby at_83) k) ?_
            refine own_st (T' := TJ7) (F' := (mkF m 85 #[.val (.int x0), .val (.int x1), .val (.long x2), .second, .val (.int (x0 &&& (7 : Int32))), .val (.ref b1), .unset] [(.int (4 : Int32)), (.int (4 : Int32)), (.ref b1)])) (fun _ k => XS.iconst XJ7.here hx rfl (hb hby at_84) k) ?_
            refine own_st (T' := TJ7) (F' := (mkF m 86 #[.val (.int x0), .val (.int x1), .val (.long x2), .second, .val (.int (x0 &&& (7 : Int32))), .val (.ref b1), .unset] [(.int x1), (.int (4 : Int32)), (.int (4 : Int32)), (.ref b1)])) (fun _ k => XS.iloadN XJ7.here hx rfl (hb hby at_85) rfl  k) ?_
            refine own_st (T' := TJ7) (F' := (mkF m 87 #[.val (.int x0), .val (.int x1), .val (.long x2), .second, .val (.int (x0 &&& (7 : Int32))), .val (.ref b1), .unset] [(.long x2), (.int x1), (.int (4 : Int32)), (.int (4 : Int32)), (.ref b1)])) (fun _ k => XS.lloadN XJ7.here hx rfl (hb hby at_86) rfl  k) ?_
            obtain ⟨_, _, ⟨T28, L28, k28, n28⟩, -, X28, ⟨Lc28, hQ28, l28, y28, z28⟩, st28⟩ := Jvm.LawKit.callS XJ7 hx (y := (⟨"sundrywick/calendar/TzifParserHasMagicPinLaw", "at", "(IIJ)B"⟩ : MethodName)) hown (mvT hZ (hw _ (List.mem_of_getElem? (i := 7) rfl))) (mvT hZ (hw _ (List.mem_of_getElem? (i := 8) rfl))) (mvT hZ (hw _ (List.mem_of_getElem? (i := 9) rfl))) (mvT hZ (hw _ (List.mem_of_getElem? (i := 10) rfl))) (by decide) (backOf (W := 2) (rm2 l Z a0 hw [] (4 : Int32) x1 x2  hJ7 n0 zJ7 ) hZ (hw _ (List.mem_of_getElem? (i := 10) rfl)) (hw _ (List.mem_of_getElem? (i := 9) rfl)) (by decide) (by decide)) (g := (mkF m 87 #[.val (.int x0), .val (.int x1), .val (.long x2), .second, .val (.int (x0 &&& (7 : Int32))), .val (.ref b1), .unset] [(.long x2), (.int x1), (.int (4 : Int32)), (.int (4 : Int32)), (.ref b1)])) rfl (by rw [hml]; rfl) (argsL := [(.int (4 : Int32)), (.int x1), (.long x2)]) (rest := [(.int (4 : Int32)), (.ref b1)]) (lenOf own_pd1 rfl) rfl (by show 2 * 0 + _ ≤ _; exact Nat.le_of_eq rfl) (hb hby at_87) (fun _ _ => ⟨rfl, eJ7, (by decide : 1 + 0 ≤ _), (by decide : 7 + 0 ≤ _)⟩)
            dsimp only [Pt.U, Pt.locs, Pt.cells, Pt.slots] at X28 l28 y28 z28 st28 hQ28
            subst l28 y28 z28
            obtain ⟨⟨r28, rfl, hr28⟩, Nq28, eq28⟩ := hQ28
            have N28 := Fr.app NJ7 Nq28
            refine own_st (T' := T28) (F' := (mkF m 90 #[.val (.int x0), .val (.int x1), .val (.long x2), .second, .val (.int (x0 &&& (7 : Int32))), .val (.ref b1), .unset] [(.int r28), (.int (4 : Int32)), (.ref b1)])) (fun _ k => st28 _ k) ?_
            obtain ⟨cl29, Ar29, Aq29, As29, Am29, Ah29, Au29⟩ := id fJ7_3
            have hin29 : ¬ ((4 : Int32) < 0 ∨ cl29.slots.size ≤ ((4 : Int32)).toNatClampNeg) := inb_of As29 ⟨by decide, hc78⟩
            obtain ⟨T29, h29, X29, e29, W29, st29⟩ := stB X28 hx hZ eq28 Ar29 (j := (4 : Int32)) hin29 (g := (mkF m 90 #[.val (.int x0), .val (.int x1), .val (.long x2), .second, .val (.int (x0 &&& (7 : Int32))), .val (.ref b1), .unset] [(.int r28), (.int (4 : Int32)), (.ref b1)])) rfl rfl (hb hby at_90)
            have V29 : Arv Z h29 b1 k1 .byte (x0 &&& (7 : Int32)) [(.int j27_1300), (.int j43_1301), (.int j59_1302), (.int j75_1303), (.int (r28.toInt8.toInt32)), (.int (0 : Int32)), (.int (0 : Int32))] (.int (0 : Int32)) := Arv.set Ar29 Aq29 As29 Am29 Ah29 Au29 (fits_nar_byte _) W29 4 rfl (show 4 < 7 by decide)
            have N29 := Fr.snoc X29 N28 ge1
            have f30 : Sta Z h29 "sundrywick/calendar/TzifParser" "MAGIC" "[B" (.ref aM) := fJ7_0.wr W29
            have f31 : Arv Z h29 aM km .byte (4 : Int32) [(.int (84 : Int32)), (.int (90 : Int32)), (.int (105 : Int32)), (.int (102 : Int32))] (.int (0 : Int32)) := fJ7_1.other W29 ne1_1
            have f32 : Exa Z h29 b1 "[B" := fJ7_2.wr W29
            have K29 : Keep h0 h29 [] := kJ7.wr W29 (Or.inr hge1)
            have Zs29 : n0 ≤ h29.size := Nat.le_trans Z0 K29.1
            refine own_st (T' := T29) (F' := (mkF m 91 #[.val (.int x0), .val (.int x1), .val (.long x2), .second, .val (.int (x0 &&& (7 : Int32))), .val (.ref b1), .unset] [])) (fun _ k => st29 _ k) ?_
            exact J91_8 (r28.toInt8.toInt32) T29 _ X29 N29 h29 e29 Zs29 K29 f30 f31 f32 V29 (trivial)
        refine own_icmp XJ6 hx (pc' := 75) (pc2 := 65) (hb hby at_62) (by decide) (by decide) rfl (fun (hc62 : ¬ ((3 : Int32) < (x0 &&& (7 : Int32)))) => ?_) (fun (hc62 : (3 : Int32) < (x0 &&& (7 : Int32))) => ?_)
        ·
          exact J75_7 (0 : Int32) TJ6 _ XJ6 NJ6 hJ6 eJ6 zJ6 kJ6 fJ6_0 fJ6_1 fJ6_2 fJ6_3 (trivial)
        ·
          refine own_st (T' := TJ6) (F' := (mkF m 67 #[.val (.int x0), .val (.int x1), .val (.long x2), .second, .val (.int (x0 &&& (7 : Int32))), .val (.ref b1), .unset] [(.ref b1)])) (fun _ k => XS.aload XJ6.here hx rfl (hb hby at_65) rfl rfl k) ?_
          refine own_st (T' := TJ6) (F' := (mkF m 68 #[.val (.int x0), .val (.int x1), .val (.long x2), .second, .val (.int (x0 &&& (7 : Int32))), .val (.ref b1), .unset] [(.int (3 : Int32)), (.ref b1)])) (fun _ k => XS.iconst XJ6.here hx rfl (hb hby at_67) k) ?_
          refine own_st (T' := TJ6) (F' := (mkF m 69 #[.val (.int x0), .val (.int x1), .val (.long x2), .second, .val (.int (x0 &&& (7 : Int32))), .val (.ref b1), .unset] [(.int (3 : Int32)), (.int (3 : Int32)), (.ref b1)])) (fun _ k => XS.iconst XJ6.here hx rfl (hb hby at_68) k) ?_
          refine own_st (T' := TJ6) (F' := (mkF m 70 #[.val (.int x0), .val (.int x1), .val (.long x2), .second, .val (.int (x0 &&& (7 : Int32))), .val (.ref b1), .unset] [(.int x1), (.int (3 : Int32)), (.int (3 : Int32)), (.ref b1)])) (fun _ k => XS.iloadN XJ6.here hx rfl (hb hby at_69) rfl  k) ?_
          refine own_st (T' := TJ6) (F' := (mkF m 71 #[.val (.int x0), .val (.int x1), .val (.long x2), .second, .val (.int (x0 &&& (7 : Int32))), .val (.ref b1), .unset] [(.long x2), (.int x1), (.int (3 : Int32)), (.int (3 : Int32)), (.ref b1)])) (fun _ k => XS.lloadN XJ6.here hx rfl (hb hby at_70) rfl  k) ?_
          obtain ⟨_, _, ⟨T33, L33, k33, n33⟩, -, X33, ⟨Lc33, hQ33, l33, y33, z33⟩, st33⟩ := Jvm.LawKit.callS XJ6 hx (y := (⟨"sundrywick/calendar/TzifParserHasMagicPinLaw", "at", "(IIJ)B"⟩ : MethodName)) hown (mvT hZ (hw _ (List.mem_of_getElem? (i := 7) rfl))) (mvT hZ (hw _ (List.mem_of_getElem? (i := 8) rfl))) (mvT hZ (hw _ (List.mem_of_getElem? (i := 9) rfl))) (mvT hZ (hw _ (List.mem_of_getElem? (i := 10) rfl))) (by decide) (backOf (W := 2) (rm2 l Z a0 hw [] (3 : Int32) x1 x2  hJ6 n0 zJ6 ) hZ (hw _ (List.mem_of_getElem? (i := 10) rfl)) (hw _ (List.mem_of_getElem? (i := 9) rfl)) (by decide) (by decide)) (g := (mkF m 71 #[.val (.int x0), .val (.int x1), .val (.long x2), .second, .val (.int (x0 &&& (7 : Int32))), .val (.ref b1), .unset] [(.long x2), (.int x1), (.int (3 : Int32)), (.int (3 : Int32)), (.ref b1)])) rfl (by rw [hml]; rfl) (argsL := [(.int (3 : Int32)), (.int x1), (.long x2)]) (rest := [(.int (3 : Int32)), (.ref b1)]) (lenOf own_pd1 rfl) rfl (by show 2 * 0 + _ ≤ _; exact Nat.le_of_eq rfl) (hb hby at_71) (fun _ _ => ⟨rfl, eJ6, (by decide : 1 + 0 ≤ _), (by decide : 7 + 0 ≤ _)⟩)
          dsimp only [Pt.U, Pt.locs, Pt.cells, Pt.slots] at X33 l33 y33 z33 st33 hQ33
          subst l33 y33 z33
          obtain ⟨⟨r33, rfl, hr33⟩, Nq33, eq33⟩ := hQ33
          have N33 := Fr.app NJ6 Nq33
          refine own_st (T' := T33) (F' := (mkF m 74 #[.val (.int x0), .val (.int x1), .val (.long x2), .second, .val (.int (x0 &&& (7 : Int32))), .val (.ref b1), .unset] [(.int r33), (.int (3 : Int32)), (.ref b1)])) (fun _ k => st33 _ k) ?_
          obtain ⟨cl34, Ar34, Aq34, As34, Am34, Ah34, Au34⟩ := id fJ6_3
          have hin34 : ¬ ((3 : Int32) < 0 ∨ cl34.slots.size ≤ ((3 : Int32)).toNatClampNeg) := inb_of As34 ⟨by decide, hc62⟩
          obtain ⟨T34, h34, X34, e34, W34, st34⟩ := stB X33 hx hZ eq33 Ar34 (j := (3 : Int32)) hin34 (g := (mkF m 74 #[.val (.int x0), .val (.int x1), .val (.long x2), .second, .val (.int (x0 &&& (7 : Int32))), .val (.ref b1), .unset] [(.int r33), (.int (3 : Int32)), (.ref b1)])) rfl rfl (hb hby at_74)
          have V34 : Arv Z h34 b1 k1 .byte (x0 &&& (7 : Int32)) [(.int j27_1300), (.int j43_1301), (.int j59_1302), (.int (r33.toInt8.toInt32)), (.int (0 : Int32)), (.int (0 : Int32)), (.int (0 : Int32))] (.int (0 : Int32)) := Arv.set Ar34 Aq34 As34 Am34 Ah34 Au34 (fits_nar_byte _) W34 3 rfl (show 3 < 7 by decide)
          have N34 := Fr.snoc X34 N33 ge1
          have f35 : Sta Z h34 "sundrywick/calendar/TzifParser" "MAGIC" "[B" (.ref aM) := fJ6_0.wr W34
          have f36 : Arv Z h34 aM km .byte (4 : Int32) [(.int (84 : Int32)), (.int (90 : Int32)), (.int (105 : Int32)), (.int (102 : Int32))] (.int (0 : Int32)) := fJ6_1.other W34 ne1_1
          have f37 : Exa Z h34 b1 "[B" := fJ6_2.wr W34
          have K34 : Keep h0 h34 [] := kJ6.wr W34 (Or.inr hge1)
          have Zs34 : n0 ≤ h34.size := Nat.le_trans Z0 K34.1
          refine own_st (T' := T34) (F' := (mkF m 75 #[.val (.int x0), .val (.int x1), .val (.long x2), .second, .val (.int (x0 &&& (7 : Int32))), .val (.ref b1), .unset] [])) (fun _ k => st34 _ k) ?_
          exact J75_7 (r33.toInt8.toInt32) T34 _ X34 N34 h34 e34 Zs34 K34 f35 f36 f37 V34 (trivial)
      refine own_icmp XJ5 hx (pc' := 59) (pc2 := 49) (hb hby at_46) (by decide) (by decide) rfl (fun (hc46 : ¬ ((2 : Int32) < (x0 &&& (7 : Int32)))) => ?_) (fun (hc46 : (2 : Int32) < (x0 &&& (7 : Int32))) => ?_)
      ·
        exact J59_6 (0 : Int32) TJ5 _ XJ5 NJ5 hJ5 eJ5 zJ5 kJ5 fJ5_0 fJ5_1 fJ5_2 fJ5_3 (trivial)
      ·
        refine own_st (T' := TJ5) (F' := (mkF m 51 #[.val (.int x0), .val (.int x1), .val (.long x2), .second, .val (.int (x0 &&& (7 : Int32))), .val (.ref b1), .unset] [(.ref b1)])) (fun _ k => XS.aload XJ5.here hx rfl (hb hby at_49) rfl rfl k) ?_
        refine own_st (T' := TJ5) (F' := (mkF m 52 #[.val (.int x0), .val (.int x1), .val (.long x2), .second, .val (.int (x0 &&& (7 : Int32))), .val (.ref b1), .unset] [(.int (2 : Int32)), (.ref b1)])) (fun _ k => XS.iconst XJ5.here hx rfl (hb hby at_51) k) ?_
        refine own_st (T' := TJ5) (F' := (mkF m 53 #[.val (.int x0), .val (.int x1), .val (.long x2), .second, .val (.int (x0 &&& (7 : Int32))), .val (.ref b1), .unset] [(.int (2 : Int32)), (.int (2 : Int32)), (.ref b1)])) (fun _ k => XS.iconst XJ5.here hx rfl (hb hby at_52) k) ?_
        refine own_st (T' := TJ5) (F' := (mkF m 54 #[.val (.int x0), .val (.int x1), .val (.long x2), .second, .val (.int (x0 &&& (7 : Int32))), .val (.ref b1), .unset] [(.int x1), (.int (2 : Int32)), (.int (2 : Int32)), (.ref b1)])) (fun _ k => XS.iloadN XJ5.here hx rfl (hb hby at_53) rfl  k) ?_
        refine own_st (T' := TJ5) (F' := (mkF m 55 #[.val (.int x0), .val (.int x1), .val (.long x2), .second, .val (.int (x0 &&& (7 : Int32))), .val (.ref b1), .unset] [(.long x2), (.int x1), (.int (2 : Int32)), (.int (2 : Int32)), (.ref b1)])) (fun _ k => XS.lloadN XJ5.here hx rfl (hb hby at_54) rfl  k) ?_
        obtain ⟨_, _, ⟨T38, L38, k38, n38⟩, -, X38, ⟨Lc38, hQ38, l38, y38, z38⟩, st38⟩ := Jvm.LawKit.callS XJ5 hx (y := (⟨"sundrywick/calendar/TzifParserHasMagicPinLaw", "at", "(IIJ)B"⟩ : MethodName)) hown (mvT hZ (hw _ (List.mem_of_getElem? (i := 7) rfl))) (mvT hZ (hw _ (List.mem_of_getElem? (i := 8) rfl))) (mvT hZ (hw _ (List.mem_of_getElem? (i := 9) rfl))) (mvT hZ (hw _ (List.mem_of_getElem? (i := 10) rfl))) (by decide) (backOf (W := 2) (rm2 l Z a0 hw [] (2 : Int32) x1 x2  hJ5 n0 zJ5 ) hZ (hw _ (List.mem_of_getElem? (i := 10) rfl)) (hw _ (List.mem_of_getElem? (i := 9) rfl)) (by decide) (by decide)) (g := (mkF m 55 #[.val (.int x0), .val (.int x1), .val (.long x2), .second, .val (.int (x0 &&& (7 : Int32))), .val (.ref b1), .unset] [(.long x2), (.int x1), (.int (2 : Int32)), (.int (2 : Int32)), (.ref b1)])) rfl (by rw [hml]; rfl) (argsL := [(.int (2 : Int32)), (.int x1), (.long x2)]) (rest := [(.int (2 : Int32)), (.ref b1)]) (lenOf own_pd1 rfl) rfl (by show 2 * 0 + _ ≤ _; exact Nat.le_of_eq rfl) (hb hby at_55) (fun _ _ => ⟨rfl, eJ5, (by decide : 1 + 0 ≤ _), (by decide : 7 + 0 ≤ _)⟩)
        dsimp only [Pt.U, Pt.locs, Pt.cells, Pt.slots] at X38 l38 y38 z38 st38 hQ38
        subst l38 y38 z38
        obtain ⟨⟨r38, rfl, hr38⟩, Nq38, eq38⟩ := hQ38
        have N38 := Fr.app NJ5 Nq38
        refine own_st (T' := T38) (F' := (mkF m 58 #[.val (.int x0), .val (.int x1), .val (.long x2), .second, .val (.int (x0 &&& (7 : Int32))), .val (.ref b1), .unset] [(.int r38), (.int (2 : Int32)), (.ref b1)])) (fun _ k => st38 _ k) ?_
        obtain ⟨cl39, Ar39, Aq39, As39, Am39, Ah39, Au39⟩ := id fJ5_3
        have hin39 : ¬ ((2 : Int32) < 0 ∨ cl39.slots.size ≤ ((2 : Int32)).toNatClampNeg) := inb_of As39 ⟨by decide, hc46⟩
        obtain ⟨T39, h39, X39, e39, W39, st39⟩ := stB X38 hx hZ eq38 Ar39 (j := (2 : Int32)) hin39 (g := (mkF m 58 #[.val (.int x0), .val (.int x1), .val (.long x2), .second, .val (.int (x0 &&& (7 : Int32))), .val (.ref b1), .unset] [(.int r38), (.int (2 : Int32)), (.ref b1)])) rfl rfl (hb hby at_58)
        have V39 : Arv Z h39 b1 k1 .byte (x0 &&& (7 : Int32)) [(.int j27_1300), (.int j43_1301), (.int (r38.toInt8.toInt32)), (.int (0 : Int32)), (.int (0 : Int32)), (.int (0 : Int32)), (.int (0 : Int32))] (.int (0 : Int32)) := Arv.set Ar39 Aq39 As39 Am39 Ah39 Au39 (fits_nar_byte _) W39 2 rfl (show 2 < 7 by decide)
        have N39 := Fr.snoc X39 N38 ge1
        have f40 : Sta Z h39 "sundrywick/calendar/TzifParser" "MAGIC" "[B" (.ref aM) := fJ5_0.wr W39
        have f41 : Arv Z h39 aM km .byte (4 : Int32) [(.int (84 : Int32)), (.int (90 : Int32)), (.int (105 : Int32)), (.int (102 : Int32))] (.int (0 : Int32)) := fJ5_1.other W39 ne1_1
        have f42 : Exa Z h39 b1 "[B" := fJ5_2.wr W39
        have K39 : Keep h0 h39 [] := kJ5.wr W39 (Or.inr hge1)
        have Zs39 : n0 ≤ h39.size := Nat.le_trans Z0 K39.1
        refine own_st (T' := T39) (F' := (mkF m 59 #[.val (.int x0), .val (.int x1), .val (.long x2), .second, .val (.int (x0 &&& (7 : Int32))), .val (.ref b1), .unset] [])) (fun _ k => st39 _ k) ?_
        exact J59_6 (r38.toInt8.toInt32) T39 _ X39 N39 h39 e39 Zs39 K39 f40 f41 f42 V39 (trivial)
    refine own_icmp XJ4 hx (pc' := 43) (pc2 := 33) (hb hby at_30) (by decide) (by decide) rfl (fun (hc30 : ¬ ((1 : Int32) < (x0 &&& (7 : Int32)))) => ?_) (fun (hc30 : (1 : Int32) < (x0 &&& (7 : Int32))) => ?_)
    ·
      exact J43_5 (0 : Int32) TJ4 _ XJ4 NJ4 hJ4 eJ4 zJ4 kJ4 fJ4_0 fJ4_1 fJ4_2 fJ4_3 (trivial)
    ·
      refine own_st (T' := TJ4) (F' := (mkF m 35 #[.val (.int x0), .val (.int x1), .val (.long x2), .second, .val (.int (x0 &&& (7 : Int32))), .val (.ref b1), .unset] [(.ref b1)])) (fun _ k => XS.aload XJ4.here hx rfl (hb hby at_33) rfl rfl k) ?_
      refine own_st (T' := TJ4) (F' := (mkF m 36 #[.val (.int x0), .val (.int x1), .val (.long x2), .second, .val (.int (x0 &&& (7 : Int32))), .val (.ref b1), .unset] [(.int (1 : Int32)), (.ref b1)])) (fun _ k => XS.iconst XJ4.here hx rfl (hb hby at_35) k) ?_
      refine own_st (T' := TJ4) (F' := (mkF m 37 #[.val (.int x0), .val (.int x1), .val (.long x2), .second, .val (.int (x0 &&& (7 : Int32))), .val (.ref b1), .unset] [(.int (1 : Int32)), (.int (1 : Int32)), (.ref b1)])) (fun _ k => XS.iconst XJ4.here hx rfl (hb hby at_36) k) ?_
      refine own_st (T' := TJ4) (F' := (mkF m 38 #[.val (.int x0), .val (.int x1), .val (.long x2), .second, .val (.int (x0 &&& (7 : Int32))), .val (.ref b1), .unset] [(.int x1), (.int (1 : Int32)), (.int (1 : Int32)), (.ref b1)])) (fun _ k => XS.iloadN XJ4.here hx rfl (hb hby at_37) rfl  k) ?_
      refine own_st (T' := TJ4) (F' := (mkF m 39 #[.val (.int x0), .val (.int x1), .val (.long x2), .second, .val (.int (x0 &&& (7 : Int32))), .val (.ref b1), .unset] [(.long x2), (.int x1), (.int (1 : Int32)), (.int (1 : Int32)), (.ref b1)])) (fun _ k => XS.lloadN XJ4.here hx rfl (hb hby at_38) rfl  k) ?_
      obtain ⟨_, _, ⟨T43, L43, k43, n43⟩, -, X43, ⟨Lc43, hQ43, l43, y43, z43⟩, st43⟩ := Jvm.LawKit.callS XJ4 hx (y := (⟨"sundrywick/calendar/TzifParserHasMagicPinLaw", "at", "(IIJ)B"⟩ : MethodName)) hown (mvT hZ (hw _ (List.mem_of_getElem? (i := 7) rfl))) (mvT hZ (hw _ (List.mem_of_getElem? (i := 8) rfl))) (mvT hZ (hw _ (List.mem_of_getElem? (i := 9) rfl))) (mvT hZ (hw _ (List.mem_of_getElem? (i := 10) rfl))) (by decide) (backOf (W := 2) (rm2 l Z a0 hw [] (1 : Int32) x1 x2  hJ4 n0 zJ4 ) hZ (hw _ (List.mem_of_getElem? (i := 10) rfl)) (hw _ (List.mem_of_getElem? (i := 9) rfl)) (by decide) (by decide)) (g := (mkF m 39 #[.val (.int x0), .val (.int x1), .val (.long x2), .second, .val (.int (x0 &&& (7 : Int32))), .val (.ref b1), .unset] [(.long x2), (.int x1), (.int (1 : Int32)), (.int (1 : Int32)), (.ref b1)])) rfl (by rw [hml]; rfl) (argsL := [(.int (1 : Int32)), (.int x1), (.long x2)]) (rest := [(.int (1 : Int32)), (.ref b1)]) (lenOf own_pd1 rfl) rfl (by show 2 * 0 + _ ≤ _; exact Nat.le_of_eq rfl) (hb hby at_39) (fun _ _ => ⟨rfl, eJ4, (by decide : 1 + 0 ≤ _), (by decide : 7 + 0 ≤ _)⟩)
      dsimp only [Pt.U, Pt.locs, Pt.cells, Pt.slots] at X43 l43 y43 z43 st43 hQ43
      subst l43 y43 z43
      obtain ⟨⟨r43, rfl, hr43⟩, Nq43, eq43⟩ := hQ43
      have N43 := Fr.app NJ4 Nq43
      refine own_st (T' := T43) (F' := (mkF m 42 #[.val (.int x0), .val (.int x1), .val (.long x2), .second, .val (.int (x0 &&& (7 : Int32))), .val (.ref b1), .unset] [(.int r43), (.int (1 : Int32)), (.ref b1)])) (fun _ k => st43 _ k) ?_
      obtain ⟨cl44, Ar44, Aq44, As44, Am44, Ah44, Au44⟩ := id fJ4_3
      have hin44 : ¬ ((1 : Int32) < 0 ∨ cl44.slots.size ≤ ((1 : Int32)).toNatClampNeg) := inb_of As44 ⟨by decide, hc30⟩
      obtain ⟨T44, h44, X44, e44, W44, st44⟩ := stB X43 hx hZ eq43 Ar44 (j := (1 : Int32)) hin44 (g := (mkF m 42 #[.val (.int x0), .val (.int x1), .val (.long x2), .second, .val (.int (x0 &&& (7 : Int32))), .val (.ref b1), .unset] [(.int r43), (.int (1 : Int32)), (.ref b1)])) rfl rfl (hb hby at_42)
      have V44 : Arv Z h44 b1 k1 .byte (x0 &&& (7 : Int32)) [(.int j27_1300), (.int (r43.toInt8.toInt32)), (.int (0 : Int32)), (.int (0 : Int32)), (.int (0 : Int32)), (.int (0 : Int32)), (.int (0 : Int32))] (.int (0 : Int32)) := Arv.set Ar44 Aq44 As44 Am44 Ah44 Au44 (fits_nar_byte _) W44 1 rfl (show 1 < 7 by decide)
      have N44 := Fr.snoc X44 N43 ge1
      have f45 : Sta Z h44 "sundrywick/calendar/TzifParser" "MAGIC" "[B" (.ref aM) := fJ4_0.wr W44
      have f46 : Arv Z h44 aM km .byte (4 : Int32) [(.int (84 : Int32)), (.int (90 : Int32)), (.int (105 : Int32)), (.int (102 : Int32))] (.int (0 : Int32)) := fJ4_1.other W44 ne1_1
      have f47 : Exa Z h44 b1 "[B" := fJ4_2.wr W44
      have K44 : Keep h0 h44 [] := kJ4.wr W44 (Or.inr hge1)
      have Zs44 : n0 ≤ h44.size := Nat.le_trans Z0 K44.1
      refine own_st (T' := T44) (F' := (mkF m 43 #[.val (.int x0), .val (.int x1), .val (.long x2), .second, .val (.int (x0 &&& (7 : Int32))), .val (.ref b1), .unset] [])) (fun _ k => st44 _ k) ?_
      exact J43_5 (r43.toInt8.toInt32) T44 _ X44 N44 h44 e44 Zs44 K44 f45 f46 f47 V44 (trivial)
  refine own_ifc X1 hx (pc' := 27) (pc2 := 17) (hb hby at_14) (by decide) (by decide) rfl (fun (hc14 : ¬ ((0 : Int32) < (x0 &&& (7 : Int32)))) => ?_) (fun (hc14 : (0 : Int32) < (x0 &&& (7 : Int32))) => ?_)
  ·
    exact J27_4 (0 : Int32) T1 _ X1 N0 h1 e1 Zs1 K1 f2 f3 AE1 V1 (trivial)
  ·
    refine own_st (T' := T1) (F' := (mkF m 19 #[.val (.int x0), .val (.int x1), .val (.long x2), .second, .val (.int (x0 &&& (7 : Int32))), .val (.ref b1), .unset] [(.ref b1)])) (fun _ k => XS.aload X1.here hx rfl (hb hby at_17) rfl rfl k) ?_
    refine own_st (T' := T1) (F' := (mkF m 20 #[.val (.int x0), .val (.int x1), .val (.long x2), .second, .val (.int (x0 &&& (7 : Int32))), .val (.ref b1), .unset] [(.int (0 : Int32)), (.ref b1)])) (fun _ k => XS.iconst X1.here hx rfl (hb hby at_19) k) ?_
    refine own_st (T' := T1) (F' := (mkF m 21 #[.val (.int x0), .val (.int x1), .val (.long x2), .second, .val (.int (x0 &&& (7 : Int32))), .val (.ref b1), .unset] [(.int (0 : Int32)), (.int (0 : Int32)), (.ref b1)])) (fun _ k => XS.iconst X1.here hx rfl (hb hby at_20) k) ?_
    refine own_st (T' := T1) (F' := (mkF m 22 #[.val (.int x0), .val (.int x1), .val (.long x2), .second, .val (.int (x0 &&& (7 : Int32))), .val (.ref b1), .unset] [(.int x1), (.int (0 : Int32)), (.int (0 : Int32)), (.ref b1)])) (fun _ k => XS.iloadN X1.here hx rfl (hb hby at_21) rfl  k) ?_
    refine own_st (T' := T1) (F' := (mkF m 23 #[.val (.int x0), .val (.int x1), .val (.long x2), .second, .val (.int (x0 &&& (7 : Int32))), .val (.ref b1), .unset] [(.long x2), (.int x1), (.int (0 : Int32)), (.int (0 : Int32)), (.ref b1)])) (fun _ k => XS.lloadN X1.here hx rfl (hb hby at_22) rfl  k) ?_
    obtain ⟨_, _, ⟨T48, L48, k48, n48⟩, -, X48, ⟨Lc48, hQ48, l48, y48, z48⟩, st48⟩ := Jvm.LawKit.callS X1 hx (y := (⟨"sundrywick/calendar/TzifParserHasMagicPinLaw", "at", "(IIJ)B"⟩ : MethodName)) hown (mvT hZ (hw _ (List.mem_of_getElem? (i := 7) rfl))) (mvT hZ (hw _ (List.mem_of_getElem? (i := 8) rfl))) (mvT hZ (hw _ (List.mem_of_getElem? (i := 9) rfl))) (mvT hZ (hw _ (List.mem_of_getElem? (i := 10) rfl))) (by decide) (backOf (W := 2) (rm2 l Z a0 hw [] (0 : Int32) x1 x2  h1 n0 Zs1 ) hZ (hw _ (List.mem_of_getElem? (i := 10) rfl)) (hw _ (List.mem_of_getElem? (i := 9) rfl)) (by decide) (by decide)) (g := (mkF m 23 #[.val (.int x0), .val (.int x1), .val (.long x2), .second, .val (.int (x0 &&& (7 : Int32))), .val (.ref b1), .unset] [(.long x2), (.int x1), (.int (0 : Int32)), (.int (0 : Int32)), (.ref b1)])) rfl (by rw [hml]; rfl) (argsL := [(.int (0 : Int32)), (.int x1), (.long x2)]) (rest := [(.int (0 : Int32)), (.ref b1)]) (lenOf own_pd1 rfl) rfl (by show 2 * 0 + _ ≤ _; exact Nat.le_of_eq rfl) (hb hby at_23) (fun _ _ => ⟨rfl, e1, (by decide : 1 + 0 ≤ _), (by decide : 7 + 0 ≤ _)⟩)
    dsimp only [Pt.U, Pt.locs, Pt.cells, Pt.slots] at X48 l48 y48 z48 st48 hQ48
    subst l48 y48 z48
    obtain ⟨⟨r48, rfl, hr48⟩, Nq48, eq48⟩ := hQ48
    have N48 := Fr.app N0 Nq48
    refine own_st (T' := T48) (F' := (mkF m 26 #[.val (.int x0), .val (.int x1), .val (.long x2), .second, .val (.int (x0 &&& (7 : Int32))), .val (.ref b1), .unset] [(.int r48), (.int (0 : Int32)), (.ref b1)])) (fun _ k => st48 _ k) ?_
    obtain ⟨cl49, Ar49, Aq49, As49, Am49, Ah49, Au49⟩ := id V1
    have hin49 : ¬ ((0 : Int32) < 0 ∨ cl49.slots.size ≤ ((0 : Int32)).toNatClampNeg) := inb_of As49 ⟨by decide, hc14⟩
    obtain ⟨T49, h49, X49, e49, W49, st49⟩ := stB X48 hx hZ eq48 Ar49 (j := (0 : Int32)) hin49 (g := (mkF m 26 #[.val (.int x0), .val (.int x1), .val (.long x2), .second, .val (.int (x0 &&& (7 : Int32))), .val (.ref b1), .unset] [(.int r48), (.int (0 : Int32)), (.ref b1)])) rfl rfl (hb hby at_26)
    have V49 : Arv Z h49 b1 k1 .byte (x0 &&& (7 : Int32)) [(.int (r48.toInt8.toInt32)), (.int (0 : Int32)), (.int (0 : Int32)), (.int (0 : Int32)), (.int (0 : Int32)), (.int (0 : Int32)), (.int (0 : Int32))] (.int (0 : Int32)) := Arv.set Ar49 Aq49 As49 Am49 Ah49 Au49 (fits_nar_byte _) W49 0 rfl (show 0 < 7 by decide)
    have N49 := Fr.snoc X49 N48 ge1
    have f50 : Sta Z h49 "sundrywick/calendar/TzifParser" "MAGIC" "[B" (.ref aM) := f2.wr W49
    have f51 : Arv Z h49 aM km .byte (4 : Int32) [(.int (84 : Int32)), (.int (90 : Int32)), (.int (105 : Int32)), (.int (102 : Int32))] (.int (0 : Int32)) := f3.other W49 ne1_1
    have f52 : Exa Z h49 b1 "[B" := AE1.wr W49
    have K49 : Keep h0 h49 [] := K1.wr W49 (Or.inr hge1)
    have Zs49 : n0 ≤ h49.size := Nat.le_trans Z0 K49.1
    refine own_st (T' := T49) (F' := (mkF m 27 #[.val (.int x0), .val (.int x1), .val (.long x2), .second, .val (.int (x0 &&& (7 : Int32))), .val (.ref b1), .unset] [])) (fun _ k => st49 _ k) ?_
    exact J27_4 (r48.toInt8.toInt32) T49 _ X49 N49 h49 e49 Zs49 K49 f50 f51 f52 V49 (trivial)
set_option maxRecDepth 65536 in
set_option maxHeartbeats 40000000 in
theorem comes_1 {Post : Tables → Env → Array Value → State → Outcome → State → Prop} (hpost : ∀ tb e args s v u, (limb_1_1.after args s (.returned v) u = true ∧ limb_1_2.after args s (.returned v) u = true ∧ True) → FrameEnd s (.returned v) u (Jvm.fieldLocs frame_1_writes args s ++ Jvm.arrayLocs frame_1_arrays args s ++ Jvm.staticLocs frame_1_statics s) 16 128 → Post tb e args s (.returned v) u) :
    ArmFor flags0 classFile x code maxLocals ret World_1 tables_1 room_1 Calls_1 rest_1 Pre_1 Post := by
  intro l hfl _ _ p e ha hc hk s m args below hf hA hF happ hP
  obtain ⟨hcalls, hrest, hpre⟩ := hP
  obtain ⟨-, -, -, hnamed, -, -, -, hat⟩ := (Spec.applies_iff hf).mp happ
  obtain ⟨hg, hn⟩ := and_e (Cond.before_iff.mp (show (Jvm.Cond.and given_1 narrow_1).before args s = true from hpre))
  obtain ⟨g0, hg0⟩ := and_e hg
  obtain ⟨g1, hg1⟩ := and_e hg0
  obtain ⟨g2, hg2⟩ := and_e hg1
  obtain ⟨w0, w1, w2, rfl⟩ : ∃ w0 w1 w2 : Value, args = #[w0, w1, w2] := by
    have hs : args.size = 3 := by simpa [Cond.value, given_1] using g0
    obtain ⟨L⟩ := args
    match L, hs with
    | [w0, w1, w2], _ => exact ⟨w0, w1, w2, rfl⟩
  have hw := fun d (hd : d ∈ tables_1) => atoms_spec (ws := Jvm.Cond.code x code maxLocals ret :: tables_1) hat d (List.mem_cons_of_mem _ hd)
  have hfit : Fit s := fun {y c} hc i hi => by
    obtain ⟨ha, rfl⟩ := Array.getElem?_eq_some_iff.mp hc
    have q := List.all_eq_true.mp ((Array.all_eq_true_iff_forall_mem.mp hF) _ (Array.getElem_mem ha)) i (List.mem_range.mpr hi)
    simpa [Array.getElem?_eq_getElem hi] using q
  obtain ⟨i0, ei0⟩ := is_v g1
  obtain rfl : w0 = (.int i0) := Option.some.inj ei0
  obtain ⟨i1, ei1⟩ := is_v g2
  obtain rfl : w1 = (.int i1) := Option.some.inj ei1
  obtain ⟨i2, ei2⟩ := isL_v hg2
  obtain rfl : w2 = (.long i2) := Option.some.inj ei2
  obtain ⟨nn0, hn0⟩ := and_e hn
  obtain ⟨nn1, hn1⟩ := and_e hn0
  obtain ⟨nn2, hn2⟩ := and_e hn1
  obtain ⟨nn3, hn3⟩ := and_e hn2
  obtain ⟨nn4, hn4⟩ := and_e hn3
  have nn5 := hn4
  obtain ⟨aM, ev⟩ := arr_v nn0
  obtain ⟨cM, AM⟩ := Arr.start ev nn0
  have SM := Sta.start ev (Or.inr ⟨(hw _ (List.mem_of_getElem? (i := 3) rfl)), (hw _ (List.mem_of_getElem? (i := 6) rfl))⟩)
  have lM := own_len ev AM nn1
  have VM : Arv s s.heap aM cM.cls .byte (4 : Int32) [(.int (84 : Int32)), (.int (90 : Int32)), (.int (105 : Int32)), (.int (102 : Int32))] (.int (0 : Int32)) := Arv.start hfit AM lM.1 lM.2 (by decide) rfl ⟨own_elem ev AM (by decide) nn2, own_elem ev AM (by decide) nn3, own_elem ev AM (by decide) nn4, own_elem ev AM (by decide) nn5, trivial⟩
  obtain ⟨n, o, h1, h2, h3, _, L, rfl, ⟨⟨_, rfl, rfl⟩, N⟩, hq⟩ := rm0 l s _ hw tables_1 i0 i1 i2 aM cM.cls s.heap s.heap.size (Nat.le_refl _) SM VM p e ha hc hk s m _ below hf ((Spec.applies_iff_loose hf).mp happ).1 ⟨rfl, State.Warmed39.refl s, rfl⟩ trivial
  refine ⟨n, _, h1, h2, h3, hpost _ _ _ _ _ _ ⟨Cond.after_iff.mpr rfl, Cond.after_iff.mpr (eq_i res_at (Term.int_eval (1)) rfl), trivial⟩ ⟨hq.1, hq.2.1, (hq.2.2.sift fun y hy => Or.inr (N y hy)).mono (by decide) (by decide)⟩⟩
theorem main_1_1 : Claimed_1_1 := comes_1 fun _ _ _ _ _ _ h hF => ⟨h.1, hF⟩
theorem main_1_2 : Claimed_1_2 := comes_1 fun _ _ _ _ _ _ h hF => ⟨h.2.1, hF⟩
end Jvm.Pilot.@@N@@
namespace Jvm.Pilot.@@N@@
open Jvm Jvm.ClassFile Sem Op Lib Jvm.Free Jvm.Stand Jvm.Pilot.@@N@@.Jvm.D
/-! MADE BY PROGRAM (witnessworld.py) out of the Statement's table words and the real class files: 9 classes; the members and pool entries that the words name. The judged class is class 1, her method 1. -/
namespace start1
open Jvm.ClassFile
def u (s : String) : CpInfo := .utf8 (stringToUtf16 s)
/-- a pool by its gaps: so many unusable entries, then the entry; so many at the end -/
def gap : Nat → List CpInfo → List CpInfo
  | 0, r => r
  | n + 1, r => .unusable :: gap n r
def poolList (es : List (Nat × CpInfo)) (last : Nat) : List CpInfo := es.foldr (fun e r => gap e.1 (e.2 :: r)) (gap last [])
def pool (es : List (Nat × CpInfo)) (last : Nat) : Array CpInfo := ⟨poolList es last⟩
def fileOf (pool : Array CpInfo) (this : Nat) (attrs : Array Attribute := #[]) (ms : Array MethodInfo := #[]) (fl : Nat := 33) (sup : Nat := 0) (ifs : Array Nat := #[]) (fds : Array FieldInfo := #[]) : ClassFile where
  minorVersion := 0
  majorVersion := 65
  constantPool := pool
  accessFlags := fl
  thisClass := this
  superClass := sup
  interfaces := ifs
  fields := fds
  methods := ms
  attributes := attrs
def plain (name : String) (sup : Option ClassId) : Class where
  name := name
  kind := .ordinary
  loader := none
  accessFlags := 33
  super := sup
  interfaces := #[]
  cf := none
  fields := #[]
  methods := #[]
  instanceTypes := #[]
  staticTypes := #[]
  resolved := #[]
  callSites := []
  init := .initialized
  statics := none
  mirror := none

def pool0 : Array CpInfo := pool [(5, u "<init>"), (0, u "()V"), (1, .class_ 10), (1, u "java/lang/Object")] 113

def k0m0 : Method := { name := "<init>", desc := "()V", sig := { parameters := [], returnType := none }, accessFlags := 1, code := none }
/-- java/lang/Object -/
def k0 : Class := { plain "java/lang/Object" none with
  accessFlags := 33
  interfaces := #[]
  cf := some (fileOf pool0 8 #[] #[{ accessFlags := 1, nameIndex := 5, descriptorIndex := 6, attributes := #[] }] 33 0 #[] #[])
  fields := #[]
  methods := #[k0m0]
  instanceTypes := #[]
  staticTypes := #[]
  resolved := Array.replicate 124 none
  statics := none }

def pool1 : Array CpInfo := pool [(2, .class_ 4), (1, u "java/lang/Object"), (0, u "<init>"), (0, u "()V"), (0, .methodref 8 9), (0, .class_ 10), (0, .nameAndType 11 12), (0, u "sundrywick/calendar/TzifParserHasMagicPinLaw"), (0, u "at"), (0, u "(IIJ)B"), (0, .methodref 14 15), (0, .class_ 16), (0, .nameAndType 17 18), (0, u "sundrywick/calendar/TzifParser"), (0, u "hasMagic"), (0, u "([B)Z"), (0, .methodref 8 20), (0, .nameAndType 21 22), (0, u "magic"), (0, u "(I)B"), (2, u "law"), (0, u "(IIJ)Z")] 5

def k1m0 : Method := { name := "<init>", desc := "()V", sig := { parameters := [], returnType := none }, accessFlags := 1, code := none }
def k1c1 : Code := { maxStack := 6, maxLocals := 7, code := code, exceptionTable := #[], attributes := #[] }
def k1m1 : Method := { name := "law", desc := "(IIJ)Z", sig := { parameters := [.int, .int, .long], returnType := some .boolean }, accessFlags := 9, code := some k1c1 }
def k1c2 : Code := { maxStack := 4, maxLocals := 4, code := method_3_code, exceptionTable := #[], attributes := #[] }
def k1m2 : Method := { name := "at", desc := "(IIJ)B", sig := { parameters := [.int, .int, .long], returnType := some .byte }, accessFlags := 10, code := some k1c2 }
def k1c3 : Code := { maxStack := 2, maxLocals := 1, code := method_4_code, exceptionTable := #[], attributes := #[] }
def k1m3 : Method := { name := "magic", desc := "(I)B", sig := { parameters := [.int], returnType := some .byte }, accessFlags := 10, code := some k1c3 }
/-- sundrywick/calendar/TzifParserHasMagicPinLaw -/
def k1 : Class := { plain "sundrywick/calendar/TzifParserHasMagicPinLaw" (some 0) with
  accessFlags := 49
  interfaces := #[]
  cf := some (fileOf pool1 8 #[] #[{ accessFlags := 1, nameIndex := 5, descriptorIndex := 6, attributes := #[] }, { accessFlags := 9, nameIndex := 25, descriptorIndex := 26, attributes := #[] }, { accessFlags := 10, nameIndex := 11, descriptorIndex := 12, attributes := #[] }, { accessFlags := 10, nameIndex := 21, descriptorIndex := 22, attributes := #[] }] 49 2 #[] #[])
  fields := #[]
  methods := #[k1m0, k1m1, k1m2, k1m3]
  instanceTypes := #[]
  staticTypes := #[]
  resolved := Array.replicate 32 none
  statics := none }

def pool2 : Array CpInfo := pool [(4, .class_ 6), (1, u "java/lang/Object"), (3, .class_ 12), (1, u "sundrywick/calendar/TzifParser"), (0, u "data"), (0, u "[B"), (7, .fieldref 10 23), (0, .nameAndType 24 14), (0, u "MAGIC"), (5, .class_ 32), (1, u "sundrywick/calendar/TzifParser$Header"), (1, u "I"), (29, u "pos"), (137, u "HEADER_LENGTH"), (2, u "MIN_OFFSET"), (0, u "MAX_OFFSET"), (0, u "NONE"), (3, u "hasMagic"), (0, u "([B)Z")] 34

def k2c0 : Code := { maxStack := 3, maxLocals := 2, code := prog_17_method_3_code, exceptionTable := #[], attributes := #[] }
def k2m0 : Method := { name := "hasMagic", desc := "([B)Z", sig := { parameters := [(.array .byte)], returnType := some .boolean }, accessFlags := 8, code := some k2c0 }
/-- sundrywick/calendar/TzifParser -/
def k2 : Class := { plain "sundrywick/calendar/TzifParser" (some 0) with
  accessFlags := 48
  interfaces := #[]
  cf := some (fileOf pool2 10 #[.nestMembers #[30]] #[{ accessFlags := 8, nameIndex := 211, descriptorIndex := 212, attributes := #[] }] 48 4 #[] #[{ accessFlags := 26, nameIndex := 24, descriptorIndex := 14, attributes := #[] }, { accessFlags := 26, nameIndex := 202, descriptorIndex := 34, attributes := #[] }, { accessFlags := 26, nameIndex := 205, descriptorIndex := 34, attributes := #[] }, { accessFlags := 26, nameIndex := 206, descriptorIndex := 34, attributes := #[] }, { accessFlags := 26, nameIndex := 207, descriptorIndex := 34, attributes := #[] }, { accessFlags := 18, nameIndex := 13, descriptorIndex := 14, attributes := #[] }, { accessFlags := 2, nameIndex := 64, descriptorIndex := 34, attributes := #[] }])
  fields := #[{ name := "MAGIC", type := (.array .byte), accessFlags := 26, slot := 0, constantValue := 0 }, { name := "HEADER_LENGTH", type := .int, accessFlags := 26, slot := 1, constantValue := 0 }, { name := "MIN_OFFSET", type := .int, accessFlags := 26, slot := 2, constantValue := 0 }, { name := "MAX_OFFSET", type := .int, accessFlags := 26, slot := 3, constantValue := 0 }, { name := "NONE", type := .int, accessFlags := 26, slot := 4, constantValue := 0 }, { name := "data", type := (.array .byte), accessFlags := 18, slot := 0, constantValue := 0 }, { name := "pos", type := .int, accessFlags := 2, slot := 1, constantValue := 0 }]
  methods := #[k2m0]
  instanceTypes := #[(.array .byte), .int]
  staticTypes := #[(.array .byte), .int, .int, .int, .int]
  resolved := Array.replicate 247 none
  statics := some 0 }

def pool3 : Array CpInfo := pool [(1, u "java/lang/Cloneable"), (0, .class_ 1), (0, u "java/lang/Object"), (0, .class_ 3)] 3

/-- java/lang/Cloneable -/
def k3 : Class := { plain "java/lang/Cloneable" (some 0) with
  accessFlags := 1537
  interfaces := #[]
  cf := some (fileOf pool3 2 #[] #[] 1537 4 #[] #[])
  fields := #[]
  methods := #[]
  instanceTypes := #[]
  staticTypes := #[]
  resolved := Array.replicate 8 none
  statics := none }

def pool4 : Array CpInfo := pool [(1, u "java/io/Serializable"), (0, .class_ 1), (0, u "java/lang/Object"), (0, .class_ 3)] 3

/-- java/io/Serializable -/
def k4 : Class := { plain "java/io/Serializable" (some 0) with
  accessFlags := 1537
  interfaces := #[]
  cf := some (fileOf pool4 2 #[] #[] 1537 4 #[] #[])
  fields := #[]
  methods := #[]
  instanceTypes := #[]
  staticTypes := #[]
  resolved := Array.replicate 8 none
  statics := none }

/-- the primitive byte -/
def k5 : Class := { plain "byte" none with kind := .primitive 'B', accessFlags := 0x411 }
/-- [B -/
def k6 : Class := { plain "[B" (some 0) with kind := .array 5 .byte, interfaces := #[3, 4], accessFlags := 1041 }

/-- the primitive int -/
def k7 : Class := { plain "int" none with kind := .primitive 'I', accessFlags := 0x411 }
/-- [I -/
def k8 : Class := { plain "[I" (some 0) with kind := .array 7 .int, interfaces := #[3, 4], accessFlags := 1041 }

def heap : Heap := #[{ cls := 2, slots := #[.ref 1, .int 0, .int 0, .int 0, .int 0], vm := .statics 2 },
  { cls := 6, slots := #[.int 84, .int 90, .int 105, .int 102], vm := .none }]
def classes : Array Class := #[k0, k1, k2, k3, k4, k5, k6, k7, k8]
def interned : List (Array UInt16 × Addr) := []
def slotsUsed : Nat := 9
def theMethod : MethodId := ⟨1, 1⟩
def args0 : Array Value := #[.int 5, .int 1, .long 2]
def aboutOver (below : List Frame) : State where
  vm := { classes := classes, interned := interned.toArray }
  heap := heap
  slotsUsed := slotsUsed
  threads := #[{ frames := .invoking theMethod args0 :: below }]
def below0 : List Frame := [.native { method := ⟨0, 0⟩, args := #[] }]
def about1 : State := aboutOver below0
def p0 : Program := .bare "" "" ""
def e0 : Env := launch0.env 0 0 0
theorem w_frames : about1.frames = Frame.invoking theMethod args0 :: below0 := rfl
set_option maxRecDepth 65536 in
theorem w_args : argsFit about1.vm theMethod args0 = true := by decide +kernel
set_option maxRecDepth 65536 in
theorem w_heap : heapFits about1 = true := by decide +kernel
set_option maxRecDepth 65536 in
theorem w_runnable : about1.curStatus? = some .runnable := by decide +kernel
set_option maxRecDepth 65536 in
theorem w_alone : about1.alone = true := by decide +kernel
set_option maxRecDepth 65536 in
theorem w_named : about1.methodNamed? x = some theMethod := by decide +kernel
set_option maxRecDepth 65536 in
theorem w_hears : about1.hears theMethod below0 = true := by decide +kernel
set_option maxRecDepth 65536 in
theorem w_ripe : about1.ripe theMethod args0 below0 = true := by decide +kernel
theorem w_running : about1.status = .running := rfl
set_option maxRecDepth 65536 in
theorem w_room : about1.hasRoom e0.platform room_1 = true :=
  launch0.hasRoom_least _ room_1 (by decide +kernel) (by decide +kernel) (by decide +kernel) (by decide +kernel) (by decide +kernel) (by decide +kernel)
theorem allAtoms_all (ts : List Jvm.Cond) (a : Array Jvm.Value) (st : Jvm.State) : (allAtoms ts).before a st = ts.all (fun c => c.before a st) := by
  induction ts with
  | nil => rfl
  | cons c t ih =>
    show (Jvm.Cond.and c (allAtoms t)).before a st = _
    rw [Jvm.Cond.before_and, ih, List.all_cons]
def words1 : List Jvm.Cond := Jvm.Cond.code x code maxLocals ret :: tables_1
/-- a 'code' word, met by the world's own term for the bytes: nothing is compared byte by byte -/
theorem code_word {y : MethodName} {bytes : ByteArray} {mx : Nat} {rt : Option FieldType} {a : Array Value} {s : State} {m : MethodId} {meth : Method} {c : Code} (h1 : s.methodNamed? y = some m) (h2 : s.vm.method? m = some meth) (h3 : meth.code = some c) (h4 : c.code = bytes)
    (h5 : (c.maxLocals == mx && c.exceptionTable.isEmpty && decide (c.maxStack ≤ mostOperands) && decide (meth.sig.returnType = rt) && !meth.locks && decide (parseMethodDescriptor y.desc = some meth.sig)) = true) : (Jvm.Cond.code y bytes mx rt).before a s = true := by
  simp only [Bool.and_eq_true, beq_iff_eq, Bool.not_eq_true', decide_eq_true_eq] at h5
  obtain ⟨⟨⟨⟨⟨g1, g2⟩, g3⟩, g4⟩, g5⟩, g6⟩ := h5
  simp [Cond.before, Cond.holds, Cond.value, h1, h2, h3, h4, g1, g2, g3, g4, g5, g6]
def isCode : Jvm.Cond → Bool
  | .code _ _ _ _ => true
  | _ => false
theorem all_split {L : List Jvm.Cond} {P : Jvm.Cond → Bool} (h1 : L.all (fun c => isCode c || P c) = true) (h2 : ∀ c ∈ L.filter isCode, P c = true) : L.all P = true := by
  refine List.all_eq_true.mpr fun c hc => ?_
  have h := List.all_eq_true.mp h1 c hc
  rcases Bool.eq_false_or_eq_true (isCode c) with hi | hi
  · exact h2 c (List.mem_filter.mpr ⟨hc, hi⟩)
  · simpa [hi] using h
set_option maxRecDepth 65536 in
theorem w_c0 : (Jvm.Cond.code x code maxLocals ret).before args0 about1 = true := code_word (m := ⟨1, 1⟩) (meth := k1m1) (c := k1c1) (by decide +kernel) rfl rfl rfl (by decide +kernel)
set_option maxRecDepth 65536 in
theorem w_c1 : (Jvm.Cond.code ({ cls := "sundrywick/calendar/TzifParser", name := "hasMagic", desc := "([B)Z" } : Jvm.MethodName) prog_17_method_3_code (2 : Nat) (Option.some Jvm.ClassFile.FieldType.boolean)).before args0 about1 = true := code_word (m := ⟨2, 0⟩) (meth := k2m0) (c := k2c0) (by decide +kernel) rfl rfl rfl (by decide +kernel)
set_option maxRecDepth 65536 in
theorem w_c2 : (Jvm.Cond.code ({ cls := "sundrywick/calendar/TzifParserHasMagicPinLaw", name := "at", desc := "(IIJ)B" } : Jvm.MethodName) method_3_code (4 : Nat) (Option.some Jvm.ClassFile.FieldType.byte)).before args0 about1 = true := code_word (m := ⟨1, 2⟩) (meth := k1m2) (c := k1c2) (by decide +kernel) rfl rfl rfl (by decide +kernel)
set_option maxRecDepth 65536 in
theorem w_c3 : (Jvm.Cond.code ({ cls := "sundrywick/calendar/TzifParserHasMagicPinLaw", name := "magic", desc := "(I)B" } : Jvm.MethodName) method_4_code (1 : Nat) (Option.some Jvm.ClassFile.FieldType.byte)).before args0 about1 = true := code_word (m := ⟨1, 3⟩) (meth := k1m3) (c := k1c3) (by decide +kernel) rfl rfl rfl (by decide +kernel)
def codes1 : List Jvm.Cond := [Jvm.Cond.code x code maxLocals ret, Jvm.Cond.code ({ cls := "sundrywick/calendar/TzifParser", name := "hasMagic", desc := "([B)Z" } : Jvm.MethodName) prog_17_method_3_code (2 : Nat) (Option.some Jvm.ClassFile.FieldType.boolean), Jvm.Cond.code ({ cls := "sundrywick/calendar/TzifParserHasMagicPinLaw", name := "at", desc := "(IIJ)B" } : Jvm.MethodName) method_3_code (4 : Nat) (Option.some Jvm.ClassFile.FieldType.byte), Jvm.Cond.code ({ cls := "sundrywick/calendar/TzifParserHasMagicPinLaw", name := "magic", desc := "(I)B" } : Jvm.MethodName) method_4_code (1 : Nat) (Option.some Jvm.ClassFile.FieldType.byte)]
set_option maxRecDepth 65536 in
theorem codes_eq : words1.filter isCode = codes1 := rfl
theorem w_codes : ∀ c ∈ words1.filter isCode, c.before args0 about1 = true := by
  rw [codes_eq]
  intro c hc
  simp only [codes1, List.mem_cons, List.not_mem_nil, or_false] at hc
  rcases hc with rfl | rfl | rfl | rfl
  · exact w_c0
  · exact w_c1
  · exact w_c2
  · exact w_c3
set_option maxRecDepth 65536 in
theorem w_t1 : words1.all (fun c => isCode c || c.before args0 about1) = true := by decide +kernel
theorem w_tables : (allAtoms (Jvm.Cond.code x code maxLocals ret :: tables_1)).before args0 about1 = true := by
  rw [allAtoms_all]
  show words1.all (fun c => c.before args0 about1) = true
  refine all_split ?_ w_codes
  rw [w_t1]
set_option maxRecDepth 65536 in
theorem w_case : (Jvm.Cond.and given_1 narrow_1).before args0 about1 = true := by decide +kernel
theorem w_applies : (headSpec (Jvm.Cond.code x code maxLocals ret :: tables_1) room_1).applies x e0.platform about1 = true :=
  (Spec.applies_iff w_frames).mpr ⟨w_running, w_runnable, w_alone, w_named, w_hears, w_ripe, w_room, w_tables⟩
theorem atStart : AtStart classFile x code maxLocals ret World_1 tables_1 room_1 Calls_1 rest_1 Pre_1 launch0 p0 e0 about1 theMethod args0 below0 :=
  ⟨lists_1, trivial, launch0.admits_env _ _ _, launch0.least_env, fairChoices_fair.cas, fairChoices_fair.clock, w_frames, w_args, w_heap, w_applies, trivial, trivial, w_case⟩
end start1
theorem witness_1 : WitnessClaimed_1 := ⟨start1.p0, start1.e0, start1.about1, start1.theMethod, start1.args0, start1.below0, start1.atStart⟩
end Jvm.Pilot.@@N@@
