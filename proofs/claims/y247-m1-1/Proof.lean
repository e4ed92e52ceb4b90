import JvmDerived
import JvmDerived.Pilot.@@N@@Statement
import JvmDerived.Pilot.@@N@@Code
set_option linter.unusedVariables false
set_option linter.unusedSimpArgs false
namespace Jvm.Pilot.@@N@@
open Jvm Jvm.ClassFile Sem Op Lib Jvm.Free Jvm.Stand Jvm.LawKit Jvm.RoadKit Bundle Jvm.Pilot.@@N@@.Jvm.D
section Own
variable {p : Program} {l : Launch} {e : Env} {R : Room} {s : State} {m : MethodId} {args : Array Value} {below : List Frame} {meth : Method} {c : Code} {T T' : State} {locs : List Loc} {cells slots : Nat} {Qf : Option Value → Heap → List Loc → Prop} {C S : Nat} {F F' : JFrame}
/-- from the state T with the frame F on top the invocation ends as Qf says -/
def own_Go (p : Program) (e : Env) (below : List Frame) (s : State) (Qf : Option Value → Heap → List Loc → Prop) (C S : Nat) (T : State) (F : JFrame) : Prop :=
  ∃ s₂ o, Steps p.tables e below (T.setTop F) s₂ ∧ s₂.status = .running ∧ Ended s₂ below o ∧ ∃ v L, o = .returned v ∧ Qf v s₂.heap L ∧ FrameEnd s o s₂ L C S
theorem own_enter (q : F = F') (hr : own_Go p e below s Qf C S T F') : ∃ s₂ o, Steps p.tables e below (T.setTop F) s₂ ∧ s₂.status = .running ∧ Ended s₂ below o ∧ ∃ v L, o = .returned v ∧ Qf v s₂.heap L ∧ FrameEnd s o s₂ L C S := by
  subst q; exact hr
theorem own_st (st : ∀ t, Steps p.tables e below (T'.setTop F') t → Steps p.tables e below (T.setTop F) t) (hr : own_Go p e below s Qf C S T' F') : own_Go p e below s Qf C S T F := by
  obtain ⟨s2, o, h1, h2⟩ := hr
  exact ⟨s2, o, st _ h1, h2⟩
theorem own_tr (st : Steps p.tables e below (T.setTop F) (T'.setTop F')) (hr : own_Go p e below s Qf C S T' F') : own_Go p e below s Qf C S T F := by
  obtain ⟨s2, o, h1, h2⟩ := hr
  exact ⟨s2, o, st.trans h1, h2⟩
theorem own_ret (X : Stand p l e R s m args below meth c T locs cells slots) (hlk : meth.locks = false) {v : Option Value} (hv : meth.sig.returnType = none → v = none)
    (st : ∀ fs, (∀ (f : JFrame) (acts : List Action), f.method = m → f.locked = none → f.entered = [] → (doReturn e (T.setTop f) acts v).1 = T.setFrames fs) → Steps p.tables e below (T.setTop F) (T.setFrames fs))
    (hQ : Qf v T.heap locs) (hC : cells ≤ C) (hS : slots ≤ S) : own_Go p e below s Qf C S T F := by
  obtain ⟨fs, hr, hrun, hended, hW, hsame⟩ := X.leave (v := v) hv hlk
  exact ⟨_, _, st fs hr, hrun, hended, _, _, rfl, hQ, ⟨_, rfl⟩, hW, hsame.mono hC hS⟩
theorem own_retN (X : Stand p l e R s m args below meth c T locs cells slots) (hx : p.tables.exec = Jvm.exec) (hlk : meth.locks = false) {pc : Nat} {Ls : Array Slot} {z : Int32} {t : FieldType} {rest : List Value} (hret : meth.sig.returnType = some t) (ht : t = .boolean ∨ t = .byte ∨ t = .char ∨ t = .short) (hd : decode c.code pc = .ok (.ireturn, 1))
    (hQ : Qf (some (.int (nar t z))) T.heap locs) (hC : cells ≤ C) (hS : slots ≤ S) : own_Go p e below s Qf C S T (mkF m pc Ls (.int z :: rest)) :=
  own_ret X hlk (fun h => by rw [hret] at h; cases h) (fun _ hr => retN X hx hret ht hd hr) hQ hC hS
theorem own_retI (X : Stand p l e R s m args below meth c T locs cells slots) (hx : p.tables.exec = Jvm.exec) (hlk : meth.locks = false) {pc : Nat} {Ls : Array Slot} {z : Int32} {rest : List Value} (hret : meth.sig.returnType = some .int) (hd : decode c.code pc = .ok (.ireturn, 1))
    (hQ : Qf (some (.int z)) T.heap locs) (hC : cells ≤ C) (hS : slots ≤ S) : own_Go p e below s Qf C S T (mkF m pc Ls (.int z :: rest)) :=
  own_ret X hlk (fun h => by rw [hret] at h; cases h) (fun _ hr => retOut X hx hret rfl (Or.inl ⟨rfl, Or.inl rfl, _, rfl⟩) hd hr) hQ hC hS
theorem own_retJ (X : Stand p l e R s m args below meth c T locs cells slots) (hx : p.tables.exec = Jvm.exec) (hlk : meth.locks = false) {pc : Nat} {Ls : Array Slot} {z : Int64} {rest : List Value} (hret : meth.sig.returnType = some .long) (hd : decode c.code pc = .ok (.lreturn, 1))
    (hQ : Qf (some (.long z)) T.heap locs) (hC : cells ≤ C) (hS : slots ≤ S) : own_Go p e below s Qf C S T (mkF m pc Ls (.long z :: rest)) :=
  own_ret X hlk (fun h => by rw [hret] at h; cases h) (fun _ hr => retOut X hx hret rfl (Or.inr (Or.inl ⟨rfl, rfl, _, rfl⟩)) hd hr) hQ hC hS
theorem own_retA (X : Stand p l e R s m args below meth c T locs cells slots) (hx : p.tables.exec = Jvm.exec) (hlk : meth.locks = false) {pc : Nat} {Ls : Array Slot} {w : Value} {t : FieldType} {rest : List Value} (hret : meth.sig.returnType = some t) (ht : t.isReference = true) (hw : w.isRef = true) (hn : narrow t w = w) (hd : decode c.code pc = .ok (.areturn, 1))
    (hQ : Qf (some w) T.heap locs) (hC : cells ≤ C) (hS : slots ≤ S) : own_Go p e below s Qf C S T (mkF m pc Ls (w :: rest)) :=
  own_ret X hlk (fun h => by rw [hret] at h; cases h) (fun _ hr => retOut X hx hret hn (Or.inr (Or.inr (Or.inr (Or.inr ⟨rfl, ht, hw⟩)))) hd hr) hQ hC hS
theorem own_retV (X : Stand p l e R s m args below meth c T locs cells slots) (hx : p.tables.exec = Jvm.exec) (hlk : meth.locks = false) {pc : Nat} {Ls : Array Slot} (hret : meth.sig.returnType = none) (hd : decode c.code pc = .ok (.return_, 1))
    (hQ : Qf none T.heap locs) (hC : cells ≤ C) (hS : slots ≤ S) : own_Go p e below s Qf C S T (mkF m pc Ls []) :=
  own_ret X hlk (fun _ => rfl) (fun _ hr => X.returnOut hx hret hd hr) hQ hC hS
def own_cc : ClassFile.Cond → Int32 → Int32 → Prop
  | .eq, x, y => x = y
  | .ne, x, y => ¬ x = y
  | .lt, x, y => x < y
  | .ge, x, y => ¬ x < y
  | .gt, x, y => y < x
  | .le, x, y => ¬ y < x
def own_nn : ClassFile.Cond → Int32 → Int32 → Prop
  | .eq, x, y => ¬ x = y
  | .ne, x, y => x = y
  | .lt, x, y => ¬ x < y
  | .ge, x, y => x < y
  | .gt, x, y => ¬ y < x
  | .le, x, y => y < x
theorem own_split (cd : ClassFile.Cond) (x y : Int32) : (own_cc cd x y ∧ if_icmp.holds cd x y = true) ∨ (own_nn cd x y ∧ if_icmp.holds cd x y = false) := by
  cases cd
  · by_cases h : x = y
    · exact Or.inl ⟨h, (teq h).1⟩
    · exact Or.inr ⟨h, (feq h).1⟩
  · by_cases h : x = y
    · exact Or.inr ⟨h, (teq h).2⟩
    · exact Or.inl ⟨h, (feq h).2⟩
  · by_cases h : x < y
    · exact Or.inl ⟨h, (tlt h).1⟩
    · exact Or.inr ⟨h, (flt h).1⟩
  · by_cases h : x < y
    · exact Or.inr ⟨h, (tlt h).2.1⟩
    · exact Or.inl ⟨h, (flt h).2.1⟩
  · by_cases h : y < x
    · exact Or.inl ⟨h, (tlt h).2.2.1⟩
    · exact Or.inr ⟨h, (flt h).2.2.1⟩
  · by_cases h : y < x
    · exact Or.inr ⟨h, (tlt h).2.2.2⟩
    · exact Or.inl ⟨h, (flt h).2.2.2⟩
theorem own_icmp (X : Stand p l e R s m args below meth c T locs cells slots) (hx : p.tables.exec = Jvm.exec) {pc pc' pc2 : Nat} {Ls : Array Slot} {st : List Value} {x y : Int32} {cd : ClassFile.Cond} {o : Int} (hd : decode c.code pc = .ok (.if_icmp cd o, 3)) (ho : 0 ≤ (pc : Int) + o) (hp : ((pc : Int) + o).toNat = pc') (h2 : pc + 3 = pc2)
    (hY : own_cc cd x y → own_Go p e below s Qf C S T (mkF m pc' Ls st)) (hN : own_nn cd x y → own_Go p e below s Qf C S T (mkF m pc2 Ls st)) : own_Go p e below s Qf C S T (mkF m pc Ls (.int y :: .int x :: st)) := by
  subst h2
  rcases own_split cd x y with ⟨h, q⟩ | ⟨h, q⟩
  · exact own_st (fun _ k => XS.icmpYes X.here hx rfl (pc0 := pc) (pc' := pc') rfl hd rfl q ho hp k) (hY h)
  · exact own_st (fun _ k => XS.icmpNo X.here hx rfl hd rfl q k) (hN h)
theorem own_ifc (X : Stand p l e R s m args below meth c T locs cells slots) (hx : p.tables.exec = Jvm.exec) {pc pc' pc2 : Nat} {Ls : Array Slot} {st : List Value} {x : Int32} {cd : ClassFile.Cond} {o : Int} (hd : decode c.code pc = .ok (.ifCond cd o, 3)) (ho : 0 ≤ (pc : Int) + o) (hp : ((pc : Int) + o).toNat = pc') (h2 : pc + 3 = pc2)
    (hY : own_cc cd x 0 → own_Go p e below s Qf C S T (mkF m pc' Ls st)) (hN : own_nn cd x 0 → own_Go p e below s Qf C S T (mkF m pc2 Ls st)) : own_Go p e below s Qf C S T (mkF m pc Ls (.int x :: st)) := by
  subst h2
  rcases own_split cd x 0 with ⟨h, q⟩ | ⟨h, q⟩
  · exact own_st (fun _ k => XS.ifYes X.here hx rfl (pc0 := pc) (pc' := pc') rfl hd rfl ((if0 _ _).trans q) ho hp k) (hY h)
  · exact own_st (fun _ k => XS.ifNo X.here hx rfl hd rfl ((if0 _ _).trans q) k) (hN h)
def own_ccL : ClassFile.Cond → Int64 → Int64 → Prop
  | .eq, x, y => x = y
  | .ne, x, y => ¬ x = y
  | .lt, x, y => x < y
  | .ge, x, y => ¬ x < y
  | .gt, x, y => y < x
  | .le, x, y => ¬ y < x
def own_nnL : ClassFile.Cond → Int64 → Int64 → Prop
  | .eq, x, y => ¬ x = y
  | .ne, x, y => x = y
  | .lt, x, y => ¬ x < y
  | .ge, x, y => x < y
  | .gt, x, y => ¬ y < x
  | .le, x, y => y < x
theorem own_lc (cd : ClassFile.Cond) (x y : Int64) : (own_cc cd (lcmpW x y) 0 → own_ccL cd x y) ∧ (own_nn cd (lcmpW x y) 0 → own_nnL cd x y) := by
  have h1 : x > y → lcmpW x y = 1 := fun h => by simp [lcmpW, h]
  have h2 : x = y → lcmpW x y = 0 := fun h => by subst h; simp [lcmpW, Int64.lt_irrefl]
  have h3 : ¬ x > y → ¬ x = y → lcmpW x y = -1 := fun h h' => by simp [lcmpW, h, h']
  have lt : x < y ↔ lcmpW x y < 0 := by
    by_cases a : x > y
    · rw [h1 a]; exact ⟨fun b => absurd (Int64.lt_trans a b) (Int64.lt_irrefl), fun b => absurd b (by decide)⟩
    · by_cases b : x = y
      · rw [h2 b, b]; exact ⟨fun q => absurd q (Int64.lt_irrefl), fun q => absurd q (by decide)⟩
      · rw [h3 a b]; exact ⟨fun _ => by decide, fun _ => by
          rw [Int64.lt_iff_toInt_lt]; simp only [gt_iff_lt, Int64.lt_iff_toInt_lt] at a
          have : x.toInt ≠ y.toInt := fun q => b (Int64.toInt_inj.mp q)
          omega⟩
  have gt : y < x ↔ 0 < lcmpW x y := by
    by_cases a : x > y
    · rw [h1 a]; exact ⟨fun _ => by decide, fun _ => a⟩
    · by_cases b : x = y
      · rw [h2 b]; exact ⟨fun q => absurd q a, fun q => absurd q (by decide)⟩
      · rw [h3 a b]; exact ⟨fun q => absurd q a, fun q => absurd q (by decide)⟩
  have eq : x = y ↔ lcmpW x y = 0 := by
    by_cases a : x > y
    · rw [h1 a]; exact ⟨fun b => absurd a (by rw [b]; exact Int64.lt_irrefl), fun b => absurd b (by decide)⟩
    · by_cases b : x = y
      · exact ⟨fun _ => h2 b, fun _ => b⟩
      · rw [h3 a b]; exact ⟨fun q => absurd q b, fun q => absurd q (by decide)⟩
  cases cd
  · exact ⟨fun h => eq.mpr h, fun h q => h (eq.mp q)⟩
  · exact ⟨fun h q => h (eq.mp q), fun h => eq.mpr h⟩
  · exact ⟨fun h => lt.mpr h, fun h q => h (lt.mp q)⟩
  · exact ⟨fun h q => h (lt.mp q), fun h => lt.mpr h⟩
  · exact ⟨fun h => gt.mpr h, fun h q => h (gt.mp q)⟩
  · exact ⟨fun h q => h (gt.mp q), fun h => gt.mpr h⟩
theorem own_iflc (X : Stand p l e R s m args below meth c T locs cells slots) (hx : p.tables.exec = Jvm.exec) {pc pc' pc2 : Nat} {Ls : Array Slot} {st : List Value} {x y : Int64} {cd : ClassFile.Cond} {o : Int} (hd : decode c.code pc = .ok (.ifCond cd o, 3)) (ho : 0 ≤ (pc : Int) + o) (hp : ((pc : Int) + o).toNat = pc') (h2 : pc + 3 = pc2)
    (hY : own_ccL cd x y → own_Go p e below s Qf C S T (mkF m pc' Ls st)) (hN : own_nnL cd x y → own_Go p e below s Qf C S T (mkF m pc2 Ls st)) : own_Go p e below s Qf C S T (mkF m pc Ls (.int (lcmpW x y) :: st)) :=
  own_ifc X hx hd ho hp h2 (fun h => hY ((own_lc cd x y).1 h)) (fun h => hN ((own_lc cd x y).2 h))
theorem own_acmp (X : Stand p l e R s m args below meth c T locs cells slots) (hx : p.tables.exec = Jvm.exec) {pc pc' pc2 : Nat} {Ls : Array Slot} {st : List Value} {x y : Addr} {o : Int} {cd : ACond} (hd : decode c.code pc = .ok (.if_acmp cd o, 3)) (ho : 0 ≤ (pc : Int) + o) (hp : ((pc : Int) + o).toNat = pc') (h2 : pc + 3 = pc2)
    (hE : x = y → own_Go p e below s Qf C S T (mkF m (if acV cd true = true then pc' else pc2) Ls st)) (hN : ¬ x = y → own_Go p e below s Qf C S T (mkF m (if acV cd false = true then pc' else pc2) Ls st)) : own_Go p e below s Qf C S T (mkF m pc Ls (.ref y :: .ref x :: st)) := by
  subst h2 hp
  by_cases h : x = y
  · exact own_st (fun _ k => Jvm.RoadKit.acmp (g := mkF m pc Ls (.ref y :: .ref x :: st)) X hx rfl rfl rfl (pc0 := pc) (same := true) rfl hd rfl (decide_eq_true (congrArg Value.ref h)) ho rfl k) (hE h)
  · exact own_st (fun _ k => Jvm.RoadKit.acmp (g := mkF m pc Ls (.ref y :: .ref x :: st)) X hx rfl rfl rfl (pc0 := pc) (same := false) rfl hd rfl (decide_eq_false fun q => h (Value.ref.inj q)) ho rfl k) (hN h)
theorem own_ord {Z : State} {a0 : Array Value} {t : Term} {a : Addr} {C n d : String} {k : Int32} (ev : t.eval a0 Z none [] Z = some (.ref a)) (h : (Cond.eq (Term.field t C n d) (Term.int k)).value a0 Z none Z [] = some true) : Fld Z Z.heap a C n d (.int k) := by
  have e1 : (Term.field t C n d).eval a0 Z none [] Z = Z.fieldOf? a C n d := fld_at ev
  simp only [Cond.value, e1] at h
  cases hq : Z.fieldOf? a C n d with
  | none => simp [hq] at h
  | some v =>
    rw [hq] at h
    cases v <;> simp [Term.eval] at h
    subst h
    exact Fld.start hq
theorem own_narb {z : Int32} (h : z = 0 ∨ z = 1) : nar .boolean z = z := by rcases h with rfl | rfl <;> rfl
theorem own_stk {Z : State} {h h' : Heap} {C n d : String} {v : Value} {ws : List Addr} (F : Sta Z h C n d v) (K : Keep h h' ws) (q : ∀ x ∈ ws, ∀ c : Cell, h[x]? = some c → c.vm.isStatics = false) : Sta Z h' C n d v := by
  obtain ⟨cf, i, k, f, st, cell, h1, h2, h3, h4, h5, h6, h7⟩ := F
  exact ⟨cf, i, k, f, st, cell, h1, h2, h3, h4, K.2.1 st cell h5 (fun z => by rw [q st z cell h5] at h6; cases h6), h6, h7⟩
theorem own_npE {Z : State} {h : Heap} {a : Addr} {C : String} (E : Exa Z h a C) : ∀ c : Cell, h[a]? = some c → c.vm.isStatics = false := fun c hc => by
  obtain ⟨cell, k, h1, h2, h3, h4, h5⟩ := E
  cases h1.symm.trans hc
  exact h4
theorem own_npA {Z : State} {h : Heap} {a : Addr} {k : ClassId} {ty : FieldType} {z : Int32} {vs : List Value} {dv : Value} (V : Arv Z h a k ty z vs dv) : ∀ c : Cell, h[a]? = some c → c.vm.isStatics = false := fun c hc => by
  obtain ⟨cl, A, r⟩ := V
  cases A.1.symm.trans hc
  exact A.plain
theorem own_len {Z : State} {a0 : Array Value} {t : Term} {a : Addr} {cl : Cell} {ty : FieldType} {k : Int32} (ev : t.eval a0 Z none [] Z = some (.ref a)) (A : Arr Z Z.heap a cl ty) (h : (Cond.eq (Term.length t) (Term.int k)).value a0 Z none Z [] = some true) : cl.slots.size < 2 ^ 31 ∧ cl.slots.size.toInt32 = k := by
  have ha : Z.arrayAt? a = some cl := IntBox.arrayAt_of A.1 A.2.1 A.2.2
  simp only [Cond.value, Term.eval, ev, Option.bind_eq_bind, Option.bind_some, ha] at h
  by_cases q : cl.slots.size < 2 ^ 31
  · simp [q] at h; exact ⟨q, h⟩
  · simp [q] at h
theorem own_elem {Z : State} {a0 : Array Value} {t : Term} {a : Addr} {cl : Cell} {ty : FieldType} {j v : Int32} (ev : t.eval a0 Z none [] Z = some (.ref a)) (A : Arr Z Z.heap a cl ty) (hj : ¬ j < 0) (h : (Cond.eq (Term.elem t (Term.int j)) (Term.int v)).value a0 Z none Z [] = some true) : cl.slots[j.toNatClampNeg]? = some (.int v) := by
  have ha : Z.arrayAt? a = some cl := IntBox.arrayAt_of A.1 A.2.1 A.2.2
  have e1 : (Term.elem t (Term.int j)).eval a0 Z none [] Z = cl.slots[j.toNatClampNeg]? := elem_f ev rfl ha hj
  simp only [Cond.value, e1] at h
  cases hq : cl.slots[j.toNatClampNeg]? with
  | none => simp [hq] at h
  | some w =>
    rw [hq] at h
    cases w <;> simp [Term.eval] at h
    rw [h]
theorem own_arvex {Z : State} {a : Addr} {cl : Cell} {ty : FieldType} {z : Int32} {dv : Value} (hf : Fit Z) (A : Arr Z Z.heap a cl ty) (q : cl.slots.size < 2 ^ 31) (e : cl.slots.size.toInt32 = z) (hz : ¬ z < 0) : ∃ vs, Arv Z Z.heap a cl.cls ty z vs dv := by
  have S : cl.slots.size = z.toNatClampNeg := by rw [← e]; simp only [Int32.toNatClampNeg, len_toInt q]; rfl
  have H : Has cl cl.slots.toList dv := fun k hk => by
    rw [List.getD_eq_getElem?_getD, Array.getElem?_toList, Array.getElem?_eq_getElem hk]; rfl
  refine ⟨cl.slots.toList, cl, A, rfl, S, hz, H, fun j hj => ?_⟩
  have e1 : (Nat.toInt32 j).toNatClampNeg = j := by simp only [Int32.toNatClampNeg, len_toInt (Nat.lt_trans hj q)]; rfl
  exact elem_fits (j := Nat.toInt32 j) hf A (idx_in hj q) (by rw [e1]; exact H j hj)
theorem own_selp {s : State} {args : Array Value} {y : MethodName} {n : Nat} (wi : (Cond.instantiable y.cls n).before args s = true) (hp : s.PrivateAt y) (hi : (Cond.instanceMethod y).before args s = true) (hy : y.cls ≠ "java/lang/invoke/MethodHandle" ∧ y.cls ≠ "java/lang/invoke/VarHandle") : (Cond.selects y.cls y y).before args s = true := by
  obtain ⟨c, k, hc, hk, -, hf, -⟩ := Cond.instantiable_spec wi
  exact selects_self_of_private hc hk (by simp only [Bool.or_eq_false_iff] at hf; exact hf.1) hp hi hy
theorem own_nar0 : nar .boolean (0 : Int32) = 0 := rfl
theorem own_nar1 : nar .boolean (1 : Int32) = 1 := rfl
end Own

theorem own_ltl {a b n : Int32} (h : b < n) (hab : ¬ b < a) : a < n := by
  rw [Int32.lt_iff_toInt_lt] at *; omega
theorem own_m9 (x : Int32) : ¬ ((x &&& 2147483647) % 9) < 0 ∧ ((x &&& 2147483647) % 9).toNatClampNeg ≤ 8 ∧ ¬ (8 : Int32) < ((x &&& 2147483647) % 9) := by
  have h1 := (c_and x 2147483647 (by decide)).1
  have h2 := (c_irem (x &&& 2147483647) 9 9 rfl).1 h1
  have e8 : (8 : Int32).toInt = 8 := rfl
  have e0 : (0 : Int32).toInt = 0 := rfl
  refine ⟨by rw [Int32.lt_iff_toInt_lt]; omega, ?_, by rw [Int32.lt_iff_toInt_lt]; omega⟩
  simp only [Int32.toNatClampNeg]; omega
def own_pair (n a b k : Int32) : Prop := k < n ∧ a = 0 ∧ b = 1
def own_R (n b0 b1 b2 b3 b4 b5 b6 b7 z : Int32) : Prop := (own_pair n b0 b1 (1 : Int32) ∧ z = (2 : Int32)) ∨ (¬ own_pair n b0 b1 (1 : Int32) ∧ own_pair n b1 b2 (2 : Int32) ∧ z = (3 : Int32)) ∨ (¬ own_pair n b0 b1 (1 : Int32) ∧ ¬ own_pair n b1 b2 (2 : Int32) ∧ own_pair n b2 b3 (3 : Int32) ∧ z = (4 : Int32)) ∨ (¬ own_pair n b0 b1 (1 : Int32) ∧ ¬ own_pair n b1 b2 (2 : Int32) ∧ ¬ own_pair n b2 b3 (3 : Int32) ∧ own_pair n b3 b4 (4 : Int32) ∧ z = (5 : Int32)) ∨ (¬ own_pair n b0 b1 (1 : Int32) ∧ ¬ own_pair n b1 b2 (2 : Int32) ∧ ¬ own_pair n b2 b3 (3 : Int32) ∧ ¬ own_pair n b3 b4 (4 : Int32) ∧ own_pair n b4 b5 (5 : Int32) ∧ z = (6 : Int32)) ∨ (¬ own_pair n b0 b1 (1 : Int32) ∧ ¬ own_pair n b1 b2 (2 : Int32) ∧ ¬ own_pair n b2 b3 (3 : Int32) ∧ ¬ own_pair n b3 b4 (4 : Int32) ∧ ¬ own_pair n b4 b5 (5 : Int32) ∧ own_pair n b5 b6 (6 : Int32) ∧ z = (7 : Int32)) ∨ (¬ own_pair n b0 b1 (1 : Int32) ∧ ¬ own_pair n b1 b2 (2 : Int32) ∧ ¬ own_pair n b2 b3 (3 : Int32) ∧ ¬ own_pair n b3 b4 (4 : Int32) ∧ ¬ own_pair n b4 b5 (5 : Int32) ∧ ¬ own_pair n b5 b6 (6 : Int32) ∧ own_pair n b6 b7 (7 : Int32) ∧ z = (8 : Int32)) ∨ (¬ own_pair n b0 b1 (1 : Int32) ∧ ¬ own_pair n b1 b2 (2 : Int32) ∧ ¬ own_pair n b2 b3 (3 : Int32) ∧ ¬ own_pair n b3 b4 (4 : Int32) ∧ ¬ own_pair n b4 b5 (5 : Int32) ∧ ¬ own_pair n b5 b6 (6 : Int32) ∧ ¬ own_pair n b6 b7 (7 : Int32) ∧ z = (-1 : Int32))
theorem own_Ru {n b0 b1 b2 b3 b4 b5 b6 b7 z z' : Int32} (h : own_R n b0 b1 b2 b3 b4 b5 b6 b7 z) (h' : own_R n b0 b1 b2 b3 b4 b5 b6 b7 z') : z = z' := by
  rcases h with h | h | h | h | h | h | h | h <;> rcases h' with h' | h' | h' | h' | h' | h' | h' | h' <;> simp_all

theorem d4_0 : decode method_3_code 0 = .ok (.lload_n 0, 1) := by decide +kernel
theorem d4_1 : decode method_3_code 1 = .ok (.bipush 10, 2) := by decide +kernel
theorem d4_3 : decode method_3_code 3 = .ok (.iload_n 2, 1) := by decide +kernel
theorem d4_4 : decode method_3_code 4 = .ok (.imul, 1) := by decide +kernel
theorem d4_5 : decode method_3_code 5 = .ok (.lushr, 1) := by decide +kernel
theorem d4_6 : decode method_3_code 6 = .ok (.lstore_n 3, 1) := by decide +kernel
theorem d4_7 : decode method_3_code 7 = .ok (.lload_n 3, 1) := by decide +kernel
theorem d4_8 : decode method_3_code 8 = .ok (.ldc2_w 23, 3) := by decide +kernel
theorem d4_11 : decode method_3_code 11 = .ok (.land, 1) := by decide +kernel
theorem d4_12 : decode method_3_code 12 = .ok (.l2i, 1) := by decide +kernel
theorem d4_13 : decode method_3_code 13 = .ok (.istore 5, 2) := by decide +kernel
theorem d4_15 : decode method_3_code 15 = .ok (.iload 5, 2) := by decide +kernel
theorem d4_17 : decode method_3_code 17 = .ok (.ifCond .ne 5, 3) := by decide +kernel
theorem d4_20 : decode method_3_code 20 = .ok (.iconst 0, 1) := by decide +kernel
theorem d4_21 : decode method_3_code 21 = .ok (.ireturn, 1) := by decide +kernel
theorem d4_22 : decode method_3_code 22 = .ok (.iload 5, 2) := by decide +kernel
theorem d4_24 : decode method_3_code 24 = .ok (.iconst 1, 1) := by decide +kernel
theorem d4_25 : decode method_3_code 25 = .ok (.if_icmp .ne 5, 3) := by decide +kernel
theorem d4_28 : decode method_3_code 28 = .ok (.iconst 1, 1) := by decide +kernel
theorem d4_29 : decode method_3_code 29 = .ok (.ireturn, 1) := by decide +kernel
theorem d4_30 : decode method_3_code 30 = .ok (.lload_n 3, 1) := by decide +kernel
theorem d4_31 : decode method_3_code 31 = .ok (.iconst 2, 1) := by decide +kernel
theorem d4_32 : decode method_3_code 32 = .ok (.lushr, 1) := by decide +kernel
theorem d4_33 : decode method_3_code 33 = .ok (.l2i, 1) := by decide +kernel
theorem d4_34 : decode method_3_code 34 = .ok (.i2b, 1) := by decide +kernel
theorem d4_35 : decode method_3_code 35 = .ok (.ireturn, 1) := by decide +kernel
theorem own_pn4 : plainName "com/example/columnist/columnist/CellKeyFindRowLengthPinLaw" = true := by first | (simp [plainName, overriddenIn]; done) | decide +kernel
theorem own_ef4 (m : MethodId) (x0 : Int64) (x1 : Int32) : entryFrame m #[(.long x0), (.int x1)] 6 = (mkF m 0 #[.val (.long x0), .second, .val (.int x1), .unset, .unset, .unset] []) := by first | (simp [entryFrame, mkF, argsToLocals, Value.category]; done) | rfl
def Q4 (Z : State) (x0 : Int64) (x1 : Int32)  (h0 : Heap) (n0 : Nat) (v : Option Value) (h : Heap) (L : List Loc) : Prop := (∃ z : Int32, v = some (.int z) ∧ (True)) ∧ Fr n0 L ∧ h = h0
set_option maxRecDepth 65536 in
set_option maxHeartbeats 40000000 in
theorem rm4 (l : Launch) (Z : State) (a0 : Array Value) (hw : ∀ d ∈ tables_1, d.before a0 Z = true) (ws : List Jvm.Cond) (x0 : Int64) (x1 : Int32)  (h0 : Heap) (n0 : Nat) (Z0 : n0 ≤ h0.size)  :
    MetFree l (⟨"com/example/columnist/columnist/CellKeyFindRowLengthPinLaw", "draw", "(JI)B"⟩ : MethodName) (head1 (Jvm.Cond.code (⟨"com/example/columnist/columnist/CellKeyFindRowLengthPinLaw", "draw", "(JI)B"⟩ : MethodName) method_3_code 6 (some .byte) :: ws) ({ frames := 0, cells := 0, slots := 0, locals := 0 } : Room)) (fun a U => a = #[(.long x0), (.int x1)] ∧ Z.Warmed39 U.vm ∧ U.heap = h0) (fun _ _ _ _ _ => True) (fun _ U oc U' => ∃ v L, oc = .returned v ∧ Q4 Z x0 x1  h0 n0 v U'.heap L ∧ FrameEnd U oc U' L ({ frames := 0, cells := 0, slots := 0, locals := 0 } : Room).cells ({ frames := 0, cells := 0, slots := 0, locals := 0 } : Room).slots) := by
  refine MetFree.of_bodySF (plainFor_of_name own_pn4) hisR ?_
  intro p e s m args below meth c s₁ Bd hml0 hP hK
  obtain ⟨rfl, hZ, hh⟩ := hP
  have hx := Bd.exec
  have hby := Bd.bytes
  have hlk : meth.locks = false := BodyLoose.notSynchronized Bd
  have hml : c.maxLocals = 6 := hml0
  have hown : s.vm.findClass "com/example/columnist/columnist/CellKeyFindRowLengthPinLaw" = some m.cls := findClass_of_methodNamed Bd.named
  have hnm := (name_of_methodNamed Bd.named Bd.method).1
  have X0 : Stand p l e ({ frames := 0, cells := 0, slots := 0, locals := 0 } : Room) s m #[(.long x0), (.int x1)] below meth c s₁ [] 0 0 := Stand.of_body Bd
  have e0 : s₁.heap = h0 := by rw [← hh, Bd.state]; rfl
  have N0 := Fr.nil n0
  refine own_enter (own_ef4 m x0 x1) ?_
  show own_Go p e below s (Q4 Z x0 x1  h0 n0) ({ frames := 0, cells := 0, slots := 0, locals := 0 } : Room).cells ({ frames := 0, cells := 0, slots := 0, locals := 0 } : Room).slots s₁ (mkF m 0 #[.val (.long x0), .second, .val (.int x1), .unset, .unset, .unset] [])
  refine own_st (T' := s₁) (F' := (mkF m 1 #[.val (.long x0), .second, .val (.int x1), .unset, .unset, .unset] [(.long x0)])) (fun _ k => XS.lloadN X0.here hx rfl (hb hby d4_0) rfl  k) ?_
  refine own_st (T' := s₁) (F' := (mkF m 3 #[.val (.long x0), .second, .val (.int x1), .unset, .unset, .unset] [(.int (10 : Int32)), (.long x0)])) (fun _ k => XS.bipush X0.here hx rfl (hb hby d4_1) k) ?_
  refine own_st (T' := s₁) (F' := (mkF m 4 #[.val (.long x0), .second, .val (.int x1), .unset, .unset, .unset] [(.int x1), (.int (10 : Int32)), (.long x0)])) (fun _ k => XS.iloadN X0.here hx rfl (hb hby d4_3) rfl  k) ?_
  refine own_st (T' := s₁) (F' := (mkF m 5 #[.val (.long x0), .second, .val (.int x1), .unset, .unset, .unset] [(.int ((10 : Int32) * x1)), (.long x0)])) (fun _ k => XS.imul X0.here hx rfl (hb hby d4_4) rfl k) ?_
  refine own_st (T' := s₁) (F' := (mkF m 6 #[.val (.long x0), .second, .val (.int x1), .unset, .unset, .unset] [(.long ((x0.toUInt64 >>> (((10 : Int32) * x1) &&& 0x3f).toInt64.toUInt64).toInt64))])) (fun _ k => XS.lushr X0.here hx rfl (hb hby d4_5) rfl k) ?_
  refine own_st (T' := s₁) (F' := (mkF m 7 #[.val (.long x0), .second, .val (.int x1), .val (.long ((x0.toUInt64 >>> (((10 : Int32) * x1) &&& 0x3f).toInt64.toUInt64).toInt64)), .second, .unset] [])) (fun _ k => XS.lstoreN X0.here hx rfl (hb hby d4_6) rfl (l' := #[.val (.long x0), .second, .val (.int x1), .val (.long ((x0.toUInt64 >>> (((10 : Int32) * x1) &&& 0x3f).toInt64.toUInt64).toInt64)), .second, .unset]) rfl k) ?_
  refine own_st (T' := s₁) (F' := (mkF m 8 #[.val (.long x0), .second, .val (.int x1), .val (.long ((x0.toUInt64 >>> (((10 : Int32) * x1) &&& 0x3f).toInt64.toUInt64).toInt64)), .second, .unset] [(.long ((x0.toUInt64 >>> (((10 : Int32) * x1) &&& 0x3f).toInt64.toUInt64).toInt64))])) (fun _ k => XS.lloadN X0.here hx rfl (hb hby d4_7) rfl  k) ?_
  refine own_st (T' := s₁) (F' := (mkF m 11 #[.val (.long x0), .second, .val (.int x1), .val (.long ((x0.toUInt64 >>> (((10 : Int32) * x1) &&& 0x3f).toInt64.toUInt64).toInt64)), .second, .unset] [(.long (3 : Int64)), (.long ((x0.toUInt64 >>> (((10 : Int32) * x1) &&& 0x3f).toInt64.toUInt64).toInt64))])) (fun _ k => X0.ldc2Long hx hown (mvT hZ (hw _ (List.mem_of_getElem? (i := 16) rfl))) (g := (mkF m 8 #[.val (.long x0), .second, .val (.int x1), .val (.long ((x0.toUInt64 >>> (((10 : Int32) * x1) &&& 0x3f).toInt64.toUInt64).toInt64)), .second, .unset] [(.long ((x0.toUInt64 >>> (((10 : Int32) * x1) &&& 0x3f).toInt64.toUInt64).toInt64))])) rfl (hb hby d4_8) _ k) ?_
  refine own_st (T' := s₁) (F' := (mkF m 12 #[.val (.long x0), .second, .val (.int x1), .val (.long ((x0.toUInt64 >>> (((10 : Int32) * x1) &&& 0x3f).toInt64.toUInt64).toInt64)), .second, .unset] [(.long (((x0.toUInt64 >>> (((10 : Int32) * x1) &&& 0x3f).toInt64.toUInt64).toInt64) &&& (3 : Int64)))])) (fun _ k => XS.land X0.here hx rfl (hb hby d4_11) rfl k) ?_
  refine own_st (T' := s₁) (F' := (mkF m 13 #[.val (.long x0), .second, .val (.int x1), .val (.long ((x0.toUInt64 >>> (((10 : Int32) * x1) &&& 0x3f).toInt64.toUInt64).toInt64)), .second, .unset] [(.int ((((x0.toUInt64 >>> (((10 : Int32) * x1) &&& 0x3f).toInt64.toUInt64).toInt64) &&& (3 : Int64)).toInt32))])) (fun _ k => XS.l2i X0.here hx rfl (hb hby d4_12) rfl k) ?_
  refine own_st (T' := s₁) (F' := (mkF m 15 #[.val (.long x0), .second, .val (.int x1), .val (.long ((x0.toUInt64 >>> (((10 : Int32) * x1) &&& 0x3f).toInt64.toUInt64).toInt64)), .second, .val (.int ((((x0.toUInt64 >>> (((10 : Int32) * x1) &&& 0x3f).toInt64.toUInt64).toInt64) &&& (3 : Int64)).toInt32))] [])) (fun _ k => XS.istore X0.here hx rfl (hb hby d4_13) rfl (l' := #[.val (.long x0), .second, .val (.int x1), .val (.long ((x0.toUInt64 >>> (((10 : Int32) * x1) &&& 0x3f).toInt64.toUInt64).toInt64)), .second, .val (.int ((((x0.toUInt64 >>> (((10 : Int32) * x1) &&& 0x3f).toInt64.toUInt64).toInt64) &&& (3 : Int64)).toInt32))]) rfl k) ?_
  refine own_st (T' := s₁) (F' := (mkF m 17 #[.val (.long x0), .second, .val (.int x1), .val (.long ((x0.toUInt64 >>> (((10 : Int32) * x1) &&& 0x3f).toInt64.toUInt64).toInt64)), .second, .val (.int ((((x0.toUInt64 >>> (((10 : Int32) * x1) &&& 0x3f).toInt64.toUInt64).toInt64) &&& (3 : Int64)).toInt32))] [(.int ((((x0.toUInt64 >>> (((10 : Int32) * x1) &&& 0x3f).toInt64.toUInt64).toInt64) &&& (3 : Int64)).toInt32))])) (fun _ k => XS.iload X0.here hx rfl (hb hby d4_15) rfl  k) ?_
  refine own_ifc X0 hx (pc' := 22) (pc2 := 20) (hb hby d4_17) (by decide) (by decide) rfl (fun (hc17 : ¬ (((((x0.toUInt64 >>> (((10 : Int32) * x1) &&& 0x3f).toInt64.toUInt64).toInt64) &&& (3 : Int64)).toInt32) = (0 : Int32))) => ?_) (fun (hc17 : ((((x0.toUInt64 >>> (((10 : Int32) * x1) &&& 0x3f).toInt64.toUInt64).toInt64) &&& (3 : Int64)).toInt32) = (0 : Int32)) => ?_)
  ·
    refine own_st (T' := s₁) (F' := (mkF m 24 #[.val (.long x0), .second, .val (.int x1), .val (.long ((x0.toUInt64 >>> (((10 : Int32) * x1) &&& 0x3f).toInt64.toUInt64).toInt64)), .second, .val (.int ((((x0.toUInt64 >>> (((10 : Int32) * x1) &&& 0x3f).toInt64.toUInt64).toInt64) &&& (3 : Int64)).toInt32))] [(.int ((((x0.toUInt64 >>> (((10 : Int32) * x1) &&& 0x3f).toInt64.toUInt64).toInt64) &&& (3 : Int64)).toInt32))])) (fun _ k => XS.iload X0.here hx rfl (hb hby d4_22) rfl  k) ?_
    refine own_st (T' := s₁) (F' := (mkF m 25 #[.val (.long x0), .second, .val (.int x1), .val (.long ((x0.toUInt64 >>> (((10 : Int32) * x1) &&& 0x3f).toInt64.toUInt64).toInt64)), .second, .val (.int ((((x0.toUInt64 >>> (((10 : Int32) * x1) &&& 0x3f).toInt64.toUInt64).toInt64) &&& (3 : Int64)).toInt32))] [(.int (1 : Int32)), (.int ((((x0.toUInt64 >>> (((10 : Int32) * x1) &&& 0x3f).toInt64.toUInt64).toInt64) &&& (3 : Int64)).toInt32))])) (fun _ k => XS.iconst X0.here hx rfl (hb hby d4_24) k) ?_
    refine own_icmp X0 hx (pc' := 30) (pc2 := 28) (hb hby d4_25) (by decide) (by decide) rfl (fun (hc25 : ¬ (((((x0.toUInt64 >>> (((10 : Int32) * x1) &&& 0x3f).toInt64.toUInt64).toInt64) &&& (3 : Int64)).toInt32) = (1 : Int32))) => ?_) (fun (hc25 : ((((x0.toUInt64 >>> (((10 : Int32) * x1) &&& 0x3f).toInt64.toUInt64).toInt64) &&& (3 : Int64)).toInt32) = (1 : Int32)) => ?_)
    ·
      refine own_st (T' := s₁) (F' := (mkF m 31 #[.val (.long x0), .second, .val (.int x1), .val (.long ((x0.toUInt64 >>> (((10 : Int32) * x1) &&& 0x3f).toInt64.toUInt64).toInt64)), .second, .val (.int ((((x0.toUInt64 >>> (((10 : Int32) * x1) &&& 0x3f).toInt64.toUInt64).toInt64) &&& (3 : Int64)).toInt32))] [(.long ((x0.toUInt64 >>> (((10 : Int32) * x1) &&& 0x3f).toInt64.toUInt64).toInt64))])) (fun _ k => XS.lloadN X0.here hx rfl (hb hby d4_30) rfl  k) ?_
      refine own_st (T' := s₁) (F' := (mkF m 32 #[.val (.long x0), .second, .val (.int x1), .val (.long ((x0.toUInt64 >>> (((10 : Int32) * x1) &&& 0x3f).toInt64.toUInt64).toInt64)), .second, .val (.int ((((x0.toUInt64 >>> (((10 : Int32) * x1) &&& 0x3f).toInt64.toUInt64).toInt64) &&& (3 : Int64)).toInt32))] [(.int (2 : Int32)), (.long ((x0.toUInt64 >>> (((10 : Int32) * x1) &&& 0x3f).toInt64.toUInt64).toInt64))])) (fun _ k => XS.iconst X0.here hx rfl (hb hby d4_31) k) ?_
      refine own_st (T' := s₁) (F' := (mkF m 33 #[.val (.long x0), .second, .val (.int x1), .val (.long ((x0.toUInt64 >>> (((10 : Int32) * x1) &&& 0x3f).toInt64.toUInt64).toInt64)), .second, .val (.int ((((x0.toUInt64 >>> (((10 : Int32) * x1) &&& 0x3f).toInt64.toUInt64).toInt64) &&& (3 : Int64)).toInt32))] [(.long ((((x0.toUInt64 >>> (((10 : Int32) * x1) &&& 0x3f).toInt64.toUInt64).toInt64).toUInt64 >>> ((2 : Int32) &&& 0x3f).toInt64.toUInt64).toInt64))])) (fun _ k => XS.lushr X0.here hx rfl (hb hby d4_32) rfl k) ?_
      refine own_st (T' := s₁) (F' := (mkF m 34 #[.val (.long x0), .second, .val (.int x1), .val (.long ((x0.toUInt64 >>> (((10 : Int32) * x1) &&& 0x3f).toInt64.toUInt64).toInt64)), .second, .val (.int ((((x0.toUInt64 >>> (((10 : Int32) * x1) &&& 0x3f).toInt64.toUInt64).toInt64) &&& (3 : Int64)).toInt32))] [(.int (((((x0.toUInt64 >>> (((10 : Int32) * x1) &&& 0x3f).toInt64.toUInt64).toInt64).toUInt64 >>> ((2 : Int32) &&& 0x3f).toInt64.toUInt64).toInt64).toInt32))])) (fun _ k => XS.l2i X0.here hx rfl (hb hby d4_33) rfl k) ?_
      refine own_st (T' := s₁) (F' := (mkF m 35 #[.val (.long x0), .second, .val (.int x1), .val (.long ((x0.toUInt64 >>> (((10 : Int32) * x1) &&& 0x3f).toInt64.toUInt64).toInt64)), .second, .val (.int ((((x0.toUInt64 >>> (((10 : Int32) * x1) &&& 0x3f).toInt64.toUInt64).toInt64) &&& (3 : Int64)).toInt32))] [(.int ((((((x0.toUInt64 >>> (((10 : Int32) * x1) &&& 0x3f).toInt64.toUInt64).toInt64).toUInt64 >>> ((2 : Int32) &&& 0x3f).toInt64.toUInt64).toInt64).toInt32).toInt8.toInt32))])) (fun _ k => XS.i2b X0.here hx rfl (hb hby d4_34) rfl k) ?_
      refine own_retN X0 hx hlk (t := .byte) Bd.returns (by simp) (hb hby d4_35) ?_ (by decide) (by decide)
      rw [e0]
      refine ⟨⟨_, rfl, ?_⟩, N0, rfl⟩
      trivial
    ·
      refine own_st (T' := s₁) (F' := (mkF m 29 #[.val (.long x0), .second, .val (.int x1), .val (.long ((x0.toUInt64 >>> (((10 : Int32) * x1) &&& 0x3f).toInt64.toUInt64).toInt64)), .second, .val (.int ((((x0.toUInt64 >>> (((10 : Int32) * x1) &&& 0x3f).toInt64.toUInt64).toInt64) &&& (3 : Int64)).toInt32))] [(.int (1 : Int32))])) (fun _ k => XS.iconst X0.here hx rfl (hb hby d4_28) k) ?_
      refine own_retN X0 hx hlk (t := .byte) Bd.returns (by simp) (hb hby d4_29) ?_ (by decide) (by decide)
      rw [e0]
      refine ⟨⟨_, rfl, ?_⟩, N0, rfl⟩
      trivial
  ·
    refine own_st (T' := s₁) (F' := (mkF m 21 #[.val (.long x0), .second, .val (.int x1), .val (.long ((x0.toUInt64 >>> (((10 : Int32) * x1) &&& 0x3f).toInt64.toUInt64).toInt64)), .second, .val (.int ((((x0.toUInt64 >>> (((10 : Int32) * x1) &&& 0x3f).toInt64.toUInt64).toInt64) &&& (3 : Int64)).toInt32))] [(.int (0 : Int32))])) (fun _ k => XS.iconst X0.here hx rfl (hb hby d4_20) k) ?_
    refine own_retN X0 hx hlk (t := .byte) Bd.returns (by simp) (hb hby d4_21) ?_ (by decide) (by decide)
    rw [e0]
    refine ⟨⟨_, rfl, ?_⟩, N0, rfl⟩
    trivial
theorem d2_0 : decode method_4_code 0 = .ok (.iload_n 1, 1) := by decide +kernel
theorem d2_1 : decode method_4_code 1 = .ok (.iconst 1, 1) := by decide +kernel
theorem d2_2 : decode method_4_code 2 = .ok (.iadd, 1) := by decide +kernel
theorem d2_3 : decode method_4_code 3 = .ok (.aload_n 0, 1) := by decide +kernel
theorem d2_4 : decode method_4_code 4 = .ok (.arraylength, 1) := by decide +kernel
theorem d2_5 : decode method_4_code 5 = .ok (.if_icmp .ge 22, 3) := by decide +kernel
theorem d2_8 : decode method_4_code 8 = .ok (.aload_n 0, 1) := by decide +kernel
theorem d2_9 : decode method_4_code 9 = .ok (.iload_n 1, 1) := by decide +kernel
theorem d2_10 : decode method_4_code 10 = .ok (.baload, 1) := by decide +kernel
theorem d2_11 : decode method_4_code 11 = .ok (.ifCond .ne 16, 3) := by decide +kernel
theorem d2_14 : decode method_4_code 14 = .ok (.aload_n 0, 1) := by decide +kernel
theorem d2_15 : decode method_4_code 15 = .ok (.iload_n 1, 1) := by decide +kernel
theorem d2_16 : decode method_4_code 16 = .ok (.iconst 1, 1) := by decide +kernel
theorem d2_17 : decode method_4_code 17 = .ok (.iadd, 1) := by decide +kernel
theorem d2_18 : decode method_4_code 18 = .ok (.baload, 1) := by decide +kernel
theorem d2_19 : decode method_4_code 19 = .ok (.iconst 1, 1) := by decide +kernel
theorem d2_20 : decode method_4_code 20 = .ok (.if_icmp .ne 7, 3) := by decide +kernel
theorem d2_23 : decode method_4_code 23 = .ok (.iconst 1, 1) := by decide +kernel
theorem d2_24 : decode method_4_code 24 = .ok (.goto 4, 3) := by decide +kernel
theorem d2_27 : decode method_4_code 27 = .ok (.iconst 0, 1) := by decide +kernel
theorem d2_28 : decode method_4_code 28 = .ok (.ireturn, 1) := by decide +kernel
theorem own_pn2 : plainName "com/example/columnist/columnist/CellKeyFindRowLengthPinLaw" = true := by first | (simp [plainName, overriddenIn]; done) | decide +kernel
theorem own_ef2 (m : MethodId) (x0 : Addr) (x1 : Int32) : entryFrame m #[(.ref x0), (.int x1)] 2 = (mkF m 0 #[.val (.ref x0), .val (.int x1)] []) := by first | (simp [entryFrame, mkF, argsToLocals, Value.category]; done) | rfl
def Q2 (Z : State) (x0 : Addr) (x1 : Int32) (kb : ClassId) (n : Int32) (vs : List Value) (a : Int32) (b : Int32) (h0 : Heap) (n0 : Nat) (v : Option Value) (h : Heap) (L : List Loc) : Prop := (∃ z : Int32, v = some (.int z) ∧ ((z = 1 ∧ own_pair n a b (x1 + 1)) ∨ (z = 0 ∧ ¬ own_pair n a b (x1 + 1)))) ∧ Fr n0 L ∧ h = h0
set_option maxRecDepth 65536 in
set_option maxHeartbeats 40000000 in
theorem rm2 (l : Launch) (Z : State) (a0 : Array Value) (hw : ∀ d ∈ tables_1, d.before a0 Z = true) (ws : List Jvm.Cond) (x0 : Addr) (x1 : Int32) (kb : ClassId) (n : Int32) (vs : List Value) (a : Int32) (b : Int32) (h0 : Heap) (n0 : Nat) (Z0 : n0 ≤ h0.size) (V_B : Arv Z h0 x0 kb .byte n vs (.int (0 : Int32))) (hi : ¬ x1 < 0 ∧ x1 < x1 + 1 ∧ ¬ (x1 + 1) < 0) (ha : vs.getD x1.toNatClampNeg (.int (0 : Int32)) = .int a) (hb2 : vs.getD (x1 + 1).toNatClampNeg (.int (0 : Int32)) = .int b) :
    MetFree l (⟨"com/example/columnist/columnist/CellKeyFindRowLengthPinLaw", "pairAt", "([BI)Z"⟩ : MethodName) (head1 (Jvm.Cond.code (⟨"com/example/columnist/columnist/CellKeyFindRowLengthPinLaw", "pairAt", "([BI)Z"⟩ : MethodName) method_4_code 2 (some .boolean) :: ws) ({ frames := 0, cells := 0, slots := 0, locals := 0 } : Room)) (fun a U => a = #[(.ref x0), (.int x1)] ∧ Z.Warmed39 U.vm ∧ U.heap = h0) (fun _ _ _ _ _ => True) (fun _ U oc U' => ∃ v L, oc = .returned v ∧ Q2 Z x0 x1 kb n vs a b h0 n0 v U'.heap L ∧ FrameEnd U oc U' L ({ frames := 0, cells := 0, slots := 0, locals := 0 } : Room).cells ({ frames := 0, cells := 0, slots := 0, locals := 0 } : Room).slots) := by
  refine MetFree.of_bodySF (plainFor_of_name own_pn2) hisR ?_
  intro p e s m args below meth c s₁ Bd hml0 hP hK
  obtain ⟨rfl, hZ, hh⟩ := hP
  have hx := Bd.exec
  have hby := Bd.bytes
  have hlk : meth.locks = false := BodyLoose.notSynchronized Bd
  have hml : c.maxLocals = 2 := hml0
  have hown : s.vm.findClass "com/example/columnist/columnist/CellKeyFindRowLengthPinLaw" = some m.cls := findClass_of_methodNamed Bd.named
  have hnm := (name_of_methodNamed Bd.named Bd.method).1
  have X0 : Stand p l e ({ frames := 0, cells := 0, slots := 0, locals := 0 } : Room) s m #[(.ref x0), (.int x1)] below meth c s₁ [] 0 0 := Stand.of_body Bd
  have e0 : s₁.heap = h0 := by rw [← hh, Bd.state]; rfl
  have N0 := Fr.nil n0
  refine own_enter (own_ef2 m x0 x1) ?_
  show own_Go p e below s (Q2 Z x0 x1 kb n vs a b h0 n0) ({ frames := 0, cells := 0, slots := 0, locals := 0 } : Room).cells ({ frames := 0, cells := 0, slots := 0, locals := 0 } : Room).slots s₁ (mkF m 0 #[.val (.ref x0), .val (.int x1)] [])
  refine own_st (T' := s₁) (F' := (mkF m 1 #[.val (.ref x0), .val (.int x1)] [(.int x1)])) (fun _ k => XS.iloadN X0.here hx rfl (hb hby d2_0) rfl  k) ?_
  refine own_st (T' := s₁) (F' := (mkF m 2 #[.val (.ref x0), .val (.int x1)] [(.int (1 : Int32)), (.int x1)])) (fun _ k => XS.iconst X0.here hx rfl (hb hby d2_1) k) ?_
  refine own_st (T' := s₁) (F' := (mkF m 3 #[.val (.ref x0), .val (.int x1)] [(.int (x1 + (1 : Int32)))])) (fun _ k => XS.iadd X0.here hx rfl (hb hby d2_2) rfl k) ?_
  refine own_st (T' := s₁) (F' := (mkF m 4 #[.val (.ref x0), .val (.int x1)] [(.ref x0), (.int (x1 + (1 : Int32)))])) (fun _ k => XS.aloadN X0.here hx rfl (hb hby d2_3) rfl rfl k) ?_
  obtain ⟨cl1, Ar1, Aq1, As1, Am1, Ah1, Au1⟩ := id V_B
  refine own_st (T' := s₁) (F' := (mkF m 5 #[.val (.ref x0), .val (.int x1)] [(.int n), (.int (x1 + (1 : Int32)))])) (fun _ k => X0.arraylength hx (cell := cl1) (by rw [e0]; exact Ar1.1) (State.isArrayOf_alike hZ.alike Ar1.2.1) (g := (mkF m 4 #[.val (.ref x0), .val (.int x1)] [(.ref x0), (.int (x1 + (1 : Int32)))])) rfl (rest := [(.int (x1 + (1 : Int32)))]) rfl (hb hby d2_4) _ (by rw [len_of As1 Am1]; exact k)) ?_
  have J28_2 : ∀ (j28_1 : Int32), (((¬ ((x1 + (1 : Int32)) < n)) ∧ j28_1 = (0 : Int32)) ∨ (((x1 + (1 : Int32)) < n) ∧ (¬ (a = (0 : Int32))) ∧ j28_1 = (0 : Int32)) ∨ (((x1 + (1 : Int32)) < n) ∧ (a = (0 : Int32)) ∧ (¬ (b = (1 : Int32))) ∧ j28_1 = (0 : Int32)) ∨ (((x1 + (1 : Int32)) < n) ∧ (a = (0 : Int32)) ∧ (b = (1 : Int32)) ∧ j28_1 = (1 : Int32))) → own_Go p e below s (Q2 Z x0 x1 kb n vs a b h0 n0) ({ frames := 0, cells := 0, slots := 0, locals := 0 } : Room).cells ({ frames := 0, cells := 0, slots := 0, locals := 0 } : Room).slots s₁ (mkF m 28 #[.val (.ref x0), .val (.int x1)] [(.int j28_1)]) := by
    intro j28_1 hJ28_2
    refine own_retN X0 hx hlk (t := .boolean) Bd.returns (by simp) (hb hby d2_28) ?_ (by decide) (by decide)
    rw [e0]
    refine ⟨⟨_, rfl, ?_⟩, N0, rfl⟩
    rcases hJ28_2 with ⟨h1, rfl⟩ | ⟨h1, h2, rfl⟩ | ⟨h1, h2, h3, rfl⟩ | ⟨h1, h2, h3, rfl⟩
    · exact Or.inr ⟨rfl, fun q => h1 q.1⟩
    · exact Or.inr ⟨rfl, fun q => h2 q.2.1⟩
    · exact Or.inr ⟨rfl, fun q => h3 q.2.2⟩
    · exact Or.inl ⟨rfl, h1, h2, h3⟩
  refine own_icmp X0 hx (pc' := 27) (pc2 := 8) (hb hby d2_5) (by decide) (by decide) rfl (fun (hc5 : ¬ ((x1 + (1 : Int32)) < n)) => ?_) (fun (hc5 : (x1 + (1 : Int32)) < n) => ?_)
  ·
    refine own_st (T' := s₁) (F' := (mkF m 28 #[.val (.ref x0), .val (.int x1)] [(.int (0 : Int32))])) (fun _ k => XS.iconst X0.here hx rfl (hb hby d2_27) k) ?_
    exact J28_2 (0 : Int32) (Or.inl (⟨hc5, rfl⟩))
  ·
    refine own_st (T' := s₁) (F' := (mkF m 9 #[.val (.ref x0), .val (.int x1)] [(.ref x0)])) (fun _ k => XS.aloadN X0.here hx rfl (hb hby d2_8) rfl rfl k) ?_
    refine own_st (T' := s₁) (F' := (mkF m 10 #[.val (.ref x0), .val (.int x1)] [(.int x1), (.ref x0)])) (fun _ k => XS.iloadN X0.here hx rfl (hb hby d2_9) rfl  k) ?_
    obtain ⟨cl3, Ar3, Aq3, As3, Am3, Ah3, Au3⟩ := id V_B
    have hin3 : ¬ (x1 < 0 ∨ cl3.slots.size ≤ (x1).toNatClampNeg) := inb_of As3 ⟨hi.1, Int32.lt_trans hi.2.1 hc5⟩
    have hat3 : cl3.slots[(x1).toNatClampNeg]? = some (.int a) := Ah3.at hin3 (ha)
    refine own_st (T' := s₁) (F' := (mkF m 11 #[.val (.ref x0), .val (.int x1)] [(.int a)])) (fun _ k => X0.baloadBytes hx (j := x1) (v := (.int a)) (by rw [e0]; exact Ar3.1) (State.isArrayOf_alike hZ.alike Ar3.2.1) Ar3.2.2 hin3 hat3 (g := (mkF m 10 #[.val (.ref x0), .val (.int x1)] [(.int x1), (.ref x0)])) rfl rfl (hb hby d2_10) _ k) ?_
    refine own_ifc X0 hx (pc' := 27) (pc2 := 14) (hb hby d2_11) (by decide) (by decide) rfl (fun (hc11 : ¬ (a = (0 : Int32))) => ?_) (fun (hc11 : a = (0 : Int32)) => ?_)
    ·
      refine own_st (T' := s₁) (F' := (mkF m 28 #[.val (.ref x0), .val (.int x1)] [(.int (0 : Int32))])) (fun _ k => XS.iconst X0.here hx rfl (hb hby d2_27) k) ?_
      exact J28_2 (0 : Int32) (Or.inr (Or.inl (⟨hc5, hc11, rfl⟩)))
    ·
      refine own_st (T' := s₁) (F' := (mkF m 15 #[.val (.ref x0), .val (.int x1)] [(.ref x0)])) (fun _ k => XS.aloadN X0.here hx rfl (hb hby d2_14) rfl rfl k) ?_
      refine own_st (T' := s₁) (F' := (mkF m 16 #[.val (.ref x0), .val (.int x1)] [(.int x1), (.ref x0)])) (fun _ k => XS.iloadN X0.here hx rfl (hb hby d2_15) rfl  k) ?_
      refine own_st (T' := s₁) (F' := (mkF m 17 #[.val (.ref x0), .val (.int x1)] [(.int (1 : Int32)), (.int x1), (.ref x0)])) (fun _ k => XS.iconst X0.here hx rfl (hb hby d2_16) k) ?_
      refine own_st (T' := s₁) (F' := (mkF m 18 #[.val (.ref x0), .val (.int x1)] [(.int (x1 + (1 : Int32))), (.ref x0)])) (fun _ k => XS.iadd X0.here hx rfl (hb hby d2_17) rfl k) ?_
      obtain ⟨cl4, Ar4, Aq4, As4, Am4, Ah4, Au4⟩ := id V_B
      have hin4 : ¬ ((x1 + (1 : Int32)) < 0 ∨ cl4.slots.size ≤ ((x1 + (1 : Int32))).toNatClampNeg) := inb_of As4 ⟨hi.2.2, hc5⟩
      have hat4 : cl4.slots[((x1 + (1 : Int32))).toNatClampNeg]? = some (.int b) := Ah4.at hin4 (hb2)
      refine own_st (T' := s₁) (F' := (mkF m 19 #[.val (.ref x0), .val (.int x1)] [(.int b)])) (fun _ k => X0.baloadBytes hx (j := (x1 + (1 : Int32))) (v := (.int b)) (by rw [e0]; exact Ar4.1) (State.isArrayOf_alike hZ.alike Ar4.2.1) Ar4.2.2 hin4 hat4 (g := (mkF m 18 #[.val (.ref x0), .val (.int x1)] [(.int (x1 + (1 : Int32))), (.ref x0)])) rfl rfl (hb hby d2_18) _ k) ?_
      refine own_st (T' := s₁) (F' := (mkF m 20 #[.val (.ref x0), .val (.int x1)] [(.int (1 : Int32)), (.int b)])) (fun _ k => XS.iconst X0.here hx rfl (hb hby d2_19) k) ?_
      refine own_icmp X0 hx (pc' := 27) (pc2 := 23) (hb hby d2_20) (by decide) (by decide) rfl (fun (hc20 : ¬ (b = (1 : Int32))) => ?_) (fun (hc20 : b = (1 : Int32)) => ?_)
      ·
        refine own_st (T' := s₁) (F' := (mkF m 28 #[.val (.ref x0), .val (.int x1)] [(.int (0 : Int32))])) (fun _ k => XS.iconst X0.here hx rfl (hb hby d2_27) k) ?_
        exact J28_2 (0 : Int32) (Or.inr (Or.inr (Or.inl (⟨hc5, hc11, hc20, rfl⟩))))
      ·
        refine own_st (T' := s₁) (F' := (mkF m 24 #[.val (.ref x0), .val (.int x1)] [(.int (1 : Int32))])) (fun _ k => XS.iconst X0.here hx rfl (hb hby d2_23) k) ?_
        refine own_st (T' := s₁) (F' := (mkF m 28 #[.val (.ref x0), .val (.int x1)] [(.int (1 : Int32))])) (fun _ k => XS.goto X0.here hx rfl (pc0 := 24) (pc' := 28) rfl (hb hby d2_24) (by decide) (by decide) k) ?_
        exact J28_2 (1 : Int32) (Or.inr (Or.inr (Or.inr (⟨hc5, hc11, hc20, rfl⟩))))
theorem own_pd0 : parseMethodDescriptor "([BI)Z" = some ⟨[(.array .byte), .int], some .boolean⟩ := by decide +kernel
theorem d1_0 : decode method_5_code 0 = .ok (.aload_n 0, 1) := by decide +kernel
theorem d1_1 : decode method_5_code 1 = .ok (.iconst 0, 1) := by decide +kernel
theorem d1_2 : decode method_5_code 2 = .ok (.invokestatic 25, 3) := by decide +kernel
theorem d1_5 : decode method_5_code 5 = .ok (.ifCond .eq 5, 3) := by decide +kernel
theorem d1_8 : decode method_5_code 8 = .ok (.iconst 2, 1) := by decide +kernel
theorem d1_9 : decode method_5_code 9 = .ok (.ireturn, 1) := by decide +kernel
theorem d1_10 : decode method_5_code 10 = .ok (.aload_n 0, 1) := by decide +kernel
theorem d1_11 : decode method_5_code 11 = .ok (.iconst 1, 1) := by decide +kernel
theorem d1_12 : decode method_5_code 12 = .ok (.invokestatic 25, 3) := by decide +kernel
theorem d1_15 : decode method_5_code 15 = .ok (.ifCond .eq 5, 3) := by decide +kernel
theorem d1_18 : decode method_5_code 18 = .ok (.iconst 3, 1) := by decide +kernel
theorem d1_19 : decode method_5_code 19 = .ok (.ireturn, 1) := by decide +kernel
theorem d1_20 : decode method_5_code 20 = .ok (.aload_n 0, 1) := by decide +kernel
theorem d1_21 : decode method_5_code 21 = .ok (.iconst 2, 1) := by decide +kernel
theorem d1_22 : decode method_5_code 22 = .ok (.invokestatic 25, 3) := by decide +kernel
theorem d1_25 : decode method_5_code 25 = .ok (.ifCond .eq 5, 3) := by decide +kernel
theorem d1_28 : decode method_5_code 28 = .ok (.iconst 4, 1) := by decide +kernel
theorem d1_29 : decode method_5_code 29 = .ok (.ireturn, 1) := by decide +kernel
theorem d1_30 : decode method_5_code 30 = .ok (.aload_n 0, 1) := by decide +kernel
theorem d1_31 : decode method_5_code 31 = .ok (.iconst 3, 1) := by decide +kernel
theorem d1_32 : decode method_5_code 32 = .ok (.invokestatic 25, 3) := by decide +kernel
theorem d1_35 : decode method_5_code 35 = .ok (.ifCond .eq 5, 3) := by decide +kernel
theorem d1_38 : decode method_5_code 38 = .ok (.iconst 5, 1) := by decide +kernel
theorem d1_39 : decode method_5_code 39 = .ok (.ireturn, 1) := by decide +kernel
theorem d1_40 : decode method_5_code 40 = .ok (.aload_n 0, 1) := by decide +kernel
theorem d1_41 : decode method_5_code 41 = .ok (.iconst 4, 1) := by decide +kernel
theorem d1_42 : decode method_5_code 42 = .ok (.invokestatic 25, 3) := by decide +kernel
theorem d1_45 : decode method_5_code 45 = .ok (.ifCond .eq 6, 3) := by decide +kernel
theorem d1_48 : decode method_5_code 48 = .ok (.bipush 6, 2) := by decide +kernel
theorem d1_50 : decode method_5_code 50 = .ok (.ireturn, 1) := by decide +kernel
theorem d1_51 : decode method_5_code 51 = .ok (.aload_n 0, 1) := by decide +kernel
theorem d1_52 : decode method_5_code 52 = .ok (.iconst 5, 1) := by decide +kernel
theorem d1_53 : decode method_5_code 53 = .ok (.invokestatic 25, 3) := by decide +kernel
theorem d1_56 : decode method_5_code 56 = .ok (.ifCond .eq 6, 3) := by decide +kernel
theorem d1_59 : decode method_5_code 59 = .ok (.bipush 7, 2) := by decide +kernel
theorem d1_61 : decode method_5_code 61 = .ok (.ireturn, 1) := by decide +kernel
theorem d1_62 : decode method_5_code 62 = .ok (.aload_n 0, 1) := by decide +kernel
theorem d1_63 : decode method_5_code 63 = .ok (.bipush 6, 2) := by decide +kernel
theorem d1_65 : decode method_5_code 65 = .ok (.invokestatic 25, 3) := by decide +kernel
theorem d1_68 : decode method_5_code 68 = .ok (.ifCond .eq 6, 3) := by decide +kernel
theorem d1_71 : decode method_5_code 71 = .ok (.bipush 8, 2) := by decide +kernel
theorem d1_73 : decode method_5_code 73 = .ok (.ireturn, 1) := by decide +kernel
theorem d1_74 : decode method_5_code 74 = .ok (.iconst (-1), 1) := by decide +kernel
theorem d1_75 : decode method_5_code 75 = .ok (.ireturn, 1) := by decide +kernel
theorem own_pn1 : plainName "com/example/columnist/columnist/CellKeyFindRowLengthPinLaw" = true := by first | (simp [plainName, overriddenIn]; done) | decide +kernel
theorem own_ef1 (m : MethodId) (x0 : Addr) : entryFrame m #[(.ref x0)] 1 = (mkF m 0 #[.val (.ref x0)] []) := by first | (simp [entryFrame, mkF, argsToLocals, Value.category]; done) | rfl
def Q1 (Z : State) (x0 : Addr) (kb : ClassId) (n : Int32) (b0 : Int32) (b1 : Int32) (b2 : Int32) (b3 : Int32) (b4 : Int32) (b5 : Int32) (b6 : Int32) (b7 : Int32) (h0 : Heap) (n0 : Nat) (v : Option Value) (h : Heap) (L : List Loc) : Prop := (∃ z : Int32, v = some (.int z) ∧ (own_R n b0 b1 b2 b3 b4 b5 b6 b7 z)) ∧ Fr n0 L ∧ h = h0
set_option maxRecDepth 65536 in
set_option maxHeartbeats 40000000 in
theorem rm1 (l : Launch) (Z : State) (a0 : Array Value) (hw : ∀ d ∈ tables_1, d.before a0 Z = true) (ws : List Jvm.Cond) (x0 : Addr) (kb : ClassId) (n : Int32) (b0 : Int32) (b1 : Int32) (b2 : Int32) (b3 : Int32) (b4 : Int32) (b5 : Int32) (b6 : Int32) (b7 : Int32) (h0 : Heap) (n0 : Nat) (Z0 : n0 ≤ h0.size) (V_B : Arv Z h0 x0 kb .byte n [(.int b0), (.int b1), (.int b2), (.int b3), (.int b4), (.int b5), (.int b6), (.int b7)] (.int (0 : Int32))) :
    MetFree l (⟨"com/example/columnist/columnist/CellKeyFindRowLengthPinLaw", "ref", "([B)I"⟩ : MethodName) (head1 (Jvm.Cond.code (⟨"com/example/columnist/columnist/CellKeyFindRowLengthPinLaw", "ref", "([B)I"⟩ : MethodName) method_5_code 1 (some .int) :: ws) ({ frames := 1, cells := 0, slots := 0, locals := 13 } : Room)) (fun a U => a = #[(.ref x0)] ∧ Z.Warmed39 U.vm ∧ U.heap = h0) (fun _ _ _ _ _ => True) (fun _ U oc U' => ∃ v L, oc = .returned v ∧ Q1 Z x0 kb n b0 b1 b2 b3 b4 b5 b6 b7 h0 n0 v U'.heap L ∧ FrameEnd U oc U' L ({ frames := 1, cells := 0, slots := 0, locals := 13 } : Room).cells ({ frames := 1, cells := 0, slots := 0, locals := 13 } : Room).slots) := by
  refine MetFree.of_bodySF (plainFor_of_name own_pn1) hisR ?_
  intro p e s m args below meth c s₁ Bd hml0 hP hK
  obtain ⟨rfl, hZ, hh⟩ := hP
  have hx := Bd.exec
  have hby := Bd.bytes
  have hlk : meth.locks = false := BodyLoose.notSynchronized Bd
  have hml : c.maxLocals = 1 := hml0
  have hown : s.vm.findClass "com/example/columnist/columnist/CellKeyFindRowLengthPinLaw" = some m.cls := findClass_of_methodNamed Bd.named
  have hnm := (name_of_methodNamed Bd.named Bd.method).1
  have X0 : Stand p l e ({ frames := 1, cells := 0, slots := 0, locals := 13 } : Room) s m #[(.ref x0)] below meth c s₁ [] 0 0 := Stand.of_body Bd
  have e0 : s₁.heap = h0 := by rw [← hh, Bd.state]; rfl
  have N0 := Fr.nil n0
  refine own_enter (own_ef1 m x0) ?_
  show own_Go p e below s (Q1 Z x0 kb n b0 b1 b2 b3 b4 b5 b6 b7 h0 n0) ({ frames := 1, cells := 0, slots := 0, locals := 13 } : Room).cells ({ frames := 1, cells := 0, slots := 0, locals := 13 } : Room).slots s₁ (mkF m 0 #[.val (.ref x0)] [])
  refine own_st (T' := s₁) (F' := (mkF m 1 #[.val (.ref x0)] [(.ref x0)])) (fun _ k => XS.aloadN X0.here hx rfl (hb hby d1_0) rfl rfl k) ?_
  refine own_st (T' := s₁) (F' := (mkF m 2 #[.val (.ref x0)] [(.int (0 : Int32)), (.ref x0)])) (fun _ k => XS.iconst X0.here hx rfl (hb hby d1_1) k) ?_
  obtain ⟨_, _, ⟨T1, L1, k1, n1⟩, -, X1, ⟨Lc1, hQ1, l1, y1, z1⟩, st1⟩ := Jvm.LawKit.callS X0 hx (y := (⟨"com/example/columnist/columnist/CellKeyFindRowLengthPinLaw", "pairAt", "([BI)Z"⟩ : MethodName)) hown (mvT hZ (hw _ (List.mem_of_getElem? (i := 6) rfl))) (mvT hZ (hw _ (List.mem_of_getElem? (i := 7) rfl))) (mvT hZ (hw _ (List.mem_of_getElem? (i := 4) rfl))) (mvT hZ (hw _ (List.mem_of_getElem? (i := 8) rfl))) (by decide) (backOf (W := 0) (rm2 l Z a0 hw [] x0 (0 : Int32) kb n ([(.int b0), (.int b1), (.int b2), (.int b3), (.int b4), (.int b5), (.int b6), (.int b7)]) b0 b1 h0 n0 Z0 V_B (by decide) rfl rfl) hZ (hw _ (List.mem_of_getElem? (i := 8) rfl)) (hw _ (List.mem_of_getElem? (i := 4) rfl)) (by decide) (by decide)) (g := (mkF m 2 #[.val (.ref x0)] [(.int (0 : Int32)), (.ref x0)])) rfl (by rw [hml]; rfl) (argsL := [(.ref x0), (.int (0 : Int32))]) (rest := []) (lenOf own_pd0 rfl) rfl (by show 2 * 0 + _ ≤ _; exact Nat.le_of_eq rfl) (hb hby d1_2) (fun _ _ => ⟨rfl, e0, (by decide : 0 + 0 ≤ _), (by decide : 0 + 0 ≤ _)⟩)
  dsimp only [Pt.U, Pt.locs, Pt.cells, Pt.slots] at X1 l1 y1 z1 st1 hQ1
  subst l1 y1 z1
  obtain ⟨⟨r1, rfl, hr1⟩, Nq1, eq1⟩ := hQ1
  have N1 := Fr.app N0 Nq1
  refine own_st (T' := T1) (F' := (mkF m 5 #[.val (.ref x0)] [(.int r1)])) (fun _ k => st1 _ k) ?_
  refine own_ifc X1 hx (pc' := 10) (pc2 := 8) (hb hby d1_5) (by decide) (by decide) rfl (fun (hc5 : r1 = (0 : Int32)) => ?_) (fun (hc5 : ¬ (r1 = (0 : Int32))) => ?_)
  ·
    refine own_st (T' := T1) (F' := (mkF m 11 #[.val (.ref x0)] [(.ref x0)])) (fun _ k => XS.aloadN X1.here hx rfl (hb hby d1_10) rfl rfl k) ?_
    refine own_st (T' := T1) (F' := (mkF m 12 #[.val (.ref x0)] [(.int (1 : Int32)), (.ref x0)])) (fun _ k => XS.iconst X1.here hx rfl (hb hby d1_11) k) ?_
    obtain ⟨_, _, ⟨T2, L2, k2, n2⟩, -, X2, ⟨Lc2, hQ2, l2, y2, z2⟩, st2⟩ := Jvm.LawKit.callS X1 hx (y := (⟨"com/example/columnist/columnist/CellKeyFindRowLengthPinLaw", "pairAt", "([BI)Z"⟩ : MethodName)) hown (mvT hZ (hw _ (List.mem_of_getElem? (i := 6) rfl))) (mvT hZ (hw _ (List.mem_of_getElem? (i := 7) rfl))) (mvT hZ (hw _ (List.mem_of_getElem? (i := 4) rfl))) (mvT hZ (hw _ (List.mem_of_getElem? (i := 8) rfl))) (by decide) (backOf (W := 0) (rm2 l Z a0 hw [] x0 (1 : Int32) kb n ([(.int b0), (.int b1), (.int b2), (.int b3), (.int b4), (.int b5), (.int b6), (.int b7)]) b1 b2 h0 n0 Z0 V_B (by decide) rfl rfl) hZ (hw _ (List.mem_of_getElem? (i := 8) rfl)) (hw _ (List.mem_of_getElem? (i := 4) rfl)) (by decide) (by decide)) (g := (mkF m 12 #[.val (.ref x0)] [(.int (1 : Int32)), (.ref x0)])) rfl (by rw [hml]; rfl) (argsL := [(.ref x0), (.int (1 : Int32))]) (rest := []) (lenOf own_pd0 rfl) rfl (by show 2 * 0 + _ ≤ _; exact Nat.le_of_eq rfl) (hb hby d1_12) (fun _ _ => ⟨rfl, eq1, (by decide : 0 + 0 ≤ _), (by decide : 0 + 0 ≤ _)⟩)
    dsimp only [Pt.U, Pt.locs, Pt.cells, Pt.slots] at X2 l2 y2 z2 st2 hQ2
    subst l2 y2 z2
    obtain ⟨⟨r2, rfl, hr2⟩, Nq2, eq2⟩ := hQ2
    have N2 := Fr.app N1 Nq2
    refine own_st (T' := T2) (F' := (mkF m 15 #[.val (.ref x0)] [(.int r2)])) (fun _ k => st2 _ k) ?_
    refine own_ifc X2 hx (pc' := 20) (pc2 := 18) (hb hby d1_15) (by decide) (by decide) rfl (fun (hc15 : r2 = (0 : Int32)) => ?_) (fun (hc15 : ¬ (r2 = (0 : Int32))) => ?_)
    ·
      refine own_st (T' := T2) (F' := (mkF m 21 #[.val (.ref x0)] [(.ref x0)])) (fun _ k => XS.aloadN X2.here hx rfl (hb hby d1_20) rfl rfl k) ?_
      refine own_st (T' := T2) (F' := (mkF m 22 #[.val (.ref x0)] [(.int (2 : Int32)), (.ref x0)])) (fun _ k => XS.iconst X2.here hx rfl (hb hby d1_21) k) ?_
      obtain ⟨_, _, ⟨T3, L3, k3, n3⟩, -, X3, ⟨Lc3, hQ3, l3, y3, z3⟩, st3⟩ := Jvm.LawKit.callS X2 hx (y := (⟨"com/example/columnist/columnist/CellKeyFindRowLengthPinLaw", "pairAt", "([BI)Z"⟩ : MethodName)) hown (mvT hZ (hw _ (List.mem_of_getElem? (i := 6) rfl))) (mvT hZ (hw _ (List.mem_of_getElem? (i := 7) rfl))) (mvT hZ (hw _ (List.mem_of_getElem? (i := 4) rfl))) (mvT hZ (hw _ (List.mem_of_getElem? (i := 8) rfl))) (by decide) (backOf (W := 0) (rm2 l Z a0 hw [] x0 (2 : Int32) kb n ([(.int b0), (.int b1), (.int b2), (.int b3), (.int b4), (.int b5), (.int b6), (.int b7)]) b2 b3 h0 n0 Z0 V_B (by decide) rfl rfl) hZ (hw _ (List.mem_of_getElem? (i := 8) rfl)) (hw _ (List.mem_of_getElem? (i := 4) rfl)) (by decide) (by decide)) (g := (mkF m 22 #[.val (.ref x0)] [(.int (2 : Int32)), (.ref x0)])) rfl (by rw [hml]; rfl) (argsL := [(.ref x0), (.int (2 : Int32))]) (rest := []) (lenOf own_pd0 rfl) rfl (by show 2 * 0 + _ ≤ _; exact Nat.le_of_eq rfl) (hb hby d1_22) (fun _ _ => ⟨rfl, eq2, (by decide : 0 + 0 ≤ _), (by decide : 0 + 0 ≤ _)⟩)
      dsimp only [Pt.U, Pt.locs, Pt.cells, Pt.slots] at X3 l3 y3 z3 st3 hQ3
      subst l3 y3 z3
      obtain ⟨⟨r3, rfl, hr3⟩, Nq3, eq3⟩ := hQ3
      have N3 := Fr.app N2 Nq3
      refine own_st (T' := T3) (F' := (mkF m 25 #[.val (.ref x0)] [(.int r3)])) (fun _ k => st3 _ k) ?_
      refine own_ifc X3 hx (pc' := 30) (pc2 := 28) (hb hby d1_25) (by decide) (by decide) rfl (fun (hc25 : r3 = (0 : Int32)) => ?_) (fun (hc25 : ¬ (r3 = (0 : Int32))) => ?_)
      ·
        refine own_st (T' := T3) (F' := (mkF m 31 #[.val (.ref x0)] [(.ref x0)])) (fun _ k => XS.aloadN X3.here hx rfl (hb hby d1_30) rfl rfl k) ?_
        refine own_st (T' := T3) (F' := (mkF m 32 #[.val (.ref x0)] [(.int (3 : Int32)), (.ref x0)])) (fun _ k => XS.iconst X3.here hx rfl (hb hby d1_31) k) ?_
        obtain ⟨_, _, ⟨T4, L4, k4, n4⟩, -, X4, ⟨Lc4, hQ4, l4, y4, z4⟩, st4⟩ := Jvm.LawKit.callS X3 hx (y := (⟨"com/example/columnist/columnist/CellKeyFindRowLengthPinLaw", "pairAt", "([BI)Z"⟩ : MethodName)) hown (mvT hZ (hw _ (List.mem_of_getElem? (i := 6) rfl))) (mvT hZ (hw _ (List.mem_of_getElem? (i := 7) rfl))) (mvT hZ (hw _ (List.mem_of_getElem? (i := 4) rfl))) (mvT hZ (hw _ (List.mem_of_getElem? (i := 8) rfl))) (by decide) (backOf (W := 0) (rm2 l Z a0 hw [] x0 (3 : Int32) kb n ([(.int b0), (.int b1), (.int b2), (.int b3), (.int b4), (.int b5), (.int b6), (.int b7)]) b3 b4 h0 n0 Z0 V_B (by decide) rfl rfl) hZ (hw _ (List.mem_of_getElem? (i := 8) rfl)) (hw _ (List.mem_of_getElem? (i := 4) rfl)) (by decide) (by decide)) (g := (mkF m 32 #[.val (.ref x0)] [(.int (3 : Int32)), (.ref x0)])) rfl (by rw [hml]; rfl) (argsL := [(.ref x0), (.int (3 : Int32))]) (rest := []) (lenOf own_pd0 rfl) rfl (by show 2 * 0 + _ ≤ _; exact Nat.le_of_eq rfl) (hb hby d1_32) (fun _ _ => ⟨rfl, eq3, (by decide : 0 + 0 ≤ _), (by decide : 0 + 0 ≤ _)⟩)
        dsimp only [Pt.U, Pt.locs, Pt.cells, Pt.slots] at X4 l4 y4 z4 st4 hQ4
        subst l4 y4 z4
        obtain ⟨⟨r4, rfl, hr4⟩, Nq4, eq4⟩ := hQ4
        have N4 := Fr.app N3 Nq4
        refine own_st (T' := T4) (F' := (mkF m 35 #[.val (.ref x0)] [(.int r4)])) (fun _ k => st4 _ k) ?_
        refine own_ifc X4 hx (pc' := 40) (pc2 := 38) (hb hby d1_35) (by decide) (by decide) rfl (fun (hc35 : r4 = (0 : Int32)) => ?_) (fun (hc35 : ¬ (r4 = (0 : Int32))) => ?_)
        ·
          refine own_st (T' := T4) (F' := (mkF m 41 #[.val (.ref x0)] [(.ref x0)])) (fun _ k => XS.aloadN X4.here hx rfl (hb hby d1_40) rfl rfl k) ?_
          refine own_st (T' := T4) (F' := (mkF m 42 #[.val (.ref x0)] [(.int (4 : Int32)), (.ref x0)])) (fun _ k => XS.iconst X4.here hx rfl (hb hby d1_41) k) ?_
          obtain ⟨_, _, ⟨T5, L5, k5, n5⟩, -, X5, ⟨Lc5, hQ5, l5, y5, z5⟩, st5⟩ := Jvm.LawKit.callS X4 hx (y := (⟨"com/example/columnist/columnist/CellKeyFindRowLengthPinLaw", "pairAt", "([BI)Z"⟩ : MethodName)) hown (mvT hZ (hw _ (List.mem_of_getElem? (i := 6) rfl))) (mvT hZ (hw _ (List.mem_of_getElem? (i := 7) rfl))) (mvT hZ (hw _ (List.mem_of_getElem? (i := 4) rfl))) (mvT hZ (hw _ (List.mem_of_getElem? (i := 8) rfl))) (by decide) (backOf (W := 0) (rm2 l Z a0 hw [] x0 (4 : Int32) kb n ([(.int b0), (.int b1), (.int b2), (.int b3), (.int b4), (.int b5), (.int b6), (.int b7)]) b4 b5 h0 n0 Z0 V_B (by decide) rfl rfl) hZ (hw _ (List.mem_of_getElem? (i := 8) rfl)) (hw _ (List.mem_of_getElem? (i := 4) rfl)) (by decide) (by decide)) (g := (mkF m 42 #[.val (.ref x0)] [(.int (4 : Int32)), (.ref x0)])) rfl (by rw [hml]; rfl) (argsL := [(.ref x0), (.int (4 : Int32))]) (rest := []) (lenOf own_pd0 rfl) rfl (by show 2 * 0 + _ ≤ _; exact Nat.le_of_eq rfl) (hb hby d1_42) (fun _ _ => ⟨rfl, eq4, (by decide : 0 + 0 ≤ _), (by decide : 0 + 0 ≤ _)⟩)
          dsimp only [Pt.U, Pt.locs, Pt.cells, Pt.slots] at X5 l5 y5 z5 st5 hQ5
          subst l5 y5 z5
          obtain ⟨⟨r5, rfl, hr5⟩, Nq5, eq5⟩ := hQ5
          have N5 := Fr.app N4 Nq5
          refine own_st (T' := T5) (F' := (mkF m 45 #[.val (.ref x0)] [(.int r5)])) (fun _ k => st5 _ k) ?_
          refine own_ifc X5 hx (pc' := 51) (pc2 := 48) (hb hby d1_45) (by decide) (by decide) rfl (fun (hc45 : r5 = (0 : Int32)) => ?_) (fun (hc45 : ¬ (r5 = (0 : Int32))) => ?_)
          ·
            refine own_st (T' := T5) (F' := (mkF m 52 #[.val (.ref x0)] [(.ref x0)])) (fun _ k => XS.aloadN X5.here hx rfl (hb hby d1_51) rfl rfl k) ?_
            refine own_st (T' := T5) (F' := (mkF m 53 #[.val (.ref x0)] [(.int (5 : Int32)), (.ref x0)])) (fun _ k => XS.iconst X5.here hx rfl (hb hby d1_52) k) ?_
            obtain ⟨_, _, ⟨T6, L6, k6, n6⟩, -, X6, ⟨Lc6, hQ6, l6, y6, z6⟩, st6⟩ := Jvm.LawKit.callS X5 hx (y := (⟨"com/example/columnist/columnist/CellKeyFindRowLengthPinLaw", "pairAt", "([BI)Z"⟩ : MethodName)) hown (mvT hZ (hw _ (List.mem_of_getElem? (i := 6) rfl))) (mvT hZ (hw _ (List.mem_of_getElem? (i := 7) rfl))) (mvT hZ (hw _ (List.mem_of_getElem? (i := 4) rfl))) (mvT hZ (hw _ (List.mem_of_getElem? (i := 8) rfl))) (by decide) (backOf (W := 0) (rm2 l Z a0 hw [] x0 (5 : Int32) kb n ([(.int b0), (.int b1), (.int b2), (.int b3), (.int b4), (.int b5), (.int b6), (.int b7)]) b5 b6 h0 n0 Z0 V_B (by decide) rfl rfl) hZ (hw _ (List.mem_of_getElem? (i := 8) rfl)) (hw _ (List.mem_of_getElem? (i := 4) rfl)) (by decide) (by decide)) (g := (mkF m 53 #[.val (.ref x0)] [(.int (5 : Int32)), (.ref x0)])) rfl (by rw [hml]; rfl) (argsL := [(.ref x0), (.int (5 : Int32))]) (rest := []) (lenOf own_pd0 rfl) rfl (by show 2 * 0 + _ ≤ _; exact Nat.le_of_eq rfl) (hb hby d1_53) (fun _ _ => ⟨rfl, eq5, (by decide : 0 + 0 ≤ _), (by decide : 0 + 0 ≤ _)⟩)
            dsimp only [Pt.U, Pt.locs, Pt.cells, Pt.slots] at X6 l6 y6 z6 st6 hQ6
            subst l6 y6 z6
            obtain ⟨⟨r6, rfl, hr6⟩, Nq6, eq6⟩ := hQ6
            have N6 := Fr.app N5 Nq6
            refine own_st (T' := T6) (F' := (mkF m 56 #[.val (.ref x0)] [(.int r6)])) (fun _ k => st6 _ k) ?_
            refine own_ifc X6 hx (pc' := 62) (pc2 := 59) (hb hby d1_56) (by decide) (by decide) rfl (fun (hc56 : r6 = (0 : Int32)) => ?_) (fun (hc56 : ¬ (r6 = (0 : Int32))) => ?_)
            ·
              refine own_st (T' := T6) (F' := (mkF m 63 #[.val (.ref x0)] [(.ref x0)])) (fun _ k => XS.aloadN X6.here hx rfl (hb hby d1_62) rfl rfl k) ?_
              refine own_st (T' := T6) (F' := (mkF m 65 #[.val (.ref x0)] [(.int (6 : Int32)), (.ref x0)])) (fun _ k => XS.bipush X6.here hx rfl (hb hby d1_63) k) ?_
              obtain ⟨_, _, ⟨T7, L7, k7, n7⟩, -, X7, ⟨Lc7, hQ7, l7, y7, z7⟩, st7⟩ := Jvm.LawKit.callS X6 hx (y := (⟨"com/example/columnist/columnist/CellKeyFindRowLengthPinLaw", "pairAt", "([BI)Z"⟩ : MethodName)) hown (mvT hZ (hw _ (List.mem_of_getElem? (i := 6) rfl))) (mvT hZ (hw _ (List.mem_of_getElem? (i := 7) rfl))) (mvT hZ (hw _ (List.mem_of_getElem? (i := 4) rfl))) (mvT hZ (hw _ (List.mem_of_getElem? (i := 8) rfl))) (by decide) (backOf (W := 0) (rm2 l Z a0 hw [] x0 (6 : Int32) kb n ([(.int b0), (.int b1), (.int b2), (.int b3), (.int b4), (.int b5), (.int b6), (.int b7)]) b6 b7 h0 n0 Z0 V_B (by decide) rfl rfl) hZ (hw _ (List.mem_of_getElem? (i := 8) rfl)) (hw _ (List.mem_of_getElem? (i := 4) rfl)) (by decide) (by decide)) (g := (mkF m 65 #[.val (.ref x0)] [(.int (6 : Int32)), (.ref x0)])) rfl (by rw [hml]; rfl) (argsL := [(.ref x0), (.int (6 : Int32))]) (rest := []) (lenOf own_pd0 rfl) rfl (by show 2 * 0 + _ ≤ _; exact Nat.le_of_eq rfl) (hb hby d1_65) (fun _ _ => ⟨rfl, eq6, (by decide : 0 + 0 ≤ _), (by decide : 0 + 0 ≤ _)⟩)
              dsimp only [Pt.U, Pt.locs, Pt.cells, Pt.slots] at X7 l7 y7 z7 st7 hQ7
              subst l7 y7 z7
              obtain ⟨⟨r7, rfl, hr7⟩, Nq7, eq7⟩ := hQ7
              have N7 := Fr.app N6 Nq7
              refine own_st (T' := T7) (F' := (mkF m 68 #[.val (.ref x0)] [(.int r7)])) (fun _ k => st7 _ k) ?_
              refine own_ifc X7 hx (pc' := 74) (pc2 := 71) (hb hby d1_68) (by decide) (by decide) rfl (fun (hc68 : r7 = (0 : Int32)) => ?_) (fun (hc68 : ¬ (r7 = (0 : Int32))) => ?_)
              ·
                refine own_st (T' := T7) (F' := (mkF m 75 #[.val (.ref x0)] [(.int (-1 : Int32))])) (fun _ k => XS.iconst X7.here hx rfl (hb hby d1_74) k) ?_
                refine own_retI X7 hx hlk Bd.returns (hb hby d1_75) ?_ (by decide) (by decide)
                rw [eq7]
                refine ⟨⟨_, rfl, ?_⟩, N7, rfl⟩
                have np0 : ¬ own_pair n b0 b1 (1 : Int32) := by rcases hr1 with ⟨q, _⟩ | ⟨_, q⟩; exact absurd (q.symm.trans hc5) (by decide); exact q
                have np1 : ¬ own_pair n b1 b2 (2 : Int32) := by rcases hr2 with ⟨q, _⟩ | ⟨_, q⟩; exact absurd (q.symm.trans hc15) (by decide); exact q
                have np2 : ¬ own_pair n b2 b3 (3 : Int32) := by rcases hr3 with ⟨q, _⟩ | ⟨_, q⟩; exact absurd (q.symm.trans hc25) (by decide); exact q
                have np3 : ¬ own_pair n b3 b4 (4 : Int32) := by rcases hr4 with ⟨q, _⟩ | ⟨_, q⟩; exact absurd (q.symm.trans hc35) (by decide); exact q
                have np4 : ¬ own_pair n b4 b5 (5 : Int32) := by rcases hr5 with ⟨q, _⟩ | ⟨_, q⟩; exact absurd (q.symm.trans hc45) (by decide); exact q
                have np5 : ¬ own_pair n b5 b6 (6 : Int32) := by rcases hr6 with ⟨q, _⟩ | ⟨_, q⟩; exact absurd (q.symm.trans hc56) (by decide); exact q
                have np6 : ¬ own_pair n b6 b7 (7 : Int32) := by rcases hr7 with ⟨q, _⟩ | ⟨_, q⟩; exact absurd (q.symm.trans hc68) (by decide); exact q
                exact Or.inr (Or.inr (Or.inr (Or.inr (Or.inr (Or.inr (Or.inr (⟨np0, np1, np2, np3, np4, np5, np6, rfl⟩)))))))
              ·
                refine own_st (T' := T7) (F' := (mkF m 73 #[.val (.ref x0)] [(.int (8 : Int32))])) (fun _ k => XS.bipush X7.here hx rfl (hb hby d1_71) k) ?_
                refine own_retI X7 hx hlk Bd.returns (hb hby d1_73) ?_ (by decide) (by decide)
                rw [eq7]
                refine ⟨⟨_, rfl, ?_⟩, N7, rfl⟩
                have np0 : ¬ own_pair n b0 b1 (1 : Int32) := by rcases hr1 with ⟨q, _⟩ | ⟨_, q⟩; exact absurd (q.symm.trans hc5) (by decide); exact q
                have np1 : ¬ own_pair n b1 b2 (2 : Int32) := by rcases hr2 with ⟨q, _⟩ | ⟨_, q⟩; exact absurd (q.symm.trans hc15) (by decide); exact q
                have np2 : ¬ own_pair n b2 b3 (3 : Int32) := by rcases hr3 with ⟨q, _⟩ | ⟨_, q⟩; exact absurd (q.symm.trans hc25) (by decide); exact q
                have np3 : ¬ own_pair n b3 b4 (4 : Int32) := by rcases hr4 with ⟨q, _⟩ | ⟨_, q⟩; exact absurd (q.symm.trans hc35) (by decide); exact q
                have np4 : ¬ own_pair n b4 b5 (5 : Int32) := by rcases hr5 with ⟨q, _⟩ | ⟨_, q⟩; exact absurd (q.symm.trans hc45) (by decide); exact q
                have np5 : ¬ own_pair n b5 b6 (6 : Int32) := by rcases hr6 with ⟨q, _⟩ | ⟨_, q⟩; exact absurd (q.symm.trans hc56) (by decide); exact q
                have pp6 : own_pair n b6 b7 (7 : Int32) := by rcases hr7 with ⟨_, q⟩ | ⟨q, _⟩; exact q; exact absurd q hc68
                exact Or.inr (Or.inr (Or.inr (Or.inr (Or.inr (Or.inr (Or.inl ⟨np0, np1, np2, np3, np4, np5, pp6, rfl⟩))))))
            ·
              refine own_st (T' := T6) (F' := (mkF m 61 #[.val (.ref x0)] [(.int (7 : Int32))])) (fun _ k => XS.bipush X6.here hx rfl (hb hby d1_59) k) ?_
              refine own_retI X6 hx hlk Bd.returns (hb hby d1_61) ?_ (by decide) (by decide)
              rw [eq6]
              refine ⟨⟨_, rfl, ?_⟩, N6, rfl⟩
              have np0 : ¬ own_pair n b0 b1 (1 : Int32) := by rcases hr1 with ⟨q, _⟩ | ⟨_, q⟩; exact absurd (q.symm.trans hc5) (by decide); exact q
              have np1 : ¬ own_pair n b1 b2 (2 : Int32) := by rcases hr2 with ⟨q, _⟩ | ⟨_, q⟩; exact absurd (q.symm.trans hc15) (by decide); exact q
              have np2 : ¬ own_pair n b2 b3 (3 : Int32) := by rcases hr3 with ⟨q, _⟩ | ⟨_, q⟩; exact absurd (q.symm.trans hc25) (by decide); exact q
              have np3 : ¬ own_pair n b3 b4 (4 : Int32) := by rcases hr4 with ⟨q, _⟩ | ⟨_, q⟩; exact absurd (q.symm.trans hc35) (by decide); exact q
              have np4 : ¬ own_pair n b4 b5 (5 : Int32) := by rcases hr5 with ⟨q, _⟩ | ⟨_, q⟩; exact absurd (q.symm.trans hc45) (by decide); exact q
              have pp5 : own_pair n b5 b6 (6 : Int32) := by rcases hr6 with ⟨_, q⟩ | ⟨q, _⟩; exact q; exact absurd q hc56
              exact Or.inr (Or.inr (Or.inr (Or.inr (Or.inr (Or.inl ⟨np0, np1, np2, np3, np4, pp5, rfl⟩)))))
          ·
            refine own_st (T' := T5) (F' := (mkF m 50 #[.val (.ref x0)] [(.int (6 : Int32))])) (fun _ k => XS.bipush X5.here hx rfl (hb hby d1_48) k) ?_
            refine own_retI X5 hx hlk Bd.returns (hb hby d1_50) ?_ (by decide) (by decide)
            rw [eq5]
            refine ⟨⟨_, rfl, ?_⟩, N5, rfl⟩
            have np0 : ¬ own_pair n b0 b1 (1 : Int32) := by rcases hr1 with ⟨q, _⟩ | ⟨_, q⟩; exact absurd (q.symm.trans hc5) (by decide); exact q
            have np1 : ¬ own_pair n b1 b2 (2 : Int32) := by rcases hr2 with ⟨q, _⟩ | ⟨_, q⟩; exact absurd (q.symm.trans hc15) (by decide); exact q
            have np2 : ¬ own_pair n b2 b3 (3 : Int32) := by rcases hr3 with ⟨q, _⟩ | ⟨_, q⟩; exact absurd (q.symm.trans hc25) (by decide); exact q
            have np3 : ¬ own_pair n b3 b4 (4 : Int32) := by rcases hr4 with ⟨q, _⟩ | ⟨_, q⟩; exact absurd (q.symm.trans hc35) (by decide); exact q
            have pp4 : own_pair n b4 b5 (5 : Int32) := by rcases hr5 with ⟨_, q⟩ | ⟨q, _⟩; exact q; exact absurd q hc45
            exact Or.inr (Or.inr (Or.inr (Or.inr (Or.inl ⟨np0, np1, np2, np3, pp4, rfl⟩))))
        ·
          refine own_st (T' := T4) (F' := (mkF m 39 #[.val (.ref x0)] [(.int (5 : Int32))])) (fun _ k => XS.iconst X4.here hx rfl (hb hby d1_38) k) ?_
          refine own_retI X4 hx hlk Bd.returns (hb hby d1_39) ?_ (by decide) (by decide)
          rw [eq4]
          refine ⟨⟨_, rfl, ?_⟩, N4, rfl⟩
          have np0 : ¬ own_pair n b0 b1 (1 : Int32) := by rcases hr1 with ⟨q, _⟩ | ⟨_, q⟩; exact absurd (q.symm.trans hc5) (by decide); exact q
          have np1 : ¬ own_pair n b1 b2 (2 : Int32) := by rcases hr2 with ⟨q, _⟩ | ⟨_, q⟩; exact absurd (q.symm.trans hc15) (by decide); exact q
          have np2 : ¬ own_pair n b2 b3 (3 : Int32) := by rcases hr3 with ⟨q, _⟩ | ⟨_, q⟩; exact absurd (q.symm.trans hc25) (by decide); exact q
          have pp3 : own_pair n b3 b4 (4 : Int32) := by rcases hr4 with ⟨_, q⟩ | ⟨q, _⟩; exact q; exact absurd q hc35
          exact Or.inr (Or.inr (Or.inr (Or.inl ⟨np0, np1, np2, pp3, rfl⟩)))
      ·
        refine own_st (T' := T3) (F' := (mkF m 29 #[.val (.ref x0)] [(.int (4 : Int32))])) (fun _ k => XS.iconst X3.here hx rfl (hb hby d1_28) k) ?_
        refine own_retI X3 hx hlk Bd.returns (hb hby d1_29) ?_ (by decide) (by decide)
        rw [eq3]
        refine ⟨⟨_, rfl, ?_⟩, N3, rfl⟩
        have np0 : ¬ own_pair n b0 b1 (1 : Int32) := by rcases hr1 with ⟨q, _⟩ | ⟨_, q⟩; exact absurd (q.symm.trans hc5) (by decide); exact q
        have np1 : ¬ own_pair n b1 b2 (2 : Int32) := by rcases hr2 with ⟨q, _⟩ | ⟨_, q⟩; exact absurd (q.symm.trans hc15) (by decide); exact q
        have pp2 : own_pair n b2 b3 (3 : Int32) := by rcases hr3 with ⟨_, q⟩ | ⟨q, _⟩; exact q; exact absurd q hc25
        exact Or.inr (Or.inr (Or.inl ⟨np0, np1, pp2, rfl⟩))
    ·
      refine own_st (T' := T2) (F' := (mkF m 19 #[.val (.ref x0)] [(.int (3 : Int32))])) (fun _ k => XS.iconst X2.here hx rfl (hb hby d1_18) k) ?_
      refine own_retI X2 hx hlk Bd.returns (hb hby d1_19) ?_ (by decide) (by decide)
      rw [eq2]
      refine ⟨⟨_, rfl, ?_⟩, N2, rfl⟩
      have np0 : ¬ own_pair n b0 b1 (1 : Int32) := by rcases hr1 with ⟨q, _⟩ | ⟨_, q⟩; exact absurd (q.symm.trans hc5) (by decide); exact q
      have pp1 : own_pair n b1 b2 (2 : Int32) := by rcases hr2 with ⟨_, q⟩ | ⟨q, _⟩; exact q; exact absurd q hc15
      exact Or.inr (Or.inl ⟨np0, pp1, rfl⟩)
  ·
    refine own_st (T' := T1) (F' := (mkF m 9 #[.val (.ref x0)] [(.int (2 : Int32))])) (fun _ k => XS.iconst X1.here hx rfl (hb hby d1_8) k) ?_
    refine own_retI X1 hx hlk Bd.returns (hb hby d1_9) ?_ (by decide) (by decide)
    rw [eq1]
    refine ⟨⟨_, rfl, ?_⟩, N1, rfl⟩
    have pp0 : own_pair n b0 b1 (1 : Int32) := by rcases hr1 with ⟨_, q⟩ | ⟨q, _⟩; exact q; exact absurd q hc5
    exact Or.inl ⟨pp0, rfl⟩
theorem d3_0 : decode prog_4_method_4_code 0 = .ok (.iconst 0, 1) := by decide +kernel
theorem d3_1 : decode prog_4_method_4_code 1 = .ok (.istore_n 1, 1) := by decide +kernel
theorem d3_2 : decode prog_4_method_4_code 2 = .ok (.iload_n 1, 1) := by decide +kernel
theorem d3_3 : decode prog_4_method_4_code 3 = .ok (.iconst 1, 1) := by decide +kernel
theorem d3_4 : decode prog_4_method_4_code 4 = .ok (.iadd, 1) := by decide +kernel
theorem d3_5 : decode prog_4_method_4_code 5 = .ok (.aload_n 0, 1) := by decide +kernel
theorem d3_6 : decode prog_4_method_4_code 6 = .ok (.arraylength, 1) := by decide +kernel
theorem d3_7 : decode prog_4_method_4_code 7 = .ok (.if_icmp .ge 24, 3) := by decide +kernel
theorem d3_10 : decode prog_4_method_4_code 10 = .ok (.aload_n 0, 1) := by decide +kernel
theorem d3_11 : decode prog_4_method_4_code 11 = .ok (.iload_n 1, 1) := by decide +kernel
theorem d3_12 : decode prog_4_method_4_code 12 = .ok (.baload, 1) := by decide +kernel
theorem d3_13 : decode prog_4_method_4_code 13 = .ok (.ifCond .ne 12, 3) := by decide +kernel
theorem d3_16 : decode prog_4_method_4_code 16 = .ok (.aload_n 0, 1) := by decide +kernel
theorem d3_17 : decode prog_4_method_4_code 17 = .ok (.iload_n 1, 1) := by decide +kernel
theorem d3_18 : decode prog_4_method_4_code 18 = .ok (.iconst 1, 1) := by decide +kernel
theorem d3_19 : decode prog_4_method_4_code 19 = .ok (.iadd, 1) := by decide +kernel
theorem d3_20 : decode prog_4_method_4_code 20 = .ok (.baload, 1) := by decide +kernel
theorem d3_21 : decode prog_4_method_4_code 21 = .ok (.iconst 1, 1) := by decide +kernel
theorem d3_22 : decode prog_4_method_4_code 22 = .ok (.if_icmp .eq 9, 3) := by decide +kernel
theorem d3_25 : decode prog_4_method_4_code 25 = .ok (.iinc 1 1, 3) := by decide +kernel
theorem d3_28 : decode prog_4_method_4_code 28 = .ok (.goto (-26), 3) := by decide +kernel
theorem d3_31 : decode prog_4_method_4_code 31 = .ok (.iload_n 1, 1) := by decide +kernel
theorem d3_32 : decode prog_4_method_4_code 32 = .ok (.iconst 1, 1) := by decide +kernel
theorem d3_33 : decode prog_4_method_4_code 33 = .ok (.iadd, 1) := by decide +kernel
theorem d3_34 : decode prog_4_method_4_code 34 = .ok (.aload_n 0, 1) := by decide +kernel
theorem d3_35 : decode prog_4_method_4_code 35 = .ok (.arraylength, 1) := by decide +kernel
theorem d3_36 : decode prog_4_method_4_code 36 = .ok (.if_icmp .ge 12, 3) := by decide +kernel
theorem d3_39 : decode prog_4_method_4_code 39 = .ok (.iload_n 1, 1) := by decide +kernel
theorem d3_40 : decode prog_4_method_4_code 40 = .ok (.getstatic 33, 3) := by decide +kernel
theorem d3_43 : decode prog_4_method_4_code 43 = .ok (.arraylength, 1) := by decide +kernel
theorem d3_44 : decode prog_4_method_4_code 44 = .ok (.iadd, 1) := by decide +kernel
theorem d3_45 : decode prog_4_method_4_code 45 = .ok (.goto 4, 3) := by decide +kernel
theorem d3_48 : decode prog_4_method_4_code 48 = .ok (.iconst (-1), 1) := by decide +kernel
theorem d3_49 : decode prog_4_method_4_code 49 = .ok (.ireturn, 1) := by decide +kernel
theorem own_pn3 : plainName "com/example/columnist/columnist/CellKey" = true := by first | (simp [plainName, overriddenIn]; done) | decide +kernel
theorem own_ef3 (m : MethodId) (x0 : Addr) : entryFrame m #[(.ref x0)] 2 = (mkF m 0 #[.val (.ref x0), .unset] []) := by first | (simp [entryFrame, mkF, argsToLocals, Value.category]; done) | rfl
def Q3 (Z : State) (x0 : Addr) (aE : Addr) (ke : ClassId) (ve : List Value) (kb : ClassId) (n : Int32) (b0 : Int32) (b1 : Int32) (b2 : Int32) (b3 : Int32) (b4 : Int32) (b5 : Int32) (b6 : Int32) (b7 : Int32) (h0 : Heap) (n0 : Nat) (v : Option Value) (h : Heap) (L : List Loc) : Prop := (∃ z : Int32, v = some (.int z) ∧ (own_R n b0 b1 b2 b3 b4 b5 b6 b7 z)) ∧ Fr n0 L ∧ h = h0
set_option maxRecDepth 65536 in
set_option maxHeartbeats 40000000 in
theorem rm3 (l : Launch) (Z : State) (a0 : Array Value) (hw : ∀ d ∈ tables_1, d.before a0 Z = true) (ws : List Jvm.Cond) (x0 : Addr) (aE : Addr) (ke : ClassId) (ve : List Value) (kb : ClassId) (n : Int32) (b0 : Int32) (b1 : Int32) (b2 : Int32) (b3 : Int32) (b4 : Int32) (b5 : Int32) (b6 : Int32) (b7 : Int32) (h0 : Heap) (n0 : Nat) (Z0 : n0 ≤ h0.size) (S_E : Sta Z h0 "com/example/columnist/columnist/CellKey" "END_MARK" "[B" (.ref aE)) (V_E : Arv Z h0 aE ke .byte (2 : Int32) ve (.int (0 : Int32))) (V_B : Arv Z h0 x0 kb .byte n [(.int b0), (.int b1), (.int b2), (.int b3), (.int b4), (.int b5), (.int b6), (.int b7)] (.int (0 : Int32))) (hn8 : ¬ (8 : Int32) < n) :
    MetFree l (⟨"com/example/columnist/columnist/CellKey", "findRowLength", "([B)I"⟩ : MethodName) (head1 (Jvm.Cond.code (⟨"com/example/columnist/columnist/CellKey", "findRowLength", "([B)I"⟩ : MethodName) prog_4_method_4_code 2 (some .int) :: ws) ({ frames := 0, cells := 0, slots := 0, locals := 0 } : Room)) (fun a U => a = #[(.ref x0)] ∧ Z.Warmed39 U.vm ∧ U.heap = h0) (fun _ _ _ _ _ => True) (fun _ U oc U' => ∃ v L, oc = .returned v ∧ Q3 Z x0 aE ke ve kb n b0 b1 b2 b3 b4 b5 b6 b7 h0 n0 v U'.heap L ∧ FrameEnd U oc U' L ({ frames := 0, cells := 0, slots := 0, locals := 0 } : Room).cells ({ frames := 0, cells := 0, slots := 0, locals := 0 } : Room).slots) := by
  refine MetFree.of_bodySF (plainFor_of_name own_pn3) hisR ?_
  intro p e s m args below meth c s₁ Bd hml0 hP hK
  obtain ⟨rfl, hZ, hh⟩ := hP
  have hx := Bd.exec
  have hby := Bd.bytes
  have hlk : meth.locks = false := BodyLoose.notSynchronized Bd
  have hml : c.maxLocals = 2 := hml0
  have hown : s.vm.findClass "com/example/columnist/columnist/CellKey" = some m.cls := findClass_of_methodNamed Bd.named
  have hnm := (name_of_methodNamed Bd.named Bd.method).1
  have X0 : Stand p l e ({ frames := 0, cells := 0, slots := 0, locals := 0 } : Room) s m #[(.ref x0)] below meth c s₁ [] 0 0 := Stand.of_body Bd
  have e0 : s₁.heap = h0 := by rw [← hh, Bd.state]; rfl
  have N0 := Fr.nil n0
  refine own_enter (own_ef3 m x0) ?_
  show own_Go p e below s (Q3 Z x0 aE ke ve kb n b0 b1 b2 b3 b4 b5 b6 b7 h0 n0) ({ frames := 0, cells := 0, slots := 0, locals := 0 } : Room).cells ({ frames := 0, cells := 0, slots := 0, locals := 0 } : Room).slots s₁ (mkF m 0 #[.val (.ref x0), .unset] [])
  refine own_st (T' := s₁) (F' := (mkF m 1 #[.val (.ref x0), .unset] [(.int (0 : Int32))])) (fun _ k => XS.iconst X0.here hx rfl (hb hby d3_0) k) ?_
  refine own_st (T' := s₁) (F' := (mkF m 2 #[.val (.ref x0), .val (.int (0 : Int32))] [])) (fun _ k => XS.istoreN X0.here hx rfl (hb hby d3_1) rfl (l' := #[.val (.ref x0), .val (.int (0 : Int32))]) rfl k) ?_
  refine own_st (T' := s₁) (F' := (mkF m 3 #[.val (.ref x0), .val (.int (0 : Int32))] [(.int (0 : Int32))])) (fun _ k => XS.iloadN X0.here hx rfl (hb hby d3_2) rfl  k) ?_
  refine own_st (T' := s₁) (F' := (mkF m 4 #[.val (.ref x0), .val (.int (0 : Int32))] [(.int (1 : Int32)), (.int (0 : Int32))])) (fun _ k => XS.iconst X0.here hx rfl (hb hby d3_3) k) ?_
  refine own_st (T' := s₁) (F' := (mkF m 5 #[.val (.ref x0), .val (.int (0 : Int32))] [(.int (1 : Int32))])) (fun _ k => XS.iadd X0.here hx rfl (hb hby d3_4) rfl k) ?_
  refine own_st (T' := s₁) (F' := (mkF m 6 #[.val (.ref x0), .val (.int (0 : Int32))] [(.ref x0), (.int (1 : Int32))])) (fun _ k => XS.aloadN X0.here hx rfl (hb hby d3_5) rfl rfl k) ?_
  obtain ⟨cl1, Ar1, Aq1, As1, Am1, Ah1, Au1⟩ := id V_B
  refine own_st (T' := s₁) (F' := (mkF m 7 #[.val (.ref x0), .val (.int (0 : Int32))] [(.int n), (.int (1 : Int32))])) (fun _ k => X0.arraylength hx (cell := cl1) (by rw [e0]; exact Ar1.1) (State.isArrayOf_alike hZ.alike Ar1.2.1) (g := (mkF m 6 #[.val (.ref x0), .val (.int (0 : Int32))] [(.ref x0), (.int (1 : Int32))])) rfl (rest := [(.int (1 : Int32))]) rfl (hb hby d3_6) _ (by rw [len_of As1 Am1]; exact k)) ?_
  refine own_icmp X0 hx (pc' := 31) (pc2 := 10) (hb hby d3_7) (by decide) (by decide) rfl (fun (hc7_2 : ¬ ((1 : Int32) < n)) => ?_) (fun (hc7_2 : (1 : Int32) < n) => ?_)
  ·
    refine own_st (T' := s₁) (F' := (mkF m 32 #[.val (.ref x0), .val (.int (0 : Int32))] [(.int (0 : Int32))])) (fun _ k => XS.iloadN X0.here hx rfl (hb hby d3_31) rfl  k) ?_
    refine own_st (T' := s₁) (F' := (mkF m 33 #[.val (.ref x0), .val (.int (0 : Int32))] [(.int (1 : Int32)), (.int (0 : Int32))])) (fun _ k => XS.iconst X0.here hx rfl (hb hby d3_32) k) ?_
    refine own_st (T' := s₁) (F' := (mkF m 34 #[.val (.ref x0), .val (.int (0 : Int32))] [(.int (1 : Int32))])) (fun _ k => XS.iadd X0.here hx rfl (hb hby d3_33) rfl k) ?_
    refine own_st (T' := s₁) (F' := (mkF m 35 #[.val (.ref x0), .val (.int (0 : Int32))] [(.ref x0), (.int (1 : Int32))])) (fun _ k => XS.aloadN X0.here hx rfl (hb hby d3_34) rfl rfl k) ?_
    obtain ⟨cl3, Ar3, Aq3, As3, Am3, Ah3, Au3⟩ := id V_B
    refine own_st (T' := s₁) (F' := (mkF m 36 #[.val (.ref x0), .val (.int (0 : Int32))] [(.int n), (.int (1 : Int32))])) (fun _ k => X0.arraylength hx (cell := cl3) (by rw [e0]; exact Ar3.1) (State.isArrayOf_alike hZ.alike Ar3.2.1) (g := (mkF m 35 #[.val (.ref x0), .val (.int (0 : Int32))] [(.ref x0), (.int (1 : Int32))])) rfl (rest := [(.int (1 : Int32))]) rfl (hb hby d3_35) _ (by rw [len_of As3 Am3]; exact k)) ?_
    refine own_icmp X0 hx (pc' := 48) (pc2 := 39) (hb hby d3_36) (by decide) (by decide) rfl (fun (hc36_4 : ¬ ((1 : Int32) < n)) => ?_) (fun (hc36_4 : (1 : Int32) < n) => ?_)
    ·
      refine own_st (T' := s₁) (F' := (mkF m 49 #[.val (.ref x0), .val (.int (0 : Int32))] [(.int (-1 : Int32))])) (fun _ k => XS.iconst X0.here hx rfl (hb hby d3_48) k) ?_
      refine own_retI X0 hx hlk Bd.returns (hb hby d3_49) ?_ (by decide) (by decide)
      rw [e0]
      refine ⟨⟨_, rfl, ?_⟩, N0, rfl⟩
      have np0 : ¬ own_pair n b0 b1 (1 : Int32) := fun q => hc7_2 (own_ltl q.1 (by decide))
      have np1 : ¬ own_pair n b1 b2 (2 : Int32) := fun q => hc7_2 (own_ltl q.1 (by decide))
      have np2 : ¬ own_pair n b2 b3 (3 : Int32) := fun q => hc7_2 (own_ltl q.1 (by decide))
      have np3 : ¬ own_pair n b3 b4 (4 : Int32) := fun q => hc7_2 (own_ltl q.1 (by decide))
      have np4 : ¬ own_pair n b4 b5 (5 : Int32) := fun q => hc7_2 (own_ltl q.1 (by decide))
      have np5 : ¬ own_pair n b5 b6 (6 : Int32) := fun q => hc7_2 (own_ltl q.1 (by decide))
      have np6 : ¬ own_pair n b6 b7 (7 : Int32) := fun q => hc7_2 (own_ltl q.1 (by decide))
      exact Or.inr (Or.inr (Or.inr (Or.inr (Or.inr (Or.inr (Or.inr (⟨np0, np1, np2, np3, np4, np5, np6, rfl⟩)))))))
    ·
      refine own_st (T' := s₁) (F' := (mkF m 40 #[.val (.ref x0), .val (.int (0 : Int32))] [(.int (0 : Int32))])) (fun _ k => XS.iloadN X0.here hx rfl (hb hby d3_39) rfl  k) ?_
      obtain ⟨T5, X5, e5, st5⟩ := getS2 X0 hx hZ hown (host := "") (Or.inl (hw _ (List.mem_of_getElem? (i := 17) rfl))) Via.refl e0 S_E (g := (mkF m 40 #[.val (.ref x0), .val (.int (0 : Int32))] [(.int (0 : Int32))])) rfl (hb hby d3_40)
      refine own_st (T' := T5) (F' := (mkF m 43 #[.val (.ref x0), .val (.int (0 : Int32))] [(.ref aE), (.int (0 : Int32))])) (fun _ k => st5 _ k) ?_
      obtain ⟨cl6, Ar6, Aq6, As6, Am6, Ah6, Au6⟩ := id V_E
      refine own_st (T' := T5) (F' := (mkF m 44 #[.val (.ref x0), .val (.int (0 : Int32))] [(.int (2 : Int32)), (.int (0 : Int32))])) (fun _ k => X5.arraylength hx (cell := cl6) (by rw [e5]; exact Ar6.1) (State.isArrayOf_alike hZ.alike Ar6.2.1) (g := (mkF m 43 #[.val (.ref x0), .val (.int (0 : Int32))] [(.ref aE), (.int (0 : Int32))])) rfl (rest := [(.int (0 : Int32))]) rfl (hb hby d3_43) _ (by rw [len_of As6 Am6]; exact k)) ?_
      refine own_st (T' := T5) (F' := (mkF m 45 #[.val (.ref x0), .val (.int (0 : Int32))] [(.int (2 : Int32))])) (fun _ k => XS.iadd X5.here hx rfl (hb hby d3_44) rfl k) ?_
      refine own_st (T' := T5) (F' := (mkF m 49 #[.val (.ref x0), .val (.int (0 : Int32))] [(.int (2 : Int32))])) (fun _ k => XS.goto X5.here hx rfl (pc0 := 45) (pc' := 49) rfl (hb hby d3_45) (by decide) (by decide) k) ?_
      refine own_retI X5 hx hlk Bd.returns (hb hby d3_49) ?_ (by decide) (by decide)
      rw [e5]
      refine ⟨⟨_, rfl, ?_⟩, N0, rfl⟩
      exact absurd hc36_4 hc7_2
  ·
    refine own_st (T' := s₁) (F' := (mkF m 11 #[.val (.ref x0), .val (.int (0 : Int32))] [(.ref x0)])) (fun _ k => XS.aloadN X0.here hx rfl (hb hby d3_10) rfl rfl k) ?_
    refine own_st (T' := s₁) (F' := (mkF m 12 #[.val (.ref x0), .val (.int (0 : Int32))] [(.int (0 : Int32)), (.ref x0)])) (fun _ k => XS.iloadN X0.here hx rfl (hb hby d3_11) rfl  k) ?_
    obtain ⟨cl7, Ar7, Aq7, As7, Am7, Ah7, Au7⟩ := id V_B
    have hin7 : ¬ ((0 : Int32) < 0 ∨ cl7.slots.size ≤ ((0 : Int32)).toNatClampNeg) := inb_of As7 ⟨by decide, own_ltl hc7_2 (by decide)⟩
    have hat7 : cl7.slots[((0 : Int32)).toNatClampNeg]? = some (.int b0) := Ah7.at hin7 (rfl)
    refine own_st (T' := s₁) (F' := (mkF m 13 #[.val (.ref x0), .val (.int (0 : Int32))] [(.int b0)])) (fun _ k => X0.baloadBytes hx (j := (0 : Int32)) (v := (.int b0)) (by rw [e0]; exact Ar7.1) (State.isArrayOf_alike hZ.alike Ar7.2.1) Ar7.2.2 hin7 hat7 (g := (mkF m 12 #[.val (.ref x0), .val (.int (0 : Int32))] [(.int (0 : Int32)), (.ref x0)])) rfl rfl (hb hby d3_12) _ k) ?_
    have J25_9 : (((¬ (b0 = (0 : Int32)))) ∨ ((b0 = (0 : Int32)) ∧ (¬ (b1 = (1 : Int32))))) → own_Go p e below s (Q3 Z x0 aE ke ve kb n b0 b1 b2 b3 b4 b5 b6 b7 h0 n0) ({ frames := 0, cells := 0, slots := 0, locals := 0 } : Room).cells ({ frames := 0, cells := 0, slots := 0, locals := 0 } : Room).slots s₁ (mkF m 25 #[.val (.ref x0), .val (.int (0 : Int32))] []) := by
      intro hJ25_9
      refine own_st (T' := s₁) (F' := (mkF m 28 #[.val (.ref x0), .val (.int (1 : Int32))] [])) (fun _ k => XS.iinc X0.here hx rfl (hb hby d3_25) rfl (l' := #[.val (.ref x0), .val (.int (1 : Int32))]) rfl k) ?_
      refine own_st (T' := s₁) (F' := (mkF m 2 #[.val (.ref x0), .val (.int (1 : Int32))] [])) (fun _ k => XS.goto X0.here hx rfl (pc0 := 28) (pc' := 2) rfl (hb hby d3_28) (by decide) (by decide) k) ?_
      refine own_st (T' := s₁) (F' := (mkF m 3 #[.val (.ref x0), .val (.int (1 : Int32))] [(.int (1 : Int32))])) (fun _ k => XS.iloadN X0.here hx rfl (hb hby d3_2) rfl  k) ?_
      refine own_st (T' := s₁) (F' := (mkF m 4 #[.val (.ref x0), .val (.int (1 : Int32))] [(.int (1 : Int32)), (.int (1 : Int32))])) (fun _ k => XS.iconst X0.here hx rfl (hb hby d3_3) k) ?_
      refine own_st (T' := s₁) (F' := (mkF m 5 #[.val (.ref x0), .val (.int (1 : Int32))] [(.int (2 : Int32))])) (fun _ k => XS.iadd X0.here hx rfl (hb hby d3_4) rfl k) ?_
      refine own_st (T' := s₁) (F' := (mkF m 6 #[.val (.ref x0), .val (.int (1 : Int32))] [(.ref x0), (.int (2 : Int32))])) (fun _ k => XS.aloadN X0.here hx rfl (hb hby d3_5) rfl rfl k) ?_
      obtain ⟨cl10, Ar10, Aq10, As10, Am10, Ah10, Au10⟩ := id V_B
      refine own_st (T' := s₁) (F' := (mkF m 7 #[.val (.ref x0), .val (.int (1 : Int32))] [(.int n), (.int (2 : Int32))])) (fun _ k => X0.arraylength hx (cell := cl10) (by rw [e0]; exact Ar10.1) (State.isArrayOf_alike hZ.alike Ar10.2.1) (g := (mkF m 6 #[.val (.ref x0), .val (.int (1 : Int32))] [(.ref x0), (.int (2 : Int32))])) rfl (rest := [(.int (2 : Int32))]) rfl (hb hby d3_6) _ (by rw [len_of As10 Am10]; exact k)) ?_
      refine own_icmp X0 hx (pc' := 31) (pc2 := 10) (hb hby d3_7) (by decide) (by decide) rfl (fun (hc7_11 : ¬ ((2 : Int32) < n)) => ?_) (fun (hc7_11 : (2 : Int32) < n) => ?_)
      ·
        refine own_st (T' := s₁) (F' := (mkF m 32 #[.val (.ref x0), .val (.int (1 : Int32))] [(.int (1 : Int32))])) (fun _ k => XS.iloadN X0.here hx rfl (hb hby d3_31) rfl  k) ?_
        refine own_st (T' := s₁) (F' := (mkF m 33 #[.val (.ref x0), .val (.int (1 : Int32))] [(.int (1 : Int32)), (.int (1 : Int32))])) (fun _ k => XS.iconst X0.here hx rfl (hb hby d3_32) k) ?_
        refine own_st (T' := s₁) (F' := (mkF m 34 #[.val (.ref x0), .val (.int (1 : Int32))] [(.int (2 : Int32))])) (fun _ k => XS.iadd X0.here hx rfl (hb hby d3_33) rfl k) ?_
        refine own_st (T' := s₁) (F' := (mkF m 35 #[.val (.ref x0), .val (.int (1 : Int32))] [(.ref x0), (.int (2 : Int32))])) (fun _ k => XS.aloadN X0.here hx rfl (hb hby d3_34) rfl rfl k) ?_
        obtain ⟨cl12, Ar12, Aq12, As12, Am12, Ah12, Au12⟩ := id V_B
        refine own_st (T' := s₁) (F' := (mkF m 36 #[.val (.ref x0), .val (.int (1 : Int32))] [(.int n), (.int (2 : Int32))])) (fun _ k => X0.arraylength hx (cell := cl12) (by rw [e0]; exact Ar12.1) (State.isArrayOf_alike hZ.alike Ar12.2.1) (g := (mkF m 35 #[.val (.ref x0), .val (.int (1 : Int32))] [(.ref x0), (.int (2 : Int32))])) rfl (rest := [(.int (2 : Int32))]) rfl (hb hby d3_35) _ (by rw [len_of As12 Am12]; exact k)) ?_
        refine own_icmp X0 hx (pc' := 48) (pc2 := 39) (hb hby d3_36) (by decide) (by decide) rfl (fun (hc36_13 : ¬ ((2 : Int32) < n)) => ?_) (fun (hc36_13 : (2 : Int32) < n) => ?_)
        ·
          refine own_st (T' := s₁) (F' := (mkF m 49 #[.val (.ref x0), .val (.int (1 : Int32))] [(.int (-1 : Int32))])) (fun _ k => XS.iconst X0.here hx rfl (hb hby d3_48) k) ?_
          refine own_retI X0 hx hlk Bd.returns (hb hby d3_49) ?_ (by decide) (by decide)
          rw [e0]
          refine ⟨⟨_, rfl, ?_⟩, N0, rfl⟩
          have np0 : ¬ own_pair n b0 b1 (1 : Int32) := fun q => by rcases hJ25_9 with a | ⟨_, a⟩; exact a q.2.1; exact a q.2.2
          have np1 : ¬ own_pair n b1 b2 (2 : Int32) := fun q => hc7_11 (own_ltl q.1 (by decide))
          have np2 : ¬ own_pair n b2 b3 (3 : Int32) := fun q => hc7_11 (own_ltl q.1 (by decide))
          have np3 : ¬ own_pair n b3 b4 (4 : Int32) := fun q => hc7_11 (own_ltl q.1 (by decide))
          have np4 : ¬ own_pair n b4 b5 (5 : Int32) := fun q => hc7_11 (own_ltl q.1 (by decide))
          have np5 : ¬ own_pair n b5 b6 (6 : Int32) := fun q => hc7_11 (own_ltl q.1 (by decide))
          have np6 : ¬ own_pair n b6 b7 (7 : Int32) := fun q => hc7_11 (own_ltl q.1 (by decide))
          exact Or.inr (Or.inr (Or.inr (Or.inr (Or.inr (Or.inr (Or.inr (⟨np0, np1, np2, np3, np4, np5, np6, rfl⟩)))))))
        ·
          refine own_st (T' := s₁) (F' := (mkF m 40 #[.val (.ref x0), .val (.int (1 : Int32))] [(.int (1 : Int32))])) (fun _ k => XS.iloadN X0.here hx rfl (hb hby d3_39) rfl  k) ?_
          obtain ⟨T14, X14, e14, st14⟩ := getS2 X0 hx hZ hown (host := "") (Or.inl (hw _ (List.mem_of_getElem? (i := 17) rfl))) Via.refl e0 S_E (g := (mkF m 40 #[.val (.ref x0), .val (.int (1 : Int32))] [(.int (1 : Int32))])) rfl (hb hby d3_40)
          refine own_st (T' := T14) (F' := (mkF m 43 #[.val (.ref x0), .val (.int (1 : Int32))] [(.ref aE), (.int (1 : Int32))])) (fun _ k => st14 _ k) ?_
          obtain ⟨cl15, Ar15, Aq15, As15, Am15, Ah15, Au15⟩ := id V_E
          refine own_st (T' := T14) (F' := (mkF m 44 #[.val (.ref x0), .val (.int (1 : Int32))] [(.int (2 : Int32)), (.int (1 : Int32))])) (fun _ k => X14.arraylength hx (cell := cl15) (by rw [e14]; exact Ar15.1) (State.isArrayOf_alike hZ.alike Ar15.2.1) (g := (mkF m 43 #[.val (.ref x0), .val (.int (1 : Int32))] [(.ref aE), (.int (1 : Int32))])) rfl (rest := [(.int (1 : Int32))]) rfl (hb hby d3_43) _ (by rw [len_of As15 Am15]; exact k)) ?_
          refine own_st (T' := T14) (F' := (mkF m 45 #[.val (.ref x0), .val (.int (1 : Int32))] [(.int (3 : Int32))])) (fun _ k => XS.iadd X14.here hx rfl (hb hby d3_44) rfl k) ?_
          refine own_st (T' := T14) (F' := (mkF m 49 #[.val (.ref x0), .val (.int (1 : Int32))] [(.int (3 : Int32))])) (fun _ k => XS.goto X14.here hx rfl (pc0 := 45) (pc' := 49) rfl (hb hby d3_45) (by decide) (by decide) k) ?_
          refine own_retI X14 hx hlk Bd.returns (hb hby d3_49) ?_ (by decide) (by decide)
          rw [e14]
          refine ⟨⟨_, rfl, ?_⟩, N0, rfl⟩
          have np0 : ¬ own_pair n b0 b1 (1 : Int32) := fun q => by rcases hJ25_9 with a | ⟨_, a⟩; exact a q.2.1; exact a q.2.2
          exact absurd hc36_13 hc7_11
      ·
        refine own_st (T' := s₁) (F' := (mkF m 11 #[.val (.ref x0), .val (.int (1 : Int32))] [(.ref x0)])) (fun _ k => XS.aloadN X0.here hx rfl (hb hby d3_10) rfl rfl k) ?_
        refine own_st (T' := s₁) (F' := (mkF m 12 #[.val (.ref x0), .val (.int (1 : Int32))] [(.int (1 : Int32)), (.ref x0)])) (fun _ k => XS.iloadN X0.here hx rfl (hb hby d3_11) rfl  k) ?_
        obtain ⟨cl16, Ar16, Aq16, As16, Am16, Ah16, Au16⟩ := id V_B
        have hin16 : ¬ ((1 : Int32) < 0 ∨ cl16.slots.size ≤ ((1 : Int32)).toNatClampNeg) := inb_of As16 ⟨by decide, own_ltl hc7_11 (by decide)⟩
        have hat16 : cl16.slots[((1 : Int32)).toNatClampNeg]? = some (.int b1) := Ah16.at hin16 (rfl)
        refine own_st (T' := s₁) (F' := (mkF m 13 #[.val (.ref x0), .val (.int (1 : Int32))] [(.int b1)])) (fun _ k => X0.baloadBytes hx (j := (1 : Int32)) (v := (.int b1)) (by rw [e0]; exact Ar16.1) (State.isArrayOf_alike hZ.alike Ar16.2.1) Ar16.2.2 hin16 hat16 (g := (mkF m 12 #[.val (.ref x0), .val (.int (1 : Int32))] [(.int (1 : Int32)), (.ref x0)])) rfl rfl (hb hby d3_12) _ k) ?_
        have J25_18 : (((¬ (b1 = (0 : Int32)))) ∨ ((b1 = (0 : Int32)) ∧ (¬ (b2 = (1 : Int32))))) → own_Go p e below s (Q3 Z x0 aE ke ve kb n b0 b1 b2 b3 b4 b5 b6 b7 h0 n0) ({ frames := 0, cells := 0, slots := 0, locals := 0 } : Room).cells ({ frames := 0, cells := 0, slots := 0, locals := 0 } : Room).slots s₁ (mkF m 25 #[.val (.ref x0), .val (.int (1 : Int32))] []) := by
          intro hJ25_18
          refine own_st (T' := s₁) (F' := (mkF m 28 #[.val (.ref x0), .val (.int (2 : Int32))] [])) (fun _ k => XS.iinc X0.here hx rfl (hb hby d3_25) rfl (l' := #[.val (.ref x0), .val (.int (2 : Int32))]) rfl k) ?_
          refine own_st (T' := s₁) (F' := (mkF m 2 #[.val (.ref x0), .val (.int (2 : Int32))] [])) (fun _ k => XS.goto X0.here hx rfl (pc0 := 28) (pc' := 2) rfl (hb hby d3_28) (by decide) (by decide) k) ?_
          refine own_st (T' := s₁) (F' := (mkF m 3 #[.val (.ref x0), .val (.int (2 : Int32))] [(.int (2 : Int32))])) (fun _ k => XS.iloadN X0.here hx rfl (hb hby d3_2) rfl  k) ?_
          refine own_st (T' := s₁) (F' := (mkF m 4 #[.val (.ref x0), .val (.int (2 : Int32))] [(.int (1 : Int32)), (.int (2 : Int32))])) (fun _ k => XS.iconst X0.here hx rfl (hb hby d3_3) k) ?_
          refine own_st (T' := s₁) (F' := (mkF m 5 #[.val (.ref x0), .val (.int (2 : Int32))] [(.int (3 : Int32))])) (fun _ k => XS.iadd X0.here hx rfl (hb hby d3_4) rfl k) ?_
          refine own_st (T' := s₁) (F' := (mkF m 6 #[.val (.ref x0), .val (.int (2 : Int32))] [(.ref x0), (.int (3 : Int32))])) (fun _ k => XS.aloadN X0.here hx rfl (hb hby d3_5) rfl rfl k) ?_
          obtain ⟨cl19, Ar19, Aq19, As19, Am19, Ah19, Au19⟩ := id V_B
          refine own_st (T' := s₁) (F' := (mkF m 7 #[.val (.ref x0), .val (.int (2 : Int32))] [(.int n), (.int (3 : Int32))])) (fun _ k => X0.arraylength hx (cell := cl19) (by rw [e0]; exact Ar19.1) (State.isArrayOf_alike hZ.alike Ar19.2.1) (g := (mkF m 6 #[.val (.ref x0), .val (.int (2 : Int32))] [(.ref x0), (.int (3 : Int32))])) rfl (rest := [(.int (3 : Int32))]) rfl (hb hby d3_6) _ (by rw [len_of As19 Am19]; exact k)) ?_
          refine own_icmp X0 hx (pc' := 31) (pc2 := 10) (hb hby d3_7) (by decide) (by decide) rfl (fun (hc7_20 : ¬ ((3 : Int32) < n)) => ?_) (fun (hc7_20 : (3 : Int32) < n) => ?_)
          ·
            refine own_st (T' := s₁) (F' := (mkF m 32 #[.val (.ref x0), .val (.int (2 : Int32))] [(.int (2 : Int32))])) (fun _ k => XS.iloadN X0.here hx rfl (hb hby d3_31) rfl  k) ?_
            refine own_st (T' := s₁) (F' := (mkF m 33 #[.val (.ref x0), .val (.int (2 : Int32))] [(.int (1 : Int32)), (.int (2 : Int32))])) (fun _ k => XS.iconst X0.here hx rfl (hb hby d3_32) k) ?_
            refine own_st (T' := s₁) (F' := (mkF m 34 #[.val (.ref x0), .val (.int (2 : Int32))] [(.int (3 : Int32))])) (fun _ k => XS.iadd X0.here hx rfl (hb hby d3_33) rfl k) ?_
            refine own_st (T' := s₁) (F' := (mkF m 35 #[.val (.ref x0), .val (.int (2 : Int32))] [(.ref x0), (.int (3 : Int32))])) (fun _ k => XS.aloadN X0.here hx rfl (hb hby d3_34) rfl rfl k) ?_
            obtain ⟨cl21, Ar21, Aq21, As21, Am21, Ah21, Au21⟩ := id V_B
            refine own_st (T' := s₁) (F' := (mkF m 36 #[.val (.ref x0), .val (.int (2 : Int32))] [(.int n), (.int (3 : Int32))])) (fun _ k => X0.arraylength hx (cell := cl21) (by rw [e0]; exact Ar21.1) (State.isArrayOf_alike hZ.alike Ar21.2.1) (g := (mkF m 35 #[.val (.ref x0), .val (.int (2 : Int32))] [(.ref x0), (.int (3 : Int32))])) rfl (rest := [(.int (3 : Int32))]) rfl (hb hby d3_35) _ (by rw [len_of As21 Am21]; exact k)) ?_
            refine own_icmp X0 hx (pc' := 48) (pc2 := 39) (hb hby d3_36) (by decide) (by decide) rfl (fun (hc36_22 : ¬ ((3 : Int32) < n)) => ?_) (fun (hc36_22 : (3 : Int32) < n) => ?_)
            ·
              refine own_st (T' := s₁) (F' := (mkF m 49 #[.val (.ref x0), .val (.int (2 : Int32))] [(.int (-1 : Int32))])) (fun _ k => XS.iconst X0.here hx rfl (hb hby d3_48) k) ?_
              refine own_retI X0 hx hlk Bd.returns (hb hby d3_49) ?_ (by decide) (by decide)
              rw [e0]
              refine ⟨⟨_, rfl, ?_⟩, N0, rfl⟩
              have np0 : ¬ own_pair n b0 b1 (1 : Int32) := fun q => by rcases hJ25_9 with a | ⟨_, a⟩; exact a q.2.1; exact a q.2.2
              have np1 : ¬ own_pair n b1 b2 (2 : Int32) := fun q => by rcases hJ25_18 with a | ⟨_, a⟩; exact a q.2.1; exact a q.2.2
              have np2 : ¬ own_pair n b2 b3 (3 : Int32) := fun q => hc7_20 (own_ltl q.1 (by decide))
              have np3 : ¬ own_pair n b3 b4 (4 : Int32) := fun q => hc7_20 (own_ltl q.1 (by decide))
              have np4 : ¬ own_pair n b4 b5 (5 : Int32) := fun q => hc7_20 (own_ltl q.1 (by decide))
              have np5 : ¬ own_pair n b5 b6 (6 : Int32) := fun q => hc7_20 (own_ltl q.1 (by decide))
              have np6 : ¬ own_pair n b6 b7 (7 : Int32) := fun q => hc7_20 (own_ltl q.1 (by decide))
              exact Or.inr (Or.inr (Or.inr (Or.inr (Or.inr (Or.inr (Or.inr (⟨np0, np1, np2, np3, np4, np5, np6, rfl⟩)))))))
            ·
              refine own_st (T' := s₁) (F' := (mkF m 40 #[.val (.ref x0), .val (.int (2 : Int32))] [(.int (2 : Int32))])) (fun _ k => XS.iloadN X0.here hx rfl (hb hby d3_39) rfl  k) ?_
              obtain ⟨T23, X23, e23, st23⟩ := getS2 X0 hx hZ hown (host := "") (Or.inl (hw _ (List.mem_of_getElem? (i := 17) rfl))) Via.refl e0 S_E (g := (mkF m 40 #[.val (.ref x0), .val (.int (2 : Int32))] [(.int (2 : Int32))])) rfl (hb hby d3_40)
              refine own_st (T' := T23) (F' := (mkF m 43 #[.val (.ref x0), .val (.int (2 : Int32))] [(.ref aE), (.int (2 : Int32))])) (fun _ k => st23 _ k) ?_
              obtain ⟨cl24, Ar24, Aq24, As24, Am24, Ah24, Au24⟩ := id V_E
              refine own_st (T' := T23) (F' := (mkF m 44 #[.val (.ref x0), .val (.int (2 : Int32))] [(.int (2 : Int32)), (.int (2 : Int32))])) (fun _ k => X23.arraylength hx (cell := cl24) (by rw [e23]; exact Ar24.1) (State.isArrayOf_alike hZ.alike Ar24.2.1) (g := (mkF m 43 #[.val (.ref x0), .val (.int (2 : Int32))] [(.ref aE), (.int (2 : Int32))])) rfl (rest := [(.int (2 : Int32))]) rfl (hb hby d3_43) _ (by rw [len_of As24 Am24]; exact k)) ?_
              refine own_st (T' := T23) (F' := (mkF m 45 #[.val (.ref x0), .val (.int (2 : Int32))] [(.int (4 : Int32))])) (fun _ k => XS.iadd X23.here hx rfl (hb hby d3_44) rfl k) ?_
              refine own_st (T' := T23) (F' := (mkF m 49 #[.val (.ref x0), .val (.int (2 : Int32))] [(.int (4 : Int32))])) (fun _ k => XS.goto X23.here hx rfl (pc0 := 45) (pc' := 49) rfl (hb hby d3_45) (by decide) (by decide) k) ?_
              refine own_retI X23 hx hlk Bd.returns (hb hby d3_49) ?_ (by decide) (by decide)
              rw [e23]
              refine ⟨⟨_, rfl, ?_⟩, N0, rfl⟩
              have np0 : ¬ own_pair n b0 b1 (1 : Int32) := fun q => by rcases hJ25_9 with a | ⟨_, a⟩; exact a q.2.1; exact a q.2.2
              have np1 : ¬ own_pair n b1 b2 (2 : Int32) := fun q => by rcases hJ25_18 with a | ⟨_, a⟩; exact a q.2.1; exact a q.2.2
              exact absurd hc36_22 hc7_20
          ·
            refine own_st (T' := s₁) (F' := (mkF m 11 #[.val (.ref x0), .val (.int (2 : Int32))] [(.ref x0)])) (fun _ k => XS.aloadN X0.here hx rfl (hb hby d3_10) rfl rfl k) ?_
            refine own_st (T' := s₁) (F' := (mkF m 12 #[.val (.ref x0), .val (.int (2 : Int32))] [(.int (2 : Int32)), (.ref x0)])) (fun _ k => XS.iloadN X0.here hx rfl (hb hby d3_11) rfl  k) ?_
            obtain ⟨cl25, Ar25, Aq25, As25, Am25, Ah25, Au25⟩ := id V_B
            have hin25 : ¬ ((2 : Int32) < 0 ∨ cl25.slots.size ≤ ((2 : Int32)).toNatClampNeg) := inb_of As25 ⟨by decide, own_ltl hc7_20 (by decide)⟩
            have hat25 : cl25.slots[((2 : Int32)).toNatClampNeg]? = some (.int b2) := Ah25.at hin25 (rfl)
            refine own_st (T' := s₁) (F' := (mkF m 13 #[.val (.ref x0), .val (.int (2 : Int32))] [(.int b2)])) (fun _ k => X0.baloadBytes hx (j := (2 : Int32)) (v := (.int b2)) (by rw [e0]; exact Ar25.1) (State.isArrayOf_alike hZ.alike Ar25.2.1) Ar25.2.2 hin25 hat25 (g := (mkF m 12 #[.val (.ref x0), .val (.int (2 : Int32))] [(.int (2 : Int32)), (.ref x0)])) rfl rfl (hb hby d3_12) _ k) ?_
            have J25_27 : (((¬ (b2 = (0 : Int32)))) ∨ ((b2 = (0 : Int32)) ∧ (¬ (b3 = (1 : Int32))))) → own_Go p e below s (Q3 Z x0 aE ke ve kb n b0 b1 b2 b3 b4 b5 b6 b7 h0 n0) ({ frames := 0, cells := 0, slots := 0, locals := 0 } : Room).cells ({ frames := 0, cells := 0, slots := 0, locals := 0 } : Room).slots s₁ (mkF m 25 #[.val (.ref x0), .val (.int (2 : Int32))] []) := by
              intro hJ25_27
              refine own_st (T' := s₁) (F' := (mkF m 28 #[.val (.ref x0), .val (.int (3 : Int32))] [])) (fun _ k => XS.iinc X0.here hx rfl (hb hby d3_25) rfl (l' := #[.val (.ref x0), .val (.int (3 : Int32))]) rfl k) ?_
              refine own_st (T' := s₁) (F' := (mkF m 2 #[.val (.ref x0), .val (.int (3 : Int32))] [])) (fun _ k => XS.goto X0.here hx rfl (pc0 := 28) (pc' := 2) rfl (hb hby d3_28) (by decide) (by decide) k) ?_
              refine own_st (T' := s₁) (F' := (mkF m 3 #[.val (.ref x0), .val (.int (3 : Int32))] [(.int (3 : Int32))])) (fun _ k => XS.iloadN X0.here hx rfl (hb hby d3_2) rfl  k) ?_
              refine own_st (T' := s₁) (F' := (mkF m 4 #[.val (.ref x0), .val (.int (3 : Int32))] [(.int (1 : Int32)), (.int (3 : Int32))])) (fun _ k => XS.iconst X0.here hx rfl (hb hby d3_3) k) ?_
              refine own_st (T' := s₁) (F' := (mkF m 5 #[.val (.ref x0), .val (.int (3 : Int32))] [(.int (4 : Int32))])) (fun _ k => XS.iadd X0.here hx rfl (hb hby d3_4) rfl k) ?_
              refine own_st (T' := s₁) (F' := (mkF m 6 #[.val (.ref x0), .val (.int (3 : Int32))] [(.ref x0), (.int (4 : Int32))])) (fun _ k => XS.aloadN X0.here hx rfl (hb hby d3_5) rfl rfl k) ?_
              obtain ⟨cl28, Ar28, Aq28, As28, Am28, Ah28, Au28⟩ := id V_B
              refine own_st (T' := s₁) (F' := (mkF m 7 #[.val (.ref x0), .val (.int (3 : Int32))] [(.int n), (.int (4 : Int32))])) (fun _ k => X0.arraylength hx (cell := cl28) (by rw [e0]; exact Ar28.1) (State.isArrayOf_alike hZ.alike Ar28.2.1) (g := (mkF m 6 #[.val (.ref x0), .val (.int (3 : Int32))] [(.ref x0), (.int (4 : Int32))])) rfl (rest := [(.int (4 : Int32))]) rfl (hb hby d3_6) _ (by rw [len_of As28 Am28]; exact k)) ?_
              refine own_icmp X0 hx (pc' := 31) (pc2 := 10) (hb hby d3_7) (by decide) (by decide) rfl (fun (hc7_29 : ¬ ((4 : Int32) < n)) => ?_) (fun (hc7_29 : (4 : Int32) < n) => ?_)
              ·
                refine own_st (T' := s₁) (F' := (mkF m 32 #[.val (.ref x0), .val (.int (3 : Int32))] [(.int (3 : Int32))])) (fun _ k => XS.iloadN X0.here hx rfl (hb hby d3_31) rfl  k) ?_
                refine own_st (T' := s₁) (F' := (mkF m 33 #[.val (.ref x0), .val (.int (3 : Int32))] [(.int (1 : Int32)), (.int (3 : Int32))])) (fun _ k => XS.iconst X0.here hx rfl (hb hby d3_32) k) ?_
                refine own_st (T' := s₁) (F' := (mkF m 34 #[.val (.ref x0), .val (.int (3 : Int32))] [(.int (4 : Int32))])) (fun _ k => XS.iadd X0.here hx rfl (hb hby d3_33) rfl k) ?_
                refine own_st (T' := s₁) (F' := (mkF m 35 #[.val (.ref x0), .val (.int (3 : Int32))] [(.ref x0), (.int (4 : Int32))])) (fun _ k => XS.aloadN X0.here hx rfl (hb hby d3_34) rfl rfl k) ?_
                obtain ⟨cl30, Ar30, Aq30, As30, Am30, Ah30, Au30⟩ := id V_B
                refine own_st (T' := s₁) (F' := (mkF m 36 #[.val (.ref x0), .val (.int (3 : Int32))] [(.int n), (.int (4 : Int32))])) (fun _ k => X0.arraylength hx (cell := cl30) (by rw [e0]; exact Ar30.1) (State.isArrayOf_alike hZ.alike Ar30.2.1) (g := (mkF m 35 #[.val (.ref x0), .val (.int (3 : Int32))] [(.ref x0), (.int (4 : Int32))])) rfl (rest := [(.int (4 : Int32))]) rfl (hb hby d3_35) _ (by rw [len_of As30 Am30]; exact k)) ?_
                refine own_icmp X0 hx (pc' := 48) (pc2 := 39) (hb hby d3_36) (by decide) (by decide) rfl (fun (hc36_31 : ¬ ((4 : Int32) < n)) => ?_) (fun (hc36_31 : (4 : Int32) < n) => ?_)
                ·
                  refine own_st (T' := s₁) (F' := (mkF m 49 #[.val (.ref x0), .val (.int (3 : Int32))] [(.int (-1 : Int32))])) (fun _ k => XS.iconst X0.here hx rfl (hb hby d3_48) k) ?_
                  refine own_retI X0 hx hlk Bd.returns (hb hby d3_49) ?_ (by decide) (by decide)
                  rw [e0]
                  refine ⟨⟨_, rfl, ?_⟩, N0, rfl⟩
                  have np0 : ¬ own_pair n b0 b1 (1 : Int32) := fun q => by rcases hJ25_9 with a | ⟨_, a⟩; exact a q.2.1; exact a q.2.2
                  have np1 : ¬ own_pair n b1 b2 (2 : Int32) := fun q => by rcases hJ25_18 with a | ⟨_, a⟩; exact a q.2.1; exact a q.2.2
                  have np2 : ¬ own_pair n b2 b3 (3 : Int32) := fun q => by rcases hJ25_27 with a | ⟨_, a⟩; exact a q.2.1; exact a q.2.2
                  have np3 : ¬ own_pair n b3 b4 (4 : Int32) := fun q => hc7_29 (own_ltl q.1 (by decide))
                  have np4 : ¬ own_pair n b4 b5 (5 : Int32) := fun q => hc7_29 (own_ltl q.1 (by decide))
                  have np5 : ¬ own_pair n b5 b6 (6 : Int32) := fun q => hc7_29 (own_ltl q.1 (by decide))
                  have np6 : ¬ own_pair n b6 b7 (7 : Int32) := fun q => hc7_29 (own_ltl q.1 (by decide))
                  exact Or.inr (Or.inr (Or.inr (Or.inr (Or.inr (Or.inr (Or.inr (⟨np0, np1, np2, np3, np4, np5, np6, rfl⟩)))))))
                ·
                  refine own_st (T' := s₁) (F' := (mkF m 40 #[.val (.ref x0), .val (.int (3 : Int32))] [(.int (3 : Int32))])) (fun _ k => XS.iloadN X0.here hx rfl (hb hby d3_39) rfl  k) ?_
                  obtain ⟨T32, X32, e32, st32⟩ := getS2 X0 hx hZ hown (host := "") (Or.inl (hw _ (List.mem_of_getElem? (i := 17) rfl))) Via.refl e0 S_E (g := (mkF m 40 #[.val (.ref x0), .val (.int (3 : Int32))] [(.int (3 : Int32))])) rfl (hb hby d3_40)
                  refine own_st (T' := T32) (F' := (mkF m 43 #[.val (.ref x0), .val (.int (3 : Int32))] [(.ref aE), (.int (3 : Int32))])) (fun _ k => st32 _ k) ?_
                  obtain ⟨cl33, Ar33, Aq33, As33, Am33, Ah33, Au33⟩ := id V_E
                  refine own_st (T' := T32) (F' := (mkF m 44 #[.val (.ref x0), .val (.int (3 : Int32))] [(.int (2 : Int32)), (.int (3 : Int32))])) (fun _ k => X32.arraylength hx (cell := cl33) (by rw [e32]; exact Ar33.1) (State.isArrayOf_alike hZ.alike Ar33.2.1) (g := (mkF m 43 #[.val (.ref x0), .val (.int (3 : Int32))] [(.ref aE), (.int (3 : Int32))])) rfl (rest := [(.int (3 : Int32))]) rfl (hb hby d3_43) _ (by rw [len_of As33 Am33]; exact k)) ?_
                  refine own_st (T' := T32) (F' := (mkF m 45 #[.val (.ref x0), .val (.int (3 : Int32))] [(.int (5 : Int32))])) (fun _ k => XS.iadd X32.here hx rfl (hb hby d3_44) rfl k) ?_
                  refine own_st (T' := T32) (F' := (mkF m 49 #[.val (.ref x0), .val (.int (3 : Int32))] [(.int (5 : Int32))])) (fun _ k => XS.goto X32.here hx rfl (pc0 := 45) (pc' := 49) rfl (hb hby d3_45) (by decide) (by decide) k) ?_
                  refine own_retI X32 hx hlk Bd.returns (hb hby d3_49) ?_ (by decide) (by decide)
                  rw [e32]
                  refine ⟨⟨_, rfl, ?_⟩, N0, rfl⟩
                  have np0 : ¬ own_pair n b0 b1 (1 : Int32) := fun q => by rcases hJ25_9 with a | ⟨_, a⟩; exact a q.2.1; exact a q.2.2
                  have np1 : ¬ own_pair n b1 b2 (2 : Int32) := fun q => by rcases hJ25_18 with a | ⟨_, a⟩; exact a q.2.1; exact a q.2.2
                  have np2 : ¬ own_pair n b2 b3 (3 : Int32) := fun q => by rcases hJ25_27 with a | ⟨_, a⟩; exact a q.2.1; exact a q.2.2
                  exact absurd hc36_31 hc7_29
              ·
                refine own_st (T' := s₁) (F' := (mkF m 11 #[.val (.ref x0), .val (.int (3 : Int32))] [(.ref x0)])) (fun _ k => XS.aloadN X0.here hx rfl (hb hby d3_10) rfl rfl k) ?_
                refine own_st (T' := s₁) (F' := (mkF m 12 #[.val (.ref x0), .val (.int (3 : Int32))] [(.int (3 : Int32)), (.ref x0)])) (fun _ k => XS.iloadN X0.here hx rfl (hb hby d3_11) rfl  k) ?_
                obtain ⟨cl34, Ar34, Aq34, As34, Am34, Ah34, Au34⟩ := id V_B
                have hin34 : ¬ ((3 : Int32) < 0 ∨ cl34.slots.size ≤ ((3 : Int32)).toNatClampNeg) := inb_of As34 ⟨by decide, own_ltl hc7_29 (by decide)⟩
                have hat34 : cl34.slots[((3 : Int32)).toNatClampNeg]? = some (.int b3) := Ah34.at hin34 (rfl)
                refine own_st (T' := s₁) (F' := (mkF m 13 #[.val (.ref x0), .val (.int (3 : Int32))] [(.int b3)])) (fun _ k => X0.baloadBytes hx (j := (3 : Int32)) (v := (.int b3)) (by rw [e0]; exact Ar34.1) (State.isArrayOf_alike hZ.alike Ar34.2.1) Ar34.2.2 hin34 hat34 (g := (mkF m 12 #[.val (.ref x0), .val (.int (3 : Int32))] [(.int (3 : Int32)), (.ref x0)])) rfl rfl (hb hby d3_12) _ k) ?_
                have J25_36 : (((¬ (b3 = (0 : Int32)))) ∨ ((b3 = (0 : Int32)) ∧ (¬ (b4 = (1 : Int32))))) → own_Go p e below s (Q3 Z x0 aE ke ve kb n b0 b1 b2 b3 b4 b5 b6 b7 h0 n0) ({ frames := 0, cells := 0, slots := 0, locals := 0 } : Room).cells ({ frames := 0, cells := 0, slots := 0, locals := 0 } : Room).slots s₁ (mkF m 25 #[.val (.ref x0), .val (.int (3 : Int32))] []) := by
                  intro hJ25_36
                  refine own_st (T' := s₁) (F' := (mkF m 28 #[.val (.ref x0), .val (.int (4 : Int32))] [])) (fun _ k => XS.iinc X0.here hx rfl (hb hby d3_25) rfl (l' := #[.val (.ref x0), .val (.int (4 : Int32))]) rfl k) ?_
                  refine own_st (T' := s₁) (F' := (mkF m 2 #[.val (.ref x0), .val (.int (4 : Int32))] [])) (fun _ k => XS.goto X0.here hx rfl (pc0 := 28) (pc' := 2) rfl (hb hby d3_28) (by decide) (by decide) k) ?_
                  refine own_st (T' := s₁) (F' := (mkF m 3 #[.val (.ref x0), .val (.int (4 : Int32))] [(.int (4 : Int32))])) (fun _ k => XS.iloadN X0.here hx rfl (hb hby d3_2) rfl  k) ?_
                  refine own_st (T' := s₁) (F' := (mkF m 4 #[.val (.ref x0), .val (.int (4 : Int32))] [(.int (1 : Int32)), (.int (4 : Int32))])) (fun _ k => XS.iconst X0.here hx rfl (hb hby d3_3) k) ?_
                  refine own_st (T' := s₁) (F' := (mkF m 5 #[.val (.ref x0), .val (.int (4 : Int32))] [(.int (5 : Int32))])) (fun _ k => XS.iadd X0.here hx rfl (hb hby d3_4) rfl k) ?_
                  refine own_st (T' := s₁) (F' := (mkF m 6 #[.val (.ref x0), .val (.int (4 : Int32))] [(.ref x0), (.int (5 : Int32))])) (fun _ k => XS.aloadN X0.here hx rfl (hb hby d3_5) rfl rfl k) ?_
                  obtain ⟨cl37, Ar37, Aq37, As37, Am37, Ah37, Au37⟩ := id V_B
                  refine own_st (T' := s₁) (F' := (mkF m 7 #[.val (.ref x0), .val (.int (4 : Int32))] [(.int n), (.int (5 : Int32))])) (fun _ k => X0.arraylength hx (cell := cl37) (by rw [e0]; exact Ar37.1) (State.isArrayOf_alike hZ.alike Ar37.2.1) (g := (mkF m 6 #[.val (.ref x0), .val (.int (4 : Int32))] [(.ref x0), (.int (5 : Int32))])) rfl (rest := [(.int (5 : Int32))]) rfl (hb hby d3_6) _ (by rw [len_of As37 Am37]; exact k)) ?_
                  refine own_icmp X0 hx (pc' := 31) (pc2 := 10) (hb hby d3_7) (by decide) (by decide) rfl (fun (hc7_38 : ¬ ((5 : Int32) < n)) => ?_) (fun (hc7_38 : (5 : Int32) < n) => ?_)
                  ·
                    refine own_st (T' := s₁) (F' := (mkF m 32 #[.val (.ref x0), .val (.int (4 : Int32))] [(.int (4 : Int32))])) (fun _ k => XS.iloadN X0.here hx rfl (hb hby d3_31) rfl  k) ?_
                    refine own_st (T' := s₁) (F' := (mkF m 33 #[.val (.ref x0), .val (.int (4 : Int32))] [(.int (1 : Int32)), (.int (4 : Int32))])) (fun _ k => XS.iconst X0.here hx rfl (hb hby d3_32) k) ?_
                    refine own_st (T' := s₁) (F' := (mkF m 34 #[.val (.ref x0), .val (.int (4 : Int32))] [(.int (5 : Int32))])) (fun _ k => XS.iadd X0.here hx rfl (hb hby d3_33) rfl k) ?_
                    refine own_st (T' := s₁) (F' := (mkF m 35 #[.val (.ref x0), .val (.int (4 : Int32))] [(.ref x0), (.int (5 : Int32))])) (fun _ k => XS.aloadN X0.here hx rfl (hb hby d3_34) rfl rfl k) ?_
                    obtain ⟨cl39, Ar39, Aq39, As39, Am39, Ah39, Au39⟩ := id V_B
                    refine own_st (T' := s₁) (F' := (mkF m 36 #[.val (.ref x0), .val (.int (4 : Int32))] [(.int n), (.int (5 : Int32))])) (fun _ k => X0.arraylength hx (cell := cl39) (by rw [e0]; exact Ar39.1) (State.isArrayOf_alike hZ.alike Ar39.2.1) (g := (mkF m 35 #[.val (.ref x0), .val (.int (4 : Int32))] [(.ref x0), (.int (5 : Int32))])) rfl (rest := [(.int (5 : Int32))]) rfl (hb hby d3_35) _ (by rw [len_of As39 Am39]; exact k)) ?_
                    refine own_icmp X0 hx (pc' := 48) (pc2 := 39) (hb hby d3_36) (by decide) (by decide) rfl (fun (hc36_40 : ¬ ((5 : Int32) < n)) => ?_) (fun (hc36_40 : (5 : Int32) < n) => ?_)
                    ·
                      refine own_st (T' := s₁) (F' := (mkF m 49 #[.val (.ref x0), .val (.int (4 : Int32))] [(.int (-1 : Int32))])) (fun _ k => XS.iconst X0.here hx rfl (hb hby d3_48) k) ?_
                      refine own_retI X0 hx hlk Bd.returns (hb hby d3_49) ?_ (by decide) (by decide)
                      rw [e0]
                      refine ⟨⟨_, rfl, ?_⟩, N0, rfl⟩
                      have np0 : ¬ own_pair n b0 b1 (1 : Int32) := fun q => by rcases hJ25_9 with a | ⟨_, a⟩; exact a q.2.1; exact a q.2.2
                      have np1 : ¬ own_pair n b1 b2 (2 : Int32) := fun q => by rcases hJ25_18 with a | ⟨_, a⟩; exact a q.2.1; exact a q.2.2
                      have np2 : ¬ own_pair n b2 b3 (3 : Int32) := fun q => by rcases hJ25_27 with a | ⟨_, a⟩; exact a q.2.1; exact a q.2.2
                      have np3 : ¬ own_pair n b3 b4 (4 : Int32) := fun q => by rcases hJ25_36 with a | ⟨_, a⟩; exact a q.2.1; exact a q.2.2
                      have np4 : ¬ own_pair n b4 b5 (5 : Int32) := fun q => hc7_38 (own_ltl q.1 (by decide))
                      have np5 : ¬ own_pair n b5 b6 (6 : Int32) := fun q => hc7_38 (own_ltl q.1 (by decide))
                      have np6 : ¬ own_pair n b6 b7 (7 : Int32) := fun q => hc7_38 (own_ltl q.1 (by decide))
                      exact Or.inr (Or.inr (Or.inr (Or.inr (Or.inr (Or.inr (Or.inr (⟨np0, np1, np2, np3, np4, np5, np6, rfl⟩)))))))
                    ·
                      refine own_st (T' := s₁) (F' := (mkF m 40 #[.val (.ref x0), .val (.int (4 : Int32))] [(.int (4 : Int32))])) (fun _ k => XS.iloadN X0.here hx rfl (hb hby d3_39) rfl  k) ?_
                      obtain ⟨T41, X41, e41, st41⟩ := getS2 X0 hx hZ hown (host := "") (Or.inl (hw _ (List.mem_of_getElem? (i := 17) rfl))) Via.refl e0 S_E (g := (mkF m 40 #[.val (.ref x0), .val (.int (4 : Int32))] [(.int (4 : Int32))])) rfl (hb hby d3_40)
                      refine own_st (T' := T41) (F' := (mkF m 43 #[.val (.ref x0), .val (.int (4 : Int32))] [(.ref aE), (.int (4 : Int32))])) (fun _ k => st41 _ k) ?_
                      obtain ⟨cl42, Ar42, Aq42, As42, Am42, Ah42, Au42⟩ := id V_E
                      refine own_st (T' := T41) (F' := (mkF m 44 #[.val (.ref x0), .val (.int (4 : Int32))] [(.int (2 : Int32)), (.int (4 : Int32))])) (fun _ k => X41.arraylength hx (cell := cl42) (by rw [e41]; exact Ar42.1) (State.isArrayOf_alike hZ.alike Ar42.2.1) (g := (mkF m 43 #[.val (.ref x0), .val (.int (4 : Int32))] [(.ref aE), (.int (4 : Int32))])) rfl (rest := [(.int (4 : Int32))]) rfl (hb hby d3_43) _ (by rw [len_of As42 Am42]; exact k)) ?_
                      refine own_st (T' := T41) (F' := (mkF m 45 #[.val (.ref x0), .val (.int (4 : Int32))] [(.int (6 : Int32))])) (fun _ k => XS.iadd X41.here hx rfl (hb hby d3_44) rfl k) ?_
                      refine own_st (T' := T41) (F' := (mkF m 49 #[.val (.ref x0), .val (.int (4 : Int32))] [(.int (6 : Int32))])) (fun _ k => XS.goto X41.here hx rfl (pc0 := 45) (pc' := 49) rfl (hb hby d3_45) (by decide) (by decide) k) ?_
                      refine own_retI X41 hx hlk Bd.returns (hb hby d3_49) ?_ (by decide) (by decide)
                      rw [e41]
                      refine ⟨⟨_, rfl, ?_⟩, N0, rfl⟩
                      have np0 : ¬ own_pair n b0 b1 (1 : Int32) := fun q => by rcases hJ25_9 with a | ⟨_, a⟩; exact a q.2.1; exact a q.2.2
                      have np1 : ¬ own_pair n b1 b2 (2 : Int32) := fun q => by rcases hJ25_18 with a | ⟨_, a⟩; exact a q.2.1; exact a q.2.2
                      have np2 : ¬ own_pair n b2 b3 (3 : Int32) := fun q => by rcases hJ25_27 with a | ⟨_, a⟩; exact a q.2.1; exact a q.2.2
                      have np3 : ¬ own_pair n b3 b4 (4 : Int32) := fun q => by rcases hJ25_36 with a | ⟨_, a⟩; exact a q.2.1; exact a q.2.2
                      exact absurd hc36_40 hc7_38
                  ·
                    refine own_st (T' := s₁) (F' := (mkF m 11 #[.val (.ref x0), .val (.int (4 : Int32))] [(.ref x0)])) (fun _ k => XS.aloadN X0.here hx rfl (hb hby d3_10) rfl rfl k) ?_
                    refine own_st (T' := s₁) (F' := (mkF m 12 #[.val (.ref x0), .val (.int (4 : Int32))] [(.int (4 : Int32)), (.ref x0)])) (fun _ k => XS.iloadN X0.here hx rfl (hb hby d3_11) rfl  k) ?_
                    obtain ⟨cl43, Ar43, Aq43, As43, Am43, Ah43, Au43⟩ := id V_B
                    have hin43 : ¬ ((4 : Int32) < 0 ∨ cl43.slots.size ≤ ((4 : Int32)).toNatClampNeg) := inb_of As43 ⟨by decide, own_ltl hc7_38 (by decide)⟩
                    have hat43 : cl43.slots[((4 : Int32)).toNatClampNeg]? = some (.int b4) := Ah43.at hin43 (rfl)
                    refine own_st (T' := s₁) (F' := (mkF m 13 #[.val (.ref x0), .val (.int (4 : Int32))] [(.int b4)])) (fun _ k => X0.baloadBytes hx (j := (4 : Int32)) (v := (.int b4)) (by rw [e0]; exact Ar43.1) (State.isArrayOf_alike hZ.alike Ar43.2.1) Ar43.2.2 hin43 hat43 (g := (mkF m 12 #[.val (.ref x0), .val (.int (4 : Int32))] [(.int (4 : Int32)), (.ref x0)])) rfl rfl (hb hby d3_12) _ k) ?_
                    have J25_45 : (((¬ (b4 = (0 : Int32)))) ∨ ((b4 = (0 : Int32)) ∧ (¬ (b5 = (1 : Int32))))) → own_Go p e below s (Q3 Z x0 aE ke ve kb n b0 b1 b2 b3 b4 b5 b6 b7 h0 n0) ({ frames := 0, cells := 0, slots := 0, locals := 0 } : Room).cells ({ frames := 0, cells := 0, slots := 0, locals := 0 } : Room).slots s₁ (mkF m 25 #[.val (.ref x0), .val (.int (4 : Int32))] []) := by
                      intro hJ25_45
                      refine own_st (T' := s₁) (F' := (mkF m 28 #[.val (.ref x0), .val (.int (5 : Int32))] [])) (fun _ k => XS.iinc X0.here hx rfl (hb hby d3_25) rfl (l' := #[.val (.ref x0), .val (.int (5 : Int32))]) rfl k) ?_
                      refine own_st (T' := s₁) (F' := (mkF m 2 #[.val (.ref x0), .val (.int (5 : Int32))] [])) (fun _ k => XS.goto X0.here hx rfl (pc0 := 28) (pc' := 2) rfl (hb hby d3_28) (by decide) (by decide) k) ?_
                      refine own_st (T' := s₁) (F' := (mkF m 3 #[.val (.ref x0), .val (.int (5 : Int32))] [(.int (5 : Int32))])) (fun _ k => XS.iloadN X0.here hx rfl (hb hby d3_2) rfl  k) ?_
                      refine own_st (T' := s₁) (F' := (mkF m 4 #[.val (.ref x0), .val (.int (5 : Int32))] [(.int (1 : Int32)), (.int (5 : Int32))])) (fun _ k => XS.iconst X0.here hx rfl (hb hby d3_3) k) ?_
                      refine own_st (T' := s₁) (F' := (mkF m 5 #[.val (.ref x0), .val (.int (5 : Int32))] [(.int (6 : Int32))])) (fun _ k => XS.iadd X0.here hx rfl (hb hby d3_4) rfl k) ?_
                      refine own_st (T' := s₁) (F' := (mkF m 6 #[.val (.ref x0), .val (.int (5 : Int32))] [(.ref x0), (.int (6 : Int32))])) (fun _ k => XS.aloadN X0.here hx rfl (hb hby d3_5) rfl rfl k) ?_
                      obtain ⟨cl46, Ar46, Aq46, As46, Am46, Ah46, Au46⟩ := id V_B
                      refine own_st (T' := s₁) (F' := (mkF m 7 #[.val (.ref x0), .val (.int (5 : Int32))] [(.int n), (.int (6 : Int32))])) (fun _ k => X0.arraylength hx (cell := cl46) (by rw [e0]; exact Ar46.1) (State.isArrayOf_alike hZ.alike Ar46.2.1) (g := (mkF m 6 #[.val (.ref x0), .val (.int (5 : Int32))] [(.ref x0), (.int (6 : Int32))])) rfl (rest := [(.int (6 : Int32))]) rfl (hb hby d3_6) _ (by rw [len_of As46 Am46]; exact k)) ?_
                      refine own_icmp X0 hx (pc' := 31) (pc2 := 10) (hb hby d3_7) (by decide) (by decide) rfl (fun (hc7_47 : ¬ ((6 : Int32) < n)) => ?_) (fun (hc7_47 : (6 : Int32) < n) => ?_)
                      ·
                        refine own_st (T' := s₁) (F' := (mkF m 32 #[.val (.ref x0), .val (.int (5 : Int32))] [(.int (5 : Int32))])) (fun _ k => XS.iloadN X0.here hx rfl (hb hby d3_31) rfl  k) ?_
                        refine own_st (T' := s₁) (F' := (mkF m 33 #[.val (.ref x0), .val (.int (5 : Int32))] [(.int (1 : Int32)), (.int (5 : Int32))])) (fun _ k => XS.iconst X0.here hx rfl (hb hby d3_32) k) ?_
                        refine own_st (T' := s₁) (F' := (mkF m 34 #[.val (.ref x0), .val (.int (5 : Int32))] [(.int (6 : Int32))])) (fun _ k => XS.iadd X0.here hx rfl (hb hby d3_33) rfl k) ?_
                        refine own_st (T' := s₁) (F' := (mkF m 35 #[.val (.ref x0), .val (.int (5 : Int32))] [(.ref x0), (.int (6 : Int32))])) (fun _ k => XS.aloadN X0.here hx rfl (hb hby d3_34) rfl rfl k) ?_
                        obtain ⟨cl48, Ar48, Aq48, As48, Am48, Ah48, Au48⟩ := id V_B
                        refine own_st (T' := s₁) (F' := (mkF m 36 #[.val (.ref x0), .val (.int (5 : Int32))] [(.int n), (.int (6 : Int32))])) (fun _ k => X0.arraylength hx (cell := cl48) (by rw [e0]; exact Ar48.1) (State.isArrayOf_alike hZ.alike Ar48.2.1) (g := (mkF m 35 #[.val (.ref x0), .val (.int (5 : Int32))] [(.ref x0), (.int (6 : Int32))])) rfl (rest := [(.int (6 : Int32))]) rfl (hb hby d3_35) _ (by rw [len_of As48 Am48]; exact k)) ?_
                        refine own_icmp X0 hx (pc' := 48) (pc2 := 39) (hb hby d3_36) (by decide) (by decide) rfl (fun (hc36_49 : ¬ ((6 : Int32) < n)) => ?_) (fun (hc36_49 : (6 : Int32) < n) => ?_)
                        ·
                          refine own_st (T' := s₁) (F' := (mkF m 49 #[.val (.ref x0), .val (.int (5 : Int32))] [(.int (-1 : Int32))])) (fun _ k => XS.iconst X0.here hx rfl (hb hby d3_48) k) ?_
                          refine own_retI X0 hx hlk Bd.returns (hb hby d3_49) ?_ (by decide) (by decide)
                          rw [e0]
                          refine ⟨⟨_, rfl, ?_⟩, N0, rfl⟩
                          have np0 : ¬ own_pair n b0 b1 (1 : Int32) := fun q => by rcases hJ25_9 with a | ⟨_, a⟩; exact a q.2.1; exact a q.2.2
                          have np1 : ¬ own_pair n b1 b2 (2 : Int32) := fun q => by rcases hJ25_18 with a | ⟨_, a⟩; exact a q.2.1; exact a q.2.2
                          have np2 : ¬ own_pair n b2 b3 (3 : Int32) := fun q => by rcases hJ25_27 with a | ⟨_, a⟩; exact a q.2.1; exact a q.2.2
                          have np3 : ¬ own_pair n b3 b4 (4 : Int32) := fun q => by rcases hJ25_36 with a | ⟨_, a⟩; exact a q.2.1; exact a q.2.2
                          have np4 : ¬ own_pair n b4 b5 (5 : Int32) := fun q => by rcases hJ25_45 with a | ⟨_, a⟩; exact a q.2.1; exact a q.2.2
                          have np5 : ¬ own_pair n b5 b6 (6 : Int32) := fun q => hc7_47 (own_ltl q.1 (by decide))
                          have np6 : ¬ own_pair n b6 b7 (7 : Int32) := fun q => hc7_47 (own_ltl q.1 (by decide))
                          exact Or.inr (Or.inr (Or.inr (Or.inr (Or.inr (Or.inr (Or.inr (⟨np0, np1, np2, np3, np4, np5, np6, rfl⟩)))))))
                        ·
                          refine own_st (T' := s₁) (F' := (mkF m 40 #[.val (.ref x0), .val (.int (5 : Int32))] [(.int (5 : Int32))])) (fun _ k => XS.iloadN X0.here hx rfl (hb hby d3_39) rfl  k) ?_
                          obtain ⟨T50, X50, e50, st50⟩ := getS2 X0 hx hZ hown (host := "") (Or.inl (hw _ (List.mem_of_getElem? (i := 17) rfl))) Via.refl e0 S_E (g := (mkF m 40 #[.val (.ref x0), .val (.int (5 : Int32))] [(.int (5 : Int32))])) rfl (hb hby d3_40)
                          refine own_st (T' := T50) (F' := (mkF m 43 #[.val (.ref x0), .val (.int (5 : Int32))] [(.ref aE), (.int (5 : Int32))])) (fun _ k => st50 _ k) ?_
                          obtain ⟨cl51, Ar51, Aq51, As51, Am51, Ah51, Au51⟩ := id V_E
                          refine own_st (T' := T50) (F' := (mkF m 44 #[.val (.ref x0), .val (.int (5 : Int32))] [(.int (2 : Int32)), (.int (5 : Int32))])) (fun _ k => X50.arraylength hx (cell := cl51) (by rw [e50]; exact Ar51.1) (State.isArrayOf_alike hZ.alike Ar51.2.1) (g := (mkF m 43 #[.val (.ref x0), .val (.int (5 : Int32))] [(.ref aE), (.int (5 : Int32))])) rfl (rest := [(.int (5 : Int32))]) rfl (hb hby d3_43) _ (by rw [len_of As51 Am51]; exact k)) ?_
                          refine own_st (T' := T50) (F' := (mkF m 45 #[.val (.ref x0), .val (.int (5 : Int32))] [(.int (7 : Int32))])) (fun _ k => XS.iadd X50.here hx rfl (hb hby d3_44) rfl k) ?_
                          refine own_st (T' := T50) (F' := (mkF m 49 #[.val (.ref x0), .val (.int (5 : Int32))] [(.int (7 : Int32))])) (fun _ k => XS.goto X50.here hx rfl (pc0 := 45) (pc' := 49) rfl (hb hby d3_45) (by decide) (by decide) k) ?_
                          refine own_retI X50 hx hlk Bd.returns (hb hby d3_49) ?_ (by decide) (by decide)
                          rw [e50]
                          refine ⟨⟨_, rfl, ?_⟩, N0, rfl⟩
                          have np0 : ¬ own_pair n b0 b1 (1 : Int32) := fun q => by rcases hJ25_9 with a | ⟨_, a⟩; exact a q.2.1; exact a q.2.2
                          have np1 : ¬ own_pair n b1 b2 (2 : Int32) := fun q => by rcases hJ25_18 with a | ⟨_, a⟩; exact a q.2.1; exact a q.2.2
                          have np2 : ¬ own_pair n b2 b3 (3 : Int32) := fun q => by rcases hJ25_27 with a | ⟨_, a⟩; exact a q.2.1; exact a q.2.2
                          have np3 : ¬ own_pair n b3 b4 (4 : Int32) := fun q => by rcases hJ25_36 with a | ⟨_, a⟩; exact a q.2.1; exact a q.2.2
                          have np4 : ¬ own_pair n b4 b5 (5 : Int32) := fun q => by rcases hJ25_45 with a | ⟨_, a⟩; exact a q.2.1; exact a q.2.2
                          exact absurd hc36_49 hc7_47
                      ·
                        refine own_st (T' := s₁) (F' := (mkF m 11 #[.val (.ref x0), .val (.int (5 : Int32))] [(.ref x0)])) (fun _ k => XS.aloadN X0.here hx rfl (hb hby d3_10) rfl rfl k) ?_
                        refine own_st (T' := s₁) (F' := (mkF m 12 #[.val (.ref x0), .val (.int (5 : Int32))] [(.int (5 : Int32)), (.ref x0)])) (fun _ k => XS.iloadN X0.here hx rfl (hb hby d3_11) rfl  k) ?_
                        obtain ⟨cl52, Ar52, Aq52, As52, Am52, Ah52, Au52⟩ := id V_B
                        have hin52 : ¬ ((5 : Int32) < 0 ∨ cl52.slots.size ≤ ((5 : Int32)).toNatClampNeg) := inb_of As52 ⟨by decide, own_ltl hc7_47 (by decide)⟩
                        have hat52 : cl52.slots[((5 : Int32)).toNatClampNeg]? = some (.int b5) := Ah52.at hin52 (rfl)
                        refine own_st (T' := s₁) (F' := (mkF m 13 #[.val (.ref x0), .val (.int (5 : Int32))] [(.int b5)])) (fun _ k => X0.baloadBytes hx (j := (5 : Int32)) (v := (.int b5)) (by rw [e0]; exact Ar52.1) (State.isArrayOf_alike hZ.alike Ar52.2.1) Ar52.2.2 hin52 hat52 (g := (mkF m 12 #[.val (.ref x0), .val (.int (5 : Int32))] [(.int (5 : Int32)), (.ref x0)])) rfl rfl (hb hby d3_12) _ k) ?_
                        have J25_54 : (((¬ (b5 = (0 : Int32)))) ∨ ((b5 = (0 : Int32)) ∧ (¬ (b6 = (1 : Int32))))) → own_Go p e below s (Q3 Z x0 aE ke ve kb n b0 b1 b2 b3 b4 b5 b6 b7 h0 n0) ({ frames := 0, cells := 0, slots := 0, locals := 0 } : Room).cells ({ frames := 0, cells := 0, slots := 0, locals := 0 } : Room).slots s₁ (mkF m 25 #[.val (.ref x0), .val (.int (5 : Int32))] []) := by
                          intro hJ25_54
                          refine own_st (T' := s₁) (F' := (mkF m 28 #[.val (.ref x0), .val (.int (6 : Int32))] [])) (fun _ k => XS.iinc X0.here hx rfl (hb hby d3_25) rfl (l' := #[.val (.ref x0), .val (.int (6 : Int32))]) rfl k) ?_
                          refine own_st (T' := s₁) (F' := (mkF m 2 #[.val (.ref x0), .val (.int (6 : Int32))] [])) (fun _ k => XS.goto X0.here hx rfl (pc0 := 28) (pc' := 2) rfl (hb hby d3_28) (by decide) (by decide) k) ?_
                          refine own_st (T' := s₁) (F' := (mkF m 3 #[.val (.ref x0), .val (.int (6 : Int32))] [(.int (6 : Int32))])) (fun _ k => XS.iloadN X0.here hx rfl (hb hby d3_2) rfl  k) ?_
                          refine own_st (T' := s₁) (F' := (mkF m 4 #[.val (.ref x0), .val (.int (6 : Int32))] [(.int (1 : Int32)), (.int (6 : Int32))])) (fun _ k => XS.iconst X0.here hx rfl (hb hby d3_3) k) ?_
                          refine own_st (T' := s₁) (F' := (mkF m 5 #[.val (.ref x0), .val (.int (6 : Int32))] [(.int (7 : Int32))])) (fun _ k => XS.iadd X0.here hx rfl (hb hby d3_4) rfl k) ?_
                          refine own_st (T' := s₁) (F' := (mkF m 6 #[.val (.ref x0), .val (.int (6 : Int32))] [(.ref x0), (.int (7 : Int32))])) (fun _ k => XS.aloadN X0.here hx rfl (hb hby d3_5) rfl rfl k) ?_
                          obtain ⟨cl55, Ar55, Aq55, As55, Am55, Ah55, Au55⟩ := id V_B
                          refine own_st (T' := s₁) (F' := (mkF m 7 #[.val (.ref x0), .val (.int (6 : Int32))] [(.int n), (.int (7 : Int32))])) (fun _ k => X0.arraylength hx (cell := cl55) (by rw [e0]; exact Ar55.1) (State.isArrayOf_alike hZ.alike Ar55.2.1) (g := (mkF m 6 #[.val (.ref x0), .val (.int (6 : Int32))] [(.ref x0), (.int (7 : Int32))])) rfl (rest := [(.int (7 : Int32))]) rfl (hb hby d3_6) _ (by rw [len_of As55 Am55]; exact k)) ?_
                          refine own_icmp X0 hx (pc' := 31) (pc2 := 10) (hb hby d3_7) (by decide) (by decide) rfl (fun (hc7_56 : ¬ ((7 : Int32) < n)) => ?_) (fun (hc7_56 : (7 : Int32) < n) => ?_)
                          ·
                            refine own_st (T' := s₁) (F' := (mkF m 32 #[.val (.ref x0), .val (.int (6 : Int32))] [(.int (6 : Int32))])) (fun _ k => XS.iloadN X0.here hx rfl (hb hby d3_31) rfl  k) ?_
                            refine own_st (T' := s₁) (F' := (mkF m 33 #[.val (.ref x0), .val (.int (6 : Int32))] [(.int (1 : Int32)), (.int (6 : Int32))])) (fun _ k => XS.iconst X0.here hx rfl (hb hby d3_32) k) ?_
                            refine own_st (T' := s₁) (F' := (mkF m 34 #[.val (.ref x0), .val (.int (6 : Int32))] [(.int (7 : Int32))])) (fun _ k => XS.iadd X0.here hx rfl (hb hby d3_33) rfl k) ?_
                            refine own_st (T' := s₁) (F' := (mkF m 35 #[.val (.ref x0), .val (.int (6 : Int32))] [(.ref x0), (.int (7 : Int32))])) (fun _ k => XS.aloadN X0.here hx rfl (hb hby d3_34) rfl rfl k) ?_
                            obtain ⟨cl57, Ar57, Aq57, As57, Am57, Ah57, Au57⟩ := id V_B
                            refine own_st (T' := s₁) (F' := (mkF m 36 #[.val (.ref x0), .val (.int (6 : Int32))] [(.int n), (.int (7 : Int32))])) (fun _ k => X0.arraylength hx (cell := cl57) (by rw [e0]; exact Ar57.1) (State.isArrayOf_alike hZ.alike Ar57.2.1) (g := (mkF m 35 #[.val (.ref x0), .val (.int (6 : Int32))] [(.ref x0), (.int (7 : Int32))])) rfl (rest := [(.int (7 : Int32))]) rfl (hb hby d3_35) _ (by rw [len_of As57 Am57]; exact k)) ?_
                            refine own_icmp X0 hx (pc' := 48) (pc2 := 39) (hb hby d3_36) (by decide) (by decide) rfl (fun (hc36_58 : ¬ ((7 : Int32) < n)) => ?_) (fun (hc36_58 : (7 : Int32) < n) => ?_)
                            ·
                              refine own_st (T' := s₁) (F' := (mkF m 49 #[.val (.ref x0), .val (.int (6 : Int32))] [(.int (-1 : Int32))])) (fun _ k => XS.iconst X0.here hx rfl (hb hby d3_48) k) ?_
                              refine own_retI X0 hx hlk Bd.returns (hb hby d3_49) ?_ (by decide) (by decide)
                              rw [e0]
                              refine ⟨⟨_, rfl, ?_⟩, N0, rfl⟩
                              have np0 : ¬ own_pair n b0 b1 (1 : Int32) := fun q => by rcases hJ25_9 with a | ⟨_, a⟩; exact a q.2.1; exact a q.2.2
                              have np1 : ¬ own_pair n b1 b2 (2 : Int32) := fun q => by rcases hJ25_18 with a | ⟨_, a⟩; exact a q.2.1; exact a q.2.2
                              have np2 : ¬ own_pair n b2 b3 (3 : Int32) := fun q => by rcases hJ25_27 with a | ⟨_, a⟩; exact a q.2.1; exact a q.2.2
                              have np3 : ¬ own_pair n b3 b4 (4 : Int32) := fun q => by rcases hJ25_36 with a | ⟨_, a⟩; exact a q.2.1; exact a q.2.2
                              have np4 : ¬ own_pair n b4 b5 (5 : Int32) := fun q => by rcases hJ25_45 with a | ⟨_, a⟩; exact a q.2.1; exact a q.2.2
                              have np5 : ¬ own_pair n b5 b6 (6 : Int32) := fun q => by rcases hJ25_54 with a | ⟨_, a⟩; exact a q.2.1; exact a q.2.2
                              have np6 : ¬ own_pair n b6 b7 (7 : Int32) := fun q => hc7_56 (own_ltl q.1 (by decide))
                              exact Or.inr (Or.inr (Or.inr (Or.inr (Or.inr (Or.inr (Or.inr (⟨np0, np1, np2, np3, np4, np5, np6, rfl⟩)))))))
                            ·
                              refine own_st (T' := s₁) (F' := (mkF m 40 #[.val (.ref x0), .val (.int (6 : Int32))] [(.int (6 : Int32))])) (fun _ k => XS.iloadN X0.here hx rfl (hb hby d3_39) rfl  k) ?_
                              obtain ⟨T59, X59, e59, st59⟩ := getS2 X0 hx hZ hown (host := "") (Or.inl (hw _ (List.mem_of_getElem? (i := 17) rfl))) Via.refl e0 S_E (g := (mkF m 40 #[.val (.ref x0), .val (.int (6 : Int32))] [(.int (6 : Int32))])) rfl (hb hby d3_40)
                              refine own_st (T' := T59) (F' := (mkF m 43 #[.val (.ref x0), .val (.int (6 : Int32))] [(.ref aE), (.int (6 : Int32))])) (fun _ k => st59 _ k) ?_
                              obtain ⟨cl60, Ar60, Aq60, As60, Am60, Ah60, Au60⟩ := id V_E
                              refine own_st (T' := T59) (F' := (mkF m 44 #[.val (.ref x0), .val (.int (6 : Int32))] [(.int (2 : Int32)), (.int (6 : Int32))])) (fun _ k => X59.arraylength hx (cell := cl60) (by rw [e59]; exact Ar60.1) (State.isArrayOf_alike hZ.alike Ar60.2.1) (g := (mkF m 43 #[.val (.ref x0), .val (.int (6 : Int32))] [(.ref aE), (.int (6 : Int32))])) rfl (rest := [(.int (6 : Int32))]) rfl (hb hby d3_43) _ (by rw [len_of As60 Am60]; exact k)) ?_
                              refine own_st (T' := T59) (F' := (mkF m 45 #[.val (.ref x0), .val (.int (6 : Int32))] [(.int (8 : Int32))])) (fun _ k => XS.iadd X59.here hx rfl (hb hby d3_44) rfl k) ?_
                              refine own_st (T' := T59) (F' := (mkF m 49 #[.val (.ref x0), .val (.int (6 : Int32))] [(.int (8 : Int32))])) (fun _ k => XS.goto X59.here hx rfl (pc0 := 45) (pc' := 49) rfl (hb hby d3_45) (by decide) (by decide) k) ?_
                              refine own_retI X59 hx hlk Bd.returns (hb hby d3_49) ?_ (by decide) (by decide)
                              rw [e59]
                              refine ⟨⟨_, rfl, ?_⟩, N0, rfl⟩
                              have np0 : ¬ own_pair n b0 b1 (1 : Int32) := fun q => by rcases hJ25_9 with a | ⟨_, a⟩; exact a q.2.1; exact a q.2.2
                              have np1 : ¬ own_pair n b1 b2 (2 : Int32) := fun q => by rcases hJ25_18 with a | ⟨_, a⟩; exact a q.2.1; exact a q.2.2
                              have np2 : ¬ own_pair n b2 b3 (3 : Int32) := fun q => by rcases hJ25_27 with a | ⟨_, a⟩; exact a q.2.1; exact a q.2.2
                              have np3 : ¬ own_pair n b3 b4 (4 : Int32) := fun q => by rcases hJ25_36 with a | ⟨_, a⟩; exact a q.2.1; exact a q.2.2
                              have np4 : ¬ own_pair n b4 b5 (5 : Int32) := fun q => by rcases hJ25_45 with a | ⟨_, a⟩; exact a q.2.1; exact a q.2.2
                              have np5 : ¬ own_pair n b5 b6 (6 : Int32) := fun q => by rcases hJ25_54 with a | ⟨_, a⟩; exact a q.2.1; exact a q.2.2
                              exact absurd hc36_58 hc7_56
                          ·
                            refine own_st (T' := s₁) (F' := (mkF m 11 #[.val (.ref x0), .val (.int (6 : Int32))] [(.ref x0)])) (fun _ k => XS.aloadN X0.here hx rfl (hb hby d3_10) rfl rfl k) ?_
                            refine own_st (T' := s₁) (F' := (mkF m 12 #[.val (.ref x0), .val (.int (6 : Int32))] [(.int (6 : Int32)), (.ref x0)])) (fun _ k => XS.iloadN X0.here hx rfl (hb hby d3_11) rfl  k) ?_
                            obtain ⟨cl61, Ar61, Aq61, As61, Am61, Ah61, Au61⟩ := id V_B
                            have hin61 : ¬ ((6 : Int32) < 0 ∨ cl61.slots.size ≤ ((6 : Int32)).toNatClampNeg) := inb_of As61 ⟨by decide, own_ltl hc7_56 (by decide)⟩
                            have hat61 : cl61.slots[((6 : Int32)).toNatClampNeg]? = some (.int b6) := Ah61.at hin61 (rfl)
                            refine own_st (T' := s₁) (F' := (mkF m 13 #[.val (.ref x0), .val (.int (6 : Int32))] [(.int b6)])) (fun _ k => X0.baloadBytes hx (j := (6 : Int32)) (v := (.int b6)) (by rw [e0]; exact Ar61.1) (State.isArrayOf_alike hZ.alike Ar61.2.1) Ar61.2.2 hin61 hat61 (g := (mkF m 12 #[.val (.ref x0), .val (.int (6 : Int32))] [(.int (6 : Int32)), (.ref x0)])) rfl rfl (hb hby d3_12) _ k) ?_
                            have J25_63 : (((¬ (b6 = (0 : Int32)))) ∨ ((b6 = (0 : Int32)) ∧ (¬ (b7 = (1 : Int32))))) → own_Go p e below s (Q3 Z x0 aE ke ve kb n b0 b1 b2 b3 b4 b5 b6 b7 h0 n0) ({ frames := 0, cells := 0, slots := 0, locals := 0 } : Room).cells ({ frames := 0, cells := 0, slots := 0, locals := 0 } : Room).slots s₁ (mkF m 25 #[.val (.ref x0), .val (.int (6 : Int32))] []) := by
                              intro hJ25_63
                              refine own_st (T' := s₁) (F' := (mkF m 28 #[.val (.ref x0), .val (.int (7 : Int32))] [])) (fun _ k => XS.iinc X0.here hx rfl (hb hby d3_25) rfl (l' := #[.val (.ref x0), .val (.int (7 : Int32))]) rfl k) ?_
                              refine own_st (T' := s₁) (F' := (mkF m 2 #[.val (.ref x0), .val (.int (7 : Int32))] [])) (fun _ k => XS.goto X0.here hx rfl (pc0 := 28) (pc' := 2) rfl (hb hby d3_28) (by decide) (by decide) k) ?_
                              refine own_st (T' := s₁) (F' := (mkF m 3 #[.val (.ref x0), .val (.int (7 : Int32))] [(.int (7 : Int32))])) (fun _ k => XS.iloadN X0.here hx rfl (hb hby d3_2) rfl  k) ?_
                              refine own_st (T' := s₁) (F' := (mkF m 4 #[.val (.ref x0), .val (.int (7 : Int32))] [(.int (1 : Int32)), (.int (7 : Int32))])) (fun _ k => XS.iconst X0.here hx rfl (hb hby d3_3) k) ?_
                              refine own_st (T' := s₁) (F' := (mkF m 5 #[.val (.ref x0), .val (.int (7 : Int32))] [(.int (8 : Int32))])) (fun _ k => XS.iadd X0.here hx rfl (hb hby d3_4) rfl k) ?_
                              refine own_st (T' := s₁) (F' := (mkF m 6 #[.val (.ref x0), .val (.int (7 : Int32))] [(.ref x0), (.int (8 : Int32))])) (fun _ k => XS.aloadN X0.here hx rfl (hb hby d3_5) rfl rfl k) ?_
                              obtain ⟨cl64, Ar64, Aq64, As64, Am64, Ah64, Au64⟩ := id V_B
                              refine own_st (T' := s₁) (F' := (mkF m 7 #[.val (.ref x0), .val (.int (7 : Int32))] [(.int n), (.int (8 : Int32))])) (fun _ k => X0.arraylength hx (cell := cl64) (by rw [e0]; exact Ar64.1) (State.isArrayOf_alike hZ.alike Ar64.2.1) (g := (mkF m 6 #[.val (.ref x0), .val (.int (7 : Int32))] [(.ref x0), (.int (8 : Int32))])) rfl (rest := [(.int (8 : Int32))]) rfl (hb hby d3_6) _ (by rw [len_of As64 Am64]; exact k)) ?_
                              refine own_icmp X0 hx (pc' := 31) (pc2 := 10) (hb hby d3_7) (by decide) (by decide) rfl (fun (hc7_65 : ¬ ((8 : Int32) < n)) => ?_) (fun (hc7_65 : (8 : Int32) < n) => ?_)
                              ·
                                refine own_st (T' := s₁) (F' := (mkF m 32 #[.val (.ref x0), .val (.int (7 : Int32))] [(.int (7 : Int32))])) (fun _ k => XS.iloadN X0.here hx rfl (hb hby d3_31) rfl  k) ?_
                                refine own_st (T' := s₁) (F' := (mkF m 33 #[.val (.ref x0), .val (.int (7 : Int32))] [(.int (1 : Int32)), (.int (7 : Int32))])) (fun _ k => XS.iconst X0.here hx rfl (hb hby d3_32) k) ?_
                                refine own_st (T' := s₁) (F' := (mkF m 34 #[.val (.ref x0), .val (.int (7 : Int32))] [(.int (8 : Int32))])) (fun _ k => XS.iadd X0.here hx rfl (hb hby d3_33) rfl k) ?_
                                refine own_st (T' := s₁) (F' := (mkF m 35 #[.val (.ref x0), .val (.int (7 : Int32))] [(.ref x0), (.int (8 : Int32))])) (fun _ k => XS.aloadN X0.here hx rfl (hb hby d3_34) rfl rfl k) ?_
                                obtain ⟨cl66, Ar66, Aq66, As66, Am66, Ah66, Au66⟩ := id V_B
                                refine own_st (T' := s₁) (F' := (mkF m 36 #[.val (.ref x0), .val (.int (7 : Int32))] [(.int n), (.int (8 : Int32))])) (fun _ k => X0.arraylength hx (cell := cl66) (by rw [e0]; exact Ar66.1) (State.isArrayOf_alike hZ.alike Ar66.2.1) (g := (mkF m 35 #[.val (.ref x0), .val (.int (7 : Int32))] [(.ref x0), (.int (8 : Int32))])) rfl (rest := [(.int (8 : Int32))]) rfl (hb hby d3_35) _ (by rw [len_of As66 Am66]; exact k)) ?_
                                refine own_icmp X0 hx (pc' := 48) (pc2 := 39) (hb hby d3_36) (by decide) (by decide) rfl (fun (hc36_67 : ¬ ((8 : Int32) < n)) => ?_) (fun (hc36_67 : (8 : Int32) < n) => ?_)
                                ·
                                  refine own_st (T' := s₁) (F' := (mkF m 49 #[.val (.ref x0), .val (.int (7 : Int32))] [(.int (-1 : Int32))])) (fun _ k => XS.iconst X0.here hx rfl (hb hby d3_48) k) ?_
                                  refine own_retI X0 hx hlk Bd.returns (hb hby d3_49) ?_ (by decide) (by decide)
                                  rw [e0]
                                  refine ⟨⟨_, rfl, ?_⟩, N0, rfl⟩
                                  have np0 : ¬ own_pair n b0 b1 (1 : Int32) := fun q => by rcases hJ25_9 with a | ⟨_, a⟩; exact a q.2.1; exact a q.2.2
                                  have np1 : ¬ own_pair n b1 b2 (2 : Int32) := fun q => by rcases hJ25_18 with a | ⟨_, a⟩; exact a q.2.1; exact a q.2.2
                                  have np2 : ¬ own_pair n b2 b3 (3 : Int32) := fun q => by rcases hJ25_27 with a | ⟨_, a⟩; exact a q.2.1; exact a q.2.2
                                  have np3 : ¬ own_pair n b3 b4 (4 : Int32) := fun q => by rcases hJ25_36 with a | ⟨_, a⟩; exact a q.2.1; exact a q.2.2
                                  have np4 : ¬ own_pair n b4 b5 (5 : Int32) := fun q => by rcases hJ25_45 with a | ⟨_, a⟩; exact a q.2.1; exact a q.2.2
                                  have np5 : ¬ own_pair n b5 b6 (6 : Int32) := fun q => by rcases hJ25_54 with a | ⟨_, a⟩; exact a q.2.1; exact a q.2.2
                                  have np6 : ¬ own_pair n b6 b7 (7 : Int32) := fun q => by rcases hJ25_63 with a | ⟨_, a⟩; exact a q.2.1; exact a q.2.2
                                  exact Or.inr (Or.inr (Or.inr (Or.inr (Or.inr (Or.inr (Or.inr (⟨np0, np1, np2, np3, np4, np5, np6, rfl⟩)))))))
                                ·
                                  refine own_st (T' := s₁) (F' := (mkF m 40 #[.val (.ref x0), .val (.int (7 : Int32))] [(.int (7 : Int32))])) (fun _ k => XS.iloadN X0.here hx rfl (hb hby d3_39) rfl  k) ?_
                                  obtain ⟨T68, X68, e68, st68⟩ := getS2 X0 hx hZ hown (host := "") (Or.inl (hw _ (List.mem_of_getElem? (i := 17) rfl))) Via.refl e0 S_E (g := (mkF m 40 #[.val (.ref x0), .val (.int (7 : Int32))] [(.int (7 : Int32))])) rfl (hb hby d3_40)
                                  refine own_st (T' := T68) (F' := (mkF m 43 #[.val (.ref x0), .val (.int (7 : Int32))] [(.ref aE), (.int (7 : Int32))])) (fun _ k => st68 _ k) ?_
                                  obtain ⟨cl69, Ar69, Aq69, As69, Am69, Ah69, Au69⟩ := id V_E
                                  refine own_st (T' := T68) (F' := (mkF m 44 #[.val (.ref x0), .val (.int (7 : Int32))] [(.int (2 : Int32)), (.int (7 : Int32))])) (fun _ k => X68.arraylength hx (cell := cl69) (by rw [e68]; exact Ar69.1) (State.isArrayOf_alike hZ.alike Ar69.2.1) (g := (mkF m 43 #[.val (.ref x0), .val (.int (7 : Int32))] [(.ref aE), (.int (7 : Int32))])) rfl (rest := [(.int (7 : Int32))]) rfl (hb hby d3_43) _ (by rw [len_of As69 Am69]; exact k)) ?_
                                  refine own_st (T' := T68) (F' := (mkF m 45 #[.val (.ref x0), .val (.int (7 : Int32))] [(.int (9 : Int32))])) (fun _ k => XS.iadd X68.here hx rfl (hb hby d3_44) rfl k) ?_
                                  refine own_st (T' := T68) (F' := (mkF m 49 #[.val (.ref x0), .val (.int (7 : Int32))] [(.int (9 : Int32))])) (fun _ k => XS.goto X68.here hx rfl (pc0 := 45) (pc' := 49) rfl (hb hby d3_45) (by decide) (by decide) k) ?_
                                  refine own_retI X68 hx hlk Bd.returns (hb hby d3_49) ?_ (by decide) (by decide)
                                  rw [e68]
                                  refine ⟨⟨_, rfl, ?_⟩, N0, rfl⟩
                                  have np0 : ¬ own_pair n b0 b1 (1 : Int32) := fun q => by rcases hJ25_9 with a | ⟨_, a⟩; exact a q.2.1; exact a q.2.2
                                  have np1 : ¬ own_pair n b1 b2 (2 : Int32) := fun q => by rcases hJ25_18 with a | ⟨_, a⟩; exact a q.2.1; exact a q.2.2
                                  have np2 : ¬ own_pair n b2 b3 (3 : Int32) := fun q => by rcases hJ25_27 with a | ⟨_, a⟩; exact a q.2.1; exact a q.2.2
                                  have np3 : ¬ own_pair n b3 b4 (4 : Int32) := fun q => by rcases hJ25_36 with a | ⟨_, a⟩; exact a q.2.1; exact a q.2.2
                                  have np4 : ¬ own_pair n b4 b5 (5 : Int32) := fun q => by rcases hJ25_45 with a | ⟨_, a⟩; exact a q.2.1; exact a q.2.2
                                  have np5 : ¬ own_pair n b5 b6 (6 : Int32) := fun q => by rcases hJ25_54 with a | ⟨_, a⟩; exact a q.2.1; exact a q.2.2
                                  have np6 : ¬ own_pair n b6 b7 (7 : Int32) := fun q => by rcases hJ25_63 with a | ⟨_, a⟩; exact a q.2.1; exact a q.2.2
                                  exact absurd hc36_67 hc7_65
                              ·
                                exact absurd hc7_65 hn8
                            refine own_ifc X0 hx (pc' := 25) (pc2 := 16) (hb hby d3_13) (by decide) (by decide) rfl (fun (hc13_62 : ¬ (b6 = (0 : Int32))) => ?_) (fun (hc13_62 : b6 = (0 : Int32)) => ?_)
                            ·
                              exact J25_63  (Or.inl (hc13_62))
                            ·
                              refine own_st (T' := s₁) (F' := (mkF m 17 #[.val (.ref x0), .val (.int (6 : Int32))] [(.ref x0)])) (fun _ k => XS.aloadN X0.here hx rfl (hb hby d3_16) rfl rfl k) ?_
                              refine own_st (T' := s₁) (F' := (mkF m 18 #[.val (.ref x0), .val (.int (6 : Int32))] [(.int (6 : Int32)), (.ref x0)])) (fun _ k => XS.iloadN X0.here hx rfl (hb hby d3_17) rfl  k) ?_
                              refine own_st (T' := s₁) (F' := (mkF m 19 #[.val (.ref x0), .val (.int (6 : Int32))] [(.int (1 : Int32)), (.int (6 : Int32)), (.ref x0)])) (fun _ k => XS.iconst X0.here hx rfl (hb hby d3_18) k) ?_
                              refine own_st (T' := s₁) (F' := (mkF m 20 #[.val (.ref x0), .val (.int (6 : Int32))] [(.int (7 : Int32)), (.ref x0)])) (fun _ k => XS.iadd X0.here hx rfl (hb hby d3_19) rfl k) ?_
                              obtain ⟨cl70, Ar70, Aq70, As70, Am70, Ah70, Au70⟩ := id V_B
                              have hin70 : ¬ ((7 : Int32) < 0 ∨ cl70.slots.size ≤ ((7 : Int32)).toNatClampNeg) := inb_of As70 ⟨by decide, own_ltl hc7_56 (by decide)⟩
                              have hat70 : cl70.slots[((7 : Int32)).toNatClampNeg]? = some (.int b7) := Ah70.at hin70 (rfl)
                              refine own_st (T' := s₁) (F' := (mkF m 21 #[.val (.ref x0), .val (.int (6 : Int32))] [(.int b7)])) (fun _ k => X0.baloadBytes hx (j := (7 : Int32)) (v := (.int b7)) (by rw [e0]; exact Ar70.1) (State.isArrayOf_alike hZ.alike Ar70.2.1) Ar70.2.2 hin70 hat70 (g := (mkF m 20 #[.val (.ref x0), .val (.int (6 : Int32))] [(.int (7 : Int32)), (.ref x0)])) rfl rfl (hb hby d3_20) _ k) ?_
                              refine own_st (T' := s₁) (F' := (mkF m 22 #[.val (.ref x0), .val (.int (6 : Int32))] [(.int (1 : Int32)), (.int b7)])) (fun _ k => XS.iconst X0.here hx rfl (hb hby d3_21) k) ?_
                              refine own_icmp X0 hx (pc' := 31) (pc2 := 25) (hb hby d3_22) (by decide) (by decide) rfl (fun (hc22_71 : b7 = (1 : Int32)) => ?_) (fun (hc22_71 : ¬ (b7 = (1 : Int32))) => ?_)
                              ·
                                refine own_st (T' := s₁) (F' := (mkF m 32 #[.val (.ref x0), .val (.int (6 : Int32))] [(.int (6 : Int32))])) (fun _ k => XS.iloadN X0.here hx rfl (hb hby d3_31) rfl  k) ?_
                                refine own_st (T' := s₁) (F' := (mkF m 33 #[.val (.ref x0), .val (.int (6 : Int32))] [(.int (1 : Int32)), (.int (6 : Int32))])) (fun _ k => XS.iconst X0.here hx rfl (hb hby d3_32) k) ?_
                                refine own_st (T' := s₁) (F' := (mkF m 34 #[.val (.ref x0), .val (.int (6 : Int32))] [(.int (7 : Int32))])) (fun _ k => XS.iadd X0.here hx rfl (hb hby d3_33) rfl k) ?_
                                refine own_st (T' := s₁) (F' := (mkF m 35 #[.val (.ref x0), .val (.int (6 : Int32))] [(.ref x0), (.int (7 : Int32))])) (fun _ k => XS.aloadN X0.here hx rfl (hb hby d3_34) rfl rfl k) ?_
                                obtain ⟨cl72, Ar72, Aq72, As72, Am72, Ah72, Au72⟩ := id V_B
                                refine own_st (T' := s₁) (F' := (mkF m 36 #[.val (.ref x0), .val (.int (6 : Int32))] [(.int n), (.int (7 : Int32))])) (fun _ k => X0.arraylength hx (cell := cl72) (by rw [e0]; exact Ar72.1) (State.isArrayOf_alike hZ.alike Ar72.2.1) (g := (mkF m 35 #[.val (.ref x0), .val (.int (6 : Int32))] [(.ref x0), (.int (7 : Int32))])) rfl (rest := [(.int (7 : Int32))]) rfl (hb hby d3_35) _ (by rw [len_of As72 Am72]; exact k)) ?_
                                refine own_icmp X0 hx (pc' := 48) (pc2 := 39) (hb hby d3_36) (by decide) (by decide) rfl (fun (hc36_73 : ¬ ((7 : Int32) < n)) => ?_) (fun (hc36_73 : (7 : Int32) < n) => ?_)
                                ·
                                  refine own_st (T' := s₁) (F' := (mkF m 49 #[.val (.ref x0), .val (.int (6 : Int32))] [(.int (-1 : Int32))])) (fun _ k => XS.iconst X0.here hx rfl (hb hby d3_48) k) ?_
                                  refine own_retI X0 hx hlk Bd.returns (hb hby d3_49) ?_ (by decide) (by decide)
                                  rw [e0]
                                  refine ⟨⟨_, rfl, ?_⟩, N0, rfl⟩
                                  have np0 : ¬ own_pair n b0 b1 (1 : Int32) := fun q => by rcases hJ25_9 with a | ⟨_, a⟩; exact a q.2.1; exact a q.2.2
                                  have np1 : ¬ own_pair n b1 b2 (2 : Int32) := fun q => by rcases hJ25_18 with a | ⟨_, a⟩; exact a q.2.1; exact a q.2.2
                                  have np2 : ¬ own_pair n b2 b3 (3 : Int32) := fun q => by rcases hJ25_27 with a | ⟨_, a⟩; exact a q.2.1; exact a q.2.2
                                  have np3 : ¬ own_pair n b3 b4 (4 : Int32) := fun q => by rcases hJ25_36 with a | ⟨_, a⟩; exact a q.2.1; exact a q.2.2
                                  have np4 : ¬ own_pair n b4 b5 (5 : Int32) := fun q => by rcases hJ25_45 with a | ⟨_, a⟩; exact a q.2.1; exact a q.2.2
                                  have np5 : ¬ own_pair n b5 b6 (6 : Int32) := fun q => by rcases hJ25_54 with a | ⟨_, a⟩; exact a q.2.1; exact a q.2.2
                                  exact absurd hc7_56 hc36_73
                                ·
                                  refine own_st (T' := s₁) (F' := (mkF m 40 #[.val (.ref x0), .val (.int (6 : Int32))] [(.int (6 : Int32))])) (fun _ k => XS.iloadN X0.here hx rfl (hb hby d3_39) rfl  k) ?_
                                  obtain ⟨T74, X74, e74, st74⟩ := getS2 X0 hx hZ hown (host := "") (Or.inl (hw _ (List.mem_of_getElem? (i := 17) rfl))) Via.refl e0 S_E (g := (mkF m 40 #[.val (.ref x0), .val (.int (6 : Int32))] [(.int (6 : Int32))])) rfl (hb hby d3_40)
                                  refine own_st (T' := T74) (F' := (mkF m 43 #[.val (.ref x0), .val (.int (6 : Int32))] [(.ref aE), (.int (6 : Int32))])) (fun _ k => st74 _ k) ?_
                                  obtain ⟨cl75, Ar75, Aq75, As75, Am75, Ah75, Au75⟩ := id V_E
                                  refine own_st (T' := T74) (F' := (mkF m 44 #[.val (.ref x0), .val (.int (6 : Int32))] [(.int (2 : Int32)), (.int (6 : Int32))])) (fun _ k => X74.arraylength hx (cell := cl75) (by rw [e74]; exact Ar75.1) (State.isArrayOf_alike hZ.alike Ar75.2.1) (g := (mkF m 43 #[.val (.ref x0), .val (.int (6 : Int32))] [(.ref aE), (.int (6 : Int32))])) rfl (rest := [(.int (6 : Int32))]) rfl (hb hby d3_43) _ (by rw [len_of As75 Am75]; exact k)) ?_
                                  refine own_st (T' := T74) (F' := (mkF m 45 #[.val (.ref x0), .val (.int (6 : Int32))] [(.int (8 : Int32))])) (fun _ k => XS.iadd X74.here hx rfl (hb hby d3_44) rfl k) ?_
                                  refine own_st (T' := T74) (F' := (mkF m 49 #[.val (.ref x0), .val (.int (6 : Int32))] [(.int (8 : Int32))])) (fun _ k => XS.goto X74.here hx rfl (pc0 := 45) (pc' := 49) rfl (hb hby d3_45) (by decide) (by decide) k) ?_
                                  refine own_retI X74 hx hlk Bd.returns (hb hby d3_49) ?_ (by decide) (by decide)
                                  rw [e74]
                                  refine ⟨⟨_, rfl, ?_⟩, N0, rfl⟩
                                  have np0 : ¬ own_pair n b0 b1 (1 : Int32) := fun q => by rcases hJ25_9 with a | ⟨_, a⟩; exact a q.2.1; exact a q.2.2
                                  have np1 : ¬ own_pair n b1 b2 (2 : Int32) := fun q => by rcases hJ25_18 with a | ⟨_, a⟩; exact a q.2.1; exact a q.2.2
                                  have np2 : ¬ own_pair n b2 b3 (3 : Int32) := fun q => by rcases hJ25_27 with a | ⟨_, a⟩; exact a q.2.1; exact a q.2.2
                                  have np3 : ¬ own_pair n b3 b4 (4 : Int32) := fun q => by rcases hJ25_36 with a | ⟨_, a⟩; exact a q.2.1; exact a q.2.2
                                  have np4 : ¬ own_pair n b4 b5 (5 : Int32) := fun q => by rcases hJ25_45 with a | ⟨_, a⟩; exact a q.2.1; exact a q.2.2
                                  have np5 : ¬ own_pair n b5 b6 (6 : Int32) := fun q => by rcases hJ25_54 with a | ⟨_, a⟩; exact a q.2.1; exact a q.2.2
                                  exact Or.inr (Or.inr (Or.inr (Or.inr (Or.inr (Or.inr (Or.inl ⟨np0, np1, np2, np3, np4, np5, ⟨hc7_56, hc13_62, hc22_71⟩, rfl⟩))))))
                              ·
                                exact J25_63  (Or.inr (⟨hc13_62, hc22_71⟩))
                        refine own_ifc X0 hx (pc' := 25) (pc2 := 16) (hb hby d3_13) (by decide) (by decide) rfl (fun (hc13_53 : ¬ (b5 = (0 : Int32))) => ?_) (fun (hc13_53 : b5 = (0 : Int32)) => ?_)
                        ·
                          exact J25_54  (Or.inl (hc13_53))
                        ·
                          refine own_st (T' := s₁) (F' := (mkF m 17 #[.val (.ref x0), .val (.int (5 : Int32))] [(.ref x0)])) (fun _ k => XS.aloadN X0.here hx rfl (hb hby d3_16) rfl rfl k) ?_
                          refine own_st (T' := s₁) (F' := (mkF m 18 #[.val (.ref x0), .val (.int (5 : Int32))] [(.int (5 : Int32)), (.ref x0)])) (fun _ k => XS.iloadN X0.here hx rfl (hb hby d3_17) rfl  k) ?_
                          refine own_st (T' := s₁) (F' := (mkF m 19 #[.val (.ref x0), .val (.int (5 : Int32))] [(.int (1 : Int32)), (.int (5 : Int32)), (.ref x0)])) (fun _ k => XS.iconst X0.here hx rfl (hb hby d3_18) k) ?_
                          refine own_st (T' := s₁) (F' := (mkF m 20 #[.val (.ref x0), .val (.int (5 : Int32))] [(.int (6 : Int32)), (.ref x0)])) (fun _ k => XS.iadd X0.here hx rfl (hb hby d3_19) rfl k) ?_
                          obtain ⟨cl76, Ar76, Aq76, As76, Am76, Ah76, Au76⟩ := id V_B
                          have hin76 : ¬ ((6 : Int32) < 0 ∨ cl76.slots.size ≤ ((6 : Int32)).toNatClampNeg) := inb_of As76 ⟨by decide, own_ltl hc7_47 (by decide)⟩
                          have hat76 : cl76.slots[((6 : Int32)).toNatClampNeg]? = some (.int b6) := Ah76.at hin76 (rfl)
                          refine own_st (T' := s₁) (F' := (mkF m 21 #[.val (.ref x0), .val (.int (5 : Int32))] [(.int b6)])) (fun _ k => X0.baloadBytes hx (j := (6 : Int32)) (v := (.int b6)) (by rw [e0]; exact Ar76.1) (State.isArrayOf_alike hZ.alike Ar76.2.1) Ar76.2.2 hin76 hat76 (g := (mkF m 20 #[.val (.ref x0), .val (.int (5 : Int32))] [(.int (6 : Int32)), (.ref x0)])) rfl rfl (hb hby d3_20) _ k) ?_
                          refine own_st (T' := s₁) (F' := (mkF m 22 #[.val (.ref x0), .val (.int (5 : Int32))] [(.int (1 : Int32)), (.int b6)])) (fun _ k => XS.iconst X0.here hx rfl (hb hby d3_21) k) ?_
                          refine own_icmp X0 hx (pc' := 31) (pc2 := 25) (hb hby d3_22) (by decide) (by decide) rfl (fun (hc22_77 : b6 = (1 : Int32)) => ?_) (fun (hc22_77 : ¬ (b6 = (1 : Int32))) => ?_)
                          ·
                            refine own_st (T' := s₁) (F' := (mkF m 32 #[.val (.ref x0), .val (.int (5 : Int32))] [(.int (5 : Int32))])) (fun _ k => XS.iloadN X0.here hx rfl (hb hby d3_31) rfl  k) ?_
                            refine own_st (T' := s₁) (F' := (mkF m 33 #[.val (.ref x0), .val (.int (5 : Int32))] [(.int (1 : Int32)), (.int (5 : Int32))])) (fun _ k => XS.iconst X0.here hx rfl (hb hby d3_32) k) ?_
                            refine own_st (T' := s₁) (F' := (mkF m 34 #[.val (.ref x0), .val (.int (5 : Int32))] [(.int (6 : Int32))])) (fun _ k => XS.iadd X0.here hx rfl (hb hby d3_33) rfl k) ?_
                            refine own_st (T' := s₁) (F' := (mkF m 35 #[.val (.ref x0), .val (.int (5 : Int32))] [(.ref x0), (.int (6 : Int32))])) (fun _ k => XS.aloadN X0.here hx rfl (hb hby d3_34) rfl rfl k) ?_
                            obtain ⟨cl78, Ar78, Aq78, As78, Am78, Ah78, Au78⟩ := id V_B
                            refine own_st (T' := s₁) (F' := (mkF m 36 #[.val (.ref x0), .val (.int (5 : Int32))] [(.int n), (.int (6 : Int32))])) (fun _ k => X0.arraylength hx (cell := cl78) (by rw [e0]; exact Ar78.1) (State.isArrayOf_alike hZ.alike Ar78.2.1) (g := (mkF m 35 #[.val (.ref x0), .val (.int (5 : Int32))] [(.ref x0), (.int (6 : Int32))])) rfl (rest := [(.int (6 : Int32))]) rfl (hb hby d3_35) _ (by rw [len_of As78 Am78]; exact k)) ?_
                            refine own_icmp X0 hx (pc' := 48) (pc2 := 39) (hb hby d3_36) (by decide) (by decide) rfl (fun (hc36_79 : ¬ ((6 : Int32) < n)) => ?_) (fun (hc36_79 : (6 : Int32) < n) => ?_)
                            ·
                              refine own_st (T' := s₁) (F' := (mkF m 49 #[.val (.ref x0), .val (.int (5 : Int32))] [(.int (-1 : Int32))])) (fun _ k => XS.iconst X0.here hx rfl (hb hby d3_48) k) ?_
                              refine own_retI X0 hx hlk Bd.returns (hb hby d3_49) ?_ (by decide) (by decide)
                              rw [e0]
                              refine ⟨⟨_, rfl, ?_⟩, N0, rfl⟩
                              have np0 : ¬ own_pair n b0 b1 (1 : Int32) := fun q => by rcases hJ25_9 with a | ⟨_, a⟩; exact a q.2.1; exact a q.2.2
                              have np1 : ¬ own_pair n b1 b2 (2 : Int32) := fun q => by rcases hJ25_18 with a | ⟨_, a⟩; exact a q.2.1; exact a q.2.2
                              have np2 : ¬ own_pair n b2 b3 (3 : Int32) := fun q => by rcases hJ25_27 with a | ⟨_, a⟩; exact a q.2.1; exact a q.2.2
                              have np3 : ¬ own_pair n b3 b4 (4 : Int32) := fun q => by rcases hJ25_36 with a | ⟨_, a⟩; exact a q.2.1; exact a q.2.2
                              have np4 : ¬ own_pair n b4 b5 (5 : Int32) := fun q => by rcases hJ25_45 with a | ⟨_, a⟩; exact a q.2.1; exact a q.2.2
                              exact absurd hc7_47 hc36_79
                            ·
                              refine own_st (T' := s₁) (F' := (mkF m 40 #[.val (.ref x0), .val (.int (5 : Int32))] [(.int (5 : Int32))])) (fun _ k => XS.iloadN X0.here hx rfl (hb hby d3_39) rfl  k) ?_
                              obtain ⟨T80, X80, e80, st80⟩ := getS2 X0 hx hZ hown (host := "") (Or.inl (hw _ (List.mem_of_getElem? (i := 17) rfl))) Via.refl e0 S_E (g := (mkF m 40 #[.val (.ref x0), .val (.int (5 : Int32))] [(.int (5 : Int32))])) rfl (hb hby d3_40)
                              refine own_st (T' := T80) (F' := (mkF m 43 #[.val (.ref x0), .val (.int (5 : Int32))] [(.ref aE), (.int (5 : Int32))])) (fun _ k => st80 _ k) ?_
                              obtain ⟨cl81, Ar81, Aq81, As81, Am81, Ah81, Au81⟩ := id V_E
                              refine own_st (T' := T80) (F' := (mkF m 44 #[.val (.ref x0), .val (.int (5 : Int32))] [(.int (2 : Int32)), (.int (5 : Int32))])) (fun _ k => X80.arraylength hx (cell := cl81) (by rw [e80]; exact Ar81.1) (State.isArrayOf_alike hZ.alike Ar81.2.1) (g := (mkF m 43 #[.val (.ref x0), .val (.int (5 : Int32))] [(.ref aE), (.int (5 : Int32))])) rfl (rest := [(.int (5 : Int32))]) rfl (hb hby d3_43) _ (by rw [len_of As81 Am81]; exact k)) ?_
                              refine own_st (T' := T80) (F' := (mkF m 45 #[.val (.ref x0), .val (.int (5 : Int32))] [(.int (7 : Int32))])) (fun _ k => XS.iadd X80.here hx rfl (hb hby d3_44) rfl k) ?_
                              refine own_st (T' := T80) (F' := (mkF m 49 #[.val (.ref x0), .val (.int (5 : Int32))] [(.int (7 : Int32))])) (fun _ k => XS.goto X80.here hx rfl (pc0 := 45) (pc' := 49) rfl (hb hby d3_45) (by decide) (by decide) k) ?_
                              refine own_retI X80 hx hlk Bd.returns (hb hby d3_49) ?_ (by decide) (by decide)
                              rw [e80]
                              refine ⟨⟨_, rfl, ?_⟩, N0, rfl⟩
                              have np0 : ¬ own_pair n b0 b1 (1 : Int32) := fun q => by rcases hJ25_9 with a | ⟨_, a⟩; exact a q.2.1; exact a q.2.2
                              have np1 : ¬ own_pair n b1 b2 (2 : Int32) := fun q => by rcases hJ25_18 with a | ⟨_, a⟩; exact a q.2.1; exact a q.2.2
                              have np2 : ¬ own_pair n b2 b3 (3 : Int32) := fun q => by rcases hJ25_27 with a | ⟨_, a⟩; exact a q.2.1; exact a q.2.2
                              have np3 : ¬ own_pair n b3 b4 (4 : Int32) := fun q => by rcases hJ25_36 with a | ⟨_, a⟩; exact a q.2.1; exact a q.2.2
                              have np4 : ¬ own_pair n b4 b5 (5 : Int32) := fun q => by rcases hJ25_45 with a | ⟨_, a⟩; exact a q.2.1; exact a q.2.2
                              exact Or.inr (Or.inr (Or.inr (Or.inr (Or.inr (Or.inl ⟨np0, np1, np2, np3, np4, ⟨hc7_47, hc13_53, hc22_77⟩, rfl⟩)))))
                          ·
                            exact J25_54  (Or.inr (⟨hc13_53, hc22_77⟩))
                    refine own_ifc X0 hx (pc' := 25) (pc2 := 16) (hb hby d3_13) (by decide) (by decide) rfl (fun (hc13_44 : ¬ (b4 = (0 : Int32))) => ?_) (fun (hc13_44 : b4 = (0 : Int32)) => ?_)
                    ·
                      exact J25_45  (Or.inl (hc13_44))
                    ·
                      refine own_st (T' := s₁) (F' := (mkF m 17 #[.val (.ref x0), .val (.int (4 : Int32))] [(.ref x0)])) (fun _ k => XS.aloadN X0.here hx rfl (hb hby d3_16) rfl rfl k) ?_
                      refine own_st (T' := s₁) (F' := (mkF m 18 #[.val (.ref x0), .val (.int (4 : Int32))] [(.int (4 : Int32)), (.ref x0)])) (fun _ k => XS.iloadN X0.here hx rfl (hb hby d3_17) rfl  k) ?_
                      refine own_st (T' := s₁) (F' := (mkF m 19 #[.val (.ref x0), .val (.int (4 : Int32))] [(.int (1 : Int32)), (.int (4 : Int32)), (.ref x0)])) (fun _ k => XS.iconst X0.here hx rfl (hb hby d3_18) k) ?_
                      refine own_st (T' := s₁) (F' := (mkF m 20 #[.val (.ref x0), .val (.int (4 : Int32))] [(.int (5 : Int32)), (.ref x0)])) (fun _ k => XS.iadd X0.here hx rfl (hb hby d3_19) rfl k) ?_
                      obtain ⟨cl82, Ar82, Aq82, As82, Am82, Ah82, Au82⟩ := id V_B
                      have hin82 : ¬ ((5 : Int32) < 0 ∨ cl82.slots.size ≤ ((5 : Int32)).toNatClampNeg) := inb_of As82 ⟨by decide, own_ltl hc7_38 (by decide)⟩
                      have hat82 : cl82.slots[((5 : Int32)).toNatClampNeg]? = some (.int b5) := Ah82.at hin82 (rfl)
                      refine own_st (T' := s₁) (F' := (mkF m 21 #[.val (.ref x0), .val (.int (4 : Int32))] [(.int b5)])) (fun _ k => X0.baloadBytes hx (j := (5 : Int32)) (v := (.int b5)) (by rw [e0]; exact Ar82.1) (State.isArrayOf_alike hZ.alike Ar82.2.1) Ar82.2.2 hin82 hat82 (g := (mkF m 20 #[.val (.ref x0), .val (.int (4 : Int32))] [(.int (5 : Int32)), (.ref x0)])) rfl rfl (hb hby d3_20) _ k) ?_
                      refine own_st (T' := s₁) (F' := (mkF m 22 #[.val (.ref x0), .val (.int (4 : Int32))] [(.int (1 : Int32)), (.int b5)])) (fun _ k => XS.iconst X0.here hx rfl (hb hby d3_21) k) ?_
                      refine own_icmp X0 hx (pc' := 31) (pc2 := 25) (hb hby d3_22) (by decide) (by decide) rfl (fun (hc22_83 : b5 = (1 : Int32)) => ?_) (fun (hc22_83 : ¬ (b5 = (1 : Int32))) => ?_)
                      ·
                        refine own_st (T' := s₁) (F' := (mkF m 32 #[.val (.ref x0), .val (.int (4 : Int32))] [(.int (4 : Int32))])) (fun _ k => XS.iloadN X0.here hx rfl (hb hby d3_31) rfl  k) ?_
                        refine own_st (T' := s₁) (F' := (mkF m 33 #[.val (.ref x0), .val (.int (4 : Int32))] [(.int (1 : Int32)), (.int (4 : Int32))])) (fun _ k => XS.iconst X0.here hx rfl (hb hby d3_32) k) ?_
                        refine own_st (T' := s₁) (F' := (mkF m 34 #[.val (.ref x0), .val (.int (4 : Int32))] [(.int (5 : Int32))])) (fun _ k => XS.iadd X0.here hx rfl (hb hby d3_33) rfl k) ?_
                        refine own_st (T' := s₁) (F' := (mkF m 35 #[.val (.ref x0), .val (.int (4 : Int32))] [(.ref x0), (.int (5 : Int32))])) (fun _ k => XS.aloadN X0.here hx rfl (hb hby d3_34) rfl rfl k) ?_
                        obtain ⟨cl84, Ar84, Aq84, As84, Am84, Ah84, Au84⟩ := id V_B
                        refine own_st (T' := s₁) (F' := (mkF m 36 #[.val (.ref x0), .val (.int (4 : Int32))] [(.int n), (.int (5 : Int32))])) (fun _ k => X0.arraylength hx (cell := cl84) (by rw [e0]; exact Ar84.1) (State.isArrayOf_alike hZ.alike Ar84.2.1) (g := (mkF m 35 #[.val (.ref x0), .val (.int (4 : Int32))] [(.ref x0), (.int (5 : Int32))])) rfl (rest := [(.int (5 : Int32))]) rfl (hb hby d3_35) _ (by rw [len_of As84 Am84]; exact k)) ?_
                        refine own_icmp X0 hx (pc' := 48) (pc2 := 39) (hb hby d3_36) (by decide) (by decide) rfl (fun (hc36_85 : ¬ ((5 : Int32) < n)) => ?_) (fun (hc36_85 : (5 : Int32) < n) => ?_)
                        ·
                          refine own_st (T' := s₁) (F' := (mkF m 49 #[.val (.ref x0), .val (.int (4 : Int32))] [(.int (-1 : Int32))])) (fun _ k => XS.iconst X0.here hx rfl (hb hby d3_48) k) ?_
                          refine own_retI X0 hx hlk Bd.returns (hb hby d3_49) ?_ (by decide) (by decide)
                          rw [e0]
                          refine ⟨⟨_, rfl, ?_⟩, N0, rfl⟩
                          have np0 : ¬ own_pair n b0 b1 (1 : Int32) := fun q => by rcases hJ25_9 with a | ⟨_, a⟩; exact a q.2.1; exact a q.2.2
                          have np1 : ¬ own_pair n b1 b2 (2 : Int32) := fun q => by rcases hJ25_18 with a | ⟨_, a⟩; exact a q.2.1; exact a q.2.2
                          have np2 : ¬ own_pair n b2 b3 (3 : Int32) := fun q => by rcases hJ25_27 with a | ⟨_, a⟩; exact a q.2.1; exact a q.2.2
                          have np3 : ¬ own_pair n b3 b4 (4 : Int32) := fun q => by rcases hJ25_36 with a | ⟨_, a⟩; exact a q.2.1; exact a q.2.2
                          exact absurd hc7_38 hc36_85
                        ·
                          refine own_st (T' := s₁) (F' := (mkF m 40 #[.val (.ref x0), .val (.int (4 : Int32))] [(.int (4 : Int32))])) (fun _ k => XS.iloadN X0.here hx rfl (hb hby d3_39) rfl  k) ?_
                          obtain ⟨T86, X86, e86, st86⟩ := getS2 X0 hx hZ hown (host := "") (Or.inl (hw _ (List.mem_of_getElem? (i := 17) rfl))) Via.refl e0 S_E (g := (mkF m 40 #[.val (.ref x0), .val (.int (4 : Int32))] [(.int (4 : Int32))])) rfl (hb hby d3_40)
                          refine own_st (T' := T86) (F' := (mkF m 43 #[.val (.ref x0), .val (.int (4 : Int32))] [(.ref aE), (.int (4 : Int32))])) (fun _ k => st86 _ k) ?_
                          obtain ⟨cl87, Ar87, Aq87, As87, Am87, Ah87, Au87⟩ := id V_E
                          refine own_st (T' := T86) (F' := (mkF m 44 #[.val (.ref x0), .val (.int (4 : Int32))] [(.int (2 : Int32)), (.int (4 : Int32))])) (fun _ k => X86.arraylength hx (cell := cl87) (by rw [e86]; exact Ar87.1) (State.isArrayOf_alike hZ.alike Ar87.2.1) (g := (mkF m 43 #[.val (.ref x0), .val (.int (4 : Int32))] [(.ref aE), (.int (4 : Int32))])) rfl (rest := [(.int (4 : Int32))]) rfl (hb hby d3_43) _ (by rw [len_of As87 Am87]; exact k)) ?_
                          refine own_st (T' := T86) (F' := (mkF m 45 #[.val (.ref x0), .val (.int (4 : Int32))] [(.int (6 : Int32))])) (fun _ k => XS.iadd X86.here hx rfl (hb hby d3_44) rfl k) ?_
                          refine own_st (T' := T86) (F' := (mkF m 49 #[.val (.ref x0), .val (.int (4 : Int32))] [(.int (6 : Int32))])) (fun _ k => XS.goto X86.here hx rfl (pc0 := 45) (pc' := 49) rfl (hb hby d3_45) (by decide) (by decide) k) ?_
                          refine own_retI X86 hx hlk Bd.returns (hb hby d3_49) ?_ (by decide) (by decide)
                          rw [e86]
                          refine ⟨⟨_, rfl, ?_⟩, N0, rfl⟩
                          have np0 : ¬ own_pair n b0 b1 (1 : Int32) := fun q => by rcases hJ25_9 with a | ⟨_, a⟩; exact a q.2.1; exact a q.2.2
                          have np1 : ¬ own_pair n b1 b2 (2 : Int32) := fun q => by rcases hJ25_18 with a | ⟨_, a⟩; exact a q.2.1; exact a q.2.2
                          have np2 : ¬ own_pair n b2 b3 (3 : Int32) := fun q => by rcases hJ25_27 with a | ⟨_, a⟩; exact a q.2.1; exact a q.2.2
                          have np3 : ¬ own_pair n b3 b4 (4 : Int32) := fun q => by rcases hJ25_36 with a | ⟨_, a⟩; exact a q.2.1; exact a q.2.2
                          exact Or.inr (Or.inr (Or.inr (Or.inr (Or.inl ⟨np0, np1, np2, np3, ⟨hc7_38, hc13_44, hc22_83⟩, rfl⟩))))
                      ·
                        exact J25_45  (Or.inr (⟨hc13_44, hc22_83⟩))
                refine own_ifc X0 hx (pc' := 25) (pc2 := 16) (hb hby d3_13) (by decide) (by decide) rfl (fun (hc13_35 : ¬ (b3 = (0 : Int32))) => ?_) (fun (hc13_35 : b3 = (0 : Int32)) => ?_)
                ·
                  exact J25_36  (Or.inl (hc13_35))
                ·
                  refine own_st (T' := s₁) (F' := (mkF m 17 #[.val (.ref x0), .val (.int (3 : Int32))] [(.ref x0)])) (fun _ k => XS.aloadN X0.here hx rfl (hb hby d3_16) rfl rfl k) ?_
                  refine own_st (T' := s₁) (F' := (mkF m 18 #[.val (.ref x0), .val (.int (3 : Int32))] [(.int (3 : Int32)), (.ref x0)])) (fun _ k => XS.iloadN X0.here hx rfl (hb hby d3_17) rfl  k) ?_
                  refine own_st (T' := s₁) (F' := (mkF m 19 #[.val (.ref x0), .val (.int (3 : Int32))] [(.int (1 : Int32)), (.int (3 : Int32)), (.ref x0)])) (fun _ k => XS.iconst X0.here hx rfl (hb hby d3_18) k) ?_
                  refine own_st (T' := s₁) (F' := (mkF m 20 #[.val (.ref x0), .val (.int (3 : Int32))] [(.int (4 : Int32)), (.ref x0)])) (fun _ k => XS.iadd X0.here hx rfl (hb hby d3_19) rfl k) ?_
                  obtain ⟨cl88, Ar88, Aq88, As88, Am88, Ah88, Au88⟩ := id V_B
                  have hin88 : ¬ ((4 : Int32) < 0 ∨ cl88.slots.size ≤ ((4 : Int32)).toNatClampNeg) := inb_of As88 ⟨by decide, own_ltl hc7_29 (by decide)⟩
                  have hat88 : cl88.slots[((4 : Int32)).toNatClampNeg]? = some (.int b4) := Ah88.at hin88 (rfl)
                  refine own_st (T' := s₁) (F' := (mkF m 21 #[.val (.ref x0), .val (.int (3 : Int32))] [(.int b4)])) (fun _ k => X0.baloadBytes hx (j := (4 : Int32)) (v := (.int b4)) (by rw [e0]; exact Ar88.1) (State.isArrayOf_alike hZ.alike Ar88.2.1) Ar88.2.2 hin88 hat88 (g := (mkF m 20 #[.val (.ref x0), .val (.int (3 : Int32))] [(.int (4 : Int32)), (.ref x0)])) rfl rfl (hb hby d3_20) _ k) ?_
                  refine own_st (T' := s₁) (F' := (mkF m 22 #[.val (.ref x0), .val (.int (3 : Int32))] [(.int (1 : Int32)), (.int b4)])) (fun _ k => XS.iconst X0.here hx rfl (hb hby d3_21) k) ?_
                  refine own_icmp X0 hx (pc' := 31) (pc2 := 25) (hb hby d3_22) (by decide) (by decide) rfl (fun (hc22_89 : b4 = (1 : Int32)) => ?_) (fun (hc22_89 : ¬ (b4 = (1 : Int32))) => ?_)
                  ·
                    refine own_st (T' := s₁) (F' := (mkF m 32 #[.val (.ref x0), .val (.int (3 : Int32))] [(.int (3 : Int32))])) (fun _ k => XS.iloadN X0.here hx rfl (hb hby d3_31) rfl  k) ?_
                    refine own_st (T' := s₁) (F' := (mkF m 33 #[.val (.ref x0), .val (.int (3 : Int32))] [(.int (1 : Int32)), (.int (3 : Int32))])) (fun _ k => XS.iconst X0.here hx rfl (hb hby d3_32) k) ?_
                    refine own_st (T' := s₁) (F' := (mkF m 34 #[.val (.ref x0), .val (.int (3 : Int32))] [(.int (4 : Int32))])) (fun _ k => XS.iadd X0.here hx rfl (hb hby d3_33) rfl k) ?_
                    refine own_st (T' := s₁) (F' := (mkF m 35 #[.val (.ref x0), .val (.int (3 : Int32))] [(.ref x0), (.int (4 : Int32))])) (fun _ k => XS.aloadN X0.here hx rfl (hb hby d3_34) rfl rfl k) ?_
                    obtain ⟨cl90, Ar90, Aq90, As90, Am90, Ah90, Au90⟩ := id V_B
                    refine own_st (T' := s₁) (F' := (mkF m 36 #[.val (.ref x0), .val (.int (3 : Int32))] [(.int n), (.int (4 : Int32))])) (fun _ k => X0.arraylength hx (cell := cl90) (by rw [e0]; exact Ar90.1) (State.isArrayOf_alike hZ.alike Ar90.2.1) (g := (mkF m 35 #[.val (.ref x0), .val (.int (3 : Int32))] [(.ref x0), (.int (4 : Int32))])) rfl (rest := [(.int (4 : Int32))]) rfl (hb hby d3_35) _ (by rw [len_of As90 Am90]; exact k)) ?_
                    refine own_icmp X0 hx (pc' := 48) (pc2 := 39) (hb hby d3_36) (by decide) (by decide) rfl (fun (hc36_91 : ¬ ((4 : Int32) < n)) => ?_) (fun (hc36_91 : (4 : Int32) < n) => ?_)
                    ·
                      refine own_st (T' := s₁) (F' := (mkF m 49 #[.val (.ref x0), .val (.int (3 : Int32))] [(.int (-1 : Int32))])) (fun _ k => XS.iconst X0.here hx rfl (hb hby d3_48) k) ?_
                      refine own_retI X0 hx hlk Bd.returns (hb hby d3_49) ?_ (by decide) (by decide)
                      rw [e0]
                      refine ⟨⟨_, rfl, ?_⟩, N0, rfl⟩
                      have np0 : ¬ own_pair n b0 b1 (1 : Int32) := fun q => by rcases hJ25_9 with a | ⟨_, a⟩; exact a q.2.1; exact a q.2.2
                      have np1 : ¬ own_pair n b1 b2 (2 : Int32) := fun q => by rcases hJ25_18 with a | ⟨_, a⟩; exact a q.2.1; exact a q.2.2
                      have np2 : ¬ own_pair n b2 b3 (3 : Int32) := fun q => by rcases hJ25_27 with a | ⟨_, a⟩; exact a q.2.1; exact a q.2.2
                      exact absurd hc7_29 hc36_91
                    ·
                      refine own_st (T' := s₁) (F' := (mkF m 40 #[.val (.ref x0), .val (.int (3 : Int32))] [(.int (3 : Int32))])) (fun _ k => XS.iloadN X0.here hx rfl (hb hby d3_39) rfl  k) ?_
                      obtain ⟨T92, X92, e92, st92⟩ := getS2 X0 hx hZ hown (host := "") (Or.inl (hw _ (List.mem_of_getElem? (i := 17) rfl))) Via.refl e0 S_E (g := (mkF m 40 #[.val (.ref x0), .val (.int (3 : Int32))] [(.int (3 : Int32))])) rfl (hb hby d3_40)
                      refine own_st (T' := T92) (F' := (mkF m 43 #[.val (.ref x0), .val (.int (3 : Int32))] [(.ref aE), (.int (3 : Int32))])) (fun _ k => st92 _ k) ?_
                      obtain ⟨cl93, Ar93, Aq93, As93, Am93, Ah93, Au93⟩ := id V_E
                      refine own_st (T' := T92) (F' := (mkF m 44 #[.val (.ref x0), .val (.int (3 : Int32))] [(.int (2 : Int32)), (.int (3 : Int32))])) (fun _ k => X92.arraylength hx (cell := cl93) (by rw [e92]; exact Ar93.1) (State.isArrayOf_alike hZ.alike Ar93.2.1) (g := (mkF m 43 #[.val (.ref x0), .val (.int (3 : Int32))] [(.ref aE), (.int (3 : Int32))])) rfl (rest := [(.int (3 : Int32))]) rfl (hb hby d3_43) _ (by rw [len_of As93 Am93]; exact k)) ?_
                      refine own_st (T' := T92) (F' := (mkF m 45 #[.val (.ref x0), .val (.int (3 : Int32))] [(.int (5 : Int32))])) (fun _ k => XS.iadd X92.here hx rfl (hb hby d3_44) rfl k) ?_
                      refine own_st (T' := T92) (F' := (mkF m 49 #[.val (.ref x0), .val (.int (3 : Int32))] [(.int (5 : Int32))])) (fun _ k => XS.goto X92.here hx rfl (pc0 := 45) (pc' := 49) rfl (hb hby d3_45) (by decide) (by decide) k) ?_
                      refine own_retI X92 hx hlk Bd.returns (hb hby d3_49) ?_ (by decide) (by decide)
                      rw [e92]
                      refine ⟨⟨_, rfl, ?_⟩, N0, rfl⟩
                      have np0 : ¬ own_pair n b0 b1 (1 : Int32) := fun q => by rcases hJ25_9 with a | ⟨_, a⟩; exact a q.2.1; exact a q.2.2
                      have np1 : ¬ own_pair n b1 b2 (2 : Int32) := fun q => by rcases hJ25_18 with a | ⟨_, a⟩; exact a q.2.1; exact a q.2.2
                      have np2 : ¬ own_pair n b2 b3 (3 : Int32) := fun q => by rcases hJ25_27 with a | ⟨_, a⟩; exact a q.2.1; exact a q.2.2
                      exact Or.inr (Or.inr (Or.inr (Or.inl ⟨np0, np1, np2, ⟨hc7_29, hc13_35, hc22_89⟩, rfl⟩)))
                  ·
                    exact J25_36  (Or.inr (⟨hc13_35, hc22_89⟩))
            refine own_ifc X0 hx (pc' := 25) (pc2 := 16) (hb hby d3_13) (by decide) (by decide) rfl (fun (hc13_26 : ¬ (b2 = (0 : Int32))) => ?_) (fun (hc13_26 : b2 = (0 : Int32)) => ?_)
            ·
              exact J25_27  (Or.inl (hc13_26))
            ·
              refine own_st (T' := s₁) (F' := (mkF m 17 #[.val (.ref x0), .val (.int (2 : Int32))] [(.ref x0)])) (fun _ k => XS.aloadN X0.here hx rfl (hb hby d3_16) rfl rfl k) ?_
              refine own_st (T' := s₁) (F' := (mkF m 18 #[.val (.ref x0), .val (.int (2 : Int32))] [(.int (2 : Int32)), (.ref x0)])) (fun _ k => XS.iloadN X0.here hx rfl (hb hby d3_17) rfl  k) ?_
              refine own_st (T' := s₁) (F' := (mkF m 19 #[.val (.ref x0), .val (.int (2 : Int32))] [(.int (1 : Int32)), (.int (2 : Int32)), (.ref x0)])) (fun _ k => XS.iconst X0.here hx rfl (hb hby d3_18) k) ?_
              refine own_st (T' := s₁) (F' := (mkF m 20 #[.val (.ref x0), .val (.int (2 : Int32))] [(.int (3 : Int32)), (.ref x0)])) (fun _ k => XS.iadd X0.here hx rfl (hb hby d3_19) rfl k) ?_
              obtain ⟨cl94, Ar94, Aq94, As94, Am94, Ah94, Au94⟩ := id V_B
              have hin94 : ¬ ((3 : Int32) < 0 ∨ cl94.slots.size ≤ ((3 : Int32)).toNatClampNeg) := inb_of As94 ⟨by decide, own_ltl hc7_20 (by decide)⟩
              have hat94 : cl94.slots[((3 : Int32)).toNatClampNeg]? = some (.int b3) := Ah94.at hin94 (rfl)
              refine own_st (T' := s₁) (F' := (mkF m 21 #[.val (.ref x0), .val (.int (2 : Int32))] [(.int b3)])) (fun _ k => X0.baloadBytes hx (j := (3 : Int32)) (v := (.int b3)) (by rw [e0]; exact Ar94.1) (State.isArrayOf_alike hZ.alike Ar94.2.1) Ar94.2.2 hin94 hat94 (g := (mkF m 20 #[.val (.ref x0), .val (.int (2 : Int32))] [(.int (3 : Int32)), (.ref x0)])) rfl rfl (hb hby d3_20) _ k) ?_
              refine own_st (T' := s₁) (F' := (mkF m 22 #[.val (.ref x0), .val (.int (2 : Int32))] [(.int (1 : Int32)), (.int b3)])) (fun _ k => XS.iconst X0.here hx rfl (hb hby d3_21) k) ?_
              refine own_icmp X0 hx (pc' := 31) (pc2 := 25) (hb hby d3_22) (by decide) (by decide) rfl (fun (hc22_95 : b3 = (1 : Int32)) => ?_) (fun (hc22_95 : ¬ (b3 = (1 : Int32))) => ?_)
              ·
                refine own_st (T' := s₁) (F' := (mkF m 32 #[.val (.ref x0), .val (.int (2 : Int32))] [(.int (2 : Int32))])) (fun _ k => XS.iloadN X0.here hx rfl (hb hby d3_31) rfl  k) ?_
                refine own_st (T' := s₁) (F' := (mkF m 33 #[.val (.ref x0), .val (.int (2 : Int32))] [(.int (1 : Int32)), (.int (2 : Int32))])) (fun _ k => XS.iconst X0.here hx rfl (hb hby d3_32) k) ?_
                refine own_st (T' := s₁) (F' := (mkF m 34 #[.val (.ref x0), .val (.int (2 : Int32))] [(.int (3 : Int32))])) (fun _ k => XS.iadd X0.here hx rfl (hb hby d3_33) rfl k) ?_
                refine own_st (T' := s₁) (F' := (mkF m 35 #[.val (.ref x0), .val (.int (2 : Int32))] [(.ref x0), (.int (3 : Int32))])) (fun _ k => XS.aloadN X0.here hx rfl (hb hby d3_34) rfl rfl k) ?_
                obtain ⟨cl96, Ar96, Aq96, As96, Am96, Ah96, Au96⟩ := id V_B
                refine own_st (T' := s₁) (F' := (mkF m 36 #[.val (.ref x0), .val (.int (2 : Int32))] [(.int n), (.int (3 : Int32))])) (fun _ k => X0.arraylength hx (cell := cl96) (by rw [e0]; exact Ar96.1) (State.isArrayOf_alike hZ.alike Ar96.2.1) (g := (mkF m 35 #[.val (.ref x0), .val (.int (2 : Int32))] [(.ref x0), (.int (3 : Int32))])) rfl (rest := [(.int (3 : Int32))]) rfl (hb hby d3_35) _ (by rw [len_of As96 Am96]; exact k)) ?_
                refine own_icmp X0 hx (pc' := 48) (pc2 := 39) (hb hby d3_36) (by decide) (by decide) rfl (fun (hc36_97 : ¬ ((3 : Int32) < n)) => ?_) (fun (hc36_97 : (3 : Int32) < n) => ?_)
                ·
                  refine own_st (T' := s₁) (F' := (mkF m 49 #[.val (.ref x0), .val (.int (2 : Int32))] [(.int (-1 : Int32))])) (fun _ k => XS.iconst X0.here hx rfl (hb hby d3_48) k) ?_
                  refine own_retI X0 hx hlk Bd.returns (hb hby d3_49) ?_ (by decide) (by decide)
                  rw [e0]
                  refine ⟨⟨_, rfl, ?_⟩, N0, rfl⟩
                  have np0 : ¬ own_pair n b0 b1 (1 : Int32) := fun q => by rcases hJ25_9 with a | ⟨_, a⟩; exact a q.2.1; exact a q.2.2
                  have np1 : ¬ own_pair n b1 b2 (2 : Int32) := fun q => by rcases hJ25_18 with a | ⟨_, a⟩; exact a q.2.1; exact a q.2.2
                  exact absurd hc7_20 hc36_97
                ·
                  refine own_st (T' := s₁) (F' := (mkF m 40 #[.val (.ref x0), .val (.int (2 : Int32))] [(.int (2 : Int32))])) (fun _ k => XS.iloadN X0.here hx rfl (hb hby d3_39) rfl  k) ?_
                  obtain ⟨T98, X98, e98, st98⟩ := getS2 X0 hx hZ hown (host := "") (Or.inl (hw _ (List.mem_of_getElem? (i := 17) rfl))) Via.refl e0 S_E (g := (mkF m 40 #[.val (.ref x0), .val (.int (2 : Int32))] [(.int (2 : Int32))])) rfl (hb hby d3_40)
                  refine own_st (T' := T98) (F' := (mkF m 43 #[.val (.ref x0), .val (.int (2 : Int32))] [(.ref aE), (.int (2 : Int32))])) (fun _ k => st98 _ k) ?_
                  obtain ⟨cl99, Ar99, Aq99, As99, Am99, Ah99, Au99⟩ := id V_E
                  refine own_st (T' := T98) (F' := (mkF m 44 #[.val (.ref x0), .val (.int (2 : Int32))] [(.int (2 : Int32)), (.int (2 : Int32))])) (fun _ k => X98.arraylength hx (cell := cl99) (by rw [e98]; exact Ar99.1) (State.isArrayOf_alike hZ.alike Ar99.2.1) (g := (mkF m 43 #[.val (.ref x0), .val (.int (2 : Int32))] [(.ref aE), (.int (2 : Int32))])) rfl (rest := [(.int (2 : Int32))]) rfl (hb hby d3_43) _ (by rw [len_of As99 Am99]; exact k)) ?_
                  refine own_st (T' := T98) (F' := (mkF m 45 #[.val (.ref x0), .val (.int (2 : Int32))] [(.int (4 : Int32))])) (fun _ k => XS.iadd X98.here hx rfl (hb hby d3_44) rfl k) ?_
                  refine own_st (T' := T98) (F' := (mkF m 49 #[.val (.ref x0), .val (.int (2 : Int32))] [(.int (4 : Int32))])) (fun _ k => XS.goto X98.here hx rfl (pc0 := 45) (pc' := 49) rfl (hb hby d3_45) (by decide) (by decide) k) ?_
                  refine own_retI X98 hx hlk Bd.returns (hb hby d3_49) ?_ (by decide) (by decide)
                  rw [e98]
                  refine ⟨⟨_, rfl, ?_⟩, N0, rfl⟩
                  have np0 : ¬ own_pair n b0 b1 (1 : Int32) := fun q => by rcases hJ25_9 with a | ⟨_, a⟩; exact a q.2.1; exact a q.2.2
                  have np1 : ¬ own_pair n b1 b2 (2 : Int32) := fun q => by rcases hJ25_18 with a | ⟨_, a⟩; exact a q.2.1; exact a q.2.2
                  exact Or.inr (Or.inr (Or.inl ⟨np0, np1, ⟨hc7_20, hc13_26, hc22_95⟩, rfl⟩))
              ·
                exact J25_27  (Or.inr (⟨hc13_26, hc22_95⟩))
        refine own_ifc X0 hx (pc' := 25) (pc2 := 16) (hb hby d3_13) (by decide) (by decide) rfl (fun (hc13_17 : ¬ (b1 = (0 : Int32))) => ?_) (fun (hc13_17 : b1 = (0 : Int32)) => ?_)
        ·
          exact J25_18  (Or.inl (hc13_17))
        ·
          refine own_st (T' := s₁) (F' := (mkF m 17 #[.val (.ref x0), .val (.int (1 : Int32))] [(.ref x0)])) (fun _ k => XS.aloadN X0.here hx rfl (hb hby d3_16) rfl rfl k) ?_
          refine own_st (T' := s₁) (F' := (mkF m 18 #[.val (.ref x0), .val (.int (1 : Int32))] [(.int (1 : Int32)), (.ref x0)])) (fun _ k => XS.iloadN X0.here hx rfl (hb hby d3_17) rfl  k) ?_
          refine own_st (T' := s₁) (F' := (mkF m 19 #[.val (.ref x0), .val (.int (1 : Int32))] [(.int (1 : Int32)), (.int (1 : Int32)), (.ref x0)])) (fun _ k => XS.iconst X0.here hx rfl (hb hby d3_18) k) ?_
          refine own_st (T' := s₁) (F' := (mkF m 20 #[.val (.ref x0), .val (.int (1 : Int32))] [(.int (2 : Int32)), (.ref x0)])) (fun _ k => XS.iadd X0.here hx rfl (hb hby d3_19) rfl k) ?_
          obtain ⟨cl100, Ar100, Aq100, As100, Am100, Ah100, Au100⟩ := id V_B
          have hin100 : ¬ ((2 : Int32) < 0 ∨ cl100.slots.size ≤ ((2 : Int32)).toNatClampNeg) := inb_of As100 ⟨by decide, own_ltl hc7_11 (by decide)⟩
          have hat100 : cl100.slots[((2 : Int32)).toNatClampNeg]? = some (.int b2) := Ah100.at hin100 (rfl)
          refine own_st (T' := s₁) (F' := (mkF m 21 #[.val (.ref x0), .val (.int (1 : Int32))] [(.int b2)])) (fun _ k => X0.baloadBytes hx (j := (2 : Int32)) (v := (.int b2)) (by rw [e0]; exact Ar100.1) (State.isArrayOf_alike hZ.alike Ar100.2.1) Ar100.2.2 hin100 hat100 (g := (mkF m 20 #[.val (.ref x0), .val (.int (1 : Int32))] [(.int (2 : Int32)), (.ref x0)])) rfl rfl (hb hby d3_20) _ k) ?_
          refine own_st (T' := s₁) (F' := (mkF m 22 #[.val (.ref x0), .val (.int (1 : Int32))] [(.int (1 : Int32)), (.int b2)])) (fun _ k => XS.iconst X0.here hx rfl (hb hby d3_21) k) ?_
          refine own_icmp X0 hx (pc' := 31) (pc2 := 25) (hb hby d3_22) (by decide) (by decide) rfl (fun (hc22_101 : b2 = (1 : Int32)) => ?_) (fun (hc22_101 : ¬ (b2 = (1 : Int32))) => ?_)
          ·
            refine own_st (T' := s₁) (F' := (mkF m 32 #[.val (.ref x0), .val (.int (1 : Int32))] [(.int (1 : Int32))])) (fun _ k => XS.iloadN X0.here hx rfl (hb hby d3_31) rfl  k) ?_
            refine own_st (T' := s₁) (F' := (mkF m 33 #[.val (.ref x0), .val (.int (1 : Int32))] [(.int (1 : Int32)), (.int (1 : Int32))])) (fun _ k => XS.iconst X0.here hx rfl (hb hby d3_32) k) ?_
            refine own_st (T' := s₁) (F' := (mkF m 34 #[.val (.ref x0), .val (.int (1 : Int32))] [(.int (2 : Int32))])) (fun _ k => XS.iadd X0.here hx rfl (hb hby d3_33) rfl k) ?_
            refine own_st (T' := s₁) (F' := (mkF m 35 #[.val (.ref x0), .val (.int (1 : Int32))] [(.ref x0), (.int (2 : Int32))])) (fun _ k => XS.aloadN X0.here hx rfl (hb hby d3_34) rfl rfl k) ?_
            obtain ⟨cl102, Ar102, Aq102, As102, Am102, Ah102, Au102⟩ := id V_B
            refine own_st (T' := s₁) (F' := (mkF m 36 #[.val (.ref x0), .val (.int (1 : Int32))] [(.int n), (.int (2 : Int32))])) (fun _ k => X0.arraylength hx (cell := cl102) (by rw [e0]; exact Ar102.1) (State.isArrayOf_alike hZ.alike Ar102.2.1) (g := (mkF m 35 #[.val (.ref x0), .val (.int (1 : Int32))] [(.ref x0), (.int (2 : Int32))])) rfl (rest := [(.int (2 : Int32))]) rfl (hb hby d3_35) _ (by rw [len_of As102 Am102]; exact k)) ?_
            refine own_icmp X0 hx (pc' := 48) (pc2 := 39) (hb hby d3_36) (by decide) (by decide) rfl (fun (hc36_103 : ¬ ((2 : Int32) < n)) => ?_) (fun (hc36_103 : (2 : Int32) < n) => ?_)
            ·
              refine own_st (T' := s₁) (F' := (mkF m 49 #[.val (.ref x0), .val (.int (1 : Int32))] [(.int (-1 : Int32))])) (fun _ k => XS.iconst X0.here hx rfl (hb hby d3_48) k) ?_
              refine own_retI X0 hx hlk Bd.returns (hb hby d3_49) ?_ (by decide) (by decide)
              rw [e0]
              refine ⟨⟨_, rfl, ?_⟩, N0, rfl⟩
              have np0 : ¬ own_pair n b0 b1 (1 : Int32) := fun q => by rcases hJ25_9 with a | ⟨_, a⟩; exact a q.2.1; exact a q.2.2
              exact absurd hc7_11 hc36_103
            ·
              refine own_st (T' := s₁) (F' := (mkF m 40 #[.val (.ref x0), .val (.int (1 : Int32))] [(.int (1 : Int32))])) (fun _ k => XS.iloadN X0.here hx rfl (hb hby d3_39) rfl  k) ?_
              obtain ⟨T104, X104, e104, st104⟩ := getS2 X0 hx hZ hown (host := "") (Or.inl (hw _ (List.mem_of_getElem? (i := 17) rfl))) Via.refl e0 S_E (g := (mkF m 40 #[.val (.ref x0), .val (.int (1 : Int32))] [(.int (1 : Int32))])) rfl (hb hby d3_40)
              refine own_st (T' := T104) (F' := (mkF m 43 #[.val (.ref x0), .val (.int (1 : Int32))] [(.ref aE), (.int (1 : Int32))])) (fun _ k => st104 _ k) ?_
              obtain ⟨cl105, Ar105, Aq105, As105, Am105, Ah105, Au105⟩ := id V_E
              refine own_st (T' := T104) (F' := (mkF m 44 #[.val (.ref x0), .val (.int (1 : Int32))] [(.int (2 : Int32)), (.int (1 : Int32))])) (fun _ k => X104.arraylength hx (cell := cl105) (by rw [e104]; exact Ar105.1) (State.isArrayOf_alike hZ.alike Ar105.2.1) (g := (mkF m 43 #[.val (.ref x0), .val (.int (1 : Int32))] [(.ref aE), (.int (1 : Int32))])) rfl (rest := [(.int (1 : Int32))]) rfl (hb hby d3_43) _ (by rw [len_of As105 Am105]; exact k)) ?_
              refine own_st (T' := T104) (F' := (mkF m 45 #[.val (.ref x0), .val (.int (1 : Int32))] [(.int (3 : Int32))])) (fun _ k => XS.iadd X104.here hx rfl (hb hby d3_44) rfl k) ?_
              refine own_st (T' := T104) (F' := (mkF m 49 #[.val (.ref x0), .val (.int (1 : Int32))] [(.int (3 : Int32))])) (fun _ k => XS.goto X104.here hx rfl (pc0 := 45) (pc' := 49) rfl (hb hby d3_45) (by decide) (by decide) k) ?_
              refine own_retI X104 hx hlk Bd.returns (hb hby d3_49) ?_ (by decide) (by decide)
              rw [e104]
              refine ⟨⟨_, rfl, ?_⟩, N0, rfl⟩
              have np0 : ¬ own_pair n b0 b1 (1 : Int32) := fun q => by rcases hJ25_9 with a | ⟨_, a⟩; exact a q.2.1; exact a q.2.2
              exact Or.inr (Or.inl ⟨np0, ⟨hc7_11, hc13_17, hc22_101⟩, rfl⟩)
          ·
            exact J25_18  (Or.inr (⟨hc13_17, hc22_101⟩))
    refine own_ifc X0 hx (pc' := 25) (pc2 := 16) (hb hby d3_13) (by decide) (by decide) rfl (fun (hc13_8 : ¬ (b0 = (0 : Int32))) => ?_) (fun (hc13_8 : b0 = (0 : Int32)) => ?_)
    ·
      exact J25_9  (Or.inl (hc13_8))
    ·
      refine own_st (T' := s₁) (F' := (mkF m 17 #[.val (.ref x0), .val (.int (0 : Int32))] [(.ref x0)])) (fun _ k => XS.aloadN X0.here hx rfl (hb hby d3_16) rfl rfl k) ?_
      refine own_st (T' := s₁) (F' := (mkF m 18 #[.val (.ref x0), .val (.int (0 : Int32))] [(.int (0 : Int32)), (.ref x0)])) (fun _ k => XS.iloadN X0.here hx rfl (hb hby d3_17) rfl  k) ?_
      refine own_st (T' := s₁) (F' := (mkF m 19 #[.val (.ref x0), .val (.int (0 : Int32))] [(.int (1 : Int32)), (.int (0 : Int32)), (.ref x0)])) (fun _ k => XS.iconst X0.here hx rfl (hb hby d3_18) k) ?_
      refine own_st (T' := s₁) (F' := (mkF m 20 #[.val (.ref x0), .val (.int (0 : Int32))] [(.int (1 : Int32)), (.ref x0)])) (fun _ k => XS.iadd X0.here hx rfl (hb hby d3_19) rfl k) ?_
      obtain ⟨cl106, Ar106, Aq106, As106, Am106, Ah106, Au106⟩ := id V_B
      have hin106 : ¬ ((1 : Int32) < 0 ∨ cl106.slots.size ≤ ((1 : Int32)).toNatClampNeg) := inb_of As106 ⟨by decide, own_ltl hc7_2 (by decide)⟩
      have hat106 : cl106.slots[((1 : Int32)).toNatClampNeg]? = some (.int b1) := Ah106.at hin106 (rfl)
      refine own_st (T' := s₁) (F' := (mkF m 21 #[.val (.ref x0), .val (.int (0 : Int32))] [(.int b1)])) (fun _ k => X0.baloadBytes hx (j := (1 : Int32)) (v := (.int b1)) (by rw [e0]; exact Ar106.1) (State.isArrayOf_alike hZ.alike Ar106.2.1) Ar106.2.2 hin106 hat106 (g := (mkF m 20 #[.val (.ref x0), .val (.int (0 : Int32))] [(.int (1 : Int32)), (.ref x0)])) rfl rfl (hb hby d3_20) _ k) ?_
      refine own_st (T' := s₁) (F' := (mkF m 22 #[.val (.ref x0), .val (.int (0 : Int32))] [(.int (1 : Int32)), (.int b1)])) (fun _ k => XS.iconst X0.here hx rfl (hb hby d3_21) k) ?_
      refine own_icmp X0 hx (pc' := 31) (pc2 := 25) (hb hby d3_22) (by decide) (by decide) rfl (fun (hc22_107 : b1 = (1 : Int32)) => ?_) (fun (hc22_107 : ¬ (b1 = (1 : Int32))) => ?_)
      ·
        refine own_st (T' := s₁) (F' := (mkF m 32 #[.val (.ref x0), .val (.int (0 : Int32))] [(.int (0 : Int32))])) (fun _ k => XS.iloadN X0.here hx rfl (hb hby d3_31) rfl  k) ?_
        refine own_st (T' := s₁) (F' := (mkF m 33 #[.val (.ref x0), .val (.int (0 : Int32))] [(.int (1 : Int32)), (.int (0 : Int32))])) (fun _ k => XS.iconst X0.here hx rfl (hb hby d3_32) k) ?_
        refine own_st (T' := s₁) (F' := (mkF m 34 #[.val (.ref x0), .val (.int (0 : Int32))] [(.int (1 : Int32))])) (fun _ k => XS.iadd X0.here hx rfl (hb hby d3_33) rfl k) ?_
        refine own_st (T' := s₁) (F' := (mkF m 35 #[.val (.ref x0), .val (.int (0 : Int32))] [(.ref x0), (.int (1 : Int32))])) (fun _ k => XS.aloadN X0.here hx rfl (hb hby d3_34) rfl rfl k) ?_
        obtain ⟨cl108, Ar108, Aq108, As108, Am108, Ah108, Au108⟩ := id V_B
        refine own_st (T' := s₁) (F' := (mkF m 36 #[.val (.ref x0), .val (.int (0 : Int32))] [(.int n), (.int (1 : Int32))])) (fun _ k => X0.arraylength hx (cell := cl108) (by rw [e0]; exact Ar108.1) (State.isArrayOf_alike hZ.alike Ar108.2.1) (g := (mkF m 35 #[.val (.ref x0), .val (.int (0 : Int32))] [(.ref x0), (.int (1 : Int32))])) rfl (rest := [(.int (1 : Int32))]) rfl (hb hby d3_35) _ (by rw [len_of As108 Am108]; exact k)) ?_
        refine own_icmp X0 hx (pc' := 48) (pc2 := 39) (hb hby d3_36) (by decide) (by decide) rfl (fun (hc36_109 : ¬ ((1 : Int32) < n)) => ?_) (fun (hc36_109 : (1 : Int32) < n) => ?_)
        ·
          refine own_st (T' := s₁) (F' := (mkF m 49 #[.val (.ref x0), .val (.int (0 : Int32))] [(.int (-1 : Int32))])) (fun _ k => XS.iconst X0.here hx rfl (hb hby d3_48) k) ?_
          refine own_retI X0 hx hlk Bd.returns (hb hby d3_49) ?_ (by decide) (by decide)
          rw [e0]
          refine ⟨⟨_, rfl, ?_⟩, N0, rfl⟩
          exact absurd hc7_2 hc36_109
        ·
          refine own_st (T' := s₁) (F' := (mkF m 40 #[.val (.ref x0), .val (.int (0 : Int32))] [(.int (0 : Int32))])) (fun _ k => XS.iloadN X0.here hx rfl (hb hby d3_39) rfl  k) ?_
          obtain ⟨T110, X110, e110, st110⟩ := getS2 X0 hx hZ hown (host := "") (Or.inl (hw _ (List.mem_of_getElem? (i := 17) rfl))) Via.refl e0 S_E (g := (mkF m 40 #[.val (.ref x0), .val (.int (0 : Int32))] [(.int (0 : Int32))])) rfl (hb hby d3_40)
          refine own_st (T' := T110) (F' := (mkF m 43 #[.val (.ref x0), .val (.int (0 : Int32))] [(.ref aE), (.int (0 : Int32))])) (fun _ k => st110 _ k) ?_
          obtain ⟨cl111, Ar111, Aq111, As111, Am111, Ah111, Au111⟩ := id V_E
          refine own_st (T' := T110) (F' := (mkF m 44 #[.val (.ref x0), .val (.int (0 : Int32))] [(.int (2 : Int32)), (.int (0 : Int32))])) (fun _ k => X110.arraylength hx (cell := cl111) (by rw [e110]; exact Ar111.1) (State.isArrayOf_alike hZ.alike Ar111.2.1) (g := (mkF m 43 #[.val (.ref x0), .val (.int (0 : Int32))] [(.ref aE), (.int (0 : Int32))])) rfl (rest := [(.int (0 : Int32))]) rfl (hb hby d3_43) _ (by rw [len_of As111 Am111]; exact k)) ?_
          refine own_st (T' := T110) (F' := (mkF m 45 #[.val (.ref x0), .val (.int (0 : Int32))] [(.int (2 : Int32))])) (fun _ k => XS.iadd X110.here hx rfl (hb hby d3_44) rfl k) ?_
          refine own_st (T' := T110) (F' := (mkF m 49 #[.val (.ref x0), .val (.int (0 : Int32))] [(.int (2 : Int32))])) (fun _ k => XS.goto X110.here hx rfl (pc0 := 45) (pc' := 49) rfl (hb hby d3_45) (by decide) (by decide) k) ?_
          refine own_retI X110 hx hlk Bd.returns (hb hby d3_49) ?_ (by decide) (by decide)
          rw [e110]
          refine ⟨⟨_, rfl, ?_⟩, N0, rfl⟩
          exact Or.inl ⟨⟨hc7_2, hc13_8, hc22_107⟩, rfl⟩
      ·
        exact J25_9  (Or.inr (⟨hc13_8, hc22_107⟩))
theorem own_pd1 : parseMethodDescriptor "(JI)B" = some ⟨[.long, .int], some .byte⟩ := by decide +kernel
theorem own_pd2 : parseMethodDescriptor "([B)I" = some ⟨[(.array .byte)], some .int⟩ := by decide +kernel
theorem own_pn0 : plainName "com/example/columnist/columnist/CellKeyFindRowLengthPinLaw" = true := by first | (simp [plainName, overriddenIn]; done) | decide +kernel
theorem own_ef0 (m : MethodId) (x0 : Int32) (x1 : Int64) (x2 : Int64) : entryFrame m #[(.int x0), (.long x1), (.long x2)] maxLocals = (mkF m 0 #[.val (.int x0), .val (.long x1), .second, .val (.long x2), .second, .unset, .unset, .unset] []) := by first | (simp [entryFrame, mkF, argsToLocals, Value.category, maxLocals]; done) | rfl
def Q0 (Z : State) (x0 : Int32) (x1 : Int64) (x2 : Int64) (aE : Addr) (ke : ClassId) (ve : List Value) (h0 : Heap) (n0 : Nat) (v : Option Value) (h : Heap) (L : List Loc) : Prop := (∃ z : Int32, v = some (.int z) ∧ (z = 1)) ∧ Fr n0 L
set_option maxRecDepth 65536 in
set_option maxHeartbeats 40000000 in
theorem rm0 (l : Launch) (Z : State) (a0 : Array Value) (hw : ∀ d ∈ tables_1, d.before a0 Z = true) (ws : List Jvm.Cond) (x0 : Int32) (x1 : Int64) (x2 : Int64) (aE : Addr) (ke : ClassId) (ve : List Value) (h0 : Heap) (n0 : Nat) (Z0 : n0 ≤ h0.size) (S_E : Sta Z h0 "com/example/columnist/columnist/CellKey" "END_MARK" "[B" (.ref aE)) (V_E : Arv Z h0 aE ke .byte (2 : Int32) ve (.int (0 : Int32))) :
    MetFree l x (head1 (Jvm.Cond.code x code maxLocals ret :: ws) room_1) (fun a U => a = #[(.int x0), (.long x1), (.long x2)] ∧ Z.Warmed39 U.vm ∧ U.heap = h0) (fun _ _ _ _ _ => True) (fun _ U oc U' => ∃ v L, oc = .returned v ∧ Q0 Z x0 x1 x2 aE ke ve h0 n0 v U'.heap L ∧ FrameEnd U oc U' L room_1.cells room_1.slots) := by
  refine MetFree.of_bodySF (plainFor_of_name own_pn0) hisR ?_
  intro p e s m args below meth c s₁ Bd hml0 hP hK
  obtain ⟨rfl, hZ, hh⟩ := hP
  have hx := Bd.exec
  have hby := Bd.bytes
  have hlk : meth.locks = false := BodyLoose.notSynchronized Bd
  have hml : c.maxLocals = 8 := hml0
  have hown : s.vm.findClass "com/example/columnist/columnist/CellKeyFindRowLengthPinLaw" = some m.cls := findClass_of_methodNamed Bd.named
  have hnm := (name_of_methodNamed Bd.named Bd.method).1
  have X0 : Stand p l e room_1 s m #[(.int x0), (.long x1), (.long x2)] below meth c s₁ [] 0 0 := Stand.of_body Bd
  have e0 : s₁.heap = h0 := by rw [← hh, Bd.state]; rfl
  have N0 := Fr.nil n0
  refine own_enter (own_ef0 m x0 x1 x2) ?_
  show own_Go p e below s (Q0 Z x0 x1 x2 aE ke ve h0 n0) room_1.cells room_1.slots s₁ (mkF m 0 #[.val (.int x0), .val (.long x1), .second, .val (.long x2), .second, .unset, .unset, .unset] [])
  refine own_st (T' := s₁) (F' := (mkF m 1 #[.val (.int x0), .val (.long x1), .second, .val (.long x2), .second, .unset, .unset, .unset] [(.int x0)])) (fun _ k => XS.iloadN X0.here hx rfl (hb hby at_0) rfl  k) ?_
  refine own_st (T' := s₁) (F' := (mkF m 3 #[.val (.int x0), .val (.long x1), .second, .val (.long x2), .second, .unset, .unset, .unset] [(.int (2147483647 : Int32)), (.int x0)])) (fun _ k => X0.ldcInt hx hown (mvT hZ (hw _ (List.mem_of_getElem? (i := 0) rfl))) (g := (mkF m 1 #[.val (.int x0), .val (.long x1), .second, .val (.long x2), .second, .unset, .unset, .unset] [(.int x0)])) rfl (hb hby at_1) _ k) ?_
  refine own_st (T' := s₁) (F' := (mkF m 4 #[.val (.int x0), .val (.long x1), .second, .val (.long x2), .second, .unset, .unset, .unset] [(.int (x0 &&& (2147483647 : Int32)))])) (fun _ k => XS.iand X0.here hx rfl (hb hby at_3) rfl k) ?_
  refine own_st (T' := s₁) (F' := (mkF m 6 #[.val (.int x0), .val (.long x1), .second, .val (.long x2), .second, .unset, .unset, .unset] [(.int (9 : Int32)), (.int (x0 &&& (2147483647 : Int32)))])) (fun _ k => XS.bipush X0.here hx rfl (hb hby at_4) k) ?_
  refine own_st (T' := s₁) (F' := (mkF m 7 #[.val (.int x0), .val (.long x1), .second, .val (.long x2), .second, .unset, .unset, .unset] [(.int ((x0 &&& (2147483647 : Int32)) % (9 : Int32)))])) (fun _ k => iremM X0 hx rfl (hb hby at_6) rfl (by decide) k) ?_
  refine own_st (T' := s₁) (F' := (mkF m 9 #[.val (.int x0), .val (.long x1), .second, .val (.long x2), .second, .val (.int ((x0 &&& (2147483647 : Int32)) % (9 : Int32))), .unset, .unset] [])) (fun _ k => XS.istore X0.here hx rfl (hb hby at_7) rfl (l' := #[.val (.int x0), .val (.long x1), .second, .val (.long x2), .second, .val (.int ((x0 &&& (2147483647 : Int32)) % (9 : Int32))), .unset, .unset]) rfl k) ?_
  refine own_st (T' := s₁) (F' := (mkF m 11 #[.val (.int x0), .val (.long x1), .second, .val (.long x2), .second, .val (.int ((x0 &&& (2147483647 : Int32)) % (9 : Int32))), .unset, .unset] [(.int ((x0 &&& (2147483647 : Int32)) % (9 : Int32)))])) (fun _ k => XS.iload X0.here hx rfl (hb hby at_9) rfl  k) ?_
  obtain ⟨T1, h1, k1, X1, e1, E1, A1, AE1, st1⟩ := newPE X0 hx hZ (hw _ (List.mem_of_getElem? (i := 1) rfl)) e0 (g := (mkF m 11 #[.val (.int x0), .val (.long x1), .second, .val (.long x2), .second, .val (.int ((x0 &&& (2147483647 : Int32)) % (9 : Int32))), .unset, .unset] [(.int ((x0 &&& (2147483647 : Int32)) % (9 : Int32)))])) rfl (hb hby at_11) rfl (own_m9 x0).1 (cap := 8) (own_m9 x0).2.1 (by decide) (by decide) (by decide) (ad := "[B") (by decide)
  obtain ⟨b1, g1⟩ : ∃ z, z = h0.size := ⟨_, rfl⟩
  rw [← g1] at A1 AE1 st1
  have ge1 : n0 ≤ b1 := by rw [g1]; exact Z0
  have hge1 : h0.size ≤ b1 := by rw [g1]; exact (Keep.refl h0 []).1
  have ne1_1 : aE ≠ b1 := by rw [g1]; exact Nat.ne_of_lt V_E.lt
  have f2 : Sta Z h1 "com/example/columnist/columnist/CellKey" "END_MARK" "[B" (.ref aE) := S_E.ext E1
  have f3 : Arv Z h1 aE ke .byte (2 : Int32) ve (.int (0 : Int32)) := V_E.ext E1
  have K1 : Keep h0 h1 [] := (Keep.refl h0 []).ext E1
  have Zs1 : n0 ≤ h1.size := Nat.le_trans Z0 K1.1
  have V1 : Arv Z h1 b1 k1 .byte ((x0 &&& (2147483647 : Int32)) % (9 : Int32)) [(.int (0 : Int32)), (.int (0 : Int32)), (.int (0 : Int32)), (.int (0 : Int32)), (.int (0 : Int32)), (.int (0 : Int32)), (.int (0 : Int32)), (.int (0 : Int32))] (.int (0 : Int32)) := (Arv.new A1 (own_m9 x0).1).pad (pad_rep [] (.int (0 : Int32)) 8)
  refine own_st (T' := T1) (F' := (mkF m 13 #[.val (.int x0), .val (.long x1), .second, .val (.long x2), .second, .val (.int ((x0 &&& (2147483647 : Int32)) % (9 : Int32))), .unset, .unset] [(.ref b1)])) (fun _ k => st1 _ k) ?_
  refine own_st (T' := T1) (F' := (mkF m 15 #[.val (.int x0), .val (.long x1), .second, .val (.long x2), .second, .val (.int ((x0 &&& (2147483647 : Int32)) % (9 : Int32))), .val (.ref b1), .unset] [])) (fun _ k => XS.astore X1.here hx rfl (hb hby at_13) rfl rfl (l' := #[.val (.int x0), .val (.long x1), .second, .val (.long x2), .second, .val (.int ((x0 &&& (2147483647 : Int32)) % (9 : Int32))), .val (.ref b1), .unset]) rfl k) ?_
  refine own_st (T' := T1) (F' := (mkF m 17 #[.val (.int x0), .val (.long x1), .second, .val (.long x2), .second, .val (.int ((x0 &&& (2147483647 : Int32)) % (9 : Int32))), .val (.ref b1), .unset] [(.int ((x0 &&& (2147483647 : Int32)) % (9 : Int32)))])) (fun _ k => XS.iload X1.here hx rfl (hb hby at_15) rfl  k) ?_
  have J29_4 : ∀ (j29_1300 : Int32) (TJ4 : State) (LJ4 : List Loc) (XJ4 : Stand p l e room_1 s m #[(.int x0), (.long x1), (.long x2)] below meth c TJ4 LJ4 1 8) (NJ4 : Fr n0 LJ4) (hJ4 : Heap) (eJ4 : TJ4.heap = hJ4) (zJ4 : n0 ≤ hJ4.size) (kJ4 : Keep h0 hJ4 []) (fJ4_0 : Sta Z hJ4 "com/example/columnist/columnist/CellKey" "END_MARK" "[B" (.ref aE)) (fJ4_1 : Arv Z hJ4 aE ke .byte (2 : Int32) ve (.int (0 : Int32))) (fJ4_2 : Exa Z hJ4 b1 "[B") (fJ4_3 : Arv Z hJ4 b1 k1 .byte ((x0 &&& (2147483647 : Int32)) % (9 : Int32)) [(.int j29_1300), (.int (0 : Int32)), (.int (0 : Int32)), (.int (0 : Int32)), (.int (0 : Int32)), (.int (0 : Int32)), (.int (0 : Int32)), (.int (0 : Int32))] (.int (0 : Int32))), (True) → own_Go p e below s (Q0 Z x0 x1 x2 aE ke ve h0 n0) room_1.cells room_1.slots TJ4 (mkF m 29 #[.val (.int x0), .val (.long x1), .second, .val (.long x2), .second, .val (.int ((x0 &&& (2147483647 : Int32)) % (9 : Int32))), .val (.ref b1), .unset] []) := by
    intro j29_1300 TJ4 LJ4 XJ4 NJ4 hJ4 eJ4 zJ4 kJ4 fJ4_0 fJ4_1 fJ4_2 fJ4_3 hJ29_4
    refine own_st (T' := TJ4) (F' := (mkF m 31 #[.val (.int x0), .val (.long x1), .second, .val (.long x2), .second, .val (.int ((x0 &&& (2147483647 : Int32)) % (9 : Int32))), .val (.ref b1), .unset] [(.int ((x0 &&& (2147483647 : Int32)) % (9 : Int32)))])) (fun _ k => XS.iload XJ4.here hx rfl (hb hby at_29) rfl  k) ?_
    refine own_st (T' := TJ4) (F' := (mkF m 32 #[.val (.int x0), .val (.long x1), .second, .val (.long x2), .second, .val (.int ((x0 &&& (2147483647 : Int32)) % (9 : Int32))), .val (.ref b1), .unset] [(.int (1 : Int32)), (.int ((x0 &&& (2147483647 : Int32)) % (9 : Int32)))])) (fun _ k => XS.iconst XJ4.here hx rfl (hb hby at_31) k) ?_
    have J44_5 : ∀ (j44_1301 : Int32) (TJ5 : State) (LJ5 : List Loc) (XJ5 : Stand p l e room_1 s m #[(.int x0), (.long x1), (.long x2)] below meth c TJ5 LJ5 1 8) (NJ5 : Fr n0 LJ5) (hJ5 : Heap) (eJ5 : TJ5.heap = hJ5) (zJ5 : n0 ≤ hJ5.size) (kJ5 : Keep h0 hJ5 []) (fJ5_0 : Sta Z hJ5 "com/example/columnist/columnist/CellKey" "END_MARK" "[B" (.ref aE)) (fJ5_1 : Arv Z hJ5 aE ke .byte (2 : Int32) ve (.int (0 : Int32))) (fJ5_2 : Exa Z hJ5 b1 "[B") (fJ5_3 : Arv Z hJ5 b1 k1 .byte ((x0 &&& (2147483647 : Int32)) % (9 : Int32)) [(.int j29_1300), (.int j44_1301), (.int (0 : Int32)), (.int (0 : Int32)), (.int (0 : Int32)), (.int (0 : Int32)), (.int (0 : Int32)), (.int (0 : Int32))] (.int (0 : Int32))), (True) → own_Go p e below s (Q0 Z x0 x1 x2 aE ke ve h0 n0) room_1.cells room_1.slots TJ5 (mkF m 44 #[.val (.int x0), .val (.long x1), .second, .val (.long x2), .second, .val (.int ((x0 &&& (2147483647 : Int32)) % (9 : Int32))), .val (.ref b1), .unset] []) := by
      intro j44_1301 TJ5 LJ5 XJ5 NJ5 hJ5 eJ5 zJ5 kJ5 fJ5_0 fJ5_1 fJ5_2 fJ5_3 hJ44_5
      refine own_st (T' := TJ5) (F' := (mkF m 46 #[.val (.int x0), .val (.long x1), .second, .val (.long x2), .second, .val (.int ((x0 &&& (2147483647 : Int32)) % (9 : Int32))), .val (.ref b1), .unset] [(.int ((x0 &&& (2147483647 : Int32)) % (9 : Int32)))])) (fun _ k => XS.iload XJ5.here hx rfl (hb hby at_44) rfl  k) ?_
      refine own_st (T' := TJ5) (F' := (mkF m 47 #[.val (.int x0), .val (.long x1), .second, .val (.long x2), .second, .val (.int ((x0 &&& (2147483647 : Int32)) % (9 : Int32))), .val (.ref b1), .unset] [(.int (2 : Int32)), (.int ((x0 &&& (2147483647 : Int32)) % (9 : Int32)))])) (fun _ k => XS.iconst XJ5.here hx rfl (hb hby at_46) k) ?_
      have J59_6 : ∀ (j59_1302 : Int32) (TJ6 : State) (LJ6 : List Loc) (XJ6 : Stand p l e room_1 s m #[(.int x0), (.long x1), (.long x2)] below meth c TJ6 LJ6 1 8) (NJ6 : Fr n0 LJ6) (hJ6 : Heap) (eJ6 : TJ6.heap = hJ6) (zJ6 : n0 ≤ hJ6.size) (kJ6 : Keep h0 hJ6 []) (fJ6_0 : Sta Z hJ6 "com/example/columnist/columnist/CellKey" "END_MARK" "[B" (.ref aE)) (fJ6_1 : Arv Z hJ6 aE ke .byte (2 : Int32) ve (.int (0 : Int32))) (fJ6_2 : Exa Z hJ6 b1 "[B") (fJ6_3 : Arv Z hJ6 b1 k1 .byte ((x0 &&& (2147483647 : Int32)) % (9 : Int32)) [(.int j29_1300), (.int j44_1301), (.int j59_1302), (.int (0 : Int32)), (.int (0 : Int32)), (.int (0 : Int32)), (.int (0 : Int32)), (.int (0 : Int32))] (.int (0 : Int32))), (True) → own_Go p e below s (Q0 Z x0 x1 x2 aE ke ve h0 n0) room_1.cells room_1.slots TJ6 (mkF m 59 #[.val (.int x0), .val (.long x1), .second, .val (.long x2), .second, .val (.int ((x0 &&& (2147483647 : Int32)) % (9 : Int32))), .val (.ref b1), .unset] []) := by
        intro j59_1302 TJ6 LJ6 XJ6 NJ6 hJ6 eJ6 zJ6 kJ6 fJ6_0 fJ6_1 fJ6_2 fJ6_3 hJ59_6
        refine own_st (T' := TJ6) (F' := (mkF m 61 #[.val (.int x0), .val (.long x1), .second, .val (.long x2), .second, .val (.int ((x0 &&& (2147483647 : Int32)) % (9 : Int32))), .val (.ref b1), .unset] [(.int ((x0 &&& (2147483647 : Int32)) % (9 : Int32)))])) (fun _ k => XS.iload XJ6.here hx rfl (hb hby at_59) rfl  k) ?_
        refine own_st (T' := TJ6) (F' := (mkF m 62 #[.val (.int x0), .val (.long x1), .second, .val (.long x2), .second, .val (.int ((x0 &&& (2147483647 : Int32)) % (9 : Int32))), .val (.ref b1), .unset] [(.int (3 : Int32)), (.int ((x0 &&& (2147483647 : Int32)) % (9 : Int32)))])) (fun _ k => XS.iconst XJ6.here hx rfl (hb hby at_61) k) ?_
        have J74_7 : ∀ (j74_1303 : Int32) (TJ7 : State) (LJ7 : List Loc) (XJ7 : Stand p l e room_1 s m #[(.int x0), (.long x1), (.long x2)] below meth c TJ7 LJ7 1 8) (NJ7 : Fr n0 LJ7) (hJ7 : Heap) (eJ7 : TJ7.heap = hJ7) (zJ7 : n0 ≤ hJ7.size) (kJ7 : Keep h0 hJ7 []) (fJ7_0 : Sta Z hJ7 "com/example/columnist/columnist/CellKey" "END_MARK" "[B" (.ref aE)) (fJ7_1 : Arv Z hJ7 aE ke .byte (2 : Int32) ve (.int (0 : Int32))) (fJ7_2 : Exa Z hJ7 b1 "[B") (fJ7_3 : Arv Z hJ7 b1 k1 .byte ((x0 &&& (2147483647 : Int32)) % (9 : Int32)) [(.int j29_1300), (.int j44_1301), (.int j59_1302), (.int j74_1303), (.int (0 : Int32)), (.int (0 : Int32)), (.int (0 : Int32)), (.int (0 : Int32))] (.int (0 : Int32))), (True) → own_Go p e below s (Q0 Z x0 x1 x2 aE ke ve h0 n0) room_1.cells room_1.slots TJ7 (mkF m 74 #[.val (.int x0), .val (.long x1), .second, .val (.long x2), .second, .val (.int ((x0 &&& (2147483647 : Int32)) % (9 : Int32))), .val (.ref b1), .unset] []) := by
          intro j74_1303 TJ7 LJ7 XJ7 NJ7 hJ7 eJ7 zJ7 kJ7 fJ7_0 fJ7_1 fJ7_2 fJ7_3 hJ74_7
          refine own_st (T' := TJ7) (F' := (mkF m 76 #[.val (.int x0), .val (.long x1), .second, .val (.long x2), .second, .val (.int ((x0 &&& (2147483647 : Int32)) % (9 : Int32))), .val (.ref b1), .unset] [(.int ((x0 &&& (2147483647 : Int32)) % (9 : Int32)))])) (fun _ k => XS.iload XJ7.here hx rfl (hb hby at_74) rfl  k) ?_
          refine own_st (T' := TJ7) (F' := (mkF m 77 #[.val (.int x0), .val (.long x1), .second, .val (.long x2), .second, .val (.int ((x0 &&& (2147483647 : Int32)) % (9 : Int32))), .val (.ref b1), .unset] [(.int (4 : Int32)), (.int ((x0 &&& (2147483647 : Int32)) % (9 : Int32)))])) (fun _ k => XS.iconst XJ7.here hx rfl (hb hby at_76) k) ?_
          have J89_8 : ∀ (j89_1304 : Int32) (TJ8 : State) (LJ8 : List Loc) (XJ8 : Stand p l e room_1 s m #[(.int x0), (.long x1), (.long x2)] below meth c TJ8 LJ8 1 8) (NJ8 : Fr n0 LJ8) (hJ8 : Heap) (eJ8 : TJ8.heap = hJ8) (zJ8 : n0 ≤ hJ8.size) (kJ8 : Keep h0 hJ8 []) (fJ8_0 : Sta Z hJ8 "com/example/columnist/columnist/CellKey" "END_MARK" "[B" (.ref aE)) (fJ8_1 : Arv Z hJ8 aE ke .byte (2 : Int32) ve (.int (0 : Int32))) (fJ8_2 : Exa Z hJ8 b1 "[B") (fJ8_3 : Arv Z hJ8 b1 k1 .byte ((x0 &&& (2147483647 : Int32)) % (9 : Int32)) [(.int j29_1300), (.int j44_1301), (.int j59_1302), (.int j74_1303), (.int j89_1304), (.int (0 : Int32)), (.int (0 : Int32)), (.int (0 : Int32))] (.int (0 : Int32))), (True) → own_Go p e below s (Q0 Z x0 x1 x2 aE ke ve h0 n0) room_1.cells room_1.slots TJ8 (mkF m 89 #[.val (.int x0), .val (.long x1), .second, .val (.long x2), .second, .val (.int ((x0 &&& (2147483647 : Int32)) % (9 : Int32))), .val (.ref b1), .unset] []) := by
            intro j89_1304 TJ8 LJ8 XJ8 NJ8 hJ8 eJ8 zJ8 kJ8 fJ8_0 fJ8_1 fJ8_2 fJ8_3 hJ89_8
            refine own_st (T' := TJ8) (F' := (mkF m 91 #[.val (.int x0), .val (.long x1), .second, .val (.long x2), .second, .val (.int ((x0 &&& (2147483647 : Int32)) % (9 : Int32))), .val (.ref b1), .unset] [(.int ((x0 &&& (2147483647 : Int32)) % (9 : Int32)))])) (fun _ k => XS.iload XJ8.here hx rfl (hb hby at_89) rfl  k) ?_
            refine own_st (T' := TJ8) (F' := (mkF m 92 #[.val (.int x0), .val (.long x1), .second, .val (.long x2), .second, .val (.int ((x0 &&& (2147483647 : Int32)) % (9 : Int32))), .val (.ref b1), .unset] [(.int (5 : Int32)), (.int ((x0 &&& (2147483647 : Int32)) % (9 : Int32)))])) (fun _ k => XS.iconst XJ8.here hx rfl (hb hby at_91) k) ?_
            have J104_9 : ∀ (j104_1305 : Int32) (TJ9 : State) (LJ9 : List Loc) (XJ9 : Stand p l e room_1 s m #[(.int x0), (.long x1), (.long x2)] below meth c TJ9 LJ9 1 8) (NJ9 : Fr n0 LJ9) (hJ9 : Heap) (eJ9 : TJ9.heap = hJ9) (zJ9 : n0 ≤ hJ9.size) (kJ9 : Keep h0 hJ9 []) (fJ9_0 : Sta Z hJ9 "com/example/columnist/columnist/CellKey" "END_MARK" "[B" (.ref aE)) (fJ9_1 : Arv Z hJ9 aE ke .byte (2 : Int32) ve (.int (0 : Int32))) (fJ9_2 : Exa Z hJ9 b1 "[B") (fJ9_3 : Arv Z hJ9 b1 k1 .byte ((x0 &&& (2147483647 : Int32)) % (9 : Int32)) [(.int j29_1300), (.int j44_1301), (.int j59_1302), (.int j74_1303), (.int j89_1304), (.int j104_1305), (.int (0 : Int32)), (.int (0 : Int32))] (.int (0 : Int32))), (True) → own_Go p e below s (Q0 Z x0 x1 x2 aE ke ve h0 n0) room_1.cells room_1.slots TJ9 (mkF m 104 #[.val (.int x0), .val (.long x1), .second, .val (.long x2), .second, .val (.int ((x0 &&& (2147483647 : Int32)) % (9 : Int32))), .val (.ref b1), .unset] []) := by
              intro j104_1305 TJ9 LJ9 XJ9 NJ9 hJ9 eJ9 zJ9 kJ9 fJ9_0 fJ9_1 fJ9_2 fJ9_3 hJ104_9
              refine own_st (T' := TJ9) (F' := (mkF m 106 #[.val (.int x0), .val (.long x1), .second, .val (.long x2), .second, .val (.int ((x0 &&& (2147483647 : Int32)) % (9 : Int32))), .val (.ref b1), .unset] [(.int ((x0 &&& (2147483647 : Int32)) % (9 : Int32)))])) (fun _ k => XS.iload XJ9.here hx rfl (hb hby at_104) rfl  k) ?_
              refine own_st (T' := TJ9) (F' := (mkF m 108 #[.val (.int x0), .val (.long x1), .second, .val (.long x2), .second, .val (.int ((x0 &&& (2147483647 : Int32)) % (9 : Int32))), .val (.ref b1), .unset] [(.int (6 : Int32)), (.int ((x0 &&& (2147483647 : Int32)) % (9 : Int32)))])) (fun _ k => XS.bipush XJ9.here hx rfl (hb hby at_106) k) ?_
              have J121_10 : ∀ (j121_1306 : Int32) (TJ10 : State) (LJ10 : List Loc) (XJ10 : Stand p l e room_1 s m #[(.int x0), (.long x1), (.long x2)] below meth c TJ10 LJ10 1 8) (NJ10 : Fr n0 LJ10) (hJ10 : Heap) (eJ10 : TJ10.heap = hJ10) (zJ10 : n0 ≤ hJ10.size) (kJ10 : Keep h0 hJ10 []) (fJ10_0 : Sta Z hJ10 "com/example/columnist/columnist/CellKey" "END_MARK" "[B" (.ref aE)) (fJ10_1 : Arv Z hJ10 aE ke .byte (2 : Int32) ve (.int (0 : Int32))) (fJ10_2 : Exa Z hJ10 b1 "[B") (fJ10_3 : Arv Z hJ10 b1 k1 .byte ((x0 &&& (2147483647 : Int32)) % (9 : Int32)) [(.int j29_1300), (.int j44_1301), (.int j59_1302), (.int j74_1303), (.int j89_1304), (.int j104_1305), (.int j121_1306), (.int (0 : Int32))] (.int (0 : Int32))), (True) → own_Go p e below s (Q0 Z x0 x1 x2 aE ke ve h0 n0) room_1.cells room_1.slots TJ10 (mkF m 121 #[.val (.int x0), .val (.long x1), .second, .val (.long x2), .second, .val (.int ((x0 &&& (2147483647 : Int32)) % (9 : Int32))), .val (.ref b1), .unset] []) := by
                intro j121_1306 TJ10 LJ10 XJ10 NJ10 hJ10 eJ10 zJ10 kJ10 fJ10_0 fJ10_1 fJ10_2 fJ10_3 hJ121_10
                refine own_st (T' := TJ10) (F' := (mkF m 123 #[.val (.int x0), .val (.long x1), .second, .val (.long x2), .second, .val (.int ((x0 &&& (2147483647 : Int32)) % (9 : Int32))), .val (.ref b1), .unset] [(.int ((x0 &&& (2147483647 : Int32)) % (9 : Int32)))])) (fun _ k => XS.iload XJ10.here hx rfl (hb hby at_121) rfl  k) ?_
                refine own_st (T' := TJ10) (F' := (mkF m 125 #[.val (.int x0), .val (.long x1), .second, .val (.long x2), .second, .val (.int ((x0 &&& (2147483647 : Int32)) % (9 : Int32))), .val (.ref b1), .unset] [(.int (7 : Int32)), (.int ((x0 &&& (2147483647 : Int32)) % (9 : Int32)))])) (fun _ k => XS.bipush XJ10.here hx rfl (hb hby at_123) k) ?_
                have J138_11 : ∀ (j138_1307 : Int32) (TJ11 : State) (LJ11 : List Loc) (XJ11 : Stand p l e room_1 s m #[(.int x0), (.long x1), (.long x2)] below meth c TJ11 LJ11 1 8) (NJ11 : Fr n0 LJ11) (hJ11 : Heap) (eJ11 : TJ11.heap = hJ11) (zJ11 : n0 ≤ hJ11.size) (kJ11 : Keep h0 hJ11 []) (fJ11_0 : Sta Z hJ11 "com/example/columnist/columnist/CellKey" "END_MARK" "[B" (.ref aE)) (fJ11_1 : Arv Z hJ11 aE ke .byte (2 : Int32) ve (.int (0 : Int32))) (fJ11_2 : Exa Z hJ11 b1 "[B") (fJ11_3 : Arv Z hJ11 b1 k1 .byte ((x0 &&& (2147483647 : Int32)) % (9 : Int32)) [(.int j29_1300), (.int j44_1301), (.int j59_1302), (.int j74_1303), (.int j89_1304), (.int j104_1305), (.int j121_1306), (.int j138_1307)] (.int (0 : Int32))), (True) → own_Go p e below s (Q0 Z x0 x1 x2 aE ke ve h0 n0) room_1.cells room_1.slots TJ11 (mkF m 138 #[.val (.int x0), .val (.long x1), .second, .val (.long x2), .second, .val (.int ((x0 &&& (2147483647 : Int32)) % (9 : Int32))), .val (.ref b1), .unset] []) := by
                  intro j138_1307 TJ11 LJ11 XJ11 NJ11 hJ11 eJ11 zJ11 kJ11 fJ11_0 fJ11_1 fJ11_2 fJ11_3 hJ138_11
                  refine own_st (T' := TJ11) (F' := (mkF m 140 #[.val (.int x0), .val (.long x1), .second, .val (.long x2), .second, .val (.int ((x0 &&& (2147483647 : Int32)) % (9 : Int32))), .val (.ref b1), .unset] [(.ref b1)])) (fun _ k => XS.aload XJ11.here hx rfl (hb hby at_138) rfl rfl k) ?_
                  obtain ⟨_, _, ⟨T12, L12, k12, n12⟩, -, X12, ⟨Lc12, hQ12, l12, y12, z12⟩, st12⟩ := Jvm.LawKit.callS XJ11 hx (y := (⟨"com/example/columnist/columnist/CellKeyFindRowLengthPinLaw", "ref", "([B)I"⟩ : MethodName)) hown (mvT hZ (hw _ (List.mem_of_getElem? (i := 2) rfl))) (mvT hZ (hw _ (List.mem_of_getElem? (i := 3) rfl))) (mvT hZ (hw _ (List.mem_of_getElem? (i := 4) rfl))) (mvT hZ (hw _ (List.mem_of_getElem? (i := 5) rfl))) (by decide) (backOf (W := 0) (rm1 l Z a0 hw [] b1 k1 ((x0 &&& (2147483647 : Int32)) % (9 : Int32)) j29_1300 j44_1301 j59_1302 j74_1303 j89_1304 j104_1305 j121_1306 j138_1307 hJ11 n0 zJ11 fJ11_3) hZ (hw _ (List.mem_of_getElem? (i := 5) rfl)) (hw _ (List.mem_of_getElem? (i := 4) rfl)) (by decide) (by decide)) (g := (mkF m 140 #[.val (.int x0), .val (.long x1), .second, .val (.long x2), .second, .val (.int ((x0 &&& (2147483647 : Int32)) % (9 : Int32))), .val (.ref b1), .unset] [(.ref b1)])) rfl (by rw [hml]; rfl) (argsL := [(.ref b1)]) (rest := []) (lenOf own_pd2 rfl) rfl (by show 2 * 0 + _ ≤ _; exact Nat.le_of_eq rfl) (hb hby at_140) (fun _ _ => ⟨rfl, eJ11, (by decide : 1 + 0 ≤ _), (by decide : 8 + 0 ≤ _)⟩)
                  dsimp only [Pt.U, Pt.locs, Pt.cells, Pt.slots] at X12 l12 y12 z12 st12 hQ12
                  subst l12 y12 z12
                  obtain ⟨⟨r12, rfl, hr12⟩, Nq12, eq12⟩ := hQ12
                  have N12 := Fr.app NJ11 Nq12
                  refine own_st (T' := T12) (F' := (mkF m 143 #[.val (.int x0), .val (.long x1), .second, .val (.long x2), .second, .val (.int ((x0 &&& (2147483647 : Int32)) % (9 : Int32))), .val (.ref b1), .unset] [(.int r12)])) (fun _ k => st12 _ k) ?_
                  refine own_st (T' := T12) (F' := (mkF m 145 #[.val (.int x0), .val (.long x1), .second, .val (.long x2), .second, .val (.int ((x0 &&& (2147483647 : Int32)) % (9 : Int32))), .val (.ref b1), .val (.int r12)] [])) (fun _ k => XS.istore X12.here hx rfl (hb hby at_143) rfl (l' := #[.val (.int x0), .val (.long x1), .second, .val (.long x2), .second, .val (.int ((x0 &&& (2147483647 : Int32)) % (9 : Int32))), .val (.ref b1), .val (.int r12)]) rfl k) ?_
                  refine own_st (T' := T12) (F' := (mkF m 147 #[.val (.int x0), .val (.long x1), .second, .val (.long x2), .second, .val (.int ((x0 &&& (2147483647 : Int32)) % (9 : Int32))), .val (.ref b1), .val (.int r12)] [(.ref b1)])) (fun _ k => XS.aload X12.here hx rfl (hb hby at_145) rfl rfl k) ?_
                  obtain ⟨_, _, ⟨T13, L13, k13, n13⟩, -, X13, ⟨Lc13, hQ13, l13, y13, z13⟩, st13⟩ := Jvm.LawKit.callS X12 hx (y := (⟨"com/example/columnist/columnist/CellKey", "findRowLength", "([B)I"⟩ : MethodName)) hown (mvT hZ (hw _ (List.mem_of_getElem? (i := 9) rfl))) (mvT hZ (hw _ (List.mem_of_getElem? (i := 10) rfl))) (mvT hZ (hw _ (List.mem_of_getElem? (i := 11) rfl))) (mvT hZ (hw _ (List.mem_of_getElem? (i := 12) rfl))) (by decide) (backOf (W := 0) (rm3 l Z a0 hw [] b1 aE ke ve k1 ((x0 &&& (2147483647 : Int32)) % (9 : Int32)) j29_1300 j44_1301 j59_1302 j74_1303 j89_1304 j104_1305 j121_1306 j138_1307 hJ11 n0 zJ11 fJ11_0 fJ11_1 fJ11_3 (own_m9 x0).2.2) hZ (hw _ (List.mem_of_getElem? (i := 12) rfl)) (hw _ (List.mem_of_getElem? (i := 11) rfl)) (by decide) (by decide)) (g := (mkF m 147 #[.val (.int x0), .val (.long x1), .second, .val (.long x2), .second, .val (.int ((x0 &&& (2147483647 : Int32)) % (9 : Int32))), .val (.ref b1), .val (.int r12)] [(.ref b1)])) rfl (by rw [hml]; rfl) (argsL := [(.ref b1)]) (rest := []) (lenOf own_pd2 rfl) rfl (by show 2 * 0 + _ ≤ _; exact Nat.le_of_eq rfl) (hb hby at_147) (fun _ _ => ⟨rfl, eq12, (by decide : 1 + 0 ≤ _), (by decide : 8 + 0 ≤ _)⟩)
                  dsimp only [Pt.U, Pt.locs, Pt.cells, Pt.slots] at X13 l13 y13 z13 st13 hQ13
                  subst l13 y13 z13
                  obtain ⟨⟨r13, rfl, hr13⟩, Nq13, eq13⟩ := hQ13
                  have N13 := Fr.app N12 Nq13
                  refine own_st (T' := T13) (F' := (mkF m 150 #[.val (.int x0), .val (.long x1), .second, .val (.long x2), .second, .val (.int ((x0 &&& (2147483647 : Int32)) % (9 : Int32))), .val (.ref b1), .val (.int r12)] [(.int r13)])) (fun _ k => st13 _ k) ?_
                  refine own_st (T' := T13) (F' := (mkF m 152 #[.val (.int x0), .val (.long x1), .second, .val (.long x2), .second, .val (.int ((x0 &&& (2147483647 : Int32)) % (9 : Int32))), .val (.ref b1), .val (.int r12)] [(.int r12), (.int r13)])) (fun _ k => XS.iload X13.here hx rfl (hb hby at_150) rfl  k) ?_
                  have J160_14 : ∀ (j160_1 : Int32), (((¬ (r13 = r12)) ∧ j160_1 = (0 : Int32)) ∨ ((r13 = r12) ∧ j160_1 = (1 : Int32))) → own_Go p e below s (Q0 Z x0 x1 x2 aE ke ve h0 n0) room_1.cells room_1.slots T13 (mkF m 160 #[.val (.int x0), .val (.long x1), .second, .val (.long x2), .second, .val (.int ((x0 &&& (2147483647 : Int32)) % (9 : Int32))), .val (.ref b1), .val (.int r12)] [(.int j160_1)]) := by
                    intro j160_1 hJ160_14
                    refine own_retN X13 hx hlk (t := .boolean) Bd.returns (by simp) (hb hby at_160) ?_ (by decide) (by decide)
                    rw [eq13]
                    refine ⟨⟨_, rfl, ?_⟩, N13⟩
                    rcases hJ160_14 with ⟨h, rfl⟩ | ⟨h, rfl⟩
                    · exact absurd (own_Ru hr13 hr12) h
                    · rfl
                  refine own_icmp X13 hx (pc' := 159) (pc2 := 155) (hb hby at_152) (by decide) (by decide) rfl (fun (hc152 : ¬ (r13 = r12)) => ?_) (fun (hc152 : r13 = r12) => ?_)
                  ·
                    refine own_st (T' := T13) (F' := (mkF m 160 #[.val (.int x0), .val (.long x1), .second, .val (.long x2), .second, .val (.int ((x0 &&& (2147483647 : Int32)) % (9 : Int32))), .val (.ref b1), .val (.int r12)] [(.int (0 : Int32))])) (fun _ k => XS.iconst X13.here hx rfl (hb hby at_159) k) ?_
                    exact J160_14 (0 : Int32) (Or.inl (⟨hc152, rfl⟩))
                  ·
                    refine own_st (T' := T13) (F' := (mkF m 156 #[.val (.int x0), .val (.long x1), .second, .val (.long x2), .second, .val (.int ((x0 &&& (2147483647 : Int32)) % (9 : Int32))), .val (.ref b1), .val (.int r12)] [(.int (1 : Int32))])) (fun _ k => XS.iconst X13.here hx rfl (hb hby at_155) k) ?_
                    refine own_st (T' := T13) (F' := (mkF m 160 #[.val (.int x0), .val (.long x1), .second, .val (.long x2), .second, .val (.int ((x0 &&& (2147483647 : Int32)) % (9 : Int32))), .val (.ref b1), .val (.int r12)] [(.int (1 : Int32))])) (fun _ k => XS.goto X13.here hx rfl (pc0 := 156) (pc' := 160) rfl (hb hby at_156) (by decide) (by decide) k) ?_
                    exact J160_14 (1 : Int32) (Or.inr (⟨hc152, rfl⟩))
                refine own_icmp XJ10 hx (pc' := 138) (pc2 := 128) (hb hby at_125) (by decide) (by decide) rfl (fun (hc125 : ¬ ((7 : Int32) < ((x0 &&& (2147483647 : Int32)) % (9 : Int32)))) => ?_) (fun (hc125 : (7 : Int32) < ((x0 &&& (2147483647 : Int32)) % (9 : Int32))) => ?_)
                ·
                  exact J138_11 (0 : Int32) TJ10 _ XJ10 NJ10 hJ10 eJ10 zJ10 kJ10 fJ10_0 fJ10_1 fJ10_2 fJ10_3 (trivial)
                ·
                  refine own_st (T' := TJ10) (F' := (mkF m 130 #[.val (.int x0), .val (.long x1), .second, .val (.long x2), .second, .val (.int ((x0 &&& (2147483647 : Int32)) % (9 : Int32))), .val (.ref b1), .unset] [(.ref b1)])) (fun _ k => XS.aload XJ10.here hx rfl (hb hby at_128) rfl rfl k) ?_
                  refine own_st (T' := TJ10) (F' := (mkF m 132 #[.val (.int x0), .val (.long x1), .second, .val (.long x2), .second, .val (.int ((x0 &&& (2147483647 : Int32)) % (9 : Int32))), .val (.ref b1), .unset] [(.int (7 : Int32)), (.ref b1)])) (fun _ k => XS.bipush XJ10.here hx rfl (hb hby at_130) k) ?_
                  refine own_st (T' := TJ10) (F' := (mkF m 133 #[.val (.int x0), .val (.long x1), .second, .val (.long x2), .second, .val (.int ((x0 &&& (2147483647 : Int32)) % (9 : Int32))), .val (.ref b1), .unset] [(.long x2), (.int (7 : Int32)), (.ref b1)])) (fun _ k => XS.lloadN XJ10.here hx rfl (hb hby at_132) rfl  k) ?_
                  refine own_st (T' := TJ10) (F' := (mkF m 134 #[.val (.int x0), .val (.long x1), .second, .val (.long x2), .second, .val (.int ((x0 &&& (2147483647 : Int32)) % (9 : Int32))), .val (.ref b1), .unset] [(.int (1 : Int32)), (.long x2), (.int (7 : Int32)), (.ref b1)])) (fun _ k => XS.iconst XJ10.here hx rfl (hb hby at_133) k) ?_
                  obtain ⟨_, _, ⟨T15, L15, k15, n15⟩, -, X15, ⟨Lc15, hQ15, l15, y15, z15⟩, st15⟩ := Jvm.LawKit.callS XJ10 hx (y := (⟨"com/example/columnist/columnist/CellKeyFindRowLengthPinLaw", "draw", "(JI)B"⟩ : MethodName)) hown (mvT hZ (hw _ (List.mem_of_getElem? (i := 13) rfl))) (mvT hZ (hw _ (List.mem_of_getElem? (i := 14) rfl))) (mvT hZ (hw _ (List.mem_of_getElem? (i := 4) rfl))) (mvT hZ (hw _ (List.mem_of_getElem? (i := 15) rfl))) (by decide) (backOf (W := 2) (rm4 l Z a0 hw [] x2 (1 : Int32)  hJ10 n0 zJ10 ) hZ (hw _ (List.mem_of_getElem? (i := 15) rfl)) (hw _ (List.mem_of_getElem? (i := 4) rfl)) (by decide) (by decide)) (g := (mkF m 134 #[.val (.int x0), .val (.long x1), .second, .val (.long x2), .second, .val (.int ((x0 &&& (2147483647 : Int32)) % (9 : Int32))), .val (.ref b1), .unset] [(.int (1 : Int32)), (.long x2), (.int (7 : Int32)), (.ref b1)])) rfl (by rw [hml]; rfl) (argsL := [(.long x2), (.int (1 : Int32))]) (rest := [(.int (7 : Int32)), (.ref b1)]) (lenOf own_pd1 rfl) rfl (by show 2 * 0 + _ ≤ _; exact Nat.le_of_eq rfl) (hb hby at_134) (fun _ _ => ⟨rfl, eJ10, (by decide : 1 + 0 ≤ _), (by decide : 8 + 0 ≤ _)⟩)
                  dsimp only [Pt.U, Pt.locs, Pt.cells, Pt.slots] at X15 l15 y15 z15 st15 hQ15
                  subst l15 y15 z15
                  obtain ⟨⟨r15, rfl, hr15⟩, Nq15, eq15⟩ := hQ15
                  have N15 := Fr.app NJ10 Nq15
                  refine own_st (T' := T15) (F' := (mkF m 137 #[.val (.int x0), .val (.long x1), .second, .val (.long x2), .second, .val (.int ((x0 &&& (2147483647 : Int32)) % (9 : Int32))), .val (.ref b1), .unset] [(.int r15), (.int (7 : Int32)), (.ref b1)])) (fun _ k => st15 _ k) ?_
                  obtain ⟨cl16, Ar16, Aq16, As16, Am16, Ah16, Au16⟩ := id fJ10_3
                  have hin16 : ¬ ((7 : Int32) < 0 ∨ cl16.slots.size ≤ ((7 : Int32)).toNatClampNeg) := inb_of As16 ⟨by decide, hc125⟩
                  obtain ⟨T16, h16, X16, e16, W16, st16⟩ := stB X15 hx hZ eq15 Ar16 (j := (7 : Int32)) hin16 (g := (mkF m 137 #[.val (.int x0), .val (.long x1), .second, .val (.long x2), .second, .val (.int ((x0 &&& (2147483647 : Int32)) % (9 : Int32))), .val (.ref b1), .unset] [(.int r15), (.int (7 : Int32)), (.ref b1)])) rfl rfl (hb hby at_137)
                  have V16 : Arv Z h16 b1 k1 .byte ((x0 &&& (2147483647 : Int32)) % (9 : Int32)) [(.int j29_1300), (.int j44_1301), (.int j59_1302), (.int j74_1303), (.int j89_1304), (.int j104_1305), (.int j121_1306), (.int (r15.toInt8.toInt32))] (.int (0 : Int32)) := Arv.set Ar16 Aq16 As16 Am16 Ah16 Au16 (fits_nar_byte _) W16 7 rfl (show 7 < 8 by decide)
                  have N16 := Fr.snoc X16 N15 ge1
                  have f17 : Sta Z h16 "com/example/columnist/columnist/CellKey" "END_MARK" "[B" (.ref aE) := fJ10_0.wr W16
                  have f18 : Arv Z h16 aE ke .byte (2 : Int32) ve (.int (0 : Int32)) := fJ10_1.other W16 ne1_1
                  have f19 : Exa Z h16 b1 "[B" := fJ10_2.wr W16
                  have K16 : Keep h0 h16 [] := kJ10.wr W16 (Or.inr hge1)
                  have Zs16 : n0 ≤ h16.size := Nat.le_trans Z0 K16.1
                  refine own_st (T' := T16) (F' := (mkF m 138 #[.val (.int x0), .val (.long x1), .second, .val (.long x2), .second, .val (.int ((x0 &&& (2147483647 : Int32)) % (9 : Int32))), .val (.ref b1), .unset] [])) (fun _ k => st16 _ k) ?_
                  exact J138_11 (r15.toInt8.toInt32) T16 _ X16 N16 h16 e16 Zs16 K16 f17 f18 f19 V16 (trivial)
              refine own_icmp XJ9 hx (pc' := 121) (pc2 := 111) (hb hby at_108) (by decide) (by decide) rfl (fun (hc108 : ¬ ((6 : Int32) < ((x0 &&& (2147483647 : Int32)) % (9 : Int32)))) => ?_) (fun (hc108 : (6 : Int32) < ((x0 &&& (2147483647 : Int32)) % (9 : Int32))) => ?_)
              ·
                exact J121_10 (0 : Int32) TJ9 _ XJ9 NJ9 hJ9 eJ9 zJ9 kJ9 fJ9_0 fJ9_1 fJ9_2 fJ9_3 (trivial)
              ·
                refine own_st (T' := TJ9) (F' := (mkF m 113 #[.val (.int x0), .val (.long x1), .second, .val (.long x2), .second, .val (.int ((x0 &&& (2147483647 : Int32)) % (9 : Int32))), .val (.ref b1), .unset] [(.ref b1)])) (fun _ k => XS.aload XJ9.here hx rfl (hb hby at_111) rfl rfl k) ?_
                refine own_st (T' := TJ9) (F' := (mkF m 115 #[.val (.int x0), .val (.long x1), .second, .val (.long x2), .second, .val (.int ((x0 &&& (2147483647 : Int32)) % (9 : Int32))), .val (.ref b1), .unset] [(.int (6 : Int32)), (.ref b1)])) (fun _ k => XS.bipush XJ9.here hx rfl (hb hby at_113) k) ?_
                refine own_st (T' := TJ9) (F' := (mkF m 116 #[.val (.int x0), .val (.long x1), .second, .val (.long x2), .second, .val (.int ((x0 &&& (2147483647 : Int32)) % (9 : Int32))), .val (.ref b1), .unset] [(.long x2), (.int (6 : Int32)), (.ref b1)])) (fun _ k => XS.lloadN XJ9.here hx rfl (hb hby at_115) rfl  k) ?_
                refine own_st (T' := TJ9) (F' := (mkF m 117 #[.val (.int x0), .val (.long x1), .second, .val (.long x2), .second, .val (.int ((x0 &&& (2147483647 : Int32)) % (9 : Int32))), .val (.ref b1), .unset] [(.int (0 : Int32)), (.long x2), (.int (6 : Int32)), (.ref b1)])) (fun _ k => XS.iconst XJ9.here hx rfl (hb hby at_116) k) ?_
                obtain ⟨_, _, ⟨T20, L20, k20, n20⟩, -, X20, ⟨Lc20, hQ20, l20, y20, z20⟩, st20⟩ := Jvm.LawKit.callS XJ9 hx (y := (⟨"com/example/columnist/columnist/CellKeyFindRowLengthPinLaw", "draw", "(JI)B"⟩ : MethodName)) hown (mvT hZ (hw _ (List.mem_of_getElem? (i := 13) rfl))) (mvT hZ (hw _ (List.mem_of_getElem? (i := 14) rfl))) (mvT hZ (hw _ (List.mem_of_getElem? (i := 4) rfl))) (mvT hZ (hw _ (List.mem_of_getElem? (i := 15) rfl))) (by decide) (backOf (W := 2) (rm4 l Z a0 hw [] x2 (0 : Int32)  hJ9 n0 zJ9 ) hZ (hw _ (List.mem_of_getElem? (i := 15) rfl)) (hw _ (List.mem_of_getElem? (i := 4) rfl)) (by decide) (by decide)) (g := (mkF m 117 #[.val (.int x0), .val (.long x1), .second, .val (.long x2), .second, .val (.int ((x0 &&& (2147483647 : Int32)) % (9 : Int32))), .val (.ref b1), .unset] [(.int (0 : Int32)), (.long x2), (.int (6 : Int32)), (.ref b1)])) rfl (by rw [hml]; rfl) (argsL := [(.long x2), (.int (0 : Int32))]) (rest := [(.int (6 : Int32)), (.ref b1)]) (lenOf own_pd1 rfl) rfl (by show 2 * 0 + _ ≤ _; exact Nat.le_of_eq rfl) (hb hby at_117) (fun _ _ => ⟨rfl, eJ9, (by decide : 1 + 0 ≤ _), (by decide : 8 + 0 ≤ _)⟩)
                dsimp only [Pt.U, Pt.locs, Pt.cells, Pt.slots] at X20 l20 y20 z20 st20 hQ20
                subst l20 y20 z20
                obtain ⟨⟨r20, rfl, hr20⟩, Nq20, eq20⟩ := hQ20
                have N20 := Fr.app NJ9 Nq20
                refine own_st (T' := T20) (F' := (mkF m 120 #[.val (.int x0), .val (.long x1), .second, .val (.long x2), .second, .val (.int ((x0 &&& (2147483647 : Int32)) % (9 : Int32))), .val (.ref b1), .unset] [(.int r20), (.int (6 : Int32)), (.ref b1)])) (fun _ k => st20 _ k) ?_
                obtain ⟨cl21, Ar21, Aq21, As21, Am21, Ah21, Au21⟩ := id fJ9_3
                have hin21 : ¬ ((6 : Int32) < 0 ∨ cl21.slots.size ≤ ((6 : Int32)).toNatClampNeg) := inb_of As21 ⟨by decide, hc108⟩
                obtain ⟨T21, h21, X21, e21, W21, st21⟩ := stB X20 hx hZ eq20 Ar21 (j := (6 : Int32)) hin21 (g := (mkF m 120 #[.val (.int x0), .val (.long x1), .second, .val (.long x2), .second, .val (.int ((x0 &&& (2147483647 : Int32)) % (9 : Int32))), .val (.ref b1), .unset] [(.int r20), (.int (6 : Int32)), (.ref b1)])) rfl rfl (hb hby at_120)
                have V21 : Arv Z h21 b1 k1 .byte ((x0 &&& (2147483647 : Int32)) % (9 : Int32)) [(.int j29_1300), (.int j44_1301), (.int j59_1302), (.int j74_1303), (.int j89_1304), (.int j104_1305), (.int (r20.toInt8.toInt32)), (.int (0 : Int32))] (.int (0 : Int32)) := Arv.set Ar21 Aq21 As21 Am21 Ah21 Au21 (fits_nar_byte _) W21 6 rfl (show 6 < 8 by decide)
                have N21 := Fr.snoc X21 N20 ge1
                have f22 : Sta Z h21 "com/example/columnist/columnist/CellKey" "END_MARK" "[B" (.ref aE) := fJ9_0.wr W21
                have f23 : Arv Z h21 aE ke .byte (2 : Int32) ve (.int (0 : Int32)) := fJ9_1.other W21 ne1_1
                have f24 : Exa Z h21 b1 "[B" := fJ9_2.wr W21
                have K21 : Keep h0 h21 [] := kJ9.wr W21 (Or.inr hge1)
                have Zs21 : n0 ≤ h21.size := Nat.le_trans Z0 K21.1
                refine own_st (T' := T21) (F' := (mkF m 121 #[.val (.int x0), .val (.long x1), .second, .val (.long x2), .second, .val (.int ((x0 &&& (2147483647 : Int32)) % (9 : Int32))), .val (.ref b1), .unset] [])) (fun _ k => st21 _ k) ?_
                exact J121_10 (r20.toInt8.toInt32) T21 _ X21 N21 h21 e21 Zs21 K21 f22 f23 f24 V21 (trivial)
            refine own_icmp XJ8 hx (pc' := 104) (pc2 := 95) (hb hby at_92) (by decide) (by decide) rfl (fun (hc92 : ¬ ((5 : Int32) < ((x0 &&& (2147483647 : Int32)) % (9 : Int32)))) => ?_) (fun (hc92 : (5 : Int32) < ((x0 &&& (2147483647 : Int32)) % (9 : Int32))) => ?_)
            ·
              exact J104_9 (0 : Int32) TJ8 _ XJ8 NJ8 hJ8 eJ8 zJ8 kJ8 fJ8_0 fJ8_1 fJ8_2 fJ8_3 (trivial)
            ·
              refine own_st (T' := TJ8) (F' := (mkF m 97 #[.val (.int x0), .val (.long x1), .second, .val (.long x2), .second, .val (.int ((x0 &&& (2147483647 : Int32)) % (9 : Int32))), .val (.ref b1), .unset] [(.ref b1)])) (fun _ k => XS.aload XJ8.here hx rfl (hb hby at_95) rfl rfl k) ?_
              refine own_st (T' := TJ8) (F' := (mkF m 98 #[.val (.int x0), .val (.long x1), .second, .val (.long x2), .second, .val (.int ((x0 &&& (2147483647 : Int32)) % (9 : Int32))), .val (.ref b1), .unset] [(.int (5 : Int32)), (.ref b1)])) (fun _ k => XS.iconst XJ8.here hx rfl (hb hby at_97) k) ?_
              refine own_st (T' := TJ8) (F' := (mkF m 99 #[.val (.int x0), .val (.long x1), .second, .val (.long x2), .second, .val (.int ((x0 &&& (2147483647 : Int32)) % (9 : Int32))), .val (.ref b1), .unset] [(.long x1), (.int (5 : Int32)), (.ref b1)])) (fun _ k => XS.lloadN XJ8.here hx rfl (hb hby at_98) rfl  k) ?_
              refine own_st (T' := TJ8) (F' := (mkF m 100 #[.val (.int x0), .val (.long x1), .second, .val (.long x2), .second, .val (.int ((x0 &&& (2147483647 : Int32)) % (9 : Int32))), .val (.ref b1), .unset] [(.int (5 : Int32)), (.long x1), (.int (5 : Int32)), (.ref b1)])) (fun _ k => XS.iconst XJ8.here hx rfl (hb hby at_99) k) ?_
              obtain ⟨_, _, ⟨T25, L25, k25, n25⟩, -, X25, ⟨Lc25, hQ25, l25, y25, z25⟩, st25⟩ := Jvm.LawKit.callS XJ8 hx (y := (⟨"com/example/columnist/columnist/CellKeyFindRowLengthPinLaw", "draw", "(JI)B"⟩ : MethodName)) hown (mvT hZ (hw _ (List.mem_of_getElem? (i := 13) rfl))) (mvT hZ (hw _ (List.mem_of_getElem? (i := 14) rfl))) (mvT hZ (hw _ (List.mem_of_getElem? (i := 4) rfl))) (mvT hZ (hw _ (List.mem_of_getElem? (i := 15) rfl))) (by decide) (backOf (W := 2) (rm4 l Z a0 hw [] x1 (5 : Int32)  hJ8 n0 zJ8 ) hZ (hw _ (List.mem_of_getElem? (i := 15) rfl)) (hw _ (List.mem_of_getElem? (i := 4) rfl)) (by decide) (by decide)) (g := (mkF m 100 #[.val (.int x0), .val (.long x1), .second, .val (.long x2), .second, .val (.int ((x0 &&& (2147483647 : Int32)) % (9 : Int32))), .val (.ref b1), .unset] [(.int (5 : Int32)), (.long x1), (.int (5 : Int32)), (.ref b1)])) rfl (by rw [hml]; rfl) (argsL := [(.long x1), (.int (5 : Int32))]) (rest := [(.int (5 : Int32)), (.ref b1)]) (lenOf own_pd1 rfl) rfl (by show 2 * 0 + _ ≤ _; exact Nat.le_of_eq rfl) (hb hby at_100) (fun _ _ => ⟨rfl, eJ8, (by decide : 1 + 0 ≤ _), (by decide : 8 + 0 ≤ _)⟩)
              dsimp only [Pt.U, Pt.locs, Pt.cells, Pt.slots] at X25 l25 y25 z25 st25 hQ25
              subst l25 y25 z25
              obtain ⟨⟨r25, rfl, hr25⟩, Nq25, eq25⟩ := hQ25
              have N25 := Fr.app NJ8 Nq25
              refine own_st (T' := T25) (F' := (mkF m 103 #[.val (.int x0), .val (.long x1), .second, .val (.long x2), .second, .val (.int ((x0 &&& (2147483647 : Int32)) % (9 : Int32))), .val (.ref b1), .unset] [(.int r25), (.int (5 : Int32)), (.ref b1)])) (fun _ k => st25 _ k) ?_
              obtain ⟨cl26, Ar26, Aq26, As26, Am26, Ah26, Au26⟩ := id fJ8_3
              have hin26 : ¬ ((5 : Int32) < 0 ∨ cl26.slots.size ≤ ((5 : Int32)).toNatClampNeg) := inb_of As26 ⟨by decide, hc92⟩
              obtain ⟨T26, h26, X26, e26, W26, st26⟩ := stB X25 hx hZ eq25 Ar26 (j := (5 : Int32)) hin26 (g := (mkF m 103 #[.val (.int x0), .val (.long x1), .second, .val (.long x2), .second, .val (.int ((x0 &&& (2147483647 : Int32)) % (9 : Int32))), .val (.ref b1), .unset] [(.int r25), (.int (5 : Int32)), (.ref b1)])) rfl rfl (hb hby at_103)
              have V26 : Arv Z h26 b1 k1 .byte ((x0 &&& (2147483647 : Int32)) % (9 : Int32)) [(.int j29_1300), (.int j44_1301), (.int j59_1302), (.int j74_1303), (.int j89_1304), (.int (r25.toInt8.toInt32)), (.int (0 : Int32)), (.int (0 : Int32))] (.int (0 : Int32)) := Arv.set Ar26 Aq26 As26 Am26 Ah26 Au26 (fits_nar_byte _) W26 5 rfl (show 5 < 8 by decide)
              have N26 := Fr.snoc X26 N25 ge1
              have f27 : Sta Z h26 "com/example/columnist/columnist/CellKey" "END_MARK" "[B" (.ref aE) := fJ8_0.wr W26
              have f28 : Arv Z h26 aE ke .byte (2 : Int32) ve (.int (0 : Int32)) := fJ8_1.other W26 ne1_1
              have f29 : Exa Z h26 b1 "[B" := fJ8_2.wr W26
              have K26 : Keep h0 h26 [] := kJ8.wr W26 (Or.inr hge1)
              have Zs26 : n0 ≤ h26.size := Nat.le_trans Z0 K26.1
              refine own_st (T' := T26) (F' := (mkF m 104 #[.val (.int x0), .val (.long x1), .second, .val (.long x2), .second, .val (.int ((x0 &&& (2147483647 : Int32)) % (9 : Int32))), .val (.ref b1), .unset] [])) (fun _ k => st26 _ k) ?_
              exact J104_9 (r25.toInt8.toInt32) T26 _ X26 N26 h26 e26 Zs26 K26 f27 f28 f29 V26 (trivial)
          refine own_icmp XJ7 hx (pc' := 89) (pc2 := 80) (hb hby at_77) (by decide) (by decide) rfl (fun (hc77 : ¬ ((4 : Int32) < ((x0 &&& (2147483647 : Int32)) % (9 : Int32)))) => ?_) (fun (hc77 : (4 : Int32) < ((x0 &&& (2147483647 : Int32)) % (9 : Int32))) => ?_)
          ·
            exact J89_8 (0 : Int32) TJ7 _ XJ7 NJ7 hJ7 eJ7 zJ7 kJ7 fJ7_0 fJ7_1 fJ7_2 fJ7_3 (trivial)
          ·
            refine own_st (T' := TJ7) (F' := (mkF m 82 #[.val (.int x0), .val (.long x1), .second, .val (.long x2), .second, .val (.int ((x0 &&& (2147483647 : Int32)) % (9 : Int32))), .val (.ref b1), .unset] [(.ref b1)])) (fun _ k => XS.aload XJ7.here hx rfl (hb hby at_80) rfl rfl k) ?_
            refine own_st (T' := TJ7) (F' := (mkF m 83 #[.val (.int x0), .val (.long x1), .second, .val (.long x2), .second, .val (.int ((x0 &&& (2147483647 : Int32)) % (9 : Int32))), .val (.ref b1), .unset] [(.int (4 : Int32)), (.ref b1)])) (fun _ k => XS.iconst XJ7.here hx rfl (hb hby at_82) k) ?_
            refine own_st (T' := TJ7) (F' := (mkF m 84 #[.val (.int x0), .val (.long x1), .second, .val (.long x2), .second, .val (.int ((x0 &&& (2147483647 : Int32)) % (9 : Int32))), .val (.ref b1), .unset] [(.long x1), (.int (4 : Int32)), (.ref b1)])) (fun _ k => XS.lloadN XJ7.here hx rfl (hb hby at_83) rfl  k) ?_
            refine own_st (T' := TJ7) (F' := (mkF m 85 #[.val (.int x0), .val (.long x1), .second, .val (.long x2), .second, .val (.int ((x0 &&& (2147483647 : Int32)) % (9 : Int32))), .val (.ref b1), .unset] [(.int (4 : Int32)), (.long x1), (.int (4 : Int32)), (.ref b1)])) (fun _ k => XS.iconst XJ7.here hx rfl (hb hby at_84) k) ?_
            obtain ⟨_, _, ⟨T30, L30, k30, n30⟩, -, X30, ⟨Lc30, hQ30, l30, y30, z30⟩, st30⟩ := Jvm.LawKit.callS XJ7 hx (y := (⟨"com/example/columnist/columnist/CellKeyFindRowLengthPinLaw", "draw", "(JI)B"⟩ : MethodName)) hown (mvT hZ (hw _ (List.mem_of_getElem? (i := 13) rfl))) (mvT hZ (hw _ (List.mem_of_getElem? (i := 14) rfl))) (mvT hZ (hw _ (List.mem_of_getElem? (i := 4) rfl))) (mvT hZ (hw _ (List.mem_of_getElem? (i := 15) rfl))) (by decide) (backOf (W := 2) (rm4 l Z a0 hw [] x1 (4 : Int32)  hJ7 n0 zJ7 ) hZ (hw _ (List.mem_of_getElem? (i := 15) rfl)) (hw _ (List.mem_of_getElem? (i := 4) rfl)) (by decide) (by decide)) (g := (mkF m 85 #[.val (.int x0), .val (.long x1), .second, .val (.long x2), .second, .val (.int ((x0 &&& (2147483647 : Int32)) % (9 : Int32))), .val (.ref b1), .unset] [(.int (4 : Int32)), (.long x1), (.int (4 : Int32)), (.ref b1)])) rfl (by rw [hml]; rfl) (argsL := [(.long x1), (.int (4 : Int32))]) (rest := [(.int (4 : Int32)), (.ref b1)]) (lenOf own_pd1 rfl) rfl (by show 2 * 0 + _ ≤ _; exact Nat.le_of_eq rfl) (hb hby at_85) (fun _ _ => ⟨rfl, eJ7, (by decide : 1 + 0 ≤ _), (by decide : 8 + 0 ≤ _)⟩)
            dsimp only [Pt.U, Pt.locs, Pt.cells, Pt.slots] at X30 l30 y30 z30 st30 hQ30
            subst l30 y30 z30
            obtain ⟨⟨r30, rfl, hr30⟩, Nq30, eq30⟩ := hQ30
            have N30 := Fr.app NJ7 Nq30
            refine own_st (T' := T30) (F' := (mkF m 88 #[.val (.int x0), .val (.long x1), .second, .val (.long x2), .second, .val (.int ((x0 &&& (2147483647 : Int32)) % (9 : Int32))), .val (.ref b1), .unset] [(.int r30), (.int (4 : Int32)), (.ref b1)])) (fun _ k => st30 _ k) ?_
            obtain ⟨cl31, Ar31, Aq31, As31, Am31, Ah31, Au31⟩ := id fJ7_3
            have hin31 : ¬ ((4 : Int32) < 0 ∨ cl31.slots.size ≤ ((4 : Int32)).toNatClampNeg) := inb_of As31 ⟨by decide, hc77⟩
            obtain ⟨T31, h31, X31, e31, W31, st31⟩ := stB X30 hx hZ eq30 Ar31 (j := (4 : Int32)) hin31 (g := (mkF m 88 #[.val (.int x0), .val (.long x1), .second, .val (.long x2), .second, .val (.int ((x0 &&& (2147483647 : Int32)) % (9 : Int32))), .val (.ref b1), .unset] [(.int r30), (.int (4 : Int32)), (.ref b1)])) rfl rfl (hb hby at_88)
            have V31 : Arv Z h31 b1 k1 .byte ((x0 &&& (2147483647 : Int32)) % (9 : Int32)) [(.int j29_1300), (.int j44_1301), (.int j59_1302), (.int j74_1303), (.int (r30.toInt8.toInt32)), (.int (0 : Int32)), (.int (0 : Int32)), (.int (0 : Int32))] (.int (0 : Int32)) := Arv.set Ar31 Aq31 As31 Am31 Ah31 Au31 (fits_nar_byte _) W31 4 rfl (show 4 < 8 by decide)
            have N31 := Fr.snoc X31 N30 ge1
            have f32 : Sta Z h31 "com/example/columnist/columnist/CellKey" "END_MARK" "[B" (.ref aE) := fJ7_0.wr W31
            have f33 : Arv Z h31 aE ke .byte (2 : Int32) ve (.int (0 : Int32)) := fJ7_1.other W31 ne1_1
            have f34 : Exa Z h31 b1 "[B" := fJ7_2.wr W31
            have K31 : Keep h0 h31 [] := kJ7.wr W31 (Or.inr hge1)
            have Zs31 : n0 ≤ h31.size := Nat.le_trans Z0 K31.1
            refine own_st (T' := T31) (F' := (mkF m 89 #[.val (.int x0), .val (.long x1), .second, .val (.long x2), .second, .val (.int ((x0 &&& (2147483647 : Int32)) % (9 : Int32))), .val (.ref b1), .unset] [])) (fun _ k => st31 _ k) ?_
            exact J89_8 (r30.toInt8.toInt32) T31 _ X31 N31 h31 e31 Zs31 K31 f32 f33 f34 V31 (trivial)
        refine own_icmp XJ6 hx (pc' := 74) (pc2 := 65) (hb hby at_62) (by decide) (by decide) rfl (fun (hc62 : ¬ ((3 : Int32) < ((x0 &&& (2147483647 : Int32)) % (9 : Int32)))) => ?_) (fun (hc62 : (3 : Int32) < ((x0 &&& (2147483647 : Int32)) % (9 : Int32))) => ?_)
        ·
          exact J74_7 (0 : Int32) TJ6 _ XJ6 NJ6 hJ6 eJ6 zJ6 kJ6 fJ6_0 fJ6_1 fJ6_2 fJ6_3 (trivial)
        ·
          refine own_st (T' := TJ6) (F' := (mkF m 67 #[.val (.int x0), .val (.long x1), .second, .val (.long x2), .second, .val (.int ((x0 &&& (2147483647 : Int32)) % (9 : Int32))), .val (.ref b1), .unset] [(.ref b1)])) (fun _ k => XS.aload XJ6.here hx rfl (hb hby at_65) rfl rfl k) ?_
          refine own_st (T' := TJ6) (F' := (mkF m 68 #[.val (.int x0), .val (.long x1), .second, .val (.long x2), .second, .val (.int ((x0 &&& (2147483647 : Int32)) % (9 : Int32))), .val (.ref b1), .unset] [(.int (3 : Int32)), (.ref b1)])) (fun _ k => XS.iconst XJ6.here hx rfl (hb hby at_67) k) ?_
          refine own_st (T' := TJ6) (F' := (mkF m 69 #[.val (.int x0), .val (.long x1), .second, .val (.long x2), .second, .val (.int ((x0 &&& (2147483647 : Int32)) % (9 : Int32))), .val (.ref b1), .unset] [(.long x1), (.int (3 : Int32)), (.ref b1)])) (fun _ k => XS.lloadN XJ6.here hx rfl (hb hby at_68) rfl  k) ?_
          refine own_st (T' := TJ6) (F' := (mkF m 70 #[.val (.int x0), .val (.long x1), .second, .val (.long x2), .second, .val (.int ((x0 &&& (2147483647 : Int32)) % (9 : Int32))), .val (.ref b1), .unset] [(.int (3 : Int32)), (.long x1), (.int (3 : Int32)), (.ref b1)])) (fun _ k => XS.iconst XJ6.here hx rfl (hb hby at_69) k) ?_
          obtain ⟨_, _, ⟨T35, L35, k35, n35⟩, -, X35, ⟨Lc35, hQ35, l35, y35, z35⟩, st35⟩ := Jvm.LawKit.callS XJ6 hx (y := (⟨"com/example/columnist/columnist/CellKeyFindRowLengthPinLaw", "draw", "(JI)B"⟩ : MethodName)) hown (mvT hZ (hw _ (List.mem_of_getElem? (i := 13) rfl))) (mvT hZ (hw _ (List.mem_of_getElem? (i := 14) rfl))) (mvT hZ (hw _ (List.mem_of_getElem? (i := 4) rfl))) (mvT hZ (hw _ (List.mem_of_getElem? (i := 15) rfl))) (by decide) (backOf (W := 2) (rm4 l Z a0 hw [] x1 (3 : Int32)  hJ6 n0 zJ6 ) hZ (hw _ (List.mem_of_getElem? (i := 15) rfl)) (hw _ (List.mem_of_getElem? (i := 4) rfl)) (by decide) (by decide)) (g := (mkF m 70 #[.val (.int x0), .val (.long x1), .second, .val (.long x2), .second, .val (.int ((x0 &&& (2147483647 : Int32)) % (9 : Int32))), .val (.ref b1), .unset] [(.int (3 : Int32)), (.long x1), (.int (3 : Int32)), (.ref b1)])) rfl (by rw [hml]; rfl) (argsL := [(.long x1), (.int (3 : Int32))]) (rest := [(.int (3 : Int32)), (.ref b1)]) (lenOf own_pd1 rfl) rfl (by show 2 * 0 + _ ≤ _; exact Nat.le_of_eq rfl) (hb hby at_70) (fun _ _ => ⟨rfl, eJ6, (by decide : 1 + 0 ≤ _), (by decide : 8 + 0 ≤ _)⟩)
          dsimp only [Pt.U, Pt.locs, Pt.cells, Pt.slots] at X35 l35 y35 z35 st35 hQ35
          subst l35 y35 z35
          obtain ⟨⟨r35, rfl, hr35⟩, Nq35, eq35⟩ := hQ35
          have N35 := Fr.app NJ6 Nq35
          refine own_st (T' := T35) (F' := (mkF m 73 #[.val (.int x0), .val (.long x1), .second, .val (.long x2), .second, .val (.int ((x0 &&& (2147483647 : Int32)) % (9 : Int32))), .val (.ref b1), .unset] [(.int r35), (.int (3 : Int32)), (.ref b1)])) (fun _ k => st35 _ k) ?_
          obtain ⟨cl36, Ar36, Aq36, As36, Am36, Ah36, Au36⟩ := id fJ6_3
          have hin36 : ¬ ((3 : Int32) < 0 ∨ cl36.slots.size ≤ ((3 : Int32)).toNatClampNeg) := inb_of As36 ⟨by decide, hc62⟩
          obtain ⟨T36, h36, X36, e36, W36, st36⟩ := stB X35 hx hZ eq35 Ar36 (j := (3 : Int32)) hin36 (g := (mkF m 73 #[.val (.int x0), .val (.long x1), .second, .val (.long x2), .second, .val (.int ((x0 &&& (2147483647 : Int32)) % (9 : Int32))), .val (.ref b1), .unset] [(.int r35), (.int (3 : Int32)), (.ref b1)])) rfl rfl (hb hby at_73)
          have V36 : Arv Z h36 b1 k1 .byte ((x0 &&& (2147483647 : Int32)) % (9 : Int32)) [(.int j29_1300), (.int j44_1301), (.int j59_1302), (.int (r35.toInt8.toInt32)), (.int (0 : Int32)), (.int (0 : Int32)), (.int (0 : Int32)), (.int (0 : Int32))] (.int (0 : Int32)) := Arv.set Ar36 Aq36 As36 Am36 Ah36 Au36 (fits_nar_byte _) W36 3 rfl (show 3 < 8 by decide)
          have N36 := Fr.snoc X36 N35 ge1
          have f37 : Sta Z h36 "com/example/columnist/columnist/CellKey" "END_MARK" "[B" (.ref aE) := fJ6_0.wr W36
          have f38 : Arv Z h36 aE ke .byte (2 : Int32) ve (.int (0 : Int32)) := fJ6_1.other W36 ne1_1
          have f39 : Exa Z h36 b1 "[B" := fJ6_2.wr W36
          have K36 : Keep h0 h36 [] := kJ6.wr W36 (Or.inr hge1)
          have Zs36 : n0 ≤ h36.size := Nat.le_trans Z0 K36.1
          refine own_st (T' := T36) (F' := (mkF m 74 #[.val (.int x0), .val (.long x1), .second, .val (.long x2), .second, .val (.int ((x0 &&& (2147483647 : Int32)) % (9 : Int32))), .val (.ref b1), .unset] [])) (fun _ k => st36 _ k) ?_
          exact J74_7 (r35.toInt8.toInt32) T36 _ X36 N36 h36 e36 Zs36 K36 f37 f38 f39 V36 (trivial)
      refine own_icmp XJ5 hx (pc' := 59) (pc2 := 50) (hb hby at_47) (by decide) (by decide) rfl (fun (hc47 : ¬ ((2 : Int32) < ((x0 &&& (2147483647 : Int32)) % (9 : Int32)))) => ?_) (fun (hc47 : (2 : Int32) < ((x0 &&& (2147483647 : Int32)) % (9 : Int32))) => ?_)
      ·
        exact J59_6 (0 : Int32) TJ5 _ XJ5 NJ5 hJ5 eJ5 zJ5 kJ5 fJ5_0 fJ5_1 fJ5_2 fJ5_3 (trivial)
      ·
        refine own_st (T' := TJ5) (F' := (mkF m 52 #[.val (.int x0), .val (.long x1), .second, .val (.long x2), .second, .val (.int ((x0 &&& (2147483647 : Int32)) % (9 : Int32))), .val (.ref b1), .unset] [(.ref b1)])) (fun _ k => XS.aload XJ5.here hx rfl (hb hby at_50) rfl rfl k) ?_
        refine own_st (T' := TJ5) (F' := (mkF m 53 #[.val (.int x0), .val (.long x1), .second, .val (.long x2), .second, .val (.int ((x0 &&& (2147483647 : Int32)) % (9 : Int32))), .val (.ref b1), .unset] [(.int (2 : Int32)), (.ref b1)])) (fun _ k => XS.iconst XJ5.here hx rfl (hb hby at_52) k) ?_
        refine own_st (T' := TJ5) (F' := (mkF m 54 #[.val (.int x0), .val (.long x1), .second, .val (.long x2), .second, .val (.int ((x0 &&& (2147483647 : Int32)) % (9 : Int32))), .val (.ref b1), .unset] [(.long x1), (.int (2 : Int32)), (.ref b1)])) (fun _ k => XS.lloadN XJ5.here hx rfl (hb hby at_53) rfl  k) ?_
        refine own_st (T' := TJ5) (F' := (mkF m 55 #[.val (.int x0), .val (.long x1), .second, .val (.long x2), .second, .val (.int ((x0 &&& (2147483647 : Int32)) % (9 : Int32))), .val (.ref b1), .unset] [(.int (2 : Int32)), (.long x1), (.int (2 : Int32)), (.ref b1)])) (fun _ k => XS.iconst XJ5.here hx rfl (hb hby at_54) k) ?_
        obtain ⟨_, _, ⟨T40, L40, k40, n40⟩, -, X40, ⟨Lc40, hQ40, l40, y40, z40⟩, st40⟩ := Jvm.LawKit.callS XJ5 hx (y := (⟨"com/example/columnist/columnist/CellKeyFindRowLengthPinLaw", "draw", "(JI)B"⟩ : MethodName)) hown (mvT hZ (hw _ (List.mem_of_getElem? (i := 13) rfl))) (mvT hZ (hw _ (List.mem_of_getElem? (i := 14) rfl))) (mvT hZ (hw _ (List.mem_of_getElem? (i := 4) rfl))) (mvT hZ (hw _ (List.mem_of_getElem? (i := 15) rfl))) (by decide) (backOf (W := 2) (rm4 l Z a0 hw [] x1 (2 : Int32)  hJ5 n0 zJ5 ) hZ (hw _ (List.mem_of_getElem? (i := 15) rfl)) (hw _ (List.mem_of_getElem? (i := 4) rfl)) (by decide) (by decide)) (g := (mkF m 55 #[.val (.int x0), .val (.long x1), .second, .val (.long x2), .second, .val (.int ((x0 &&& (2147483647 : Int32)) % (9 : Int32))), .val (.ref b1), .unset] [(.int (2 : Int32)), (.long x1), (.int (2 : Int32)), (.ref b1)])) rfl (by rw [hml]; rfl) (argsL := [(.long x1), (.int (2 : Int32))]) (rest := [(.int (2 : Int32)), (.ref b1)]) (lenOf own_pd1 rfl) rfl (by show 2 * 0 + _ ≤ _; exact Nat.le_of_eq rfl) (hb hby at_55) (fun _ _ => ⟨rfl, eJ5, (by decide : 1 + 0 ≤ _), (by decide : 8 + 0 ≤ _)⟩)
        dsimp only [Pt.U, Pt.locs, Pt.cells, Pt.slots] at X40 l40 y40 z40 st40 hQ40
        subst l40 y40 z40
        obtain ⟨⟨r40, rfl, hr40⟩, Nq40, eq40⟩ := hQ40
        have N40 := Fr.app NJ5 Nq40
        refine own_st (T' := T40) (F' := (mkF m 58 #[.val (.int x0), .val (.long x1), .second, .val (.long x2), .second, .val (.int ((x0 &&& (2147483647 : Int32)) % (9 : Int32))), .val (.ref b1), .unset] [(.int r40), (.int (2 : Int32)), (.ref b1)])) (fun _ k => st40 _ k) ?_
        obtain ⟨cl41, Ar41, Aq41, As41, Am41, Ah41, Au41⟩ := id fJ5_3
        have hin41 : ¬ ((2 : Int32) < 0 ∨ cl41.slots.size ≤ ((2 : Int32)).toNatClampNeg) := inb_of As41 ⟨by decide, hc47⟩
        obtain ⟨T41, h41, X41, e41, W41, st41⟩ := stB X40 hx hZ eq40 Ar41 (j := (2 : Int32)) hin41 (g := (mkF m 58 #[.val (.int x0), .val (.long x1), .second, .val (.long x2), .second, .val (.int ((x0 &&& (2147483647 : Int32)) % (9 : Int32))), .val (.ref b1), .unset] [(.int r40), (.int (2 : Int32)), (.ref b1)])) rfl rfl (hb hby at_58)
        have V41 : Arv Z h41 b1 k1 .byte ((x0 &&& (2147483647 : Int32)) % (9 : Int32)) [(.int j29_1300), (.int j44_1301), (.int (r40.toInt8.toInt32)), (.int (0 : Int32)), (.int (0 : Int32)), (.int (0 : Int32)), (.int (0 : Int32)), (.int (0 : Int32))] (.int (0 : Int32)) := Arv.set Ar41 Aq41 As41 Am41 Ah41 Au41 (fits_nar_byte _) W41 2 rfl (show 2 < 8 by decide)
        have N41 := Fr.snoc X41 N40 ge1
        have f42 : Sta Z h41 "com/example/columnist/columnist/CellKey" "END_MARK" "[B" (.ref aE) := fJ5_0.wr W41
        have f43 : Arv Z h41 aE ke .byte (2 : Int32) ve (.int (0 : Int32)) := fJ5_1.other W41 ne1_1
        have f44 : Exa Z h41 b1 "[B" := fJ5_2.wr W41
        have K41 : Keep h0 h41 [] := kJ5.wr W41 (Or.inr hge1)
        have Zs41 : n0 ≤ h41.size := Nat.le_trans Z0 K41.1
        refine own_st (T' := T41) (F' := (mkF m 59 #[.val (.int x0), .val (.long x1), .second, .val (.long x2), .second, .val (.int ((x0 &&& (2147483647 : Int32)) % (9 : Int32))), .val (.ref b1), .unset] [])) (fun _ k => st41 _ k) ?_
        exact J59_6 (r40.toInt8.toInt32) T41 _ X41 N41 h41 e41 Zs41 K41 f42 f43 f44 V41 (trivial)
    refine own_icmp XJ4 hx (pc' := 44) (pc2 := 35) (hb hby at_32) (by decide) (by decide) rfl (fun (hc32 : ¬ ((1 : Int32) < ((x0 &&& (2147483647 : Int32)) % (9 : Int32)))) => ?_) (fun (hc32 : (1 : Int32) < ((x0 &&& (2147483647 : Int32)) % (9 : Int32))) => ?_)
    ·
      exact J44_5 (0 : Int32) TJ4 _ XJ4 NJ4 hJ4 eJ4 zJ4 kJ4 fJ4_0 fJ4_1 fJ4_2 fJ4_3 (trivial)
    ·
      refine own_st (T' := TJ4) (F' := (mkF m 37 #[.val (.int x0), .val (.long x1), .second, .val (.long x2), .second, .val (.int ((x0 &&& (2147483647 : Int32)) % (9 : Int32))), .val (.ref b1), .unset] [(.ref b1)])) (fun _ k => XS.aload XJ4.here hx rfl (hb hby at_35) rfl rfl k) ?_
      refine own_st (T' := TJ4) (F' := (mkF m 38 #[.val (.int x0), .val (.long x1), .second, .val (.long x2), .second, .val (.int ((x0 &&& (2147483647 : Int32)) % (9 : Int32))), .val (.ref b1), .unset] [(.int (1 : Int32)), (.ref b1)])) (fun _ k => XS.iconst XJ4.here hx rfl (hb hby at_37) k) ?_
      refine own_st (T' := TJ4) (F' := (mkF m 39 #[.val (.int x0), .val (.long x1), .second, .val (.long x2), .second, .val (.int ((x0 &&& (2147483647 : Int32)) % (9 : Int32))), .val (.ref b1), .unset] [(.long x1), (.int (1 : Int32)), (.ref b1)])) (fun _ k => XS.lloadN XJ4.here hx rfl (hb hby at_38) rfl  k) ?_
      refine own_st (T' := TJ4) (F' := (mkF m 40 #[.val (.int x0), .val (.long x1), .second, .val (.long x2), .second, .val (.int ((x0 &&& (2147483647 : Int32)) % (9 : Int32))), .val (.ref b1), .unset] [(.int (1 : Int32)), (.long x1), (.int (1 : Int32)), (.ref b1)])) (fun _ k => XS.iconst XJ4.here hx rfl (hb hby at_39) k) ?_
      obtain ⟨_, _, ⟨T45, L45, k45, n45⟩, -, X45, ⟨Lc45, hQ45, l45, y45, z45⟩, st45⟩ := Jvm.LawKit.callS XJ4 hx (y := (⟨"com/example/columnist/columnist/CellKeyFindRowLengthPinLaw", "draw", "(JI)B"⟩ : MethodName)) hown (mvT hZ (hw _ (List.mem_of_getElem? (i := 13) rfl))) (mvT hZ (hw _ (List.mem_of_getElem? (i := 14) rfl))) (mvT hZ (hw _ (List.mem_of_getElem? (i := 4) rfl))) (mvT hZ (hw _ (List.mem_of_getElem? (i := 15) rfl))) (by decide) (backOf (W := 2) (rm4 l Z a0 hw [] x1 (1 : Int32)  hJ4 n0 zJ4 ) hZ (hw _ (List.mem_of_getElem? (i := 15) rfl)) (hw _ (List.mem_of_getElem? (i := 4) rfl)) (by decide) (by decide)) (g := (mkF m 40 #[.val (.int x0), .val (.long x1), .second, .val (.long x2), .second, .val (.int ((x0 &&& (2147483647 : Int32)) % (9 : Int32))), .val (.ref b1), .unset] [(.int (1 : Int32)), (.long x1), (.int (1 : Int32)), (.ref b1)])) rfl (by rw [hml]; rfl) (argsL := [(.long x1), (.int (1 : Int32))]) (rest := [(.int (1 : Int32)), (.ref b1)]) (lenOf own_pd1 rfl) rfl (by show 2 * 0 + _ ≤ _; exact Nat.le_of_eq rfl) (hb hby at_40) (fun _ _ => ⟨rfl, eJ4, (by decide : 1 + 0 ≤ _), (by decide : 8 + 0 ≤ _)⟩)
      dsimp only [Pt.U, Pt.locs, Pt.cells, Pt.slots] at X45 l45 y45 z45 st45 hQ45
      subst l45 y45 z45
      obtain ⟨⟨r45, rfl, hr45⟩, Nq45, eq45⟩ := hQ45
      have N45 := Fr.app NJ4 Nq45
      refine own_st (T' := T45) (F' := (mkF m 43 #[.val (.int x0), .val (.long x1), .second, .val (.long x2), .second, .val (.int ((x0 &&& (2147483647 : Int32)) % (9 : Int32))), .val (.ref b1), .unset] [(.int r45), (.int (1 : Int32)), (.ref b1)])) (fun _ k => st45 _ k) ?_
      obtain ⟨cl46, Ar46, Aq46, As46, Am46, Ah46, Au46⟩ := id fJ4_3
      have hin46 : ¬ ((1 : Int32) < 0 ∨ cl46.slots.size ≤ ((1 : Int32)).toNatClampNeg) := inb_of As46 ⟨by decide, hc32⟩
      obtain ⟨T46, h46, X46, e46, W46, st46⟩ := stB X45 hx hZ eq45 Ar46 (j := (1 : Int32)) hin46 (g := (mkF m 43 #[.val (.int x0), .val (.long x1), .second, .val (.long x2), .second, .val (.int ((x0 &&& (2147483647 : Int32)) % (9 : Int32))), .val (.ref b1), .unset] [(.int r45), (.int (1 : Int32)), (.ref b1)])) rfl rfl (hb hby at_43)
      have V46 : Arv Z h46 b1 k1 .byte ((x0 &&& (2147483647 : Int32)) % (9 : Int32)) [(.int j29_1300), (.int (r45.toInt8.toInt32)), (.int (0 : Int32)), (.int (0 : Int32)), (.int (0 : Int32)), (.int (0 : Int32)), (.int (0 : Int32)), (.int (0 : Int32))] (.int (0 : Int32)) := Arv.set Ar46 Aq46 As46 Am46 Ah46 Au46 (fits_nar_byte _) W46 1 rfl (show 1 < 8 by decide)
      have N46 := Fr.snoc X46 N45 ge1
      have f47 : Sta Z h46 "com/example/columnist/columnist/CellKey" "END_MARK" "[B" (.ref aE) := fJ4_0.wr W46
      have f48 : Arv Z h46 aE ke .byte (2 : Int32) ve (.int (0 : Int32)) := fJ4_1.other W46 ne1_1
      have f49 : Exa Z h46 b1 "[B" := fJ4_2.wr W46
      have K46 : Keep h0 h46 [] := kJ4.wr W46 (Or.inr hge1)
      have Zs46 : n0 ≤ h46.size := Nat.le_trans Z0 K46.1
      refine own_st (T' := T46) (F' := (mkF m 44 #[.val (.int x0), .val (.long x1), .second, .val (.long x2), .second, .val (.int ((x0 &&& (2147483647 : Int32)) % (9 : Int32))), .val (.ref b1), .unset] [])) (fun _ k => st46 _ k) ?_
      exact J44_5 (r45.toInt8.toInt32) T46 _ X46 N46 h46 e46 Zs46 K46 f47 f48 f49 V46 (trivial)
  refine own_ifc X1 hx (pc' := 29) (pc2 := 20) (hb hby at_17) (by decide) (by decide) rfl (fun (hc17 : ¬ ((0 : Int32) < ((x0 &&& (2147483647 : Int32)) % (9 : Int32)))) => ?_) (fun (hc17 : (0 : Int32) < ((x0 &&& (2147483647 : Int32)) % (9 : Int32))) => ?_)
  ·
    exact J29_4 (0 : Int32) T1 _ X1 N0 h1 e1 Zs1 K1 f2 f3 AE1 V1 (trivial)
  ·
    refine own_st (T' := T1) (F' := (mkF m 22 #[.val (.int x0), .val (.long x1), .second, .val (.long x2), .second, .val (.int ((x0 &&& (2147483647 : Int32)) % (9 : Int32))), .val (.ref b1), .unset] [(.ref b1)])) (fun _ k => XS.aload X1.here hx rfl (hb hby at_20) rfl rfl k) ?_
    refine own_st (T' := T1) (F' := (mkF m 23 #[.val (.int x0), .val (.long x1), .second, .val (.long x2), .second, .val (.int ((x0 &&& (2147483647 : Int32)) % (9 : Int32))), .val (.ref b1), .unset] [(.int (0 : Int32)), (.ref b1)])) (fun _ k => XS.iconst X1.here hx rfl (hb hby at_22) k) ?_
    refine own_st (T' := T1) (F' := (mkF m 24 #[.val (.int x0), .val (.long x1), .second, .val (.long x2), .second, .val (.int ((x0 &&& (2147483647 : Int32)) % (9 : Int32))), .val (.ref b1), .unset] [(.long x1), (.int (0 : Int32)), (.ref b1)])) (fun _ k => XS.lloadN X1.here hx rfl (hb hby at_23) rfl  k) ?_
    refine own_st (T' := T1) (F' := (mkF m 25 #[.val (.int x0), .val (.long x1), .second, .val (.long x2), .second, .val (.int ((x0 &&& (2147483647 : Int32)) % (9 : Int32))), .val (.ref b1), .unset] [(.int (0 : Int32)), (.long x1), (.int (0 : Int32)), (.ref b1)])) (fun _ k => XS.iconst X1.here hx rfl (hb hby at_24) k) ?_
    obtain ⟨_, _, ⟨T50, L50, k50, n50⟩, -, X50, ⟨Lc50, hQ50, l50, y50, z50⟩, st50⟩ := Jvm.LawKit.callS X1 hx (y := (⟨"com/example/columnist/columnist/CellKeyFindRowLengthPinLaw", "draw", "(JI)B"⟩ : MethodName)) hown (mvT hZ (hw _ (List.mem_of_getElem? (i := 13) rfl))) (mvT hZ (hw _ (List.mem_of_getElem? (i := 14) rfl))) (mvT hZ (hw _ (List.mem_of_getElem? (i := 4) rfl))) (mvT hZ (hw _ (List.mem_of_getElem? (i := 15) rfl))) (by decide) (backOf (W := 2) (rm4 l Z a0 hw [] x1 (0 : Int32)  h1 n0 Zs1 ) hZ (hw _ (List.mem_of_getElem? (i := 15) rfl)) (hw _ (List.mem_of_getElem? (i := 4) rfl)) (by decide) (by decide)) (g := (mkF m 25 #[.val (.int x0), .val (.long x1), .second, .val (.long x2), .second, .val (.int ((x0 &&& (2147483647 : Int32)) % (9 : Int32))), .val (.ref b1), .unset] [(.int (0 : Int32)), (.long x1), (.int (0 : Int32)), (.ref b1)])) rfl (by rw [hml]; rfl) (argsL := [(.long x1), (.int (0 : Int32))]) (rest := [(.int (0 : Int32)), (.ref b1)]) (lenOf own_pd1 rfl) rfl (by show 2 * 0 + _ ≤ _; exact Nat.le_of_eq rfl) (hb hby at_25) (fun _ _ => ⟨rfl, e1, (by decide : 1 + 0 ≤ _), (by decide : 8 + 0 ≤ _)⟩)
    dsimp only [Pt.U, Pt.locs, Pt.cells, Pt.slots] at X50 l50 y50 z50 st50 hQ50
    subst l50 y50 z50
    obtain ⟨⟨r50, rfl, hr50⟩, Nq50, eq50⟩ := hQ50
    have N50 := Fr.app N0 Nq50
    refine own_st (T' := T50) (F' := (mkF m 28 #[.val (.int x0), .val (.long x1), .second, .val (.long x2), .second, .val (.int ((x0 &&& (2147483647 : Int32)) % (9 : Int32))), .val (.ref b1), .unset] [(.int r50), (.int (0 : Int32)), (.ref b1)])) (fun _ k => st50 _ k) ?_
    obtain ⟨cl51, Ar51, Aq51, As51, Am51, Ah51, Au51⟩ := id V1
    have hin51 : ¬ ((0 : Int32) < 0 ∨ cl51.slots.size ≤ ((0 : Int32)).toNatClampNeg) := inb_of As51 ⟨by decide, hc17⟩
    obtain ⟨T51, h51, X51, e51, W51, st51⟩ := stB X50 hx hZ eq50 Ar51 (j := (0 : Int32)) hin51 (g := (mkF m 28 #[.val (.int x0), .val (.long x1), .second, .val (.long x2), .second, .val (.int ((x0 &&& (2147483647 : Int32)) % (9 : Int32))), .val (.ref b1), .unset] [(.int r50), (.int (0 : Int32)), (.ref b1)])) rfl rfl (hb hby at_28)
    have V51 : Arv Z h51 b1 k1 .byte ((x0 &&& (2147483647 : Int32)) % (9 : Int32)) [(.int (r50.toInt8.toInt32)), (.int (0 : Int32)), (.int (0 : Int32)), (.int (0 : Int32)), (.int (0 : Int32)), (.int (0 : Int32)), (.int (0 : Int32)), (.int (0 : Int32))] (.int (0 : Int32)) := Arv.set Ar51 Aq51 As51 Am51 Ah51 Au51 (fits_nar_byte _) W51 0 rfl (show 0 < 8 by decide)
    have N51 := Fr.snoc X51 N50 ge1
    have f52 : Sta Z h51 "com/example/columnist/columnist/CellKey" "END_MARK" "[B" (.ref aE) := f2.wr W51
    have f53 : Arv Z h51 aE ke .byte (2 : Int32) ve (.int (0 : Int32)) := f3.other W51 ne1_1
    have f54 : Exa Z h51 b1 "[B" := AE1.wr W51
    have K51 : Keep h0 h51 [] := K1.wr W51 (Or.inr hge1)
    have Zs51 : n0 ≤ h51.size := Nat.le_trans Z0 K51.1
    refine own_st (T' := T51) (F' := (mkF m 29 #[.val (.int x0), .val (.long x1), .second, .val (.long x2), .second, .val (.int ((x0 &&& (2147483647 : Int32)) % (9 : Int32))), .val (.ref b1), .unset] [])) (fun _ k => st51 _ k) ?_
    exact J29_4 (r50.toInt8.toInt32) T51 _ X51 N51 h51 e51 Zs51 K51 f52 f53 f54 V51 (trivial)
set_option maxRecDepth 65536 in
set_option maxHeartbeats 40000000 in
theorem comes_1 {Post : Tables → Env → Array Value → State → Outcome → State → Prop} (hpost : ∀ tb e args s v u, (limb_1_1.after args s (.returned v) u = true ∧ limb_1_2.after args s (.returned v) u = true ∧ True) → FrameEnd s (.returned v) u (Jvm.fieldLocs frame_1_writes args s ++ Jvm.arrayLocs frame_1_arrays args s ++ Jvm.staticLocs frame_1_statics s) 16 128 → Post tb e args s (.returned v) u) :
    ArmFor flags0 classFile x code maxLocals ret World_1 tables_1 room_1 Calls_1 rest_1 Pre_1 Post := by
  intro l hfl _ _ p e ha hc hk s m args below hf hA hF happ hP
  obtain ⟨hcalls, hrest, hpre⟩ := hP
  obtain ⟨-, -, -, hnamed, -, -, -, hat⟩ := (Spec.applies_iff hf).mp happ
  obtain ⟨hg, hn⟩ := and_e (Cond.before_iff.mp (show (Jvm.Cond.and given_1 narrow_1).before args s = true from hpre))
  obtain ⟨g0, hg0⟩ := and_e hg
  obtain ⟨g1, hg1⟩ := and_e hg0
  obtain ⟨g2, hg2⟩ := and_e hg1
  obtain ⟨w0, w1, w2, rfl⟩ : ∃ w0 w1 w2 : Value, args = #[w0, w1, w2] := by
    have hs : args.size = 3 := by simpa [Cond.value, given_1] using g0
    obtain ⟨L⟩ := args
    match L, hs with
    | [w0, w1, w2], _ => exact ⟨w0, w1, w2, rfl⟩
  have hw := fun d (hd : d ∈ tables_1) => atoms_spec (ws := Jvm.Cond.code x code maxLocals ret :: tables_1) hat d (List.mem_cons_of_mem _ hd)
  have hfit : Fit s := fun {y c} hc i hi => by
    obtain ⟨ha, rfl⟩ := Array.getElem?_eq_some_iff.mp hc
    have q := List.all_eq_true.mp ((Array.all_eq_true_iff_forall_mem.mp hF) _ (Array.getElem_mem ha)) i (List.mem_range.mpr hi)
    simpa [Array.getElem?_eq_getElem hi] using q
  obtain ⟨i0, ei0⟩ := is_v g1
  obtain rfl : w0 = (.int i0) := Option.some.inj ei0
  obtain ⟨i1, ei1⟩ := isL_v g2
  obtain rfl : w1 = (.long i1) := Option.some.inj ei1
  obtain ⟨i2, ei2⟩ := isL_v hg2
  obtain rfl : w2 = (.long i2) := Option.some.inj ei2
  obtain ⟨nn0, nn1⟩ := and_e hn
  obtain ⟨aE, ev⟩ := arr_v nn0
  obtain ⟨cE, AE⟩ := Arr.start ev nn0
  have SE := Sta.start ev (Or.inr ⟨(hw _ (List.mem_of_getElem? (i := 11) rfl)), (hw _ (List.mem_of_getElem? (i := 18) rfl))⟩)
  have lE := own_len ev AE nn1
  obtain ⟨ve, VE⟩ := own_arvex (dv := .int (0 : Int32)) hfit AE lE.1 lE.2 (by decide)
  obtain ⟨n, o, h1, h2, h3, _, L, rfl, ⟨⟨_, rfl, rfl⟩, N⟩, hq⟩ := rm0 l s _ hw tables_1 i0 i1 i2 aE cE.cls ve s.heap s.heap.size (Nat.le_refl _) SE VE p e ha hc hk s m _ below hf ((Spec.applies_iff_loose hf).mp happ).1 ⟨rfl, State.Warmed39.refl s, rfl⟩ trivial
  refine ⟨n, _, h1, h2, h3, hpost _ _ _ _ _ _ ⟨Cond.after_iff.mpr rfl, Cond.after_iff.mpr (eq_i res_at (Term.int_eval (1)) rfl), trivial⟩ ⟨hq.1, hq.2.1, (hq.2.2.sift fun y hy => Or.inr (N y hy)).mono (by decide) (by decide)⟩⟩
theorem main_1_1 : Claimed_1_1 := comes_1 fun _ _ _ _ _ _ h hF => ⟨h.1, hF⟩
theorem main_1_2 : Claimed_1_2 := comes_1 fun _ _ _ _ _ _ h hF => ⟨h.2.1, hF⟩
end Jvm.Pilot.@@N@@
namespace Jvm.Pilot.@@N@@
open Jvm Jvm.ClassFile Sem Op Lib Jvm.Free Jvm.Stand Jvm.Pilot.@@N@@.Jvm.D
/-! MADE BY PROGRAM (witnessworld.py) out of the Statement's table words and the real class files: 9 classes; the members and pool entries that the words name. The judged class is class 1, her method 1. -/
namespace start1
open Jvm.ClassFile
def u (s : String) : CpInfo := .utf8 (stringToUtf16 s)
/-- a pool by its gaps: so many unusable entries, then the entry; so many at the end -/
def gap : Nat → List CpInfo → List CpInfo
  | 0, r => r
  | n + 1, r => .unusable :: gap n r
def poolList (es : List (Nat × CpInfo)) (last : Nat) : List CpInfo := es.foldr (fun e r => gap e.1 (e.2 :: r)) (gap last [])
def pool (es : List (Nat × CpInfo)) (last : Nat) : Array CpInfo := ⟨poolList es last⟩
def fileOf (pool : Array CpInfo) (this : Nat) (attrs : Array Attribute := #[]) (ms : Array MethodInfo := #[]) (fl : Nat := 33) (sup : Nat := 0) (ifs : Array Nat := #[]) (fds : Array FieldInfo := #[]) : ClassFile where
  minorVersion := 0
  majorVersion := 65
  constantPool := pool
  accessFlags := fl
  thisClass := this
  superClass := sup
  interfaces := ifs
  fields := fds
  methods := ms
  attributes := attrs
def plain (name : String) (sup : Option ClassId) : Class where
  name := name
  kind := .ordinary
  loader := none
  accessFlags := 33
  super := sup
  interfaces := #[]
  cf := none
  fields := #[]
  methods := #[]
  instanceTypes := #[]
  staticTypes := #[]
  resolved := #[]
  callSites := []
  init := .initialized
  statics := none
  mirror := none

def pool0 : Array CpInfo := pool [(5, u "<init>"), (0, u "()V"), (1, .class_ 10), (1, u "java/lang/Object")] 113

def k0m0 : Method := { name := "<init>", desc := "()V", sig := { parameters := [], returnType := none }, accessFlags := 1, code := none }
/-- java/lang/Object -/
def k0 : Class := { plain "java/lang/Object" none with
  accessFlags := 33
  interfaces := #[]
  cf := some (fileOf pool0 8 #[] #[{ accessFlags := 1, nameIndex := 5, descriptorIndex := 6, attributes := #[] }] 33 0 #[] #[])
  fields := #[]
  methods := #[k0m0]
  instanceTypes := #[]
  staticTypes := #[]
  resolved := Array.replicate 124 none
  statics := none }

def pool1 : Array CpInfo := pool [(2, .class_ 4), (1, u "java/lang/Object"), (0, u "<init>"), (0, u "()V"), (0, .integer 2147483647), (0, .methodref 9 10), (0, .class_ 11), (0, .nameAndType 12 13), (0, u "com/example/columnist/columnist/CellKeyFindRowLengthPinLaw"), (0, u "draw"), (0, u "(JI)B"), (0, .methodref 9 15), (0, .nameAndType 16 17), (0, u "ref"), (0, u "([B)I"), (0, .methodref 19 20), (0, .class_ 21), (0, .nameAndType 22 17), (0, u "com/example/columnist/columnist/CellKey"), (0, u "findRowLength"), (0, .long 3), (1, .methodref 9 26), (0, .nameAndType 27 28), (0, u "pairAt"), (0, u "([BI)Z"), (2, u "law"), (0, u "(IJJ)Z")] 5

def k1m0 : Method := { name := "<init>", desc := "()V", sig := { parameters := [], returnType := none }, accessFlags := 1, code := none }
def k1c1 : Code := { maxStack := 5, maxLocals := 8, code := code, exceptionTable := #[], attributes := #[] }
def k1m1 : Method := { name := "law", desc := "(IJJ)Z", sig := { parameters := [.int, .long, .long], returnType := some .boolean }, accessFlags := 9, code := some k1c1 }
def k1c2 : Code := { maxStack := 4, maxLocals := 6, code := method_3_code, exceptionTable := #[], attributes := #[] }
def k1m2 : Method := { name := "draw", desc := "(JI)B", sig := { parameters := [.long, .int], returnType := some .byte }, accessFlags := 10, code := some k1c2 }
def k1c3 : Code := { maxStack := 3, maxLocals := 2, code := method_4_code, exceptionTable := #[], attributes := #[] }
def k1m3 : Method := { name := "pairAt", desc := "([BI)Z", sig := { parameters := [(.array .byte), .int], returnType := some .boolean }, accessFlags := 10, code := some k1c3 }
def k1c4 : Code := { maxStack := 2, maxLocals := 1, code := method_5_code, exceptionTable := #[], attributes := #[] }
def k1m4 : Method := { name := "ref", desc := "([B)I", sig := { parameters := [(.array .byte)], returnType := some .int }, accessFlags := 10, code := some k1c4 }
/-- com/example/columnist/columnist/CellKeyFindRowLengthPinLaw -/
def k1 : Class := { plain "com/example/columnist/columnist/CellKeyFindRowLengthPinLaw" (some 0) with
  accessFlags := 49
  interfaces := #[]
  cf := some (fileOf pool1 9 #[] #[{ accessFlags := 1, nameIndex := 5, descriptorIndex := 6, attributes := #[] }, { accessFlags := 9, nameIndex := 31, descriptorIndex := 32, attributes := #[] }, { accessFlags := 10, nameIndex := 12, descriptorIndex := 13, attributes := #[] }, { accessFlags := 10, nameIndex := 27, descriptorIndex := 28, attributes := #[] }, { accessFlags := 10, nameIndex := 16, descriptorIndex := 17, attributes := #[] }] 49 2 #[] #[])
  fields := #[]
  methods := #[k1m0, k1m1, k1m2, k1m3, k1m4]
  instanceTypes := #[]
  staticTypes := #[]
  resolved := Array.replicate 38 none
  statics := none }

def pool2 : Array CpInfo := pool [(2, .class_ 4), (1, u "java/lang/Object"), (5, u "[B"), (3, .class_ 16), (1, u "com/example/columnist/columnist/CellKey"), (0, u "row"), (2, u "qualifier"), (2, u "timestamp"), (0, u "J"), (3, u "([B)I"), (4, .fieldref 14 34), (0, .nameAndType 35 10), (0, u "END_MARK"), (21, u "findRowLength"), (114, u "ESCAPE"), (0, u "B"), (2, u "ESCAPED_ZERO"), (1, u "TERMINATOR")] 36

def k2c0 : Code := { maxStack := 3, maxLocals := 2, code := prog_4_method_4_code, exceptionTable := #[], attributes := #[] }
def k2m0 : Method := { name := "findRowLength", desc := "([B)I", sig := { parameters := [(.array .byte)], returnType := some .int }, accessFlags := 8, code := some k2c0 }
/-- com/example/columnist/columnist/CellKey -/
def k2 : Class := { plain "com/example/columnist/columnist/CellKey" (some 0) with
  accessFlags := 32
  interfaces := #[]
  cf := some (fileOf pool2 14 #[] #[{ accessFlags := 8, nameIndex := 57, descriptorIndex := 28, attributes := #[] }] 32 2 #[] #[{ accessFlags := 26, nameIndex := 172, descriptorIndex := 173, attributes := #[] }, { accessFlags := 26, nameIndex := 176, descriptorIndex := 173, attributes := #[] }, { accessFlags := 26, nameIndex := 178, descriptorIndex := 173, attributes := #[] }, { accessFlags := 26, nameIndex := 35, descriptorIndex := 10, attributes := #[] }, { accessFlags := 18, nameIndex := 17, descriptorIndex := 10, attributes := #[] }, { accessFlags := 18, nameIndex := 20, descriptorIndex := 10, attributes := #[] }, { accessFlags := 18, nameIndex := 23, descriptorIndex := 24, attributes := #[] }])
  fields := #[{ name := "ESCAPE", type := .byte, accessFlags := 26, slot := 0, constantValue := 0 }, { name := "ESCAPED_ZERO", type := .byte, accessFlags := 26, slot := 1, constantValue := 0 }, { name := "TERMINATOR", type := .byte, accessFlags := 26, slot := 2, constantValue := 0 }, { name := "END_MARK", type := (.array .byte), accessFlags := 26, slot := 3, constantValue := 0 }, { name := "row", type := (.array .byte), accessFlags := 18, slot := 0, constantValue := 0 }, { name := "qualifier", type := (.array .byte), accessFlags := 18, slot := 1, constantValue := 0 }, { name := "timestamp", type := .long, accessFlags := 18, slot := 2, constantValue := 0 }]
  methods := #[k2m0]
  instanceTypes := #[(.array .byte), (.array .byte), .long]
  staticTypes := #[.byte, .byte, .byte, (.array .byte)]
  resolved := Array.replicate 215 none
  statics := some 0 }

def pool3 : Array CpInfo := pool [(1, u "java/lang/Cloneable"), (0, .class_ 1), (0, u "java/lang/Object"), (0, .class_ 3)] 3

/-- java/lang/Cloneable -/
def k3 : Class := { plain "java/lang/Cloneable" (some 0) with
  accessFlags := 1537
  interfaces := #[]
  cf := some (fileOf pool3 2 #[] #[] 1537 4 #[] #[])
  fields := #[]
  methods := #[]
  instanceTypes := #[]
  staticTypes := #[]
  resolved := Array.replicate 8 none
  statics := none }

def pool4 : Array CpInfo := pool [(1, u "java/io/Serializable"), (0, .class_ 1), (0, u "java/lang/Object"), (0, .class_ 3)] 3

/-- java/io/Serializable -/
def k4 : Class := { plain "java/io/Serializable" (some 0) with
  accessFlags := 1537
  interfaces := #[]
  cf := some (fileOf pool4 2 #[] #[] 1537 4 #[] #[])
  fields := #[]
  methods := #[]
  instanceTypes := #[]
  staticTypes := #[]
  resolved := Array.replicate 8 none
  statics := none }

/-- the primitive byte -/
def k5 : Class := { plain "byte" none with kind := .primitive 'B', accessFlags := 0x411 }
/-- [B -/
def k6 : Class := { plain "[B" (some 0) with kind := .array 5 .byte, interfaces := #[3, 4], accessFlags := 1041 }

/-- the primitive int -/
def k7 : Class := { plain "int" none with kind := .primitive 'I', accessFlags := 0x411 }
/-- [I -/
def k8 : Class := { plain "[I" (some 0) with kind := .array 7 .int, interfaces := #[3, 4], accessFlags := 1041 }

def heap : Heap := #[{ cls := 2, slots := #[.int 0, .int 0, .int 0, .ref 1], vm := .statics 2 },
  { cls := 6, slots := #[.int 0, .int 1], vm := .none }]
def classes : Array Class := #[k0, k1, k2, k3, k4, k5, k6, k7, k8]
def interned : List (Array UInt16 × Addr) := []
def slotsUsed : Nat := 6
def theMethod : MethodId := ⟨1, 1⟩
def args0 : Array Value := #[.int 5, .long 1, .long 2]
def aboutOver (below : List Frame) : State where
  vm := { classes := classes, interned := interned.toArray }
  heap := heap
  slotsUsed := slotsUsed
  threads := #[{ frames := .invoking theMethod args0 :: below }]
def below0 : List Frame := [.native { method := ⟨0, 0⟩, args := #[] }]
def about1 : State := aboutOver below0
def p0 : Program := .bare "" "" ""
def e0 : Env := launch0.env 0 0 0
theorem w_frames : about1.frames = Frame.invoking theMethod args0 :: below0 := rfl
set_option maxRecDepth 65536 in
theorem w_args : argsFit about1.vm theMethod args0 = true := by decide +kernel
set_option maxRecDepth 65536 in
theorem w_heap : heapFits about1 = true := by decide +kernel
set_option maxRecDepth 65536 in
theorem w_runnable : about1.curStatus? = some .runnable := by decide +kernel
set_option maxRecDepth 65536 in
theorem w_alone : about1.alone = true := by decide +kernel
set_option maxRecDepth 65536 in
theorem w_named : about1.methodNamed? x = some theMethod := by decide +kernel
set_option maxRecDepth 65536 in
theorem w_hears : about1.hears theMethod below0 = true := by decide +kernel
set_option maxRecDepth 65536 in
theorem w_ripe : about1.ripe theMethod args0 below0 = true := by decide +kernel
theorem w_running : about1.status = .running := rfl
set_option maxRecDepth 65536 in
theorem w_room : about1.hasRoom e0.platform room_1 = true :=
  launch0.hasRoom_least _ room_1 (by decide +kernel) (by decide +kernel) (by decide +kernel) (by decide +kernel) (by decide +kernel) (by decide +kernel)
theorem allAtoms_all (ts : List Jvm.Cond) (a : Array Jvm.Value) (st : Jvm.State) : (allAtoms ts).before a st = ts.all (fun c => c.before a st) := by
  induction ts with
  | nil => rfl
  | cons c t ih =>
    show (Jvm.Cond.and c (allAtoms t)).before a st = _
    rw [Jvm.Cond.before_and, ih, List.all_cons]
def words1 : List Jvm.Cond := Jvm.Cond.code x code maxLocals ret :: tables_1
/-- a 'code' word, met by the world's own term for the bytes: nothing is compared byte by byte -/
theorem code_word {y : MethodName} {bytes : ByteArray} {mx : Nat} {rt : Option FieldType} {a : Array Value} {s : State} {m : MethodId} {meth : Method} {c : Code} (h1 : s.methodNamed? y = some m) (h2 : s.vm.method? m = some meth) (h3 : meth.code = some c) (h4 : c.code = bytes)
    (h5 : (c.maxLocals == mx && c.exceptionTable.isEmpty && decide (c.maxStack ≤ mostOperands) && decide (meth.sig.returnType = rt) && !meth.locks && decide (parseMethodDescriptor y.desc = some meth.sig)) = true) : (Jvm.Cond.code y bytes mx rt).before a s = true := by
  simp only [Bool.and_eq_true, beq_iff_eq, Bool.not_eq_true', decide_eq_true_eq] at h5
  obtain ⟨⟨⟨⟨⟨g1, g2⟩, g3⟩, g4⟩, g5⟩, g6⟩ := h5
  simp [Cond.before, Cond.holds, Cond.value, h1, h2, h3, h4, g1, g2, g3, g4, g5, g6]
def isCode : Jvm.Cond → Bool
  | .code _ _ _ _ => true
  | _ => false
theorem all_split {L : List Jvm.Cond} {P : Jvm.Cond → Bool} (h1 : L.all (fun c => isCode c || P c) = true) (h2 : ∀ c ∈ L.filter isCode, P c = true) : L.all P = true := by
  refine List.all_eq_true.mpr fun c hc => ?_
  have h := List.all_eq_true.mp h1 c hc
  rcases Bool.eq_false_or_eq_true (isCode c) with hi | hi
  · exact h2 c (List.mem_filter.mpr ⟨hc, hi⟩)
  · simpa [hi] using h
set_option maxRecDepth 65536 in
theorem w_c0 : (Jvm.Cond.code x code maxLocals ret).before args0 about1 = true := code_word (m := ⟨1, 1⟩) (meth := k1m1) (c := k1c1) (by decide +kernel) rfl rfl rfl (by decide +kernel)
set_option maxRecDepth 65536 in
theorem w_c1 : (Jvm.Cond.code ({ cls := "com/example/columnist/columnist/CellKeyFindRowLengthPinLaw", name := "ref", desc := "([B)I" } : Jvm.MethodName) method_5_code (1 : Nat) (Option.some Jvm.ClassFile.FieldType.int)).before args0 about1 = true := code_word (m := ⟨1, 4⟩) (meth := k1m4) (c := k1c4) (by decide +kernel) rfl rfl rfl (by decide +kernel)
set_option maxRecDepth 65536 in
theorem w_c2 : (Jvm.Cond.code ({ cls := "com/example/columnist/columnist/CellKeyFindRowLengthPinLaw", name := "pairAt", desc := "([BI)Z" } : Jvm.MethodName) method_4_code (2 : Nat) (Option.some Jvm.ClassFile.FieldType.boolean)).before args0 about1 = true := code_word (m := ⟨1, 3⟩) (meth := k1m3) (c := k1c3) (by decide +kernel) rfl rfl rfl (by decide +kernel)
set_option maxRecDepth 65536 in
theorem w_c3 : (Jvm.Cond.code ({ cls := "com/example/columnist/columnist/CellKey", name := "findRowLength", desc := "([B)I" } : Jvm.MethodName) prog_4_method_4_code (2 : Nat) (Option.some Jvm.ClassFile.FieldType.int)).before args0 about1 = true := code_word (m := ⟨2, 0⟩) (meth := k2m0) (c := k2c0) (by decide +kernel) rfl rfl rfl (by decide +kernel)
set_option maxRecDepth 65536 in
theorem w_c4 : (Jvm.Cond.code ({ cls := "com/example/columnist/columnist/CellKeyFindRowLengthPinLaw", name := "draw", desc := "(JI)B" } : Jvm.MethodName) method_3_code (6 : Nat) (Option.some Jvm.ClassFile.FieldType.byte)).before args0 about1 = true := code_word (m := ⟨1, 2⟩) (meth := k1m2) (c := k1c2) (by decide +kernel) rfl rfl rfl (by decide +kernel)
def codes1 : List Jvm.Cond := [Jvm.Cond.code x code maxLocals ret, Jvm.Cond.code ({ cls := "com/example/columnist/columnist/CellKeyFindRowLengthPinLaw", name := "ref", desc := "([B)I" } : Jvm.MethodName) method_5_code (1 : Nat) (Option.some Jvm.ClassFile.FieldType.int), Jvm.Cond.code ({ cls := "com/example/columnist/columnist/CellKeyFindRowLengthPinLaw", name := "pairAt", desc := "([BI)Z" } : Jvm.MethodName) method_4_code (2 : Nat) (Option.some Jvm.ClassFile.FieldType.boolean), Jvm.Cond.code ({ cls := "com/example/columnist/columnist/CellKey", name := "findRowLength", desc := "([B)I" } : Jvm.MethodName) prog_4_method_4_code (2 : Nat) (Option.some Jvm.ClassFile.FieldType.int), Jvm.Cond.code ({ cls := "com/example/columnist/columnist/CellKeyFindRowLengthPinLaw", name := "draw", desc := "(JI)B" } : Jvm.MethodName) method_3_code (6 : Nat) (Option.some Jvm.ClassFile.FieldType.byte)]
set_option maxRecDepth 65536 in
theorem codes_eq : words1.filter isCode = codes1 := rfl
theorem w_codes : ∀ c ∈ words1.filter isCode, c.before args0 about1 = true := by
  rw [codes_eq]
  intro c hc
  simp only [codes1, List.mem_cons, List.not_mem_nil, or_false] at hc
  rcases hc with rfl | rfl | rfl | rfl | rfl
  · exact w_c0
  · exact w_c1
  · exact w_c2
  · exact w_c3
  · exact w_c4
set_option maxRecDepth 65536 in
theorem w_t1 : words1.all (fun c => isCode c || c.before args0 about1) = true := by decide +kernel
theorem w_tables : (allAtoms (Jvm.Cond.code x code maxLocals ret :: tables_1)).before args0 about1 = true := by
  rw [allAtoms_all]
  show words1.all (fun c => c.before args0 about1) = true
  refine all_split ?_ w_codes
  rw [w_t1]
set_option maxRecDepth 65536 in
theorem w_case : (Jvm.Cond.and given_1 narrow_1).before args0 about1 = true := by decide +kernel
theorem w_applies : (headSpec (Jvm.Cond.code x code maxLocals ret :: tables_1) room_1).applies x e0.platform about1 = true :=
  (Spec.applies_iff w_frames).mpr ⟨w_running, w_runnable, w_alone, w_named, w_hears, w_ripe, w_room, w_tables⟩
theorem atStart : AtStart classFile x code maxLocals ret World_1 tables_1 room_1 Calls_1 rest_1 Pre_1 launch0 p0 e0 about1 theMethod args0 below0 :=
  ⟨lists_1, trivial, launch0.admits_env _ _ _, launch0.least_env, fairChoices_fair.cas, fairChoices_fair.clock, w_frames, w_args, w_heap, w_applies, trivial, trivial, w_case⟩
end start1
theorem witness_1 : WitnessClaimed_1 := ⟨start1.p0, start1.e0, start1.about1, start1.theMethod, start1.args0, start1.below0, start1.atStart⟩
end Jvm.Pilot.@@N@@
