import JvmDerived
import JvmDerived.Pilot.@@N@@Statement
import JvmDerived.Pilot.@@N@@Code
set_option linter.unusedVariables false
set_option linter.unusedSimpArgs false
namespace Jvm.Pilot.@@N@@
open Jvm Jvm.ClassFile Sem Op Lib Jvm.Free Jvm.Stand Jvm.LawKit Jvm.RoadKit Bundle Jvm.Pilot.@@N@@.Jvm.D
section Own
variable {p : Program} {l : Launch} {e : Env} {R : Room} {s : State} {m : MethodId} {args : Array Value} {below : List Frame} {meth : Method} {c : Code} {T T' : State} {locs : List Loc} {cells slots : Nat} {Qf : Option Value → Heap → List Loc → Prop} {C S : Nat} {F F' : JFrame}
/-- from the state T with the frame F on top the invocation ends as Qf says -/
def own_Go (p : Program) (e : Env) (below : List Frame) (s : State) (Qf : Option Value → Heap → List Loc → Prop) (C S : Nat) (T : State) (F : JFrame) : Prop :=
  ∃ s₂ o, Steps p.tables e below (T.setTop F) s₂ ∧ s₂.status = .running ∧ Ended s₂ below o ∧ ∃ v L, o = .returned v ∧ Qf v s₂.heap L ∧ FrameEnd s o s₂ L C S
theorem own_enter (q : F = F') (hr : own_Go p e below s Qf C S T F') : ∃ s₂ o, Steps p.tables e below (T.setTop F) s₂ ∧ s₂.status = .running ∧ Ended s₂ below o ∧ ∃ v L, o = .returned v ∧ Qf v s₂.heap L ∧ FrameEnd s o s₂ L C S := by
  subst q; exact hr
theorem own_st (st : ∀ t, Steps p.tables e below (T'.setTop F') t → Steps p.tables e below (T.setTop F) t) (hr : own_Go p e below s Qf C S T' F') : own_Go p e below s Qf C S T F := by
  obtain ⟨s2, o, h1, h2⟩ := hr
  exact ⟨s2, o, st _ h1, h2⟩
theorem own_tr (st : Steps p.tables e below (T.setTop F) (T'.setTop F')) (hr : own_Go p e below s Qf C S T' F') : own_Go p e below s Qf C S T F := by
  obtain ⟨s2, o, h1, h2⟩ := hr
  exact ⟨s2, o, st.trans h1, h2⟩
theorem own_ret (X : Stand p l e R s m args below meth c T locs cells slots) (hlk : meth.locks = false) {v : Option Value} (hv : meth.sig.returnType = none → v = none)
    (st : ∀ fs, (∀ (f : JFrame) (acts : List Action), f.method = m → f.locked = none → f.entered = [] → (doReturn e (T.setTop f) acts v).1 = T.setFrames fs) → Steps p.tables e below (T.setTop F) (T.setFrames fs))
    (hQ : Qf v T.heap locs) (hC : cells ≤ C) (hS : slots ≤ S) : own_Go p e below s Qf C S T F := by
  obtain ⟨fs, hr, hrun, hended, hW, hsame⟩ := X.leave (v := v) hv hlk
  exact ⟨_, _, st fs hr, hrun, hended, _, _, rfl, hQ, ⟨_, rfl⟩, hW, hsame.mono hC hS⟩
theorem own_retN (X : Stand p l e R s m args below meth c T locs cells slots) (hx : p.tables.exec = Jvm.exec) (hlk : meth.locks = false) {pc : Nat} {Ls : Array Slot} {z : Int32} {t : FieldType} {rest : List Value} (hret : meth.sig.returnType = some t) (ht : t = .boolean ∨ t = .byte ∨ t = .char ∨ t = .short) (hd : decode c.code pc = .ok (.ireturn, 1))
    (hQ : Qf (some (.int (nar t z))) T.heap locs) (hC : cells ≤ C) (hS : slots ≤ S) : own_Go p e below s Qf C S T (mkF m pc Ls (.int z :: rest)) :=
  own_ret X hlk (fun h => by rw [hret] at h; cases h) (fun _ hr => retN X hx hret ht hd hr) hQ hC hS
theorem own_retI (X : Stand p l e R s m args below meth c T locs cells slots) (hx : p.tables.exec = Jvm.exec) (hlk : meth.locks = false) {pc : Nat} {Ls : Array Slot} {z : Int32} {rest : List Value} (hret : meth.sig.returnType = some .int) (hd : decode c.code pc = .ok (.ireturn, 1))
    (hQ : Qf (some (.int z)) T.heap locs) (hC : cells ≤ C) (hS : slots ≤ S) : own_Go p e below s Qf C S T (mkF m pc Ls (.int z :: rest)) :=
  own_ret X hlk (fun h => by rw [hret] at h; cases h) (fun _ hr => retOut X hx hret rfl (Or.inl ⟨rfl, Or.inl rfl, _, rfl⟩) hd hr) hQ hC hS
theorem own_retJ (X : Stand p l e R s m args below meth c T locs cells slots) (hx : p.tables.exec = Jvm.exec) (hlk : meth.locks = false) {pc : Nat} {Ls : Array Slot} {z : Int64} {rest : List Value} (hret : meth.sig.returnType = some .long) (hd : decode c.code pc = .ok (.lreturn, 1))
    (hQ : Qf (some (.long z)) T.heap locs) (hC : cells ≤ C) (hS : slots ≤ S) : own_Go p e below s Qf C S T (mkF m pc Ls (.long z :: rest)) :=
  own_ret X hlk (fun h => by rw [hret] at h; cases h) (fun _ hr => retOut X hx hret rfl (Or.inr (Or.inl ⟨rfl, rfl, _, rfl⟩)) hd hr) hQ hC hS
theorem own_retA (X : Stand p l e R s m args below meth c T locs cells slots) (hx : p.tables.exec = Jvm.exec) (hlk : meth.locks = false) {pc : Nat} {Ls : Array Slot} {w : Value} {t : FieldType} {rest : List Value} (hret : meth.sig.returnType = some t) (ht : t.isReference = true) (hw : w.isRef = true) (hn : narrow t w = w) (hd : decode c.code pc = .ok (.areturn, 1))
    (hQ : Qf (some w) T.heap locs) (hC : cells ≤ C) (hS : slots ≤ S) : own_Go p e below s Qf C S T (mkF m pc Ls (w :: rest)) :=
  own_ret X hlk (fun h => by rw [hret] at h; cases h) (fun _ hr => retOut X hx hret hn (Or.inr (Or.inr (Or.inr (Or.inr ⟨rfl, ht, hw⟩)))) hd hr) hQ hC hS
theorem own_retV (X : Stand p l e R s m args below meth c T locs cells slots) (hx : p.tables.exec = Jvm.exec) (hlk : meth.locks = false) {pc : Nat} {Ls : Array Slot} (hret : meth.sig.returnType = none) (hd : decode c.code pc = .ok (.return_, 1))
    (hQ : Qf none T.heap locs) (hC : cells ≤ C) (hS : slots ≤ S) : own_Go p e below s Qf C S T (mkF m pc Ls []) :=
  own_ret X hlk (fun _ => rfl) (fun _ hr => X.returnOut hx hret hd hr) hQ hC hS
def own_cc : ClassFile.Cond → Int32 → Int32 → Prop
  | .eq, x, y => x = y
  | .ne, x, y => ¬ x = y
  | .lt, x, y => x < y
  | .ge, x, y => ¬ x < y
  | .gt, x, y => y < x
  | .le, x, y => ¬ y < x
def own_nn : ClassFile.Cond → Int32 → Int32 → Prop
  | .eq, x, y => ¬ x = y
  | .ne, x, y => x = y
  | .lt, x, y => ¬ x < y
  | .ge, x, y => x < y
  | .gt, x, y => ¬ y < x
  | .le, x, y => y < x
theorem own_split (cd : ClassFile.Cond) (x y : Int32) : (own_cc cd x y ∧ if_icmp.holds cd x y = true) ∨ (own_nn cd x y ∧ if_icmp.holds cd x y = false) := by
  cases cd
  · by_cases h : x = y
    · exact Or.inl ⟨h, (teq h).1⟩
    · exact Or.inr ⟨h, (feq h).1⟩
  · by_cases h : x = y
    · exact Or.inr ⟨h, (teq h).2⟩
    · exact Or.inl ⟨h, (feq h).2⟩
  · by_cases h : x < y
    · exact Or.inl ⟨h, (tlt h).1⟩
    · exact Or.inr ⟨h, (flt h).1⟩
  · by_cases h : x < y
    · exact Or.inr ⟨h, (tlt h).2.1⟩
    · exact Or.inl ⟨h, (flt h).2.1⟩
  · by_cases h : y < x
    · exact Or.inl ⟨h, (tlt h).2.2.1⟩
    · exact Or.inr ⟨h, (flt h).2.2.1⟩
  · by_cases h : y < x
    · exact Or.inr ⟨h, (tlt h).2.2.2⟩
    · exact Or.inl ⟨h, (flt h).2.2.2⟩
theorem own_icmp (X : Stand p l e R s m args below meth c T locs cells slots) (hx : p.tables.exec = Jvm.exec) {pc pc' pc2 : Nat} {Ls : Array Slot} {st : List Value} {x y : Int32} {cd : ClassFile.Cond} {o : Int} (hd : decode c.code pc = .ok (.if_icmp cd o, 3)) (ho : 0 ≤ (pc : Int) + o) (hp : ((pc : Int) + o).toNat = pc') (h2 : pc + 3 = pc2)
    (hY : own_cc cd x y → own_Go p e below s Qf C S T (mkF m pc' Ls st)) (hN : own_nn cd x y → own_Go p e below s Qf C S T (mkF m pc2 Ls st)) : own_Go p e below s Qf C S T (mkF m pc Ls (.int y :: .int x :: st)) := by
  subst h2
  rcases own_split cd x y with ⟨h, q⟩ | ⟨h, q⟩
  · exact own_st (fun _ k => XS.icmpYes X.here hx rfl (pc0 := pc) (pc' := pc') rfl hd rfl q ho hp k) (hY h)
  · exact own_st (fun _ k => XS.icmpNo X.here hx rfl hd rfl q k) (hN h)
theorem own_ifc (X : Stand p l e R s m args below meth c T locs cells slots) (hx : p.tables.exec = Jvm.exec) {pc pc' pc2 : Nat} {Ls : Array Slot} {st : List Value} {x : Int32} {cd : ClassFile.Cond} {o : Int} (hd : decode c.code pc = .ok (.ifCond cd o, 3)) (ho : 0 ≤ (pc : Int) + o) (hp : ((pc : Int) + o).toNat = pc') (h2 : pc + 3 = pc2)
    (hY : own_cc cd x 0 → own_Go p e below s Qf C S T (mkF m pc' Ls st)) (hN : own_nn cd x 0 → own_Go p e below s Qf C S T (mkF m pc2 Ls st)) : own_Go p e below s Qf C S T (mkF m pc Ls (.int x :: st)) := by
  subst h2
  rcases own_split cd x 0 with ⟨h, q⟩ | ⟨h, q⟩
  · exact own_st (fun _ k => XS.ifYes X.here hx rfl (pc0 := pc) (pc' := pc') rfl hd rfl ((if0 _ _).trans q) ho hp k) (hY h)
  · exact own_st (fun _ k => XS.ifNo X.here hx rfl hd rfl ((if0 _ _).trans q) k) (hN h)
def own_ccL : ClassFile.Cond → Int64 → Int64 → Prop
  | .eq, x, y => x = y
  | .ne, x, y => ¬ x = y
  | .lt, x, y => x < y
  | .ge, x, y => ¬ x < y
  | .gt, x, y => y < x
  | .le, x, y => ¬ y < x
def own_nnL : ClassFile.Cond → Int64 → Int64 → Prop
  | .eq, x, y => ¬ x = y
  | .ne, x, y => x = y
  | .lt, x, y => ¬ x < y
  | .ge, x, y => x < y
  | .gt, x, y => ¬ y < x
  | .le, x, y => y < x
theorem own_lc (cd : ClassFile.Cond) (x y : Int64) : (own_cc cd (lcmpW x y) 0 → own_ccL cd x y) ∧ (own_nn cd (lcmpW x y) 0 → own_nnL cd x y) := by
  have h1 : x > y → lcmpW x y = 1 := fun h => by simp [lcmpW, h]
  have h2 : x = y → lcmpW x y = 0 := fun h => by subst h; simp [lcmpW, Int64.lt_irrefl]
  have h3 : ¬ x > y → ¬ x = y → lcmpW x y = -1 := fun h h' => by simp [lcmpW, h, h']
  have lt : x < y ↔ lcmpW x y < 0 := by
    by_cases a : x > y
    · rw [h1 a]; exact ⟨fun b => absurd (Int64.lt_trans a b) (Int64.lt_irrefl), fun b => absurd b (by decide)⟩
    · by_cases b : x = y
      · rw [h2 b, b]; exact ⟨fun q => absurd q (Int64.lt_irrefl), fun q => absurd q (by decide)⟩
      · rw [h3 a b]; exact ⟨fun _ => by decide, fun _ => by
          rw [Int64.lt_iff_toInt_lt]; simp only [gt_iff_lt, Int64.lt_iff_toInt_lt] at a
          have : x.toInt ≠ y.toInt := fun q => b (Int64.toInt_inj.mp q)
          omega⟩
  have gt : y < x ↔ 0 < lcmpW x y := by
    by_cases a : x > y
    · rw [h1 a]; exact ⟨fun _ => by decide, fun _ => a⟩
    · by_cases b : x = y
      · rw [h2 b]; exact ⟨fun q => absurd q a, fun q => absurd q (by decide)⟩
      · rw [h3 a b]; exact ⟨fun q => absurd q a, fun q => absurd q (by decide)⟩
  have eq : x = y ↔ lcmpW x y = 0 := by
    by_cases a : x > y
    · rw [h1 a]; exact ⟨fun b => absurd a (by rw [b]; exact Int64.lt_irrefl), fun b => absurd b (by decide)⟩
    · by_cases b : x = y
      · exact ⟨fun _ => h2 b, fun _ => b⟩
      · rw [h3 a b]; exact ⟨fun q => absurd q b, fun q => absurd q (by decide)⟩
  cases cd
  · exact ⟨fun h => eq.mpr h, fun h q => h (eq.mp q)⟩
  · exact ⟨fun h q => h (eq.mp q), fun h => eq.mpr h⟩
  · exact ⟨fun h => lt.mpr h, fun h q => h (lt.mp q)⟩
  · exact ⟨fun h q => h (lt.mp q), fun h => lt.mpr h⟩
  · exact ⟨fun h => gt.mpr h, fun h q => h (gt.mp q)⟩
  · exact ⟨fun h q => h (gt.mp q), fun h => gt.mpr h⟩
theorem own_iflc (X : Stand p l e R s m args below meth c T locs cells slots) (hx : p.tables.exec = Jvm.exec) {pc pc' pc2 : Nat} {Ls : Array Slot} {st : List Value} {x y : Int64} {cd : ClassFile.Cond} {o : Int} (hd : decode c.code pc = .ok (.ifCond cd o, 3)) (ho : 0 ≤ (pc : Int) + o) (hp : ((pc : Int) + o).toNat = pc') (h2 : pc + 3 = pc2)
    (hY : own_ccL cd x y → own_Go p e below s Qf C S T (mkF m pc' Ls st)) (hN : own_nnL cd x y → own_Go p e below s Qf C S T (mkF m pc2 Ls st)) : own_Go p e below s Qf C S T (mkF m pc Ls (.int (lcmpW x y) :: st)) :=
  own_ifc X hx hd ho hp h2 (fun h => hY ((own_lc cd x y).1 h)) (fun h => hN ((own_lc cd x y).2 h))
theorem own_acmp (X : Stand p l e R s m args below meth c T locs cells slots) (hx : p.tables.exec = Jvm.exec) {pc pc' pc2 : Nat} {Ls : Array Slot} {st : List Value} {x y : Addr} {o : Int} {cd : ACond} (hd : decode c.code pc = .ok (.if_acmp cd o, 3)) (ho : 0 ≤ (pc : Int) + o) (hp : ((pc : Int) + o).toNat = pc') (h2 : pc + 3 = pc2)
    (hE : x = y → own_Go p e below s Qf C S T (mkF m (if acV cd true = true then pc' else pc2) Ls st)) (hN : ¬ x = y → own_Go p e below s Qf C S T (mkF m (if acV cd false = true then pc' else pc2) Ls st)) : own_Go p e below s Qf C S T (mkF m pc Ls (.ref y :: .ref x :: st)) := by
  subst h2 hp
  by_cases h : x = y
  · exact own_st (fun _ k => Jvm.RoadKit.acmp (g := mkF m pc Ls (.ref y :: .ref x :: st)) X hx rfl rfl rfl (pc0 := pc) (same := true) rfl hd rfl (decide_eq_true (congrArg Value.ref h)) ho rfl k) (hE h)
  · exact own_st (fun _ k => Jvm.RoadKit.acmp (g := mkF m pc Ls (.ref y :: .ref x :: st)) X hx rfl rfl rfl (pc0 := pc) (same := false) rfl hd rfl (decide_eq_false fun q => h (Value.ref.inj q)) ho rfl k) (hN h)
theorem own_ord {Z : State} {a0 : Array Value} {t : Term} {a : Addr} {C n d : String} {k : Int32} (ev : t.eval a0 Z none [] Z = some (.ref a)) (h : (Cond.eq (Term.field t C n d) (Term.int k)).value a0 Z none Z [] = some true) : Fld Z Z.heap a C n d (.int k) := by
  have e1 : (Term.field t C n d).eval a0 Z none [] Z = Z.fieldOf? a C n d := fld_at ev
  simp only [Cond.value, e1] at h
  cases hq : Z.fieldOf? a C n d with
  | none => simp [hq] at h
  | some v =>
    rw [hq] at h
    cases v <;> simp [Term.eval] at h
    subst h
    exact Fld.start hq
theorem own_narb {z : Int32} (h : z = 0 ∨ z = 1) : nar .boolean z = z := by rcases h with rfl | rfl <;> rfl
theorem own_stk {Z : State} {h h' : Heap} {C n d : String} {v : Value} {ws : List Addr} (F : Sta Z h C n d v) (K : Keep h h' ws) (q : ∀ x ∈ ws, ∀ c : Cell, h[x]? = some c → c.vm.isStatics = false) : Sta Z h' C n d v := by
  obtain ⟨cf, i, k, f, st, cell, h1, h2, h3, h4, h5, h6, h7⟩ := F
  exact ⟨cf, i, k, f, st, cell, h1, h2, h3, h4, K.2.1 st cell h5 (fun z => by rw [q st z cell h5] at h6; cases h6), h6, h7⟩
theorem own_npE {Z : State} {h : Heap} {a : Addr} {C : String} (E : Exa Z h a C) : ∀ c : Cell, h[a]? = some c → c.vm.isStatics = false := fun c hc => by
  obtain ⟨cell, k, h1, h2, h3, h4, h5⟩ := E
  cases h1.symm.trans hc
  exact h4
theorem own_npA {Z : State} {h : Heap} {a : Addr} {k : ClassId} {ty : FieldType} {z : Int32} {vs : List Value} {dv : Value} (V : Arv Z h a k ty z vs dv) : ∀ c : Cell, h[a]? = some c → c.vm.isStatics = false := fun c hc => by
  obtain ⟨cl, A, r⟩ := V
  cases A.1.symm.trans hc
  exact A.plain
theorem own_len {Z : State} {a0 : Array Value} {t : Term} {a : Addr} {cl : Cell} {ty : FieldType} {k : Int32} (ev : t.eval a0 Z none [] Z = some (.ref a)) (A : Arr Z Z.heap a cl ty) (h : (Cond.eq (Term.length t) (Term.int k)).value a0 Z none Z [] = some true) : cl.slots.size < 2 ^ 31 ∧ cl.slots.size.toInt32 = k := by
  have ha : Z.arrayAt? a = some cl := IntBox.arrayAt_of A.1 A.2.1 A.2.2
  simp only [Cond.value, Term.eval, ev, Option.bind_eq_bind, Option.bind_some, ha] at h
  by_cases q : cl.slots.size < 2 ^ 31
  · simp [q] at h; exact ⟨q, h⟩
  · simp [q] at h
theorem own_elem {Z : State} {a0 : Array Value} {t : Term} {a : Addr} {cl : Cell} {ty : FieldType} {j v : Int32} (ev : t.eval a0 Z none [] Z = some (.ref a)) (A : Arr Z Z.heap a cl ty) (hj : ¬ j < 0) (h : (Cond.eq (Term.elem t (Term.int j)) (Term.int v)).value a0 Z none Z [] = some true) : cl.slots[j.toNatClampNeg]? = some (.int v) := by
  have ha : Z.arrayAt? a = some cl := IntBox.arrayAt_of A.1 A.2.1 A.2.2
  have e1 : (Term.elem t (Term.int j)).eval a0 Z none [] Z = cl.slots[j.toNatClampNeg]? := elem_f ev rfl ha hj
  simp only [Cond.value, e1] at h
  cases hq : cl.slots[j.toNatClampNeg]? with
  | none => simp [hq] at h
  | some w =>
    rw [hq] at h
    cases w <;> simp [Term.eval] at h
    rw [h]
theorem own_arvex {Z : State} {a : Addr} {cl : Cell} {ty : FieldType} {z : Int32} {dv : Value} (hf : Fit Z) (A : Arr Z Z.heap a cl ty) (q : cl.slots.size < 2 ^ 31) (e : cl.slots.size.toInt32 = z) (hz : ¬ z < 0) : ∃ vs, Arv Z Z.heap a cl.cls ty z vs dv := by
  have S : cl.slots.size = z.toNatClampNeg := by rw [← e]; simp only [Int32.toNatClampNeg, len_toInt q]; rfl
  have H : Has cl cl.slots.toList dv := fun k hk => by
    rw [List.getD_eq_getElem?_getD, Array.getElem?_toList, Array.getElem?_eq_getElem hk]; rfl
  refine ⟨cl.slots.toList, cl, A, rfl, S, hz, H, fun j hj => ?_⟩
  have e1 : (Nat.toInt32 j).toNatClampNeg = j := by simp only [Int32.toNatClampNeg, len_toInt (Nat.lt_trans hj q)]; rfl
  exact elem_fits (j := Nat.toInt32 j) hf A (idx_in hj q) (by rw [e1]; exact H j hj)
theorem own_selp {s : State} {args : Array Value} {y : MethodName} {n : Nat} (wi : (Cond.instantiable y.cls n).before args s = true) (hp : s.PrivateAt y) (hi : (Cond.instanceMethod y).before args s = true) (hy : y.cls ≠ "java/lang/invoke/MethodHandle" ∧ y.cls ≠ "java/lang/invoke/VarHandle") : (Cond.selects y.cls y y).before args s = true := by
  obtain ⟨c, k, hc, hk, -, hf, -⟩ := Cond.instantiable_spec wi
  exact selects_self_of_private hc hk (by simp only [Bool.or_eq_false_iff] at hf; exact hf.1) hp hi hy
theorem own_nar0 : nar .boolean (0 : Int32) = 0 := rfl
theorem own_nar1 : nar .boolean (1 : Int32) = 1 := rfl
end Own

def own_P (a0 a1 a2 a3 a4 a5 : Addr) (x : Int32) (z : Addr) : Prop := (x = 0 ∧ z = a0) ∨ (x = 1 ∧ z = a1) ∨ (x = 2 ∧ z = a2) ∨ (x = 3 ∧ z = a3) ∨ (x = 4 ∧ z = a4) ∨ z = a5

theorem d1_0 : decode method_2_code 0 = .ok (.iload_n 0, 1) := by decide +kernel
theorem d1_1 : decode method_2_code 1 = .ok (.ifCond .ne 7, 3) := by decide +kernel
theorem d1_4 : decode method_2_code 4 = .ok (.getstatic 7, 3) := by decide +kernel
theorem d1_7 : decode method_2_code 7 = .ok (.areturn, 1) := by decide +kernel
theorem d1_8 : decode method_2_code 8 = .ok (.iload_n 0, 1) := by decide +kernel
theorem d1_9 : decode method_2_code 9 = .ok (.iconst 1, 1) := by decide +kernel
theorem d1_10 : decode method_2_code 10 = .ok (.if_icmp .ne 7, 3) := by decide +kernel
theorem d1_13 : decode method_2_code 13 = .ok (.getstatic 13, 3) := by decide +kernel
theorem d1_16 : decode method_2_code 16 = .ok (.areturn, 1) := by decide +kernel
theorem d1_17 : decode method_2_code 17 = .ok (.iload_n 0, 1) := by decide +kernel
theorem d1_18 : decode method_2_code 18 = .ok (.iconst 2, 1) := by decide +kernel
theorem d1_19 : decode method_2_code 19 = .ok (.if_icmp .ne 7, 3) := by decide +kernel
theorem d1_22 : decode method_2_code 22 = .ok (.getstatic 16, 3) := by decide +kernel
theorem d1_25 : decode method_2_code 25 = .ok (.areturn, 1) := by decide +kernel
theorem d1_26 : decode method_2_code 26 = .ok (.iload_n 0, 1) := by decide +kernel
theorem d1_27 : decode method_2_code 27 = .ok (.iconst 3, 1) := by decide +kernel
theorem d1_28 : decode method_2_code 28 = .ok (.if_icmp .ne 7, 3) := by decide +kernel
theorem d1_31 : decode method_2_code 31 = .ok (.getstatic 19, 3) := by decide +kernel
theorem d1_34 : decode method_2_code 34 = .ok (.areturn, 1) := by decide +kernel
theorem d1_35 : decode method_2_code 35 = .ok (.iload_n 0, 1) := by decide +kernel
theorem d1_36 : decode method_2_code 36 = .ok (.iconst 4, 1) := by decide +kernel
theorem d1_37 : decode method_2_code 37 = .ok (.if_icmp .ne 7, 3) := by decide +kernel
theorem d1_40 : decode method_2_code 40 = .ok (.getstatic 22, 3) := by decide +kernel
theorem d1_43 : decode method_2_code 43 = .ok (.areturn, 1) := by decide +kernel
theorem d1_44 : decode method_2_code 44 = .ok (.getstatic 25, 3) := by decide +kernel
theorem d1_47 : decode method_2_code 47 = .ok (.areturn, 1) := by decide +kernel
theorem own_pn1 : plainName "com/example/promulgate/promulgate/FormDatedByInitPinLaw" = true := by first | (simp [plainName, overriddenIn]; done) | decide +kernel
theorem own_ef1 (m : MethodId) (x0 : Int32) : entryFrame m #[(.int x0)] 1 = (mkF m 0 #[.val (.int x0)] []) := by first | (simp [entryFrame, mkF, argsToLocals, Value.category]; done) | rfl
def Q1 (Z : State) (x0 : Int32) (fa0 : Addr) (fa1 : Addr) (fa2 : Addr) (fa3 : Addr) (fa4 : Addr) (fa5 : Addr) (h0 : Heap) (n0 : Nat) (v : Option Value) (h : Heap) (L : List Loc) : Prop := (∃ z : Addr, v = some (.ref z) ∧ (own_P fa0 fa1 fa2 fa3 fa4 fa5 x0 z)) ∧ Fr n0 L ∧ h = h0
set_option maxRecDepth 65536 in
set_option maxHeartbeats 40000000 in
theorem rm1 (l : Launch) (Z : State) (a0 : Array Value) (hw : ∀ d ∈ tables_1, d.before a0 Z = true) (ws : List Jvm.Cond) (x0 : Int32) (fa0 : Addr) (fa1 : Addr) (fa2 : Addr) (fa3 : Addr) (fa4 : Addr) (fa5 : Addr) (h0 : Heap) (n0 : Nat) (Z0 : n0 ≤ h0.size) (S_fa0 : Sta Z h0 "com/example/promulgate/promulgate/Form" "FRAMED" "Lcom/example/promulgate/promulgate/Form;" (.ref fa0)) (S_fa1 : Sta Z h0 "com/example/promulgate/promulgate/Form" "JSON" "Lcom/example/promulgate/promulgate/Form;" (.ref fa1)) (S_fa2 : Sta Z h0 "com/example/promulgate/promulgate/Form" "MARKDOWN" "Lcom/example/promulgate/promulgate/Form;" (.ref fa2)) (S_fa3 : Sta Z h0 "com/example/promulgate/promulgate/Form" "OUTLINE" "Lcom/example/promulgate/promulgate/Form;" (.ref fa3)) (S_fa4 : Sta Z h0 "com/example/promulgate/promulgate/Form" "HTML_LISTS" "Lcom/example/promulgate/promulgate/Form;" (.ref fa4)) (S_fa5 : Sta Z h0 "com/example/promulgate/promulgate/Form" "HTML" "Lcom/example/promulgate/promulgate/Form;" (.ref fa5)) :
    MetFree l (⟨"com/example/promulgate/promulgate/FormDatedByInitPinLaw", "pick", "(I)Lcom/example/promulgate/promulgate/Form;"⟩ : MethodName) (head1 (Jvm.Cond.code (⟨"com/example/promulgate/promulgate/FormDatedByInitPinLaw", "pick", "(I)Lcom/example/promulgate/promulgate/Form;"⟩ : MethodName) method_2_code 1 (some (.object "com/example/promulgate/promulgate/Form")) :: ws) ({ frames := 0, cells := 0, slots := 0, locals := 0 } : Room)) (fun a U => a = #[(.int x0)] ∧ Z.Warmed39 U.vm ∧ U.heap = h0) (fun _ _ _ _ _ => True) (fun _ U oc U' => ∃ v L, oc = .returned v ∧ Q1 Z x0 fa0 fa1 fa2 fa3 fa4 fa5 h0 n0 v U'.heap L ∧ FrameEnd U oc U' L ({ frames := 0, cells := 0, slots := 0, locals := 0 } : Room).cells ({ frames := 0, cells := 0, slots := 0, locals := 0 } : Room).slots) := by
  refine MetFree.of_bodySF (plainFor_of_name own_pn1) hisR ?_
  intro p e s m args below meth c s₁ Bd hml0 hP hK
  obtain ⟨rfl, hZ, hh⟩ := hP
  have hx := Bd.exec
  have hby := Bd.bytes
  have hlk : meth.locks = false := BodyLoose.notSynchronized Bd
  have hml : c.maxLocals = 1 := hml0
  have hown : s.vm.findClass "com/example/promulgate/promulgate/FormDatedByInitPinLaw" = some m.cls := findClass_of_methodNamed Bd.named
  have hnm := (name_of_methodNamed Bd.named Bd.method).1
  have X0 : Stand p l e ({ frames := 0, cells := 0, slots := 0, locals := 0 } : Room) s m #[(.int x0)] below meth c s₁ [] 0 0 := Stand.of_body Bd
  have e0 : s₁.heap = h0 := by rw [← hh, Bd.state]; rfl
  have N0 := Fr.nil n0
  refine own_enter (own_ef1 m x0) ?_
  show own_Go p e below s (Q1 Z x0 fa0 fa1 fa2 fa3 fa4 fa5 h0 n0) ({ frames := 0, cells := 0, slots := 0, locals := 0 } : Room).cells ({ frames := 0, cells := 0, slots := 0, locals := 0 } : Room).slots s₁ (mkF m 0 #[.val (.int x0)] [])
  refine own_st (T' := s₁) (F' := (mkF m 1 #[.val (.int x0)] [(.int x0)])) (fun _ k => XS.iloadN X0.here hx rfl (hb hby d1_0) rfl  k) ?_
  refine own_ifc X0 hx (pc' := 8) (pc2 := 4) (hb hby d1_1) (by decide) (by decide) rfl (fun (hc1 : ¬ (x0 = (0 : Int32))) => ?_) (fun (hc1 : x0 = (0 : Int32)) => ?_)
  ·
    refine own_st (T' := s₁) (F' := (mkF m 9 #[.val (.int x0)] [(.int x0)])) (fun _ k => XS.iloadN X0.here hx rfl (hb hby d1_8) rfl  k) ?_
    refine own_st (T' := s₁) (F' := (mkF m 10 #[.val (.int x0)] [(.int (1 : Int32)), (.int x0)])) (fun _ k => XS.iconst X0.here hx rfl (hb hby d1_9) k) ?_
    refine own_icmp X0 hx (pc' := 17) (pc2 := 13) (hb hby d1_10) (by decide) (by decide) rfl (fun (hc10 : ¬ (x0 = (1 : Int32))) => ?_) (fun (hc10 : x0 = (1 : Int32)) => ?_)
    ·
      refine own_st (T' := s₁) (F' := (mkF m 18 #[.val (.int x0)] [(.int x0)])) (fun _ k => XS.iloadN X0.here hx rfl (hb hby d1_17) rfl  k) ?_
      refine own_st (T' := s₁) (F' := (mkF m 19 #[.val (.int x0)] [(.int (2 : Int32)), (.int x0)])) (fun _ k => XS.iconst X0.here hx rfl (hb hby d1_18) k) ?_
      refine own_icmp X0 hx (pc' := 26) (pc2 := 22) (hb hby d1_19) (by decide) (by decide) rfl (fun (hc19 : ¬ (x0 = (2 : Int32))) => ?_) (fun (hc19 : x0 = (2 : Int32)) => ?_)
      ·
        refine own_st (T' := s₁) (F' := (mkF m 27 #[.val (.int x0)] [(.int x0)])) (fun _ k => XS.iloadN X0.here hx rfl (hb hby d1_26) rfl  k) ?_
        refine own_st (T' := s₁) (F' := (mkF m 28 #[.val (.int x0)] [(.int (3 : Int32)), (.int x0)])) (fun _ k => XS.iconst X0.here hx rfl (hb hby d1_27) k) ?_
        refine own_icmp X0 hx (pc' := 35) (pc2 := 31) (hb hby d1_28) (by decide) (by decide) rfl (fun (hc28 : ¬ (x0 = (3 : Int32))) => ?_) (fun (hc28 : x0 = (3 : Int32)) => ?_)
        ·
          refine own_st (T' := s₁) (F' := (mkF m 36 #[.val (.int x0)] [(.int x0)])) (fun _ k => XS.iloadN X0.here hx rfl (hb hby d1_35) rfl  k) ?_
          refine own_st (T' := s₁) (F' := (mkF m 37 #[.val (.int x0)] [(.int (4 : Int32)), (.int x0)])) (fun _ k => XS.iconst X0.here hx rfl (hb hby d1_36) k) ?_
          refine own_icmp X0 hx (pc' := 44) (pc2 := 40) (hb hby d1_37) (by decide) (by decide) rfl (fun (hc37 : ¬ (x0 = (4 : Int32))) => ?_) (fun (hc37 : x0 = (4 : Int32)) => ?_)
          ·
            obtain ⟨T1, X1, e1, st1⟩ := getS2 X0 hx hZ hown (host := "") (Or.inl (hw _ (List.mem_of_getElem? (i := 8) rfl))) Via.refl e0 S_fa5 (g := (mkF m 44 #[.val (.int x0)] [])) rfl (hb hby d1_44)
            refine own_st (T' := T1) (F' := (mkF m 47 #[.val (.int x0)] [(.ref fa5)])) (fun _ k => st1 _ k) ?_
            refine own_retA X1 hx hlk (t := (.object "com/example/promulgate/promulgate/Form")) Bd.returns rfl rfl rfl (hb hby d1_47) ?_ (by decide) (by decide)
            rw [e1]
            refine ⟨⟨_, rfl, ?_⟩, N0, rfl⟩
            exact Or.inr (Or.inr (Or.inr (Or.inr (Or.inr rfl))))
          ·
            obtain ⟨T2, X2, e2, st2⟩ := getS2 X0 hx hZ hown (host := "") (Or.inl (hw _ (List.mem_of_getElem? (i := 30) rfl))) Via.refl e0 S_fa4 (g := (mkF m 40 #[.val (.int x0)] [])) rfl (hb hby d1_40)
            refine own_st (T' := T2) (F' := (mkF m 43 #[.val (.int x0)] [(.ref fa4)])) (fun _ k => st2 _ k) ?_
            refine own_retA X2 hx hlk (t := (.object "com/example/promulgate/promulgate/Form")) Bd.returns rfl rfl rfl (hb hby d1_43) ?_ (by decide) (by decide)
            rw [e2]
            refine ⟨⟨_, rfl, ?_⟩, N0, rfl⟩
            exact Or.inr (Or.inr (Or.inr (Or.inr (Or.inl ⟨hc37, rfl⟩))))
        ·
          obtain ⟨T3, X3, e3, st3⟩ := getS2 X0 hx hZ hown (host := "") (Or.inl (hw _ (List.mem_of_getElem? (i := 24) rfl))) Via.refl e0 S_fa3 (g := (mkF m 31 #[.val (.int x0)] [])) rfl (hb hby d1_31)
          refine own_st (T' := T3) (F' := (mkF m 34 #[.val (.int x0)] [(.ref fa3)])) (fun _ k => st3 _ k) ?_
          refine own_retA X3 hx hlk (t := (.object "com/example/promulgate/promulgate/Form")) Bd.returns rfl rfl rfl (hb hby d1_34) ?_ (by decide) (by decide)
          rw [e3]
          refine ⟨⟨_, rfl, ?_⟩, N0, rfl⟩
          exact Or.inr (Or.inr (Or.inr (Or.inl ⟨hc28, rfl⟩)))
      ·
        obtain ⟨T4, X4, e4, st4⟩ := getS2 X0 hx hZ hown (host := "") (Or.inl (hw _ (List.mem_of_getElem? (i := 28) rfl))) Via.refl e0 S_fa2 (g := (mkF m 22 #[.val (.int x0)] [])) rfl (hb hby d1_22)
        refine own_st (T' := T4) (F' := (mkF m 25 #[.val (.int x0)] [(.ref fa2)])) (fun _ k => st4 _ k) ?_
        refine own_retA X4 hx hlk (t := (.object "com/example/promulgate/promulgate/Form")) Bd.returns rfl rfl rfl (hb hby d1_25) ?_ (by decide) (by decide)
        rw [e4]
        refine ⟨⟨_, rfl, ?_⟩, N0, rfl⟩
        exact Or.inr (Or.inr (Or.inl ⟨hc19, rfl⟩))
    ·
      obtain ⟨T5, X5, e5, st5⟩ := getS2 X0 hx hZ hown (host := "") (Or.inl (hw _ (List.mem_of_getElem? (i := 26) rfl))) Via.refl e0 S_fa1 (g := (mkF m 13 #[.val (.int x0)] [])) rfl (hb hby d1_13)
      refine own_st (T' := T5) (F' := (mkF m 16 #[.val (.int x0)] [(.ref fa1)])) (fun _ k => st5 _ k) ?_
      refine own_retA X5 hx hlk (t := (.object "com/example/promulgate/promulgate/Form")) Bd.returns rfl rfl rfl (hb hby d1_16) ?_ (by decide) (by decide)
      rw [e5]
      refine ⟨⟨_, rfl, ?_⟩, N0, rfl⟩
      exact Or.inr (Or.inl ⟨hc10, rfl⟩)
  ·
    obtain ⟨T6, X6, e6, st6⟩ := getS2 X0 hx hZ hown (host := "") (Or.inl (hw _ (List.mem_of_getElem? (i := 5) rfl))) Via.refl e0 S_fa0 (g := (mkF m 4 #[.val (.int x0)] [])) rfl (hb hby d1_4)
    refine own_st (T' := T6) (F' := (mkF m 7 #[.val (.int x0)] [(.ref fa0)])) (fun _ k => st6 _ k) ?_
    refine own_retA X6 hx hlk (t := (.object "com/example/promulgate/promulgate/Form")) Bd.returns rfl rfl rfl (hb hby d1_7) ?_ (by decide) (by decide)
    rw [e6]
    refine ⟨⟨_, rfl, ?_⟩, N0, rfl⟩
    exact Or.inl ⟨hc1, rfl⟩
theorem d3_0 : decode jdk_37_method_2_code 0 = .ok (.aload_n 0, 1) := by decide +kernel
theorem d3_1 : decode jdk_37_method_2_code 1 = .ok (.getfield 7, 3) := by decide +kernel
theorem d3_4 : decode jdk_37_method_2_code 4 = .ok (.ireturn, 1) := by decide +kernel
theorem own_pn3 : plainName "java/lang/Enum" = true := by first | (simp [plainName, overriddenIn]; done) | decide +kernel
theorem own_ef3 (m : MethodId) (o : Addr) : entryFrame m #[(.ref o)] 1 = (mkF m 0 #[.val (.ref o)] []) := by first | (simp [entryFrame, mkF, argsToLocals, Value.category]; done) | rfl
def Q3 (Z : State) (o : Addr) (k : Int32) (h0 : Heap) (n0 : Nat) (v : Option Value) (h : Heap) (L : List Loc) : Prop := (∃ z : Int32, v = some (.int z) ∧ (z = k)) ∧ Fr n0 L ∧ h = h0
set_option maxRecDepth 65536 in
set_option maxHeartbeats 40000000 in
theorem rm3 (l : Launch) (Z : State) (a0 : Array Value) (hw : ∀ d ∈ tables_1, d.before a0 Z = true) (ws : List Jvm.Cond) (o : Addr) (k : Int32) (h0 : Heap) (n0 : Nat) (Z0 : n0 ≤ h0.size) (hF : Fld Z h0 o "java/lang/Enum" "ordinal" "I" (.int k)) :
    MetFree l (⟨"java/lang/Enum", "ordinal", "()I"⟩ : MethodName) (head1 (Jvm.Cond.code (⟨"java/lang/Enum", "ordinal", "()I"⟩ : MethodName) jdk_37_method_2_code 1 (some .int) :: ws) ({ frames := 0, cells := 0, slots := 0, locals := 0 } : Room)) (fun a U => a = #[(.ref o)] ∧ Z.Warmed39 U.vm ∧ U.heap = h0) (fun _ _ _ _ _ => True) (fun _ U oc U' => ∃ v L, oc = .returned v ∧ Q3 Z o k h0 n0 v U'.heap L ∧ FrameEnd U oc U' L ({ frames := 0, cells := 0, slots := 0, locals := 0 } : Room).cells ({ frames := 0, cells := 0, slots := 0, locals := 0 } : Room).slots) := by
  refine MetFree.of_bodySF (plainFor_of_name own_pn3) hisR ?_
  intro p e s m args below meth c s₁ Bd hml0 hP hK
  obtain ⟨rfl, hZ, hh⟩ := hP
  have hx := Bd.exec
  have hby := Bd.bytes
  have hlk : meth.locks = false := BodyLoose.notSynchronized Bd
  have hml : c.maxLocals = 1 := hml0
  have hown : s.vm.findClass "java/lang/Enum" = some m.cls := findClass_of_methodNamed Bd.named
  have hnm := (name_of_methodNamed Bd.named Bd.method).1
  have X0 : Stand p l e ({ frames := 0, cells := 0, slots := 0, locals := 0 } : Room) s m #[(.ref o)] below meth c s₁ [] 0 0 := Stand.of_body Bd
  have e0 : s₁.heap = h0 := by rw [← hh, Bd.state]; rfl
  have N0 := Fr.nil n0
  refine own_enter (own_ef3 m o) ?_
  show own_Go p e below s (Q3 Z o k h0 n0) ({ frames := 0, cells := 0, slots := 0, locals := 0 } : Room).cells ({ frames := 0, cells := 0, slots := 0, locals := 0 } : Room).slots s₁ (mkF m 0 #[.val (.ref o)] [])
  refine own_st (T' := s₁) (F' := (mkF m 1 #[.val (.ref o)] [(.ref o)])) (fun _ k => XS.aloadN X0.here hx rfl (hb hby d3_0) rfl rfl k) ?_
  obtain ⟨T1, X1, e1, st1⟩ := getF X0 hx hZ hown (host := "") (Or.inl (hw _ (List.mem_of_getElem? (i := 22) rfl))) Via.refl e0 hF (g := (mkF m 1 #[.val (.ref o)] [(.ref o)])) rfl rfl (hb hby d3_1)
  refine own_st (T' := T1) (F' := (mkF m 4 #[.val (.ref o)] [(.int k)])) (fun _ k => st1 _ k) ?_
  refine own_retI X1 hx hlk Bd.returns (hb hby d3_4) ?_ (by decide) (by decide)
  rw [e1]
  refine ⟨⟨_, rfl, ?_⟩, N0, rfl⟩
  rfl
theorem own_pd0 : parseMethodDescriptor "()I" = some ⟨[], some .int⟩ := by decide +kernel
theorem d2_0 : decode prog_7_method_11_code 0 = .ok (.aload_n 0, 1) := by decide +kernel
theorem d2_1 : decode prog_7_method_11_code 1 = .ok (.invokevirtual 130, 3) := by decide +kernel
theorem d2_4 : decode prog_7_method_11_code 4 = .ok (.tableswitch 40 0 5 #[54, 54, 50, 50, 50, 54], 40) := by decide +kernel
theorem d2_54 : decode prog_7_method_11_code 54 = .ok (.iconst 1, 1) := by decide +kernel
theorem d2_55 : decode prog_7_method_11_code 55 = .ok (.goto 4, 3) := by decide +kernel
theorem d2_58 : decode prog_7_method_11_code 58 = .ok (.iconst 0, 1) := by decide +kernel
theorem d2_59 : decode prog_7_method_11_code 59 = .ok (.ireturn, 1) := by decide +kernel
theorem own_pn2 : plainName "com/example/promulgate/promulgate/Form" = true := by first | (simp [plainName, overriddenIn]; done) | decide +kernel
theorem own_ef2 (m : MethodId) (o : Addr) : entryFrame m #[(.ref o)] 1 = (mkF m 0 #[.val (.ref o)] []) := by first | (simp [entryFrame, mkF, argsToLocals, Value.category]; done) | rfl
def Q2 (Z : State) (o : Addr) (k : Int32) (h0 : Heap) (n0 : Nat) (v : Option Value) (h : Heap) (L : List Loc) : Prop := (∃ z : Int32, v = some (.int z) ∧ (((k = 2 ∨ k = 3 ∨ k = 4) ∧ z = 1) ∨ ((k = 0 ∨ k = 1 ∨ k = 5) ∧ z = 0))) ∧ Fr n0 L ∧ h = h0
set_option maxRecDepth 65536 in
set_option maxHeartbeats 40000000 in
theorem rm2 (l : Launch) (Z : State) (a0 : Array Value) (hw : ∀ d ∈ tables_1, d.before a0 Z = true) (ws : List Jvm.Cond) (o : Addr) (k : Int32) (h0 : Heap) (n0 : Nat) (Z0 : n0 ≤ h0.size) (hF : Fld Z h0 o "java/lang/Enum" "ordinal" "I" (.int k)) (hE : Exa Z h0 o "com/example/promulgate/promulgate/Form") (hk : k = 0 ∨ k = 1 ∨ k = 2 ∨ k = 3 ∨ k = 4 ∨ k = 5) :
    MetFree l (⟨"com/example/promulgate/promulgate/Form", "datedByInit", "()Z"⟩ : MethodName) (head1 (Jvm.Cond.code (⟨"com/example/promulgate/promulgate/Form", "datedByInit", "()Z"⟩ : MethodName) prog_7_method_11_code 1 (some .boolean) :: ws) ({ frames := 1, cells := 0, slots := 0, locals := 12 } : Room)) (fun a U => a = #[(.ref o)] ∧ Z.Warmed39 U.vm ∧ U.heap = h0) (fun _ _ _ _ _ => True) (fun _ U oc U' => ∃ v L, oc = .returned v ∧ Q2 Z o k h0 n0 v U'.heap L ∧ FrameEnd U oc U' L ({ frames := 1, cells := 0, slots := 0, locals := 12 } : Room).cells ({ frames := 1, cells := 0, slots := 0, locals := 12 } : Room).slots) := by
  refine MetFree.of_bodySF (plainFor_of_name own_pn2) hisR ?_
  intro p e s m args below meth c s₁ Bd hml0 hP hK
  obtain ⟨rfl, hZ, hh⟩ := hP
  have hx := Bd.exec
  have hby := Bd.bytes
  have hlk : meth.locks = false := BodyLoose.notSynchronized Bd
  have hml : c.maxLocals = 1 := hml0
  have hown : s.vm.findClass "com/example/promulgate/promulgate/Form" = some m.cls := findClass_of_methodNamed Bd.named
  have hnm := (name_of_methodNamed Bd.named Bd.method).1
  have X0 : Stand p l e ({ frames := 1, cells := 0, slots := 0, locals := 12 } : Room) s m #[(.ref o)] below meth c s₁ [] 0 0 := Stand.of_body Bd
  have e0 : s₁.heap = h0 := by rw [← hh, Bd.state]; rfl
  have N0 := Fr.nil n0
  refine own_enter (own_ef2 m o) ?_
  show own_Go p e below s (Q2 Z o k h0 n0) ({ frames := 1, cells := 0, slots := 0, locals := 12 } : Room).cells ({ frames := 1, cells := 0, slots := 0, locals := 12 } : Room).slots s₁ (mkF m 0 #[.val (.ref o)] [])
  refine own_st (T' := s₁) (F' := (mkF m 1 #[.val (.ref o)] [(.ref o)])) (fun _ k => XS.aloadN X0.here hx rfl (hb hby d2_0) rfl rfl k) ?_
  obtain ⟨cq1, kq1, q1a, q1b, q1c⟩ := isOf hZ e0 hE
  obtain ⟨_, _, ⟨T1, L1, k1, n1⟩, -, X1, ⟨Lc1, hQ1, l1, y1, z1⟩, st1⟩ := X0.virtualBackUp hx (x := (⟨"com/example/promulgate/promulgate/Form", "ordinal", "()I"⟩ : MethodName)) (y := (⟨"java/lang/Enum", "ordinal", "()I"⟩ : MethodName)) (owner := "java/lang/Enum") hown (mvT hZ (hw _ (List.mem_of_getElem? (i := 15) rfl))) (mvT hZ (hw _ (List.mem_of_getElem? (i := 16) rfl))) (mvT hZ (hw _ (List.mem_of_getElem? (i := 17) rfl))) (by decide) (mvT hZ (hw _ (List.mem_of_getElem? (i := 19) rfl))) (mvT hZ (hw _ (List.mem_of_getElem? (i := 18) rfl))) (backOf (W := 0) (rm3 l Z a0 hw [] o k h0 n0 Z0 hF) hZ (hw _ (List.mem_of_getElem? (i := 21) rfl)) (hw _ (List.mem_of_getElem? (i := 20) rfl)) (by decide) (by decide)) q1a q1c (g := (mkF m 1 #[.val (.ref o)] [(.ref o)])) rfl (by rw [hml]; rfl) (Steps.refl _) (argsL := []) (rest := []) (lenOf own_pd0 rfl) rfl (by show 2 * 0 + _ ≤ _; exact Nat.le_of_eq rfl) (hb hby d2_1) (fun _ _ => ⟨rfl, e0, (by decide : 0 + 0 ≤ _), (by decide : 0 + 0 ≤ _)⟩)
  dsimp only [Pt.U, Pt.locs, Pt.cells, Pt.slots] at X1 l1 y1 z1 st1 hQ1
  subst l1 y1 z1
  obtain ⟨⟨r1, rfl, hr1⟩, Nq1, eq1⟩ := hQ1
  have N1 := Fr.app N0 Nq1
  refine own_tr (T' := T1) (F' := (mkF m 4 #[.val (.ref o)] [(.int r1)])) st1 ?_
  have J59_2 : ∀ (j59_1 : Int32), (((r1 = (0 : Int32)) ∧ j59_1 = (0 : Int32)) ∨ ((r1 = (1 : Int32)) ∧ j59_1 = (0 : Int32)) ∨ ((r1 = (2 : Int32)) ∧ j59_1 = (1 : Int32)) ∨ ((r1 = (3 : Int32)) ∧ j59_1 = (1 : Int32)) ∨ ((r1 = (4 : Int32)) ∧ j59_1 = (1 : Int32)) ∨ ((r1 = (5 : Int32)) ∧ j59_1 = (0 : Int32))) → own_Go p e below s (Q2 Z o k h0 n0) ({ frames := 1, cells := 0, slots := 0, locals := 12 } : Room).cells ({ frames := 1, cells := 0, slots := 0, locals := 12 } : Room).slots T1 (mkF m 59 #[.val (.ref o)] [(.int j59_1)]) := by
    intro j59_1 hJ59_2
    refine own_retN X1 hx hlk (t := .boolean) Bd.returns (by simp) (hb hby d2_59) ?_ (by decide) (by decide)
    rw [eq1]
    refine ⟨⟨_, rfl, ?_⟩, N1, rfl⟩
    have hk2 := hr1
    rcases hJ59_2 with ⟨h, rfl⟩ | ⟨h, rfl⟩ | ⟨h, rfl⟩ | ⟨h, rfl⟩ | ⟨h, rfl⟩ | ⟨h, rfl⟩
    · exact Or.inr ⟨Or.inl (hk2.symm.trans h), rfl⟩
    · exact Or.inr ⟨Or.inr (Or.inl (hk2.symm.trans h)), rfl⟩
    · exact Or.inl ⟨Or.inl (hk2.symm.trans h), rfl⟩
    · exact Or.inl ⟨Or.inr (Or.inl (hk2.symm.trans h)), rfl⟩
    · exact Or.inl ⟨Or.inr (Or.inr (hk2.symm.trans h)), rfl⟩
    · exact Or.inr ⟨Or.inr (Or.inr (hk2.symm.trans h)), rfl⟩
  have own_sw4 : (r1 = (0 : Int32)) ∨ (r1 = (1 : Int32)) ∨ (r1 = (2 : Int32)) ∨ (r1 = (3 : Int32)) ∨ (r1 = (4 : Int32)) ∨ (r1 = (5 : Int32)) ∨ (¬ (r1 = (0 : Int32)) ∧ ¬ (r1 = (1 : Int32)) ∧ ¬ (r1 = (2 : Int32)) ∧ ¬ (r1 = (3 : Int32)) ∧ ¬ (r1 = (4 : Int32)) ∧ ¬ (r1 = (5 : Int32))) := by
    by_cases q0 : r1 = (0 : Int32)
    · exact Or.inl q0
    by_cases q1 : r1 = (1 : Int32)
    · exact Or.inr (Or.inl q1)
    by_cases q2 : r1 = (2 : Int32)
    · exact Or.inr (Or.inr (Or.inl q2))
    by_cases q3 : r1 = (3 : Int32)
    · exact Or.inr (Or.inr (Or.inr (Or.inl q3)))
    by_cases q4 : r1 = (4 : Int32)
    · exact Or.inr (Or.inr (Or.inr (Or.inr (Or.inl q4))))
    by_cases q5 : r1 = (5 : Int32)
    · exact Or.inr (Or.inr (Or.inr (Or.inr (Or.inr (Or.inl q5)))))
    exact Or.inr (Or.inr (Or.inr (Or.inr (Or.inr (Or.inr (⟨q0, q1, q2, q3, q4, q5⟩))))))
  rcases own_sw4 with hs4 | hs4 | hs4 | hs4 | hs4 | hs4 | hs4
  ·
    refine own_st (T' := T1) (F' := (mkF m 58 #[.val (.ref o)] [])) (fun _ k => XS.tswIn X1.here hx rfl (pc0 := 4) (pc' := 58) rfl (hb hby d2_4) rfl (o := 54) (by rw [show (r1).toInt = 0 by rw [hs4]; rfl]; decide) (by rw [show (r1).toInt = 0 by rw [hs4]; rfl]; rfl) (by decide) (by decide) k) ?_
    refine own_st (T' := T1) (F' := (mkF m 59 #[.val (.ref o)] [(.int (0 : Int32))])) (fun _ k => XS.iconst X1.here hx rfl (hb hby d2_58) k) ?_
    exact J59_2 (0 : Int32) (Or.inl (⟨hs4, rfl⟩))
  ·
    refine own_st (T' := T1) (F' := (mkF m 58 #[.val (.ref o)] [])) (fun _ k => XS.tswIn X1.here hx rfl (pc0 := 4) (pc' := 58) rfl (hb hby d2_4) rfl (o := 54) (by rw [show (r1).toInt = 1 by rw [hs4]; rfl]; decide) (by rw [show (r1).toInt = 1 by rw [hs4]; rfl]; rfl) (by decide) (by decide) k) ?_
    refine own_st (T' := T1) (F' := (mkF m 59 #[.val (.ref o)] [(.int (0 : Int32))])) (fun _ k => XS.iconst X1.here hx rfl (hb hby d2_58) k) ?_
    exact J59_2 (0 : Int32) (Or.inr (Or.inl (⟨hs4, rfl⟩)))
  ·
    refine own_st (T' := T1) (F' := (mkF m 54 #[.val (.ref o)] [])) (fun _ k => XS.tswIn X1.here hx rfl (pc0 := 4) (pc' := 54) rfl (hb hby d2_4) rfl (o := 50) (by rw [show (r1).toInt = 2 by rw [hs4]; rfl]; decide) (by rw [show (r1).toInt = 2 by rw [hs4]; rfl]; rfl) (by decide) (by decide) k) ?_
    refine own_st (T' := T1) (F' := (mkF m 55 #[.val (.ref o)] [(.int (1 : Int32))])) (fun _ k => XS.iconst X1.here hx rfl (hb hby d2_54) k) ?_
    refine own_st (T' := T1) (F' := (mkF m 59 #[.val (.ref o)] [(.int (1 : Int32))])) (fun _ k => XS.goto X1.here hx rfl (pc0 := 55) (pc' := 59) rfl (hb hby d2_55) (by decide) (by decide) k) ?_
    exact J59_2 (1 : Int32) (Or.inr (Or.inr (Or.inl (⟨hs4, rfl⟩))))
  ·
    refine own_st (T' := T1) (F' := (mkF m 54 #[.val (.ref o)] [])) (fun _ k => XS.tswIn X1.here hx rfl (pc0 := 4) (pc' := 54) rfl (hb hby d2_4) rfl (o := 50) (by rw [show (r1).toInt = 3 by rw [hs4]; rfl]; decide) (by rw [show (r1).toInt = 3 by rw [hs4]; rfl]; rfl) (by decide) (by decide) k) ?_
    refine own_st (T' := T1) (F' := (mkF m 55 #[.val (.ref o)] [(.int (1 : Int32))])) (fun _ k => XS.iconst X1.here hx rfl (hb hby d2_54) k) ?_
    refine own_st (T' := T1) (F' := (mkF m 59 #[.val (.ref o)] [(.int (1 : Int32))])) (fun _ k => XS.goto X1.here hx rfl (pc0 := 55) (pc' := 59) rfl (hb hby d2_55) (by decide) (by decide) k) ?_
    exact J59_2 (1 : Int32) (Or.inr (Or.inr (Or.inr (Or.inl (⟨hs4, rfl⟩)))))
  ·
    refine own_st (T' := T1) (F' := (mkF m 54 #[.val (.ref o)] [])) (fun _ k => XS.tswIn X1.here hx rfl (pc0 := 4) (pc' := 54) rfl (hb hby d2_4) rfl (o := 50) (by rw [show (r1).toInt = 4 by rw [hs4]; rfl]; decide) (by rw [show (r1).toInt = 4 by rw [hs4]; rfl]; rfl) (by decide) (by decide) k) ?_
    refine own_st (T' := T1) (F' := (mkF m 55 #[.val (.ref o)] [(.int (1 : Int32))])) (fun _ k => XS.iconst X1.here hx rfl (hb hby d2_54) k) ?_
    refine own_st (T' := T1) (F' := (mkF m 59 #[.val (.ref o)] [(.int (1 : Int32))])) (fun _ k => XS.goto X1.here hx rfl (pc0 := 55) (pc' := 59) rfl (hb hby d2_55) (by decide) (by decide) k) ?_
    exact J59_2 (1 : Int32) (Or.inr (Or.inr (Or.inr (Or.inr (Or.inl (⟨hs4, rfl⟩))))))
  ·
    refine own_st (T' := T1) (F' := (mkF m 58 #[.val (.ref o)] [])) (fun _ k => XS.tswIn X1.here hx rfl (pc0 := 4) (pc' := 58) rfl (hb hby d2_4) rfl (o := 54) (by rw [show (r1).toInt = 5 by rw [hs4]; rfl]; decide) (by rw [show (r1).toInt = 5 by rw [hs4]; rfl]; rfl) (by decide) (by decide) k) ?_
    refine own_st (T' := T1) (F' := (mkF m 59 #[.val (.ref o)] [(.int (0 : Int32))])) (fun _ k => XS.iconst X1.here hx rfl (hb hby d2_58) k) ?_
    exact J59_2 (0 : Int32) (Or.inr (Or.inr (Or.inr (Or.inr (Or.inr (⟨hs4, rfl⟩))))))
  ·
    refine own_st (T' := T1) (F' := (mkF m 44 #[.val (.ref o)] [])) (fun _ k => XS.tswOut X1.here hx rfl (pc0 := 4) (pc' := 44) rfl (hb hby d2_4) rfl (by have hq := hs4; have r0 := rng32 r1; simp only [← Int32.toInt_inj, show ((0 : Int32)).toInt = 0 from rfl, show ((1 : Int32)).toInt = 1 from rfl, show ((2 : Int32)).toInt = 2 from rfl, show ((3 : Int32)).toInt = 3 from rfl, show ((4 : Int32)).toInt = 4 from rfl, show ((5 : Int32)).toInt = 5 from rfl] at hq; omega) (by decide) (by decide) k) ?_
    exact absurd hk (by rw [← hr1]; simp_all)
theorem own_pd1 : parseMethodDescriptor "(I)Lcom/example/promulgate/promulgate/Form;" = some ⟨[.int], some (.object "com/example/promulgate/promulgate/Form")⟩ := by decide +kernel
theorem own_pd2 : parseMethodDescriptor "()Z" = some ⟨[], some .boolean⟩ := by decide +kernel
theorem own_pn0 : plainName "com/example/promulgate/promulgate/FormDatedByInitPinLaw" = true := by first | (simp [plainName, overriddenIn]; done) | decide +kernel
theorem own_ef0 (m : MethodId) (x0 : Int32) : entryFrame m #[(.int x0)] maxLocals = (mkF m 0 #[.val (.int x0), .unset, .unset, .unset, .unset, .unset] []) := by first | (simp [entryFrame, mkF, argsToLocals, Value.category, maxLocals]; done) | rfl
def Q0 (Z : State) (x0 : Int32) (fa0 : Addr) (fa1 : Addr) (fa2 : Addr) (fa3 : Addr) (fa4 : Addr) (fa5 : Addr) (h0 : Heap) (n0 : Nat) (v : Option Value) (h : Heap) (L : List Loc) : Prop := (∃ z : Int32, v = some (.int z) ∧ (z = 1)) ∧ Fr n0 L ∧ h = h0
set_option maxRecDepth 65536 in
set_option maxHeartbeats 40000000 in
theorem rm0 (l : Launch) (Z : State) (a0 : Array Value) (hw : ∀ d ∈ tables_1, d.before a0 Z = true) (ws : List Jvm.Cond) (x0 : Int32) (fa0 : Addr) (fa1 : Addr) (fa2 : Addr) (fa3 : Addr) (fa4 : Addr) (fa5 : Addr) (h0 : Heap) (n0 : Nat) (Z0 : n0 ≤ h0.size) (S_fa0 : Sta Z h0 "com/example/promulgate/promulgate/Form" "FRAMED" "Lcom/example/promulgate/promulgate/Form;" (.ref fa0)) (S_fa1 : Sta Z h0 "com/example/promulgate/promulgate/Form" "JSON" "Lcom/example/promulgate/promulgate/Form;" (.ref fa1)) (S_fa2 : Sta Z h0 "com/example/promulgate/promulgate/Form" "MARKDOWN" "Lcom/example/promulgate/promulgate/Form;" (.ref fa2)) (S_fa3 : Sta Z h0 "com/example/promulgate/promulgate/Form" "OUTLINE" "Lcom/example/promulgate/promulgate/Form;" (.ref fa3)) (S_fa4 : Sta Z h0 "com/example/promulgate/promulgate/Form" "HTML_LISTS" "Lcom/example/promulgate/promulgate/Form;" (.ref fa4)) (S_fa5 : Sta Z h0 "com/example/promulgate/promulgate/Form" "HTML" "Lcom/example/promulgate/promulgate/Form;" (.ref fa5)) (E_fa0 : Exa Z h0 fa0 "com/example/promulgate/promulgate/Form") (E_fa1 : Exa Z h0 fa1 "com/example/promulgate/promulgate/Form") (E_fa2 : Exa Z h0 fa2 "com/example/promulgate/promulgate/Form") (E_fa3 : Exa Z h0 fa3 "com/example/promulgate/promulgate/Form") (E_fa4 : Exa Z h0 fa4 "com/example/promulgate/promulgate/Form") (E_fa5 : Exa Z h0 fa5 "com/example/promulgate/promulgate/Form") (O_fa0 : Fld Z h0 fa0 "java/lang/Enum" "ordinal" "I" (.int 0)) (O_fa1 : Fld Z h0 fa1 "java/lang/Enum" "ordinal" "I" (.int 1)) (O_fa2 : Fld Z h0 fa2 "java/lang/Enum" "ordinal" "I" (.int 2)) (O_fa3 : Fld Z h0 fa3 "java/lang/Enum" "ordinal" "I" (.int 3)) (O_fa4 : Fld Z h0 fa4 "java/lang/Enum" "ordinal" "I" (.int 4)) (O_fa5 : Fld Z h0 fa5 "java/lang/Enum" "ordinal" "I" (.int 5)) :
    MetFree l x (head1 (Jvm.Cond.code x code maxLocals ret :: ws) room_1) (fun a U => a = #[(.int x0)] ∧ Z.Warmed39 U.vm ∧ U.heap = h0) (fun _ _ _ _ _ => True) (fun _ U oc U' => ∃ v L, oc = .returned v ∧ Q0 Z x0 fa0 fa1 fa2 fa3 fa4 fa5 h0 n0 v U'.heap L ∧ FrameEnd U oc U' L room_1.cells room_1.slots) := by
  refine MetFree.of_bodySF (plainFor_of_name own_pn0) hisR ?_
  intro p e s m args below meth c s₁ Bd hml0 hP hK
  obtain ⟨rfl, hZ, hh⟩ := hP
  have hx := Bd.exec
  have hby := Bd.bytes
  have hlk : meth.locks = false := BodyLoose.notSynchronized Bd
  have hml : c.maxLocals = 6 := hml0
  have hown : s.vm.findClass "com/example/promulgate/promulgate/FormDatedByInitPinLaw" = some m.cls := findClass_of_methodNamed Bd.named
  have hnm := (name_of_methodNamed Bd.named Bd.method).1
  have X0 : Stand p l e room_1 s m #[(.int x0)] below meth c s₁ [] 0 0 := Stand.of_body Bd
  have e0 : s₁.heap = h0 := by rw [← hh, Bd.state]; rfl
  have N0 := Fr.nil n0
  refine own_enter (own_ef0 m x0) ?_
  show own_Go p e below s (Q0 Z x0 fa0 fa1 fa2 fa3 fa4 fa5 h0 n0) room_1.cells room_1.slots s₁ (mkF m 0 #[.val (.int x0), .unset, .unset, .unset, .unset, .unset] [])
  refine own_st (T' := s₁) (F' := (mkF m 1 #[.val (.int x0), .unset, .unset, .unset, .unset, .unset] [(.int x0)])) (fun _ k => XS.iloadN X0.here hx rfl (hb hby at_0) rfl  k) ?_
  refine own_st (T' := s₁) (F' := (mkF m 3 #[.val (.int x0), .unset, .unset, .unset, .unset, .unset] [(.int (2147483647 : Int32)), (.int x0)])) (fun _ k => X0.ldcInt hx hown (mvT hZ (hw _ (List.mem_of_getElem? (i := 0) rfl))) (g := (mkF m 1 #[.val (.int x0), .unset, .unset, .unset, .unset, .unset] [(.int x0)])) rfl (hb hby at_1) _ k) ?_
  refine own_st (T' := s₁) (F' := (mkF m 4 #[.val (.int x0), .unset, .unset, .unset, .unset, .unset] [(.int (x0 &&& (2147483647 : Int32)))])) (fun _ k => XS.iand X0.here hx rfl (hb hby at_3) rfl k) ?_
  refine own_st (T' := s₁) (F' := (mkF m 6 #[.val (.int x0), .unset, .unset, .unset, .unset, .unset] [(.int (6 : Int32)), (.int (x0 &&& (2147483647 : Int32)))])) (fun _ k => XS.bipush X0.here hx rfl (hb hby at_4) k) ?_
  refine own_st (T' := s₁) (F' := (mkF m 7 #[.val (.int x0), .unset, .unset, .unset, .unset, .unset] [(.int ((x0 &&& (2147483647 : Int32)) % (6 : Int32)))])) (fun _ k => iremM X0 hx rfl (hb hby at_6) rfl (by decide) k) ?_
  refine own_st (T' := s₁) (F' := (mkF m 8 #[.val (.int x0), .val (.int ((x0 &&& (2147483647 : Int32)) % (6 : Int32))), .unset, .unset, .unset, .unset] [])) (fun _ k => XS.istoreN X0.here hx rfl (hb hby at_7) rfl (l' := #[.val (.int x0), .val (.int ((x0 &&& (2147483647 : Int32)) % (6 : Int32))), .unset, .unset, .unset, .unset]) rfl k) ?_
  refine own_st (T' := s₁) (F' := (mkF m 9 #[.val (.int x0), .val (.int ((x0 &&& (2147483647 : Int32)) % (6 : Int32))), .unset, .unset, .unset, .unset] [(.int ((x0 &&& (2147483647 : Int32)) % (6 : Int32)))])) (fun _ k => XS.iloadN X0.here hx rfl (hb hby at_8) rfl  k) ?_
  obtain ⟨_, _, ⟨T1, L1, k1, n1⟩, -, X1, ⟨Lc1, hQ1, l1, y1, z1⟩, st1⟩ := Jvm.LawKit.callS X0 hx (y := (⟨"com/example/promulgate/promulgate/FormDatedByInitPinLaw", "pick", "(I)Lcom/example/promulgate/promulgate/Form;"⟩ : MethodName)) hown (mvT hZ (hw _ (List.mem_of_getElem? (i := 1) rfl))) (mvT hZ (hw _ (List.mem_of_getElem? (i := 2) rfl))) (mvT hZ (hw _ (List.mem_of_getElem? (i := 3) rfl))) (mvT hZ (hw _ (List.mem_of_getElem? (i := 4) rfl))) (by decide) (backOf (W := 0) (rm1 l Z a0 hw [] ((x0 &&& (2147483647 : Int32)) % (6 : Int32)) fa0 fa1 fa2 fa3 fa4 fa5 h0 n0 Z0 S_fa0 S_fa1 S_fa2 S_fa3 S_fa4 S_fa5) hZ (hw _ (List.mem_of_getElem? (i := 4) rfl)) (hw _ (List.mem_of_getElem? (i := 3) rfl)) (by decide) (by decide)) (g := (mkF m 9 #[.val (.int x0), .val (.int ((x0 &&& (2147483647 : Int32)) % (6 : Int32))), .unset, .unset, .unset, .unset] [(.int ((x0 &&& (2147483647 : Int32)) % (6 : Int32)))])) rfl (by rw [hml]; rfl) (argsL := [(.int ((x0 &&& (2147483647 : Int32)) % (6 : Int32)))]) (rest := []) (lenOf own_pd1 rfl) rfl (by show 2 * 0 + _ ≤ _; exact Nat.le_of_eq rfl) (hb hby at_9) (fun _ _ => ⟨rfl, e0, (by decide : 0 + 0 ≤ _), (by decide : 0 + 0 ≤ _)⟩)
  dsimp only [Pt.U, Pt.locs, Pt.cells, Pt.slots] at X1 l1 y1 z1 st1 hQ1
  subst l1 y1 z1
  obtain ⟨⟨r1, rfl, hr1⟩, Nq1, eq1⟩ := hQ1
  have N1 := Fr.app N0 Nq1
  refine own_st (T' := T1) (F' := (mkF m 12 #[.val (.int x0), .val (.int ((x0 &&& (2147483647 : Int32)) % (6 : Int32))), .unset, .unset, .unset, .unset] [(.ref r1)])) (fun _ k => st1 _ k) ?_
  refine own_st (T' := T1) (F' := (mkF m 13 #[.val (.int x0), .val (.int ((x0 &&& (2147483647 : Int32)) % (6 : Int32))), .val (.ref r1), .unset, .unset, .unset] [])) (fun _ k => XS.astoreN X1.here hx rfl (hb hby at_12) rfl rfl (l' := #[.val (.int x0), .val (.int ((x0 &&& (2147483647 : Int32)) % (6 : Int32))), .val (.ref r1), .unset, .unset, .unset]) rfl k) ?_
  refine own_st (T' := T1) (F' := (mkF m 14 #[.val (.int x0), .val (.int ((x0 &&& (2147483647 : Int32)) % (6 : Int32))), .val (.ref r1), .unset, .unset, .unset] [(.ref r1)])) (fun _ k => XS.aloadN X1.here hx rfl (hb hby at_13) rfl rfl k) ?_
  obtain ⟨T2, X2, e2, st2⟩ := getS2 X1 hx hZ hown (host := "") (Or.inl (hw _ (List.mem_of_getElem? (i := 8) rfl))) Via.refl eq1 S_fa5 (g := (mkF m 14 #[.val (.int x0), .val (.int ((x0 &&& (2147483647 : Int32)) % (6 : Int32))), .val (.ref r1), .unset, .unset, .unset] [(.ref r1)])) rfl (hb hby at_14)
  refine own_st (T' := T2) (F' := (mkF m 17 #[.val (.int x0), .val (.int ((x0 &&& (2147483647 : Int32)) % (6 : Int32))), .val (.ref r1), .unset, .unset, .unset] [(.ref fa5), (.ref r1)])) (fun _ k => st2 _ k) ?_
  have J25_3 : ∀ (j25_1 : Int32), (((r1 = fa5) ∧ j25_1 = (1 : Int32)) ∨ ((¬ (r1 = fa5)) ∧ j25_1 = (0 : Int32))) → own_Go p e below s (Q0 Z x0 fa0 fa1 fa2 fa3 fa4 fa5 h0 n0) room_1.cells room_1.slots T2 (mkF m 25 #[.val (.int x0), .val (.int ((x0 &&& (2147483647 : Int32)) % (6 : Int32))), .val (.ref r1), .unset, .unset, .unset] [(.int j25_1)]) := by
    intro j25_1 hJ25_3
    refine own_st (T' := T2) (F' := (mkF m 26 #[.val (.int x0), .val (.int ((x0 &&& (2147483647 : Int32)) % (6 : Int32))), .val (.ref r1), .val (.int j25_1), .unset, .unset] [])) (fun _ k => XS.istoreN X2.here hx rfl (hb hby at_25) rfl (l' := #[.val (.int x0), .val (.int ((x0 &&& (2147483647 : Int32)) % (6 : Int32))), .val (.ref r1), .val (.int j25_1), .unset, .unset]) rfl k) ?_
    refine own_st (T' := T2) (F' := (mkF m 27 #[.val (.int x0), .val (.int ((x0 &&& (2147483647 : Int32)) % (6 : Int32))), .val (.ref r1), .val (.int j25_1), .unset, .unset] [(.ref r1)])) (fun _ k => XS.aloadN X2.here hx rfl (hb hby at_26) rfl rfl k) ?_
    obtain ⟨T4, X4, e4, st4⟩ := getS2 X2 hx hZ hown (host := "") (Or.inl (hw _ (List.mem_of_getElem? (i := 5) rfl))) Via.refl e2 S_fa0 (g := (mkF m 27 #[.val (.int x0), .val (.int ((x0 &&& (2147483647 : Int32)) % (6 : Int32))), .val (.ref r1), .val (.int j25_1), .unset, .unset] [(.ref r1)])) rfl (hb hby at_27)
    refine own_st (T' := T4) (F' := (mkF m 30 #[.val (.int x0), .val (.int ((x0 &&& (2147483647 : Int32)) % (6 : Int32))), .val (.ref r1), .val (.int j25_1), .unset, .unset] [(.ref fa0), (.ref r1)])) (fun _ k => st4 _ k) ?_
    have J45_5 : ∀ (j45_1 : Int32) (TJ5 : State) (LJ5 : List Loc) (XJ5 : Stand p l e room_1 s m #[(.int x0)] below meth c TJ5 LJ5 0 0) (NJ5 : Fr n0 LJ5) (eJ5 : TJ5.heap = h0), (((r1 = fa0) ∧ j45_1 = (1 : Int32)) ∨ ((¬ (r1 = fa0)) ∧ (r1 = fa1) ∧ j45_1 = (1 : Int32)) ∨ ((¬ (r1 = fa0)) ∧ (¬ (r1 = fa1)) ∧ j45_1 = (0 : Int32))) → own_Go p e below s (Q0 Z x0 fa0 fa1 fa2 fa3 fa4 fa5 h0 n0) room_1.cells room_1.slots TJ5 (mkF m 45 #[.val (.int x0), .val (.int ((x0 &&& (2147483647 : Int32)) % (6 : Int32))), .val (.ref r1), .val (.int j25_1), .unset, .unset] [(.int j45_1)]) := by
      intro j45_1 TJ5 LJ5 XJ5 NJ5 eJ5 hJ45_5
      refine own_st (T' := TJ5) (F' := (mkF m 47 #[.val (.int x0), .val (.int ((x0 &&& (2147483647 : Int32)) % (6 : Int32))), .val (.ref r1), .val (.int j25_1), .val (.int j45_1), .unset] [])) (fun _ k => XS.istore XJ5.here hx rfl (hb hby at_45) rfl (l' := #[.val (.int x0), .val (.int ((x0 &&& (2147483647 : Int32)) % (6 : Int32))), .val (.ref r1), .val (.int j25_1), .val (.int j45_1), .unset]) rfl k) ?_
      refine own_st (T' := TJ5) (F' := (mkF m 48 #[.val (.int x0), .val (.int ((x0 &&& (2147483647 : Int32)) % (6 : Int32))), .val (.ref r1), .val (.int j25_1), .val (.int j45_1), .unset] [(.int j25_1)])) (fun _ k => XS.iloadN XJ5.here hx rfl (hb hby at_47) rfl  k) ?_
      have J61_6 : ∀ (j61_1 : Int32), (((¬ (j25_1 = (0 : Int32))) ∧ j61_1 = (0 : Int32)) ∨ ((j25_1 = (0 : Int32)) ∧ (¬ (j45_1 = (0 : Int32))) ∧ j61_1 = (0 : Int32)) ∨ ((j25_1 = (0 : Int32)) ∧ (j45_1 = (0 : Int32)) ∧ j61_1 = (1 : Int32))) → own_Go p e below s (Q0 Z x0 fa0 fa1 fa2 fa3 fa4 fa5 h0 n0) room_1.cells room_1.slots TJ5 (mkF m 61 #[.val (.int x0), .val (.int ((x0 &&& (2147483647 : Int32)) % (6 : Int32))), .val (.ref r1), .val (.int j25_1), .val (.int j45_1), .unset] [(.int j61_1)]) := by
        intro j61_1 hJ61_6
        refine own_st (T' := TJ5) (F' := (mkF m 63 #[.val (.int x0), .val (.int ((x0 &&& (2147483647 : Int32)) % (6 : Int32))), .val (.ref r1), .val (.int j25_1), .val (.int j45_1), .val (.int j61_1)] [])) (fun _ k => XS.istore XJ5.here hx rfl (hb hby at_61) rfl (l' := #[.val (.int x0), .val (.int ((x0 &&& (2147483647 : Int32)) % (6 : Int32))), .val (.ref r1), .val (.int j25_1), .val (.int j45_1), .val (.int j61_1)]) rfl k) ?_
        obtain ⟨kk, hkk, hEr, hFr⟩ : ∃ k : Int32, ((k = 0 ∧ r1 = fa0) ∨ (k = 1 ∧ r1 = fa1) ∨ (k = 2 ∧ r1 = fa2) ∨ (k = 3 ∧ r1 = fa3) ∨ (k = 4 ∧ r1 = fa4) ∨ (k = 5 ∧ r1 = fa5)) ∧ Exa Z h0 r1 "com/example/promulgate/promulgate/Form" ∧ Fld Z h0 r1 "java/lang/Enum" "ordinal" "I" (.int k) := by
          rcases hr1 with ⟨_, rfl⟩ | ⟨_, rfl⟩ | ⟨_, rfl⟩ | ⟨_, rfl⟩ | ⟨_, rfl⟩ | rfl
          · exact ⟨0, by simp, E_fa0, O_fa0⟩
          · exact ⟨1, by simp, E_fa1, O_fa1⟩
          · exact ⟨2, by simp, E_fa2, O_fa2⟩
          · exact ⟨3, by simp, E_fa3, O_fa3⟩
          · exact ⟨4, by simp, E_fa4, O_fa4⟩
          · exact ⟨5, by simp, E_fa5, O_fa5⟩
        refine own_st (T' := TJ5) (F' := (mkF m 64 #[.val (.int x0), .val (.int ((x0 &&& (2147483647 : Int32)) % (6 : Int32))), .val (.ref r1), .val (.int j25_1), .val (.int j45_1), .val (.int j61_1)] [(.ref r1)])) (fun _ k => XS.aloadN XJ5.here hx rfl (hb hby at_63) rfl rfl k) ?_
        obtain ⟨cq7, kq7, q7a, q7b, q7c⟩ := isOf hZ eJ5 hEr
        obtain ⟨_, _, ⟨T7, L7, k7, n7⟩, -, X7, ⟨Lc7, hQ7, l7, y7, z7⟩, st7⟩ := XJ5.virtualBack hx (y := (⟨"com/example/promulgate/promulgate/Form", "datedByInit", "()Z"⟩ : MethodName)) (z := (⟨"com/example/promulgate/promulgate/Form", "datedByInit", "()Z"⟩ : MethodName)) hown (mvT hZ (hw _ (List.mem_of_getElem? (i := 10) rfl))) (mvT hZ (hw _ (List.mem_of_getElem? (i := 11) rfl))) (notFace_of_selects (args := #[]) (mvT hZ (hw _ (List.mem_of_getElem? (i := 13) rfl)))) (mvT hZ (hw _ (List.mem_of_getElem? (i := 13) rfl))) (mvT hZ (hw _ (List.mem_of_getElem? (i := 12) rfl))) (by decide) (backOf (W := 0) (rm2 l Z a0 hw [] r1 kk h0 n0 Z0 hFr hEr (by rcases hkk with ⟨h, _⟩ | ⟨h, _⟩ | ⟨h, _⟩ | ⟨h, _⟩ | ⟨h, _⟩ | ⟨h, _⟩ <;> simp [h])) hZ (hw _ (List.mem_of_getElem? (i := 14) rfl)) (hw _ (List.mem_of_getElem? (i := 6) rfl)) (by decide) (by decide)) q7a q7c (g := (mkF m 64 #[.val (.int x0), .val (.int ((x0 &&& (2147483647 : Int32)) % (6 : Int32))), .val (.ref r1), .val (.int j25_1), .val (.int j45_1), .val (.int j61_1)] [(.ref r1)])) rfl (by rw [hml]; rfl) (Steps.refl _) (argsL := []) (rest := []) (lenOf own_pd2 rfl) rfl (by show 2 * 0 + _ ≤ _; exact Nat.le_of_eq rfl) (hb hby at_64) (fun _ _ => ⟨rfl, eJ5, (by decide : 0 + 0 ≤ _), (by decide : 0 + 0 ≤ _)⟩)
        dsimp only [Pt.U, Pt.locs, Pt.cells, Pt.slots] at X7 l7 y7 z7 st7 hQ7
        subst l7 y7 z7
        obtain ⟨⟨r7, rfl, hr7⟩, Nq7, eq7⟩ := hQ7
        have N7 := Fr.app NJ5 Nq7
        refine own_tr (T' := T7) (F' := (mkF m 67 #[.val (.int x0), .val (.int ((x0 &&& (2147483647 : Int32)) % (6 : Int32))), .val (.ref r1), .val (.int j25_1), .val (.int j45_1), .val (.int j61_1)] [(.int r7)])) st7 ?_
        refine own_st (T' := T7) (F' := (mkF m 69 #[.val (.int x0), .val (.int ((x0 &&& (2147483647 : Int32)) % (6 : Int32))), .val (.ref r1), .val (.int j25_1), .val (.int j45_1), .val (.int j61_1)] [(.int j61_1), (.int r7)])) (fun _ k => XS.iload X7.here hx rfl (hb hby at_67) rfl  k) ?_
        have J77_8 : ∀ (j77_1 : Int32), (((¬ (r7 = j61_1)) ∧ j77_1 = (0 : Int32)) ∨ ((r7 = j61_1) ∧ j77_1 = (1 : Int32))) → own_Go p e below s (Q0 Z x0 fa0 fa1 fa2 fa3 fa4 fa5 h0 n0) room_1.cells room_1.slots T7 (mkF m 77 #[.val (.int x0), .val (.int ((x0 &&& (2147483647 : Int32)) % (6 : Int32))), .val (.ref r1), .val (.int j25_1), .val (.int j45_1), .val (.int j61_1)] [(.int j77_1)]) := by
          intro j77_1 hJ77_8
          refine own_retN X7 hx hlk (t := .boolean) Bd.returns (by simp) (hb hby at_77) ?_ (by decide) (by decide)
          rw [eq7]
          refine ⟨⟨_, rfl, ?_⟩, N7, rfl⟩
          have u0 : r1 = fa0 ↔ kk = 0 := ⟨fun h => Decidable.byContradiction fun q => Fld.ne hFr O_fa0 (fun z => q (Value.int.inj z)) h, fun h => by rcases hkk with ⟨a, b⟩ | ⟨a, b⟩ | ⟨a, b⟩ | ⟨a, b⟩ | ⟨a, b⟩ | ⟨a, b⟩ <;> first | exact b | exact absurd (a.symm.trans h) (by decide)⟩
          have u1 : r1 = fa1 ↔ kk = 1 := ⟨fun h => Decidable.byContradiction fun q => Fld.ne hFr O_fa1 (fun z => q (Value.int.inj z)) h, fun h => by rcases hkk with ⟨a, b⟩ | ⟨a, b⟩ | ⟨a, b⟩ | ⟨a, b⟩ | ⟨a, b⟩ | ⟨a, b⟩ <;> first | exact b | exact absurd (a.symm.trans h) (by decide)⟩
          have u5 : r1 = fa5 ↔ kk = 5 := ⟨fun h => Decidable.byContradiction fun q => Fld.ne hFr O_fa5 (fun z => q (Value.int.inj z)) h, fun h => by rcases hkk with ⟨a, b⟩ | ⟨a, b⟩ | ⟨a, b⟩ | ⟨a, b⟩ | ⟨a, b⟩ | ⟨a, b⟩ <;> first | exact b | exact absurd (a.symm.trans h) (by decide)⟩
          simp only [u0, u1, u5] at hJ25_3 hJ45_5
          clear u0 u1 u5
          rcases hkk with ⟨a, _⟩ | ⟨a, _⟩ | ⟨a, _⟩ | ⟨a, _⟩ | ⟨a, _⟩ | ⟨a, _⟩ <;> simp only [a] at hJ25_3 hJ45_5 hr7 <;> simp_all +decide [own_nar0, own_nar1]
        refine own_icmp X7 hx (pc' := 76) (pc2 := 72) (hb hby at_69) (by decide) (by decide) rfl (fun (hc69 : ¬ (r7 = j61_1)) => ?_) (fun (hc69 : r7 = j61_1) => ?_)
        ·
          refine own_st (T' := T7) (F' := (mkF m 77 #[.val (.int x0), .val (.int ((x0 &&& (2147483647 : Int32)) % (6 : Int32))), .val (.ref r1), .val (.int j25_1), .val (.int j45_1), .val (.int j61_1)] [(.int (0 : Int32))])) (fun _ k => XS.iconst X7.here hx rfl (hb hby at_76) k) ?_
          exact J77_8 (0 : Int32) (Or.inl (⟨hc69, rfl⟩))
        ·
          refine own_st (T' := T7) (F' := (mkF m 73 #[.val (.int x0), .val (.int ((x0 &&& (2147483647 : Int32)) % (6 : Int32))), .val (.ref r1), .val (.int j25_1), .val (.int j45_1), .val (.int j61_1)] [(.int (1 : Int32))])) (fun _ k => XS.iconst X7.here hx rfl (hb hby at_72) k) ?_
          refine own_st (T' := T7) (F' := (mkF m 77 #[.val (.int x0), .val (.int ((x0 &&& (2147483647 : Int32)) % (6 : Int32))), .val (.ref r1), .val (.int j25_1), .val (.int j45_1), .val (.int j61_1)] [(.int (1 : Int32))])) (fun _ k => XS.goto X7.here hx rfl (pc0 := 73) (pc' := 77) rfl (hb hby at_73) (by decide) (by decide) k) ?_
          exact J77_8 (1 : Int32) (Or.inr (⟨hc69, rfl⟩))
      refine own_ifc XJ5 hx (pc' := 60) (pc2 := 51) (hb hby at_48) (by decide) (by decide) rfl (fun (hc48 : ¬ (j25_1 = (0 : Int32))) => ?_) (fun (hc48 : j25_1 = (0 : Int32)) => ?_)
      ·
        refine own_st (T' := TJ5) (F' := (mkF m 61 #[.val (.int x0), .val (.int ((x0 &&& (2147483647 : Int32)) % (6 : Int32))), .val (.ref r1), .val (.int j25_1), .val (.int j45_1), .unset] [(.int (0 : Int32))])) (fun _ k => XS.iconst XJ5.here hx rfl (hb hby at_60) k) ?_
        exact J61_6 (0 : Int32) (Or.inl (⟨hc48, rfl⟩))
      ·
        refine own_st (T' := TJ5) (F' := (mkF m 53 #[.val (.int x0), .val (.int ((x0 &&& (2147483647 : Int32)) % (6 : Int32))), .val (.ref r1), .val (.int j25_1), .val (.int j45_1), .unset] [(.int j45_1)])) (fun _ k => XS.iload XJ5.here hx rfl (hb hby at_51) rfl  k) ?_
        refine own_ifc XJ5 hx (pc' := 60) (pc2 := 56) (hb hby at_53) (by decide) (by decide) rfl (fun (hc53 : ¬ (j45_1 = (0 : Int32))) => ?_) (fun (hc53 : j45_1 = (0 : Int32)) => ?_)
        ·
          refine own_st (T' := TJ5) (F' := (mkF m 61 #[.val (.int x0), .val (.int ((x0 &&& (2147483647 : Int32)) % (6 : Int32))), .val (.ref r1), .val (.int j25_1), .val (.int j45_1), .unset] [(.int (0 : Int32))])) (fun _ k => XS.iconst XJ5.here hx rfl (hb hby at_60) k) ?_
          exact J61_6 (0 : Int32) (Or.inr (Or.inl (⟨hc48, hc53, rfl⟩)))
        ·
          refine own_st (T' := TJ5) (F' := (mkF m 57 #[.val (.int x0), .val (.int ((x0 &&& (2147483647 : Int32)) % (6 : Int32))), .val (.ref r1), .val (.int j25_1), .val (.int j45_1), .unset] [(.int (1 : Int32))])) (fun _ k => XS.iconst XJ5.here hx rfl (hb hby at_56) k) ?_
          refine own_st (T' := TJ5) (F' := (mkF m 61 #[.val (.int x0), .val (.int ((x0 &&& (2147483647 : Int32)) % (6 : Int32))), .val (.ref r1), .val (.int j25_1), .val (.int j45_1), .unset] [(.int (1 : Int32))])) (fun _ k => XS.goto XJ5.here hx rfl (pc0 := 57) (pc' := 61) rfl (hb hby at_57) (by decide) (by decide) k) ?_
          exact J61_6 (1 : Int32) (Or.inr (Or.inr (⟨hc48, hc53, rfl⟩)))
    refine own_acmp X4 hx (pc' := 40) (pc2 := 33) (hb hby at_30) (by decide) (by decide) rfl (fun (hc30 : r1 = fa0) => ?_) (fun (hc30 : ¬ (r1 = fa0)) => ?_)
    ·
      refine own_st (T' := T4) (F' := (mkF m 41 #[.val (.int x0), .val (.int ((x0 &&& (2147483647 : Int32)) % (6 : Int32))), .val (.ref r1), .val (.int j25_1), .unset, .unset] [(.int (1 : Int32))])) (fun _ k => XS.iconst X4.here hx rfl (hb hby at_40) k) ?_
      refine own_st (T' := T4) (F' := (mkF m 45 #[.val (.int x0), .val (.int ((x0 &&& (2147483647 : Int32)) % (6 : Int32))), .val (.ref r1), .val (.int j25_1), .unset, .unset] [(.int (1 : Int32))])) (fun _ k => XS.goto X4.here hx rfl (pc0 := 41) (pc' := 45) rfl (hb hby at_41) (by decide) (by decide) k) ?_
      exact J45_5 (1 : Int32) T4 _ X4 N1 e4 (Or.inl (⟨hc30, rfl⟩))
    ·
      refine own_st (T' := T4) (F' := (mkF m 34 #[.val (.int x0), .val (.int ((x0 &&& (2147483647 : Int32)) % (6 : Int32))), .val (.ref r1), .val (.int j25_1), .unset, .unset] [(.ref r1)])) (fun _ k => XS.aloadN X4.here hx rfl (hb hby at_33) rfl rfl k) ?_
      obtain ⟨T9, X9, e9, st9⟩ := getS2 X4 hx hZ hown (host := "") (Or.inl (hw _ (List.mem_of_getElem? (i := 26) rfl))) Via.refl e4 S_fa1 (g := (mkF m 34 #[.val (.int x0), .val (.int ((x0 &&& (2147483647 : Int32)) % (6 : Int32))), .val (.ref r1), .val (.int j25_1), .unset, .unset] [(.ref r1)])) rfl (hb hby at_34)
      refine own_st (T' := T9) (F' := (mkF m 37 #[.val (.int x0), .val (.int ((x0 &&& (2147483647 : Int32)) % (6 : Int32))), .val (.ref r1), .val (.int j25_1), .unset, .unset] [(.ref fa1), (.ref r1)])) (fun _ k => st9 _ k) ?_
      refine own_acmp X9 hx (pc' := 44) (pc2 := 40) (hb hby at_37) (by decide) (by decide) rfl (fun (hc37 : r1 = fa1) => ?_) (fun (hc37 : ¬ (r1 = fa1)) => ?_)
      ·
        refine own_st (T' := T9) (F' := (mkF m 41 #[.val (.int x0), .val (.int ((x0 &&& (2147483647 : Int32)) % (6 : Int32))), .val (.ref r1), .val (.int j25_1), .unset, .unset] [(.int (1 : Int32))])) (fun _ k => XS.iconst X9.here hx rfl (hb hby at_40) k) ?_
        refine own_st (T' := T9) (F' := (mkF m 45 #[.val (.int x0), .val (.int ((x0 &&& (2147483647 : Int32)) % (6 : Int32))), .val (.ref r1), .val (.int j25_1), .unset, .unset] [(.int (1 : Int32))])) (fun _ k => XS.goto X9.here hx rfl (pc0 := 41) (pc' := 45) rfl (hb hby at_41) (by decide) (by decide) k) ?_
        exact J45_5 (1 : Int32) T9 _ X9 N1 e9 (Or.inr (Or.inl (⟨hc30, hc37, rfl⟩)))
      ·
        refine own_st (T' := T9) (F' := (mkF m 45 #[.val (.int x0), .val (.int ((x0 &&& (2147483647 : Int32)) % (6 : Int32))), .val (.ref r1), .val (.int j25_1), .unset, .unset] [(.int (0 : Int32))])) (fun _ k => XS.iconst X9.here hx rfl (hb hby at_44) k) ?_
        exact J45_5 (0 : Int32) T9 _ X9 N1 e9 (Or.inr (Or.inr (⟨hc30, hc37, rfl⟩)))
  refine own_acmp X2 hx (pc' := 24) (pc2 := 20) (hb hby at_17) (by decide) (by decide) rfl (fun (hc17 : r1 = fa5) => ?_) (fun (hc17 : ¬ (r1 = fa5)) => ?_)
  ·
    refine own_st (T' := T2) (F' := (mkF m 21 #[.val (.int x0), .val (.int ((x0 &&& (2147483647 : Int32)) % (6 : Int32))), .val (.ref r1), .unset, .unset, .unset] [(.int (1 : Int32))])) (fun _ k => XS.iconst X2.here hx rfl (hb hby at_20) k) ?_
    refine own_st (T' := T2) (F' := (mkF m 25 #[.val (.int x0), .val (.int ((x0 &&& (2147483647 : Int32)) % (6 : Int32))), .val (.ref r1), .unset, .unset, .unset] [(.int (1 : Int32))])) (fun _ k => XS.goto X2.here hx rfl (pc0 := 21) (pc' := 25) rfl (hb hby at_21) (by decide) (by decide) k) ?_
    exact J25_3 (1 : Int32) (Or.inl (⟨hc17, rfl⟩))
  ·
    refine own_st (T' := T2) (F' := (mkF m 25 #[.val (.int x0), .val (.int ((x0 &&& (2147483647 : Int32)) % (6 : Int32))), .val (.ref r1), .unset, .unset, .unset] [(.int (0 : Int32))])) (fun _ k => XS.iconst X2.here hx rfl (hb hby at_24) k) ?_
    exact J25_3 (0 : Int32) (Or.inr (⟨hc17, rfl⟩))
set_option maxRecDepth 65536 in
set_option maxHeartbeats 40000000 in
theorem comes_1 {Post : Tables → Env → Array Value → State → Outcome → State → Prop} (hpost : ∀ tb e args s v u, (limb_1_1.after args s (.returned v) u = true ∧ limb_1_2.after args s (.returned v) u = true ∧ True) → FrameEnd s (.returned v) u (Jvm.fieldLocs frame_1_writes args s ++ Jvm.arrayLocs frame_1_arrays args s ++ Jvm.staticLocs frame_1_statics s) 0 0 → Post tb e args s (.returned v) u) :
    ArmFor flags0 classFile x code maxLocals ret World_1 tables_1 room_1 Calls_1 rest_1 Pre_1 Post := by
  intro l hfl _ _ p e ha hc hk s m args below hf hA hF happ hP
  obtain ⟨hcalls, hrest, hpre⟩ := hP
  obtain ⟨-, -, -, hnamed, -, -, -, hat⟩ := (Spec.applies_iff hf).mp happ
  obtain ⟨hg, hn⟩ := and_e (Cond.before_iff.mp (show (Jvm.Cond.and given_1 narrow_1).before args s = true from hpre))
  obtain ⟨g0, hg0⟩ := and_e hg
  obtain ⟨w0, rfl⟩ : ∃ w0 : Value, args = #[w0] := by
    have hs : args.size = 1 := by simpa [Cond.value, given_1] using g0
    obtain ⟨L⟩ := args
    match L, hs with
    | [w0], _ => exact ⟨w0, rfl⟩
  have hw := fun d (hd : d ∈ tables_1) => atoms_spec (ws := Jvm.Cond.code x code maxLocals ret :: tables_1) hat d (List.mem_cons_of_mem _ hd)
  have hfit : Fit s := fun {y c} hc i hi => by
    obtain ⟨ha, rfl⟩ := Array.getElem?_eq_some_iff.mp hc
    have q := List.all_eq_true.mp ((Array.all_eq_true_iff_forall_mem.mp hF) _ (Array.getElem_mem ha)) i (List.mem_range.mpr hi)
    simpa [Array.getElem?_eq_getElem hi] using q
  obtain ⟨i0, ei0⟩ := is_v hg0
  obtain rfl : w0 = (.int i0) := Option.some.inj ei0
  obtain ⟨nn0, hn0⟩ := and_e hn
  obtain ⟨nn1, hn1⟩ := and_e hn0
  obtain ⟨nn2, hn2⟩ := and_e hn1
  obtain ⟨nn3, hn3⟩ := and_e hn2
  obtain ⟨nn4, hn4⟩ := and_e hn3
  obtain ⟨nn5, hn5⟩ := and_e hn4
  obtain ⟨nn6, hn6⟩ := and_e hn5
  obtain ⟨nn7, hn7⟩ := and_e hn6
  obtain ⟨nn8, hn8⟩ := and_e hn7
  obtain ⟨nn9, hn9⟩ := and_e hn8
  obtain ⟨nn10, hn10⟩ := and_e hn9
  have nn11 := hn10
  obtain ⟨ae0, ev0⟩ := exa_v nn0
  have SE0 := Sta.start ev0 (Or.inr ⟨(hw _ (List.mem_of_getElem? (i := 6) rfl)), (hw _ (List.mem_of_getElem? (i := 7) rfl))⟩)
  have EE0 := Exa.start ev0 nn0
  obtain ⟨ae1, ev1⟩ := exa_v nn1
  have SE1 := Sta.start ev1 (Or.inr ⟨(hw _ (List.mem_of_getElem? (i := 6) rfl)), (hw _ (List.mem_of_getElem? (i := 9) rfl))⟩)
  have EE1 := Exa.start ev1 nn1
  obtain ⟨ae2, ev2⟩ := exa_v nn4
  have SE2 := Sta.start ev2 (Or.inr ⟨(hw _ (List.mem_of_getElem? (i := 6) rfl)), (hw _ (List.mem_of_getElem? (i := 25) rfl))⟩)
  have EE2 := Exa.start ev2 nn4
  obtain ⟨ae3, ev3⟩ := exa_v nn6
  have SE3 := Sta.start ev3 (Or.inr ⟨(hw _ (List.mem_of_getElem? (i := 6) rfl)), (hw _ (List.mem_of_getElem? (i := 27) rfl))⟩)
  have EE3 := Exa.start ev3 nn6
  obtain ⟨ae4, ev4⟩ := exa_v nn8
  have SE4 := Sta.start ev4 (Or.inr ⟨(hw _ (List.mem_of_getElem? (i := 6) rfl)), (hw _ (List.mem_of_getElem? (i := 29) rfl))⟩)
  have EE4 := Exa.start ev4 nn8
  obtain ⟨ae5, ev5⟩ := exa_v nn10
  have SE5 := Sta.start ev5 (Or.inr ⟨(hw _ (List.mem_of_getElem? (i := 6) rfl)), (hw _ (List.mem_of_getElem? (i := 31) rfl))⟩)
  have EE5 := Exa.start ev5 nn10
  have OE0 := own_ord ev0 nn2
  have OE1 := own_ord ev1 nn3
  have OE2 := own_ord ev2 nn5
  have OE3 := own_ord ev3 nn7
  have OE4 := own_ord ev4 nn9
  have OE5 := own_ord ev5 nn11
  obtain ⟨n, o, h1, h2, h3, _, L, rfl, ⟨⟨_, rfl, rfl⟩, N, _⟩, hq⟩ := rm0 l s _ hw tables_1 i0 ae0 ae3 ae4 ae2 ae5 ae1 s.heap s.heap.size (Nat.le_refl _) SE0 SE3 SE4 SE2 SE5 SE1 EE0 EE3 EE4 EE2 EE5 EE1 OE0 OE3 OE4 OE2 OE5 OE1 p e ha hc hk s m _ below hf ((Spec.applies_iff_loose hf).mp happ).1 ⟨rfl, State.Warmed39.refl s, rfl⟩ trivial
  refine ⟨n, _, h1, h2, h3, hpost _ _ _ _ _ _ ⟨Cond.after_iff.mpr rfl, Cond.after_iff.mpr (eq_i res_at (Term.int_eval (1)) rfl), trivial⟩ ⟨hq.1, hq.2.1, (hq.2.2.sift fun y hy => Or.inr (N y hy)).mono (by decide) (by decide)⟩⟩
theorem main_1_1 : Claimed_1_1 := comes_1 fun _ _ _ _ _ _ h hF => ⟨h.1, hF⟩
theorem main_1_2 : Claimed_1_2 := comes_1 fun _ _ _ _ _ _ h hF => ⟨h.2.1, hF⟩
end Jvm.Pilot.@@N@@
namespace Jvm.Pilot.@@N@@
open Jvm Jvm.ClassFile Sem Op Lib Jvm.Free Jvm.Stand Jvm.Pilot.@@N@@.Jvm.D
/-! MADE BY PROGRAM (witnessworld.py) out of the Statement's table words and the real class files: 12 classes; the members and pool entries that the words name. The judged class is class 1, her method 2. -/
namespace start1
open Jvm.ClassFile
def u (s : String) : CpInfo := .utf8 (stringToUtf16 s)
/-- a pool by its gaps: so many unusable entries, then the entry; so many at the end -/
def gap : Nat → List CpInfo → List CpInfo
  | 0, r => r
  | n + 1, r => .unusable :: gap n r
def poolList (es : List (Nat × CpInfo)) (last : Nat) : List CpInfo := es.foldr (fun e r => gap e.1 (e.2 :: r)) (gap last [])
def pool (es : List (Nat × CpInfo)) (last : Nat) : Array CpInfo := ⟨poolList es last⟩
def fileOf (pool : Array CpInfo) (this : Nat) (attrs : Array Attribute := #[]) (ms : Array MethodInfo := #[]) (fl : Nat := 33) (sup : Nat := 0) (ifs : Array Nat := #[]) (fds : Array FieldInfo := #[]) : ClassFile where
  minorVersion := 0
  majorVersion := 65
  constantPool := pool
  accessFlags := fl
  thisClass := this
  superClass := sup
  interfaces := ifs
  fields := fds
  methods := ms
  attributes := attrs
def plain (name : String) (sup : Option ClassId) : Class where
  name := name
  kind := .ordinary
  loader := none
  accessFlags := 33
  super := sup
  interfaces := #[]
  cf := none
  fields := #[]
  methods := #[]
  instanceTypes := #[]
  staticTypes := #[]
  resolved := #[]
  callSites := []
  init := .initialized
  statics := none
  mirror := none

def pool0 : Array CpInfo := pool [(5, u "<init>"), (0, u "()V"), (1, .class_ 10), (1, u "java/lang/Object")] 113

def k0m0 : Method := { name := "<init>", desc := "()V", sig := { parameters := [], returnType := none }, accessFlags := 1, code := none }
/-- java/lang/Object -/
def k0 : Class := { plain "java/lang/Object" none with
  accessFlags := 33
  interfaces := #[]
  cf := some (fileOf pool0 8 #[] #[{ accessFlags := 1, nameIndex := 5, descriptorIndex := 6, attributes := #[] }] 33 0 #[] #[])
  fields := #[]
  methods := #[k0m0]
  instanceTypes := #[]
  staticTypes := #[]
  resolved := Array.replicate 124 none
  statics := none }

def pool1 : Array CpInfo := pool [(2, .class_ 4), (1, u "java/lang/Object"), (0, u "<init>"), (0, u "()V"), (0, .fieldref 8 9), (0, .class_ 10), (0, .nameAndType 11 12), (0, u "com/example/promulgate/promulgate/Form"), (0, u "FRAMED"), (0, u "Lcom/example/promulgate/promulgate/Form;"), (0, .fieldref 8 14), (0, .nameAndType 15 12), (0, u "JSON"), (0, .fieldref 8 17), (0, .nameAndType 18 12), (0, u "MARKDOWN"), (0, .fieldref 8 20), (0, .nameAndType 21 12), (0, u "OUTLINE"), (0, .fieldref 8 23), (0, .nameAndType 24 12), (0, u "HTML_LISTS"), (0, .fieldref 8 26), (0, .nameAndType 27 12), (0, u "HTML"), (0, .integer 2147483647), (0, .methodref 30 31), (0, .class_ 32), (0, .nameAndType 33 34), (0, u "com/example/promulgate/promulgate/FormDatedByInitPinLaw"), (0, u "pick"), (0, u "(I)Lcom/example/promulgate/promulgate/Form;"), (0, .methodref 8 36), (0, .nameAndType 37 38), (0, u "datedByInit"), (0, u "()Z"), (3, u "law"), (0, u "(I)Z")] 2

def k1m0 : Method := { name := "<init>", desc := "()V", sig := { parameters := [], returnType := none }, accessFlags := 1, code := none }
def k1c1 : Code := { maxStack := 2, maxLocals := 1, code := method_2_code, exceptionTable := #[], attributes := #[] }
def k1m1 : Method := { name := "pick", desc := "(I)Lcom/example/promulgate/promulgate/Form;", sig := { parameters := [.int], returnType := some (.object "com/example/promulgate/promulgate/Form") }, accessFlags := 10, code := some k1c1 }
def k1c2 : Code := { maxStack := 2, maxLocals := 6, code := code, exceptionTable := #[], attributes := #[] }
def k1m2 : Method := { name := "law", desc := "(I)Z", sig := { parameters := [.int], returnType := some .boolean }, accessFlags := 9, code := some k1c2 }
/-- com/example/promulgate/promulgate/FormDatedByInitPinLaw -/
def k1 : Class := { plain "com/example/promulgate/promulgate/FormDatedByInitPinLaw" (some 0) with
  accessFlags := 49
  interfaces := #[]
  cf := some (fileOf pool1 30 #[] #[{ accessFlags := 1, nameIndex := 5, descriptorIndex := 6, attributes := #[] }, { accessFlags := 10, nameIndex := 33, descriptorIndex := 34, attributes := #[] }, { accessFlags := 9, nameIndex := 42, descriptorIndex := 43, attributes := #[] }] 49 2 #[] #[])
  fields := #[]
  methods := #[k1m0, k1m1, k1m2]
  instanceTypes := #[]
  staticTypes := #[]
  resolved := Array.replicate 46 none
  statics := none }

def pool2 : Array CpInfo := pool [(1, .class_ 2), (0, u "java/lang/constant/Constable"), (0, .class_ 4), (0, u "java/lang/Object")] 6

/-- java/lang/constant/Constable -/
def k2 : Class := { plain "java/lang/constant/Constable" (some 0) with
  accessFlags := 1537
  interfaces := #[]
  cf := some (fileOf pool2 1 #[] #[] 1537 3 #[] #[])
  fields := #[]
  methods := #[]
  instanceTypes := #[]
  staticTypes := #[]
  resolved := Array.replicate 11 none
  statics := none }

def pool3 : Array CpInfo := pool [(1, .class_ 2), (0, u "java/lang/Comparable"), (0, .class_ 4), (0, u "java/lang/Object")] 7

/-- java/lang/Comparable -/
def k3 : Class := { plain "java/lang/Comparable" (some 0) with
  accessFlags := 1537
  interfaces := #[]
  cf := some (fileOf pool3 1 #[] #[] 1537 3 #[] #[])
  fields := #[]
  methods := #[]
  instanceTypes := #[]
  staticTypes := #[]
  resolved := Array.replicate 12 none
  statics := none }

def pool4 : Array CpInfo := pool [(1, .class_ 2), (0, u "java/io/Serializable"), (0, .class_ 4), (0, u "java/lang/Object")] 2

/-- java/io/Serializable -/
def k4 : Class := { plain "java/io/Serializable" (some 0) with
  accessFlags := 1537
  interfaces := #[]
  cf := some (fileOf pool4 1 #[] #[] 1537 3 #[] #[])
  fields := #[]
  methods := #[]
  instanceTypes := #[]
  staticTypes := #[]
  resolved := Array.replicate 7 none
  statics := none }

def pool5 : Array CpInfo := pool [(2, .class_ 4), (1, u "java/lang/Enum"), (0, u "name"), (0, u "Ljava/lang/String;"), (0, .fieldref 2 8), (0, .nameAndType 9 10), (0, u "ordinal"), (0, u "I"), (1, .class_ 14), (1, u "java/lang/Object"), (4, u "hash"), (86, .class_ 108), (1, u "java/lang/Enum$EnumDesc"), (2, .class_ 112), (0, u "java/lang/constant/Constable"), (0, .class_ 114), (0, u "java/lang/Comparable"), (0, .class_ 116), (0, u "java/io/Serializable"), (9, u "()I")] 77

def k5c0 : Code := { maxStack := 1, maxLocals := 1, code := jdk_37_method_2_code, exceptionTable := #[], attributes := #[] }
def k5m0 : Method := { name := "ordinal", desc := "()I", sig := { parameters := [], returnType := some .int }, accessFlags := 17, code := some k5c0 }
/-- java/lang/Enum -/
def k5 : Class := { plain "java/lang/Enum" (some 0) with
  accessFlags := 1057
  interfaces := #[2, 3, 4]
  cf := some (fileOf pool5 2 #[.nestMembers #[106]] #[{ accessFlags := 17, nameIndex := 9, descriptorIndex := 126, attributes := #[] }] 1057 12 #[111, 113, 115] #[{ accessFlags := 18, nameIndex := 5, descriptorIndex := 6, attributes := #[] }, { accessFlags := 18, nameIndex := 9, descriptorIndex := 10, attributes := #[] }, { accessFlags := 2, nameIndex := 19, descriptorIndex := 10, attributes := #[] }])
  fields := #[{ name := "name", type := (.object "java/lang/String"), accessFlags := 18, slot := 0, constantValue := 0 }, { name := "ordinal", type := .int, accessFlags := 18, slot := 1, constantValue := 0 }, { name := "hash", type := .int, accessFlags := 2, slot := 2, constantValue := 0 }]
  methods := #[k5m0]
  instanceTypes := #[(.object "java/lang/String"), .int, .int]
  staticTypes := #[]
  resolved := Array.replicate 204 none
  statics := none }

def pool6 : Array CpInfo := pool [(1, .class_ 2), (0, u "com/example/promulgate/promulgate/Form"), (2, u "FRAMED"), (0, u "Lcom/example/promulgate/promulgate/Form;"), (2, u "JSON"), (2, u "MARKDOWN"), (2, u "OUTLINE"), (2, u "HTML_LISTS"), (2, u "HTML"), (2, u "$VALUES"), (0, u "[Lcom/example/promulgate/promulgate/Form;"), (6, .class_ 34), (1, u "java/lang/Enum"), (8, u "label"), (0, u "Ljava/lang/String;"), (2, u "article"), (49, u "()I"), (32, .methodref 1 131), (0, .nameAndType 132 97), (0, u "ordinal"), (48, u "()Z"), (20, .class_ 204), (1, u "com/example/promulgate/promulgate/Form$Titling"), (54, u "datedByInit")] 60

def k6c0 : Code := { maxStack := 4, maxLocals := 1, code := prog_7_method_11_code, exceptionTable := #[], attributes := #[] }
def k6m0 : Method := { name := "datedByInit", desc := "()Z", sig := { parameters := [], returnType := some .boolean }, accessFlags := 1, code := some k6c0 }
/-- com/example/promulgate/promulgate/Form -/
def k6 : Class := { plain "com/example/promulgate/promulgate/Form" (some 5) with
  accessFlags := 16433
  interfaces := #[]
  cf := some (fileOf pool6 1 #[.nestMembers #[202]] #[{ accessFlags := 1, nameIndex := 259, descriptorIndex := 181, attributes := #[] }] 16433 32 #[] #[{ accessFlags := 16409, nameIndex := 5, descriptorIndex := 6, attributes := #[] }, { accessFlags := 16409, nameIndex := 9, descriptorIndex := 6, attributes := #[] }, { accessFlags := 16409, nameIndex := 12, descriptorIndex := 6, attributes := #[] }, { accessFlags := 16409, nameIndex := 15, descriptorIndex := 6, attributes := #[] }, { accessFlags := 16409, nameIndex := 18, descriptorIndex := 6, attributes := #[] }, { accessFlags := 16409, nameIndex := 21, descriptorIndex := 6, attributes := #[] }, { accessFlags := 18, nameIndex := 43, descriptorIndex := 44, attributes := #[] }, { accessFlags := 18, nameIndex := 47, descriptorIndex := 44, attributes := #[] }, { accessFlags := 4122, nameIndex := 24, descriptorIndex := 25, attributes := #[] }])
  fields := #[{ name := "FRAMED", type := (.object "com/example/promulgate/promulgate/Form"), accessFlags := 16409, slot := 0, constantValue := 0 }, { name := "JSON", type := (.object "com/example/promulgate/promulgate/Form"), accessFlags := 16409, slot := 1, constantValue := 0 }, { name := "MARKDOWN", type := (.object "com/example/promulgate/promulgate/Form"), accessFlags := 16409, slot := 2, constantValue := 0 }, { name := "OUTLINE", type := (.object "com/example/promulgate/promulgate/Form"), accessFlags := 16409, slot := 3, constantValue := 0 }, { name := "HTML_LISTS", type := (.object "com/example/promulgate/promulgate/Form"), accessFlags := 16409, slot := 4, constantValue := 0 }, { name := "HTML", type := (.object "com/example/promulgate/promulgate/Form"), accessFlags := 16409, slot := 5, constantValue := 0 }, { name := "label", type := (.object "java/lang/String"), accessFlags := 18, slot := 3, constantValue := 0 }, { name := "article", type := (.object "java/lang/String"), accessFlags := 18, slot := 4, constantValue := 0 }, { name := "$VALUES", type := (.array (.object "com/example/promulgate/promulgate/Form")), accessFlags := 4122, slot := 6, constantValue := 0 }]
  methods := #[k6m0]
  instanceTypes := #[(.object "java/lang/String"), .int, .int, (.object "java/lang/String"), (.object "java/lang/String")]
  staticTypes := #[(.object "com/example/promulgate/promulgate/Form"), (.object "com/example/promulgate/promulgate/Form"), (.object "com/example/promulgate/promulgate/Form"), (.object "com/example/promulgate/promulgate/Form"), (.object "com/example/promulgate/promulgate/Form"), (.object "com/example/promulgate/promulgate/Form"), (.array (.object "com/example/promulgate/promulgate/Form"))]
  resolved := Array.replicate 320 none
  statics := some 0 }

def pool7 : Array CpInfo := pool [(1, u "java/lang/Cloneable"), (0, .class_ 1), (0, u "java/lang/Object"), (0, .class_ 3)] 3

/-- java/lang/Cloneable -/
def k7 : Class := { plain "java/lang/Cloneable" (some 0) with
  accessFlags := 1537
  interfaces := #[]
  cf := some (fileOf pool7 2 #[] #[] 1537 4 #[] #[])
  fields := #[]
  methods := #[]
  instanceTypes := #[]
  staticTypes := #[]
  resolved := Array.replicate 8 none
  statics := none }

/-- the primitive byte -/
def k8 : Class := { plain "byte" none with kind := .primitive 'B', accessFlags := 0x411 }
/-- [B -/
def k9 : Class := { plain "[B" (some 0) with kind := .array 8 .byte, interfaces := #[7, 4], accessFlags := 1041 }

/-- the primitive int -/
def k10 : Class := { plain "int" none with kind := .primitive 'I', accessFlags := 0x411 }
/-- [I -/
def k11 : Class := { plain "[I" (some 0) with kind := .array 10 .int, interfaces := #[7, 4], accessFlags := 1041 }

def heap : Heap := #[{ cls := 6, slots := #[.ref 1, .ref 2, .ref 3, .ref 4, .ref 5, .ref 6, .null], vm := .statics 6 },
  { cls := 6, slots := #[.null, .int 0, .int 0, .null, .null], vm := .none },
  { cls := 6, slots := #[.null, .int 1, .int 0, .null, .null], vm := .none },
  { cls := 6, slots := #[.null, .int 2, .int 0, .null, .null], vm := .none },
  { cls := 6, slots := #[.null, .int 3, .int 0, .null, .null], vm := .none },
  { cls := 6, slots := #[.null, .int 4, .int 0, .null, .null], vm := .none },
  { cls := 6, slots := #[.null, .int 5, .int 0, .null, .null], vm := .none }]
def classes : Array Class := #[k0, k1, k2, k3, k4, k5, k6, k7, k8, k9, k10, k11]
def interned : List (Array UInt16 × Addr) := []
def slotsUsed : Nat := 37
def theMethod : MethodId := ⟨1, 2⟩
def args0 : Array Value := #[.int 5]
def aboutOver (below : List Frame) : State where
  vm := { classes := classes, interned := interned.toArray }
  heap := heap
  slotsUsed := slotsUsed
  threads := #[{ frames := .invoking theMethod args0 :: below }]
def below0 : List Frame := [.native { method := ⟨0, 0⟩, args := #[] }]
def about1 : State := aboutOver below0
def p0 : Program := .bare "" "" ""
def e0 : Env := launch0.env 0 0 0
theorem w_frames : about1.frames = Frame.invoking theMethod args0 :: below0 := rfl
set_option maxRecDepth 65536 in
theorem w_args : argsFit about1.vm theMethod args0 = true := by decide +kernel
set_option maxRecDepth 65536 in
theorem w_heap : heapFits about1 = true := by decide +kernel
set_option maxRecDepth 65536 in
theorem w_runnable : about1.curStatus? = some .runnable := by decide +kernel
set_option maxRecDepth 65536 in
theorem w_alone : about1.alone = true := by decide +kernel
set_option maxRecDepth 65536 in
theorem w_named : about1.methodNamed? x = some theMethod := by decide +kernel
set_option maxRecDepth 65536 in
theorem w_hears : about1.hears theMethod below0 = true := by decide +kernel
set_option maxRecDepth 65536 in
theorem w_ripe : about1.ripe theMethod args0 below0 = true := by decide +kernel
theorem w_running : about1.status = .running := rfl
set_option maxRecDepth 65536 in
theorem w_room : about1.hasRoom e0.platform room_1 = true :=
  launch0.hasRoom_least _ room_1 (by decide +kernel) (by decide +kernel) (by decide +kernel) (by decide +kernel) (by decide +kernel) (by decide +kernel)
theorem allAtoms_all (ts : List Jvm.Cond) (a : Array Jvm.Value) (st : Jvm.State) : (allAtoms ts).before a st = ts.all (fun c => c.before a st) := by
  induction ts with
  | nil => rfl
  | cons c t ih =>
    show (Jvm.Cond.and c (allAtoms t)).before a st = _
    rw [Jvm.Cond.before_and, ih, List.all_cons]
def words1 : List Jvm.Cond := Jvm.Cond.code x code maxLocals ret :: tables_1
/-- a 'code' word, met by the world's own term for the bytes: nothing is compared byte by byte -/
theorem code_word {y : MethodName} {bytes : ByteArray} {mx : Nat} {rt : Option FieldType} {a : Array Value} {s : State} {m : MethodId} {meth : Method} {c : Code} (h1 : s.methodNamed? y = some m) (h2 : s.vm.method? m = some meth) (h3 : meth.code = some c) (h4 : c.code = bytes)
    (h5 : (c.maxLocals == mx && c.exceptionTable.isEmpty && decide (c.maxStack ≤ mostOperands) && decide (meth.sig.returnType = rt) && !meth.locks && decide (parseMethodDescriptor y.desc = some meth.sig)) = true) : (Jvm.Cond.code y bytes mx rt).before a s = true := by
  simp only [Bool.and_eq_true, beq_iff_eq, Bool.not_eq_true', decide_eq_true_eq] at h5
  obtain ⟨⟨⟨⟨⟨g1, g2⟩, g3⟩, g4⟩, g5⟩, g6⟩ := h5
  simp [Cond.before, Cond.holds, Cond.value, h1, h2, h3, h4, g1, g2, g3, g4, g5, g6]
def isCode : Jvm.Cond → Bool
  | .code _ _ _ _ => true
  | _ => false
theorem all_split {L : List Jvm.Cond} {P : Jvm.Cond → Bool} (h1 : L.all (fun c => isCode c || P c) = true) (h2 : ∀ c ∈ L.filter isCode, P c = true) : L.all P = true := by
  refine List.all_eq_true.mpr fun c hc => ?_
  have h := List.all_eq_true.mp h1 c hc
  rcases Bool.eq_false_or_eq_true (isCode c) with hi | hi
  · exact h2 c (List.mem_filter.mpr ⟨hc, hi⟩)
  · simpa [hi] using h
set_option maxRecDepth 65536 in
theorem w_c0 : (Jvm.Cond.code x code maxLocals ret).before args0 about1 = true := code_word (m := ⟨1, 2⟩) (meth := k1m2) (c := k1c2) (by decide +kernel) rfl rfl rfl (by decide +kernel)
set_option maxRecDepth 65536 in
theorem w_c1 : (Jvm.Cond.code ({ cls := "com/example/promulgate/promulgate/FormDatedByInitPinLaw", name := "pick", desc := "(I)Lcom/example/promulgate/promulgate/Form;" } : Jvm.MethodName) method_2_code (1 : Nat) (Option.some (Jvm.ClassFile.FieldType.object "com/example/promulgate/promulgate/Form"))).before args0 about1 = true := code_word (m := ⟨1, 1⟩) (meth := k1m1) (c := k1c1) (by decide +kernel) rfl rfl rfl (by decide +kernel)
set_option maxRecDepth 65536 in
theorem w_c2 : (Jvm.Cond.code ({ cls := "com/example/promulgate/promulgate/Form", name := "datedByInit", desc := "()Z" } : Jvm.MethodName) prog_7_method_11_code (1 : Nat) (Option.some Jvm.ClassFile.FieldType.boolean)).before args0 about1 = true := code_word (m := ⟨6, 0⟩) (meth := k6m0) (c := k6c0) (by decide +kernel) rfl rfl rfl (by decide +kernel)
set_option maxRecDepth 65536 in
theorem w_c3 : (Jvm.Cond.code ({ cls := "java/lang/Enum", name := "ordinal", desc := "()I" } : Jvm.MethodName) jdk_37_method_2_code (1 : Nat) (Option.some Jvm.ClassFile.FieldType.int)).before args0 about1 = true := code_word (m := ⟨5, 0⟩) (meth := k5m0) (c := k5c0) (by decide +kernel) rfl rfl rfl (by decide +kernel)
def codes1 : List Jvm.Cond := [Jvm.Cond.code x code maxLocals ret, Jvm.Cond.code ({ cls := "com/example/promulgate/promulgate/FormDatedByInitPinLaw", name := "pick", desc := "(I)Lcom/example/promulgate/promulgate/Form;" } : Jvm.MethodName) method_2_code (1 : Nat) (Option.some (Jvm.ClassFile.FieldType.object "com/example/promulgate/promulgate/Form")), Jvm.Cond.code ({ cls := "com/example/promulgate/promulgate/Form", name := "datedByInit", desc := "()Z" } : Jvm.MethodName) prog_7_method_11_code (1 : Nat) (Option.some Jvm.ClassFile.FieldType.boolean), Jvm.Cond.code ({ cls := "java/lang/Enum", name := "ordinal", desc := "()I" } : Jvm.MethodName) jdk_37_method_2_code (1 : Nat) (Option.some Jvm.ClassFile.FieldType.int)]
set_option maxRecDepth 65536 in
theorem codes_eq : words1.filter isCode = codes1 := rfl
theorem w_codes : ∀ c ∈ words1.filter isCode, c.before args0 about1 = true := by
  rw [codes_eq]
  intro c hc
  simp only [codes1, List.mem_cons, List.not_mem_nil, or_false] at hc
  rcases hc with rfl | rfl | rfl | rfl
  · exact w_c0
  · exact w_c1
  · exact w_c2
  · exact w_c3
set_option maxRecDepth 65536 in
theorem w_t1 : (words1.take 24).all (fun c => isCode c || c.before args0 about1) = true := by decide +kernel
set_option maxRecDepth 65536 in
theorem w_t2 : (words1.drop 24).all (fun c => isCode c || c.before args0 about1) = true := by decide +kernel
theorem w_tables : (allAtoms (Jvm.Cond.code x code maxLocals ret :: tables_1)).before args0 about1 = true := by
  rw [allAtoms_all]
  show words1.all (fun c => c.before args0 about1) = true
  refine all_split ?_ w_codes
  rw [← List.take_append_drop 24 words1, List.all_append, w_t1, w_t2]
  rfl
set_option maxRecDepth 65536 in
theorem w_case : (Jvm.Cond.and given_1 narrow_1).before args0 about1 = true := by decide +kernel
theorem w_applies : (headSpec (Jvm.Cond.code x code maxLocals ret :: tables_1) room_1).applies x e0.platform about1 = true :=
  (Spec.applies_iff w_frames).mpr ⟨w_running, w_runnable, w_alone, w_named, w_hears, w_ripe, w_room, w_tables⟩
theorem atStart : AtStart classFile x code maxLocals ret World_1 tables_1 room_1 Calls_1 rest_1 Pre_1 launch0 p0 e0 about1 theMethod args0 below0 :=
  ⟨lists_1, trivial, launch0.admits_env _ _ _, launch0.least_env, fairChoices_fair.cas, fairChoices_fair.clock, w_frames, w_args, w_heap, w_applies, trivial, trivial, w_case⟩
end start1
theorem witness_1 : WitnessClaimed_1 := ⟨start1.p0, start1.e0, start1.about1, start1.theMethod, start1.args0, start1.below0, start1.atStart⟩
end Jvm.Pilot.@@N@@
