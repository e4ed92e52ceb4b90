import JvmDerived
import JvmDerived.Pilot.@@N@@Statement
import JvmDerived.Pilot.@@N@@Code
set_option linter.unusedVariables false
set_option linter.unusedSimpArgs false
namespace Jvm.Pilot.@@N@@
open Jvm Jvm.ClassFile Sem Op Lib Jvm.Free Jvm.Stand Jvm.LawKit Jvm.RoadKit Bundle Jvm.Pilot.@@N@@.Jvm.D
section Own
variable {p : Program} {l : Launch} {e : Env} {R : Room} {s : State} {m : MethodId} {args : Array Value} {below : List Frame} {meth : Method} {c : Code} {T T' : State} {locs : List Loc} {cells slots : Nat} {Qf : Option Value → Heap → List Loc → Prop} {C S : Nat} {F F' : JFrame}
/-- from the state T with the frame F on top the invocation ends as Qf says -/
def own_Go (p : Program) (e : Env) (below : List Frame) (s : State) (Qf : Option Value → Heap → List Loc → Prop) (C S : Nat) (T : State) (F : JFrame) : Prop :=
  ∃ s₂ o, Steps p.tables e below (T.setTop F) s₂ ∧ s₂.status = .running ∧ Ended s₂ below o ∧ ∃ v L, o = .returned v ∧ Qf v s₂.heap L ∧ FrameEnd s o s₂ L C S
theorem own_enter (q : F = F') (hr : own_Go p e below s Qf C S T F') : ∃ s₂ o, Steps p.tables e below (T.setTop F) s₂ ∧ s₂.status = .running ∧ Ended s₂ below o ∧ ∃ v L, o = .returned v ∧ Qf v s₂.heap L ∧ FrameEnd s o s₂ L C S := by
  subst q; exact hr
theorem own_st (st : ∀ t, Steps p.tables e below (T'.setTop F') t → Steps p.tables e below (T.setTop F) t) (hr : own_Go p e below s Qf C S T' F') : own_Go p e below s Qf C S T F := by
  obtain ⟨s2, o, h1, h2⟩ := hr
  exact ⟨s2, o, st _ h1, h2⟩
theorem own_tr (st : Steps p.tables e below (T.setTop F) (T'.setTop F')) (hr : own_Go p e below s Qf C S T' F') : own_Go p e below s Qf C S T F := by
  obtain ⟨s2, o, h1, h2⟩ := hr
  exact ⟨s2, o, st.trans h1, h2⟩
theorem own_ret (X : Stand p l e R s m args below meth c T locs cells slots) (hlk : meth.locks = false) {v : Option Value} (hv : meth.sig.returnType = none → v = none)
    (st : ∀ fs, (∀ (f : JFrame) (acts : List Action), f.method = m → f.locked = none → f.entered = [] → (doReturn e (T.setTop f) acts v).1 = T.setFrames fs) → Steps p.tables e below (T.setTop F) (T.setFrames fs))
    (hQ : Qf v T.heap locs) (hC : cells ≤ C) (hS : slots ≤ S) : own_Go p e below s Qf C S T F := by
  obtain ⟨fs, hr, hrun, hended, hW, hsame⟩ := X.leave (v := v) hv hlk
  exact ⟨_, _, st fs hr, hrun, hended, _, _, rfl, hQ, ⟨_, rfl⟩, hW, hsame.mono hC hS⟩
theorem own_retN (X : Stand p l e R s m args below meth c T locs cells slots) (hx : p.tables.exec = Jvm.exec) (hlk : meth.locks = false) {pc : Nat} {Ls : Array Slot} {z : Int32} {t : FieldType} {rest : List Value} (hret : meth.sig.returnType = some t) (ht : t = .boolean ∨ t = .byte ∨ t = .char ∨ t = .short) (hd : decode c.code pc = .ok (.ireturn, 1))
    (hQ : Qf (some (.int (nar t z))) T.heap locs) (hC : cells ≤ C) (hS : slots ≤ S) : own_Go p e below s Qf C S T (mkF m pc Ls (.int z :: rest)) :=
  own_ret X hlk (fun h => by rw [hret] at h; cases h) (fun _ hr => retN X hx hret ht hd hr) hQ hC hS
theorem own_retI (X : Stand p l e R s m args below meth c T locs cells slots) (hx : p.tables.exec = Jvm.exec) (hlk : meth.locks = false) {pc : Nat} {Ls : Array Slot} {z : Int32} {rest : List Value} (hret : meth.sig.returnType = some .int) (hd : decode c.code pc = .ok (.ireturn, 1))
    (hQ : Qf (some (.int z)) T.heap locs) (hC : cells ≤ C) (hS : slots ≤ S) : own_Go p e below s Qf C S T (mkF m pc Ls (.int z :: rest)) :=
  own_ret X hlk (fun h => by rw [hret] at h; cases h) (fun _ hr => retOut X hx hret rfl (Or.inl ⟨rfl, Or.inl rfl, _, rfl⟩) hd hr) hQ hC hS
theorem own_retJ (X : Stand p l e R s m args below meth c T locs cells slots) (hx : p.tables.exec = Jvm.exec) (hlk : meth.locks = false) {pc : Nat} {Ls : Array Slot} {z : Int64} {rest : List Value} (hret : meth.sig.returnType = some .long) (hd : decode c.code pc = .ok (.lreturn, 1))
    (hQ : Qf (some (.long z)) T.heap locs) (hC : cells ≤ C) (hS : slots ≤ S) : own_Go p e below s Qf C S T (mkF m pc Ls (.long z :: rest)) :=
  own_ret X hlk (fun h => by rw [hret] at h; cases h) (fun _ hr => retOut X hx hret rfl (Or.inr (Or.inl ⟨rfl, rfl, _, rfl⟩)) hd hr) hQ hC hS
theorem own_retA (X : Stand p l e R s m args below meth c T locs cells slots) (hx : p.tables.exec = Jvm.exec) (hlk : meth.locks = false) {pc : Nat} {Ls : Array Slot} {w : Value} {t : FieldType} {rest : List Value} (hret : meth.sig.returnType = some t) (ht : t.isReference = true) (hw : w.isRef = true) (hn : narrow t w = w) (hd : decode c.code pc = .ok (.areturn, 1))
    (hQ : Qf (some w) T.heap locs) (hC : cells ≤ C) (hS : slots ≤ S) : own_Go p e below s Qf C S T (mkF m pc Ls (w :: rest)) :=
  own_ret X hlk (fun h => by rw [hret] at h; cases h) (fun _ hr => retOut X hx hret hn (Or.inr (Or.inr (Or.inr (Or.inr ⟨rfl, ht, hw⟩)))) hd hr) hQ hC hS
theorem own_retV (X : Stand p l e R s m args below meth c T locs cells slots) (hx : p.tables.exec = Jvm.exec) (hlk : meth.locks = false) {pc : Nat} {Ls : Array Slot} (hret : meth.sig.returnType = none) (hd : decode c.code pc = .ok (.return_, 1))
    (hQ : Qf none T.heap locs) (hC : cells ≤ C) (hS : slots ≤ S) : own_Go p e below s Qf C S T (mkF m pc Ls []) :=
  own_ret X hlk (fun _ => rfl) (fun _ hr => X.returnOut hx hret hd hr) hQ hC hS
def own_cc : ClassFile.Cond → Int32 → Int32 → Prop
  | .eq, x, y => x = y
  | .ne, x, y => ¬ x = y
  | .lt, x, y => x < y
  | .ge, x, y => ¬ x < y
  | .gt, x, y => y < x
  | .le, x, y => ¬ y < x
def own_nn : ClassFile.Cond → Int32 → Int32 → Prop
  | .eq, x, y => ¬ x = y
  | .ne, x, y => x = y
  | .lt, x, y => ¬ x < y
  | .ge, x, y => x < y
  | .gt, x, y => ¬ y < x
  | .le, x, y => y < x
theorem own_split (cd : ClassFile.Cond) (x y : Int32) : (own_cc cd x y ∧ if_icmp.holds cd x y = true) ∨ (own_nn cd x y ∧ if_icmp.holds cd x y = false) := by
  cases cd
  · by_cases h : x = y
    · exact Or.inl ⟨h, (teq h).1⟩
    · exact Or.inr ⟨h, (feq h).1⟩
  · by_cases h : x = y
    · exact Or.inr ⟨h, (teq h).2⟩
    · exact Or.inl ⟨h, (feq h).2⟩
  · by_cases h : x < y
    · exact Or.inl ⟨h, (tlt h).1⟩
    · exact Or.inr ⟨h, (flt h).1⟩
  · by_cases h : x < y
    · exact Or.inr ⟨h, (tlt h).2.1⟩
    · exact Or.inl ⟨h, (flt h).2.1⟩
  · by_cases h : y < x
    · exact Or.inl ⟨h, (tlt h).2.2.1⟩
    · exact Or.inr ⟨h, (flt h).2.2.1⟩
  · by_cases h : y < x
    · exact Or.inr ⟨h, (tlt h).2.2.2⟩
    · exact Or.inl ⟨h, (flt h).2.2.2⟩
theorem own_icmp (X : Stand p l e R s m args below meth c T locs cells slots) (hx : p.tables.exec = Jvm.exec) {pc pc' pc2 : Nat} {Ls : Array Slot} {st : List Value} {x y : Int32} {cd : ClassFile.Cond} {o : Int} (hd : decode c.code pc = .ok (.if_icmp cd o, 3)) (ho : 0 ≤ (pc : Int) + o) (hp : ((pc : Int) + o).toNat = pc') (h2 : pc + 3 = pc2)
    (hY : own_cc cd x y → own_Go p e below s Qf C S T (mkF m pc' Ls st)) (hN : own_nn cd x y → own_Go p e below s Qf C S T (mkF m pc2 Ls st)) : own_Go p e below s Qf C S T (mkF m pc Ls (.int y :: .int x :: st)) := by
  subst h2
  rcases own_split cd x y with ⟨h, q⟩ | ⟨h, q⟩
  · exact own_st (fun _ k => XS.icmpYes X.here hx rfl (pc0 := pc) (pc' := pc') rfl hd rfl q ho hp k) (hY h)
  · exact own_st (fun _ k => XS.icmpNo X.here hx rfl hd rfl q k) (hN h)
theorem own_ifc (X : Stand p l e R s m args below meth c T locs cells slots) (hx : p.tables.exec = Jvm.exec) {pc pc' pc2 : Nat} {Ls : Array Slot} {st : List Value} {x : Int32} {cd : ClassFile.Cond} {o : Int} (hd : decode c.code pc = .ok (.ifCond cd o, 3)) (ho : 0 ≤ (pc : Int) + o) (hp : ((pc : Int) + o).toNat = pc') (h2 : pc + 3 = pc2)
    (hY : own_cc cd x 0 → own_Go p e below s Qf C S T (mkF m pc' Ls st)) (hN : own_nn cd x 0 → own_Go p e below s Qf C S T (mkF m pc2 Ls st)) : own_Go p e below s Qf C S T (mkF m pc Ls (.int x :: st)) := by
  subst h2
  rcases own_split cd x 0 with ⟨h, q⟩ | ⟨h, q⟩
  · exact own_st (fun _ k => XS.ifYes X.here hx rfl (pc0 := pc) (pc' := pc') rfl hd rfl ((if0 _ _).trans q) ho hp k) (hY h)
  · exact own_st (fun _ k => XS.ifNo X.here hx rfl hd rfl ((if0 _ _).trans q) k) (hN h)
def own_ccL : ClassFile.Cond → Int64 → Int64 → Prop
  | .eq, x, y => x = y
  | .ne, x, y => ¬ x = y
  | .lt, x, y => x < y
  | .ge, x, y => ¬ x < y
  | .gt, x, y => y < x
  | .le, x, y => ¬ y < x
def own_nnL : ClassFile.Cond → Int64 → Int64 → Prop
  | .eq, x, y => ¬ x = y
  | .ne, x, y => x = y
  | .lt, x, y => ¬ x < y
  | .ge, x, y => x < y
  | .gt, x, y => ¬ y < x
  | .le, x, y => y < x
theorem own_lc (cd : ClassFile.Cond) (x y : Int64) : (own_cc cd (lcmpW x y) 0 → own_ccL cd x y) ∧ (own_nn cd (lcmpW x y) 0 → own_nnL cd x y) := by
  have h1 : x > y → lcmpW x y = 1 := fun h => by simp [lcmpW, h]
  have h2 : x = y → lcmpW x y = 0 := fun h => by subst h; simp [lcmpW, Int64.lt_irrefl]
  have h3 : ¬ x > y → ¬ x = y → lcmpW x y = -1 := fun h h' => by simp [lcmpW, h, h']
  have lt : x < y ↔ lcmpW x y < 0 := by
    by_cases a : x > y
    · rw [h1 a]; exact ⟨fun b => absurd (Int64.lt_trans a b) (Int64.lt_irrefl), fun b => absurd b (by decide)⟩
    · by_cases b : x = y
      · rw [h2 b, b]; exact ⟨fun q => absurd q (Int64.lt_irrefl), fun q => absurd q (by decide)⟩
      · rw [h3 a b]; exact ⟨fun _ => by decide, fun _ => by
          rw [Int64.lt_iff_toInt_lt]; simp only [gt_iff_lt, Int64.lt_iff_toInt_lt] at a
          have : x.toInt ≠ y.toInt := fun q => b (Int64.toInt_inj.mp q)
          omega⟩
  have gt : y < x ↔ 0 < lcmpW x y := by
    by_cases a : x > y
    · rw [h1 a]; exact ⟨fun _ => by decide, fun _ => a⟩
    · by_cases b : x = y
      · rw [h2 b]; exact ⟨fun q => absurd q a, fun q => absurd q (by decide)⟩
      · rw [h3 a b]; exact ⟨fun q => absurd q a, fun q => absurd q (by decide)⟩
  have eq : x = y ↔ lcmpW x y = 0 := by
    by_cases a : x > y
    · rw [h1 a]; exact ⟨fun b => absurd a (by rw [b]; exact Int64.lt_irrefl), fun b => absurd b (by decide)⟩
    · by_cases b : x = y
      · exact ⟨fun _ => h2 b, fun _ => b⟩
      · rw [h3 a b]; exact ⟨fun q => absurd q b, fun q => absurd q (by decide)⟩
  cases cd
  · exact ⟨fun h => eq.mpr h, fun h q => h (eq.mp q)⟩
  · exact ⟨fun h q => h (eq.mp q), fun h => eq.mpr h⟩
  · exact ⟨fun h => lt.mpr h, fun h q => h (lt.mp q)⟩
  · exact ⟨fun h q => h (lt.mp q), fun h => lt.mpr h⟩
  · exact ⟨fun h => gt.mpr h, fun h q => h (gt.mp q)⟩
  · exact ⟨fun h q => h (gt.mp q), fun h => gt.mpr h⟩
theorem own_iflc (X : Stand p l e R s m args below meth c T locs cells slots) (hx : p.tables.exec = Jvm.exec) {pc pc' pc2 : Nat} {Ls : Array Slot} {st : List Value} {x y : Int64} {cd : ClassFile.Cond} {o : Int} (hd : decode c.code pc = .ok (.ifCond cd o, 3)) (ho : 0 ≤ (pc : Int) + o) (hp : ((pc : Int) + o).toNat = pc') (h2 : pc + 3 = pc2)
    (hY : own_ccL cd x y → own_Go p e below s Qf C S T (mkF m pc' Ls st)) (hN : own_nnL cd x y → own_Go p e below s Qf C S T (mkF m pc2 Ls st)) : own_Go p e below s Qf C S T (mkF m pc Ls (.int (lcmpW x y) :: st)) :=
  own_ifc X hx hd ho hp h2 (fun h => hY ((own_lc cd x y).1 h)) (fun h => hN ((own_lc cd x y).2 h))
theorem own_acmp (X : Stand p l e R s m args below meth c T locs cells slots) (hx : p.tables.exec = Jvm.exec) {pc pc' pc2 : Nat} {Ls : Array Slot} {st : List Value} {x y : Addr} {o : Int} {cd : ACond} (hd : decode c.code pc = .ok (.if_acmp cd o, 3)) (ho : 0 ≤ (pc : Int) + o) (hp : ((pc : Int) + o).toNat = pc') (h2 : pc + 3 = pc2)
    (hE : x = y → own_Go p e below s Qf C S T (mkF m (if acV cd true = true then pc' else pc2) Ls st)) (hN : ¬ x = y → own_Go p e below s Qf C S T (mkF m (if acV cd false = true then pc' else pc2) Ls st)) : own_Go p e below s Qf C S T (mkF m pc Ls (.ref y :: .ref x :: st)) := by
  subst h2 hp
  by_cases h : x = y
  · exact own_st (fun _ k => Jvm.RoadKit.acmp (g := mkF m pc Ls (.ref y :: .ref x :: st)) X hx rfl rfl rfl (pc0 := pc) (same := true) rfl hd rfl (decide_eq_true (congrArg Value.ref h)) ho rfl k) (hE h)
  · exact own_st (fun _ k => Jvm.RoadKit.acmp (g := mkF m pc Ls (.ref y :: .ref x :: st)) X hx rfl rfl rfl (pc0 := pc) (same := false) rfl hd rfl (decide_eq_false fun q => h (Value.ref.inj q)) ho rfl k) (hN h)
theorem own_ord {Z : State} {a0 : Array Value} {t : Term} {a : Addr} {C n d : String} {k : Int32} (ev : t.eval a0 Z none [] Z = some (.ref a)) (h : (Cond.eq (Term.field t C n d) (Term.int k)).value a0 Z none Z [] = some true) : Fld Z Z.heap a C n d (.int k) := by
  have e1 : (Term.field t C n d).eval a0 Z none [] Z = Z.fieldOf? a C n d := fld_at ev
  simp only [Cond.value, e1] at h
  cases hq : Z.fieldOf? a C n d with
  | none => simp [hq] at h
  | some v =>
    rw [hq] at h
    cases v <;> simp [Term.eval] at h
    subst h
    exact Fld.start hq
theorem own_narb {z : Int32} (h : z = 0 ∨ z = 1) : nar .boolean z = z := by rcases h with rfl | rfl <;> rfl
theorem own_stk {Z : State} {h h' : Heap} {C n d : String} {v : Value} {ws : List Addr} (F : Sta Z h C n d v) (K : Keep h h' ws) (q : ∀ x ∈ ws, ∀ c : Cell, h[x]? = some c → c.vm.isStatics = false) : Sta Z h' C n d v := by
  obtain ⟨cf, i, k, f, st, cell, h1, h2, h3, h4, h5, h6, h7⟩ := F
  exact ⟨cf, i, k, f, st, cell, h1, h2, h3, h4, K.2.1 st cell h5 (fun z => by rw [q st z cell h5] at h6; cases h6), h6, h7⟩
theorem own_npE {Z : State} {h : Heap} {a : Addr} {C : String} (E : Exa Z h a C) : ∀ c : Cell, h[a]? = some c → c.vm.isStatics = false := fun c hc => by
  obtain ⟨cell, k, h1, h2, h3, h4, h5⟩ := E
  cases h1.symm.trans hc
  exact h4
theorem own_npA {Z : State} {h : Heap} {a : Addr} {k : ClassId} {ty : FieldType} {z : Int32} {vs : List Value} {dv : Value} (V : Arv Z h a k ty z vs dv) : ∀ c : Cell, h[a]? = some c → c.vm.isStatics = false := fun c hc => by
  obtain ⟨cl, A, r⟩ := V
  cases A.1.symm.trans hc
  exact A.plain
theorem own_len {Z : State} {a0 : Array Value} {t : Term} {a : Addr} {cl : Cell} {ty : FieldType} {k : Int32} (ev : t.eval a0 Z none [] Z = some (.ref a)) (A : Arr Z Z.heap a cl ty) (h : (Cond.eq (Term.length t) (Term.int k)).value a0 Z none Z [] = some true) : cl.slots.size < 2 ^ 31 ∧ cl.slots.size.toInt32 = k := by
  have ha : Z.arrayAt? a = some cl := IntBox.arrayAt_of A.1 A.2.1 A.2.2
  simp only [Cond.value, Term.eval, ev, Option.bind_eq_bind, Option.bind_some, ha] at h
  by_cases q : cl.slots.size < 2 ^ 31
  · simp [q] at h; exact ⟨q, h⟩
  · simp [q] at h
theorem own_elem {Z : State} {a0 : Array Value} {t : Term} {a : Addr} {cl : Cell} {ty : FieldType} {j v : Int32} (ev : t.eval a0 Z none [] Z = some (.ref a)) (A : Arr Z Z.heap a cl ty) (hj : ¬ j < 0) (h : (Cond.eq (Term.elem t (Term.int j)) (Term.int v)).value a0 Z none Z [] = some true) : cl.slots[j.toNatClampNeg]? = some (.int v) := by
  have ha : Z.arrayAt? a = some cl := IntBox.arrayAt_of A.1 A.2.1 A.2.2
  have e1 : (Term.elem t (Term.int j)).eval a0 Z none [] Z = cl.slots[j.toNatClampNeg]? := elem_f ev rfl ha hj
  simp only [Cond.value, e1] at h
  cases hq : cl.slots[j.toNatClampNeg]? with
  | none => simp [hq] at h
  | some w =>
    rw [hq] at h
    cases w <;> simp [Term.eval] at h
    rw [h]
theorem own_arvex {Z : State} {a : Addr} {cl : Cell} {ty : FieldType} {z : Int32} {dv : Value} (hf : Fit Z) (A : Arr Z Z.heap a cl ty) (q : cl.slots.size < 2 ^ 31) (e : cl.slots.size.toInt32 = z) (hz : ¬ z < 0) : ∃ vs, Arv Z Z.heap a cl.cls ty z vs dv := by
  have S : cl.slots.size = z.toNatClampNeg := by rw [← e]; simp only [Int32.toNatClampNeg, len_toInt q]; rfl
  have H : Has cl cl.slots.toList dv := fun k hk => by
    rw [List.getD_eq_getElem?_getD, Array.getElem?_toList, Array.getElem?_eq_getElem hk]; rfl
  refine ⟨cl.slots.toList, cl, A, rfl, S, hz, H, fun j hj => ?_⟩
  have e1 : (Nat.toInt32 j).toNatClampNeg = j := by simp only [Int32.toNatClampNeg, len_toInt (Nat.lt_trans hj q)]; rfl
  exact elem_fits (j := Nat.toInt32 j) hf A (idx_in hj q) (by rw [e1]; exact H j hj)
theorem own_selp {s : State} {args : Array Value} {y : MethodName} {n : Nat} (wi : (Cond.instantiable y.cls n).before args s = true) (hp : s.PrivateAt y) (hi : (Cond.instanceMethod y).before args s = true) (hy : y.cls ≠ "java/lang/invoke/MethodHandle" ∧ y.cls ≠ "java/lang/invoke/VarHandle") : (Cond.selects y.cls y y).before args s = true := by
  obtain ⟨c, k, hc, hk, -, hf, -⟩ := Cond.instantiable_spec wi
  exact selects_self_of_private hc hk (by simp only [Bool.or_eq_false_iff] at hf; exact hf.1) hp hi hy
theorem own_nar0 : nar .boolean (0 : Int32) = 0 := rfl
theorem own_nar1 : nar .boolean (1 : Int32) = 1 := rfl
end Own

def own_A (v d : Int32) : Prop := (¬ v < 97 ∧ ¬ 122 < v) ∨ (¬ v < 65 ∧ ¬ 90 < v) ∨ v = 95 ∨ ¬ v < 128 ∨ (¬ d = 0 ∧ ¬ v < 48 ∧ ¬ 57 < v)
def own_P (v d z : Int32) : Prop := (z = 1 ∧ own_A v d) ∨ (z = 0 ∧ ¬ own_A v d)
theorem own_fold0 : ∀ n : Fin 128, ((¬ (Int32.ofNat n.val ||| 32) < 97 ∧ ¬ (122 : Int32) < (Int32.ofNat n.val ||| 32)) ↔ ((¬ Int32.ofNat n.val < 97 ∧ ¬ (122 : Int32) < Int32.ofNat n.val) ∨ (¬ Int32.ofNat n.val < 65 ∧ ¬ (90 : Int32) < Int32.ofNat n.val))) := by decide +kernel
theorem own_fold (v : Int32) (h0 : 0 ≤ v.toInt) (h1 : v < 128) : ((¬ (v ||| 32) < 97 ∧ ¬ (122 : Int32) < (v ||| 32)) ↔ ((¬ v < 97 ∧ ¬ (122 : Int32) < v) ∨ (¬ v < 65 ∧ ¬ (90 : Int32) < v))) := by
  have e : (128 : Int32).toInt = 128 := rfl
  rw [Int32.lt_iff_toInt_lt, e] at h1
  obtain ⟨n, hn⟩ : ∃ n : Nat, v.toInt = n := ⟨v.toInt.toNat, by omega⟩
  have hv : v = Int32.ofNat n := Int32.toInt_inj.mp (by rw [hn]; exact (len_toInt (by omega)).symm)
  have := own_fold0 ⟨n, by omega⟩
  rw [hv]; exact this
theorem own_u {v d z z' : Int32} (h : own_P v d z) (h' : own_P v d z') : z = z' := by
  rcases h with ⟨a, b⟩ | ⟨a, b⟩ <;> rcases h' with ⟨q, r⟩ | ⟨q, r⟩
  · rw [a, q]
  · exact absurd b r
  · exact absurd r b
  · rw [a, q]

theorem d1_0 : decode prog_102_method_15_code 0 = .ok (.iload_n 0, 1) := by decide +kernel
theorem d1_1 : decode prog_102_method_15_code 1 = .ok (.bipush 97, 2) := by decide +kernel
theorem d1_3 : decode prog_102_method_15_code 3 = .ok (.if_icmp .lt 9, 3) := by decide +kernel
theorem d1_6 : decode prog_102_method_15_code 6 = .ok (.iload_n 0, 1) := by decide +kernel
theorem d1_7 : decode prog_102_method_15_code 7 = .ok (.bipush 122, 2) := by decide +kernel
theorem d1_9 : decode prog_102_method_15_code 9 = .ok (.if_icmp .le 44, 3) := by decide +kernel
theorem d1_12 : decode prog_102_method_15_code 12 = .ok (.iload_n 0, 1) := by decide +kernel
theorem d1_13 : decode prog_102_method_15_code 13 = .ok (.bipush 65, 2) := by decide +kernel
theorem d1_15 : decode prog_102_method_15_code 15 = .ok (.if_icmp .lt 9, 3) := by decide +kernel
theorem d1_18 : decode prog_102_method_15_code 18 = .ok (.iload_n 0, 1) := by decide +kernel
theorem d1_19 : decode prog_102_method_15_code 19 = .ok (.bipush 90, 2) := by decide +kernel
theorem d1_21 : decode prog_102_method_15_code 21 = .ok (.if_icmp .le 32, 3) := by decide +kernel
theorem d1_24 : decode prog_102_method_15_code 24 = .ok (.iload_n 0, 1) := by decide +kernel
theorem d1_25 : decode prog_102_method_15_code 25 = .ok (.bipush 95, 2) := by decide +kernel
theorem d1_27 : decode prog_102_method_15_code 27 = .ok (.if_icmp .eq 26, 3) := by decide +kernel
theorem d1_30 : decode prog_102_method_15_code 30 = .ok (.iload_n 0, 1) := by decide +kernel
theorem d1_31 : decode prog_102_method_15_code 31 = .ok (.sipush 128, 3) := by decide +kernel
theorem d1_34 : decode prog_102_method_15_code 34 = .ok (.if_icmp .ge 19, 3) := by decide +kernel
theorem d1_37 : decode prog_102_method_15_code 37 = .ok (.iload_n 1, 1) := by decide +kernel
theorem d1_38 : decode prog_102_method_15_code 38 = .ok (.ifCond .eq 19, 3) := by decide +kernel
theorem d1_41 : decode prog_102_method_15_code 41 = .ok (.iload_n 0, 1) := by decide +kernel
theorem d1_42 : decode prog_102_method_15_code 42 = .ok (.bipush 48, 2) := by decide +kernel
theorem d1_44 : decode prog_102_method_15_code 44 = .ok (.if_icmp .lt 13, 3) := by decide +kernel
theorem d1_47 : decode prog_102_method_15_code 47 = .ok (.iload_n 0, 1) := by decide +kernel
theorem d1_48 : decode prog_102_method_15_code 48 = .ok (.bipush 57, 2) := by decide +kernel
theorem d1_50 : decode prog_102_method_15_code 50 = .ok (.if_icmp .gt 7, 3) := by decide +kernel
theorem d1_53 : decode prog_102_method_15_code 53 = .ok (.iconst 1, 1) := by decide +kernel
theorem d1_54 : decode prog_102_method_15_code 54 = .ok (.goto 4, 3) := by decide +kernel
theorem d1_57 : decode prog_102_method_15_code 57 = .ok (.iconst 0, 1) := by decide +kernel
theorem d1_58 : decode prog_102_method_15_code 58 = .ok (.ireturn, 1) := by decide +kernel
theorem own_pn1 : plainName "com/example/opzet/opzet/ScriptText" = true := by first | (simp [plainName, overriddenIn]; done) | decide +kernel
theorem own_ef1 (m : MethodId) (x0 : Int32) (x1 : Int32) : entryFrame m #[(.int x0), (.int x1)] 2 = (mkF m 0 #[.val (.int x0), .val (.int x1)] []) := by first | (simp [entryFrame, mkF, argsToLocals, Value.category]; done) | rfl
def Q1 (Z : State) (x0 : Int32) (x1 : Int32)  (h0 : Heap) (n0 : Nat) (v : Option Value) (h : Heap) (L : List Loc) : Prop := (∃ z : Int32, v = some (.int z) ∧ (own_P x0 x1 z)) ∧ Fr n0 L ∧ h = h0
set_option maxRecDepth 65536 in
set_option maxHeartbeats 40000000 in
theorem rm1 (l : Launch) (Z : State) (a0 : Array Value) (hw : ∀ d ∈ tables_1, d.before a0 Z = true) (ws : List Jvm.Cond) (x0 : Int32) (x1 : Int32)  (h0 : Heap) (n0 : Nat) (Z0 : n0 ≤ h0.size)  :
    MetFree l (⟨"com/example/opzet/opzet/ScriptText", "isNameCharacter", "(CZ)Z"⟩ : MethodName) (head1 (Jvm.Cond.code (⟨"com/example/opzet/opzet/ScriptText", "isNameCharacter", "(CZ)Z"⟩ : MethodName) prog_102_method_15_code 2 (some .boolean) :: ws) ({ frames := 0, cells := 0, slots := 0, locals := 0 } : Room)) (fun a U => a = #[(.int x0), (.int x1)] ∧ Z.Warmed39 U.vm ∧ U.heap = h0) (fun _ _ _ _ _ => True) (fun _ U oc U' => ∃ v L, oc = .returned v ∧ Q1 Z x0 x1  h0 n0 v U'.heap L ∧ FrameEnd U oc U' L ({ frames := 0, cells := 0, slots := 0, locals := 0 } : Room).cells ({ frames := 0, cells := 0, slots := 0, locals := 0 } : Room).slots) := by
  refine MetFree.of_bodySF (plainFor_of_name own_pn1) hisR ?_
  intro p e s m args below meth c s₁ Bd hml0 hP hK
  obtain ⟨rfl, hZ, hh⟩ := hP
  have hx := Bd.exec
  have hby := Bd.bytes
  have hlk : meth.locks = false := BodyLoose.notSynchronized Bd
  have hml : c.maxLocals = 2 := hml0
  have hown : s.vm.findClass "com/example/opzet/opzet/ScriptText" = some m.cls := findClass_of_methodNamed Bd.named
  have hnm := (name_of_methodNamed Bd.named Bd.method).1
  have X0 : Stand p l e ({ frames := 0, cells := 0, slots := 0, locals := 0 } : Room) s m #[(.int x0), (.int x1)] below meth c s₁ [] 0 0 := Stand.of_body Bd
  have e0 : s₁.heap = h0 := by rw [← hh, Bd.state]; rfl
  have N0 := Fr.nil n0
  refine own_enter (own_ef1 m x0 x1) ?_
  show own_Go p e below s (Q1 Z x0 x1  h0 n0) ({ frames := 0, cells := 0, slots := 0, locals := 0 } : Room).cells ({ frames := 0, cells := 0, slots := 0, locals := 0 } : Room).slots s₁ (mkF m 0 #[.val (.int x0), .val (.int x1)] [])
  refine own_st (T' := s₁) (F' := (mkF m 1 #[.val (.int x0), .val (.int x1)] [(.int x0)])) (fun _ k => XS.iloadN X0.here hx rfl (hb hby d1_0) rfl  k) ?_
  refine own_st (T' := s₁) (F' := (mkF m 3 #[.val (.int x0), .val (.int x1)] [(.int (97 : Int32)), (.int x0)])) (fun _ k => XS.bipush X0.here hx rfl (hb hby d1_1) k) ?_
  have J58_1 : ∀ (j58_1 : Int32), (((x0 < (97 : Int32)) ∧ (x0 < (65 : Int32)) ∧ (x0 = (95 : Int32)) ∧ j58_1 = (1 : Int32)) ∨ ((x0 < (97 : Int32)) ∧ (x0 < (65 : Int32)) ∧ (¬ (x0 = (95 : Int32))) ∧ (¬ (x0 < (128 : Int32))) ∧ j58_1 = (1 : Int32)) ∨ ((x0 < (97 : Int32)) ∧ (x0 < (65 : Int32)) ∧ (¬ (x0 = (95 : Int32))) ∧ (x0 < (128 : Int32)) ∧ (x1 = (0 : Int32)) ∧ j58_1 = (0 : Int32)) ∨ ((x0 < (97 : Int32)) ∧ (x0 < (65 : Int32)) ∧ (¬ (x0 = (95 : Int32))) ∧ (x0 < (128 : Int32)) ∧ (¬ (x1 = (0 : Int32))) ∧ (x0 < (48 : Int32)) ∧ j58_1 = (0 : Int32)) ∨ ((x0 < (97 : Int32)) ∧ (x0 < (65 : Int32)) ∧ (¬ (x0 = (95 : Int32))) ∧ (x0 < (128 : Int32)) ∧ (¬ (x1 = (0 : Int32))) ∧ (¬ (x0 < (48 : Int32))) ∧ ((57 : Int32) < x0) ∧ j58_1 = (0 : Int32)) ∨ ((x0 < (97 : Int32)) ∧ (x0 < (65 : Int32)) ∧ (¬ (x0 = (95 : Int32))) ∧ (x0 < (128 : Int32)) ∧ (¬ (x1 = (0 : Int32))) ∧ (¬ (x0 < (48 : Int32))) ∧ (¬ ((57 : Int32) < x0)) ∧ j58_1 = (1 : Int32)) ∨ ((x0 < (97 : Int32)) ∧ (¬ (x0 < (65 : Int32))) ∧ (¬ ((90 : Int32) < x0)) ∧ j58_1 = (1 : Int32)) ∨ ((x0 < (97 : Int32)) ∧ (¬ (x0 < (65 : Int32))) ∧ ((90 : Int32) < x0) ∧ (x0 = (95 : Int32)) ∧ j58_1 = (1 : Int32)) ∨ ((x0 < (97 : Int32)) ∧ (¬ (x0 < (65 : Int32))) ∧ ((90 : Int32) < x0) ∧ (¬ (x0 = (95 : Int32))) ∧ (¬ (x0 < (128 : Int32))) ∧ j58_1 = (1 : Int32)) ∨ ((x0 < (97 : Int32)) ∧ (¬ (x0 < (65 : Int32))) ∧ ((90 : Int32) < x0) ∧ (¬ (x0 = (95 : Int32))) ∧ (x0 < (128 : Int32)) ∧ (x1 = (0 : Int32)) ∧ j58_1 = (0 : Int32)) ∨ ((x0 < (97 : Int32)) ∧ (¬ (x0 < (65 : Int32))) ∧ ((90 : Int32) < x0) ∧ (¬ (x0 = (95 : Int32))) ∧ (x0 < (128 : Int32)) ∧ (¬ (x1 = (0 : Int32))) ∧ (x0 < (48 : Int32)) ∧ j58_1 = (0 : Int32)) ∨ ((x0 < (97 : Int32)) ∧ (¬ (x0 < (65 : Int32))) ∧ ((90 : Int32) < x0) ∧ (¬ (x0 = (95 : Int32))) ∧ (x0 < (128 : Int32)) ∧ (¬ (x1 = (0 : Int32))) ∧ (¬ (x0 < (48 : Int32))) ∧ ((57 : Int32) < x0) ∧ j58_1 = (0 : Int32)) ∨ ((x0 < (97 : Int32)) ∧ (¬ (x0 < (65 : Int32))) ∧ ((90 : Int32) < x0) ∧ (¬ (x0 = (95 : Int32))) ∧ (x0 < (128 : Int32)) ∧ (¬ (x1 = (0 : Int32))) ∧ (¬ (x0 < (48 : Int32))) ∧ (¬ ((57 : Int32) < x0)) ∧ j58_1 = (1 : Int32)) ∨ ((¬ (x0 < (97 : Int32))) ∧ (¬ ((122 : Int32) < x0)) ∧ j58_1 = (1 : Int32)) ∨ ((¬ (x0 < (97 : Int32))) ∧ ((122 : Int32) < x0) ∧ (x0 < (65 : Int32)) ∧ (x0 = (95 : Int32)) ∧ j58_1 = (1 : Int32)) ∨ ((¬ (x0 < (97 : Int32))) ∧ ((122 : Int32) < x0) ∧ (x0 < (65 : Int32)) ∧ (¬ (x0 = (95 : Int32))) ∧ (¬ (x0 < (128 : Int32))) ∧ j58_1 = (1 : Int32)) ∨ ((¬ (x0 < (97 : Int32))) ∧ ((122 : Int32) < x0) ∧ (x0 < (65 : Int32)) ∧ (¬ (x0 = (95 : Int32))) ∧ (x0 < (128 : Int32)) ∧ (x1 = (0 : Int32)) ∧ j58_1 = (0 : Int32)) ∨ ((¬ (x0 < (97 : Int32))) ∧ ((122 : Int32) < x0) ∧ (x0 < (65 : Int32)) ∧ (¬ (x0 = (95 : Int32))) ∧ (x0 < (128 : Int32)) ∧ (¬ (x1 = (0 : Int32))) ∧ (x0 < (48 : Int32)) ∧ j58_1 = (0 : Int32)) ∨ ((¬ (x0 < (97 : Int32))) ∧ ((122 : Int32) < x0) ∧ (x0 < (65 : Int32)) ∧ (¬ (x0 = (95 : Int32))) ∧ (x0 < (128 : Int32)) ∧ (¬ (x1 = (0 : Int32))) ∧ (¬ (x0 < (48 : Int32))) ∧ ((57 : Int32) < x0) ∧ j58_1 = (0 : Int32)) ∨ ((¬ (x0 < (97 : Int32))) ∧ ((122 : Int32) < x0) ∧ (x0 < (65 : Int32)) ∧ (¬ (x0 = (95 : Int32))) ∧ (x0 < (128 : Int32)) ∧ (¬ (x1 = (0 : Int32))) ∧ (¬ (x0 < (48 : Int32))) ∧ (¬ ((57 : Int32) < x0)) ∧ j58_1 = (1 : Int32)) ∨ ((¬ (x0 < (97 : Int32))) ∧ ((122 : Int32) < x0) ∧ (¬ (x0 < (65 : Int32))) ∧ (¬ ((90 : Int32) < x0)) ∧ j58_1 = (1 : Int32)) ∨ ((¬ (x0 < (97 : Int32))) ∧ ((122 : Int32) < x0) ∧ (¬ (x0 < (65 : Int32))) ∧ ((90 : Int32) < x0) ∧ (x0 = (95 : Int32)) ∧ j58_1 = (1 : Int32)) ∨ ((¬ (x0 < (97 : Int32))) ∧ ((122 : Int32) < x0) ∧ (¬ (x0 < (65 : Int32))) ∧ ((90 : Int32) < x0) ∧ (¬ (x0 = (95 : Int32))) ∧ (¬ (x0 < (128 : Int32))) ∧ j58_1 = (1 : Int32)) ∨ ((¬ (x0 < (97 : Int32))) ∧ ((122 : Int32) < x0) ∧ (¬ (x0 < (65 : Int32))) ∧ ((90 : Int32) < x0) ∧ (¬ (x0 = (95 : Int32))) ∧ (x0 < (128 : Int32)) ∧ (x1 = (0 : Int32)) ∧ j58_1 = (0 : Int32)) ∨ ((¬ (x0 < (97 : Int32))) ∧ ((122 : Int32) < x0) ∧ (¬ (x0 < (65 : Int32))) ∧ ((90 : Int32) < x0) ∧ (¬ (x0 = (95 : Int32))) ∧ (x0 < (128 : Int32)) ∧ (¬ (x1 = (0 : Int32))) ∧ (x0 < (48 : Int32)) ∧ j58_1 = (0 : Int32)) ∨ ((¬ (x0 < (97 : Int32))) ∧ ((122 : Int32) < x0) ∧ (¬ (x0 < (65 : Int32))) ∧ ((90 : Int32) < x0) ∧ (¬ (x0 = (95 : Int32))) ∧ (x0 < (128 : Int32)) ∧ (¬ (x1 = (0 : Int32))) ∧ (¬ (x0 < (48 : Int32))) ∧ ((57 : Int32) < x0) ∧ j58_1 = (0 : Int32)) ∨ ((¬ (x0 < (97 : Int32))) ∧ ((122 : Int32) < x0) ∧ (¬ (x0 < (65 : Int32))) ∧ ((90 : Int32) < x0) ∧ (¬ (x0 = (95 : Int32))) ∧ (x0 < (128 : Int32)) ∧ (¬ (x1 = (0 : Int32))) ∧ (¬ (x0 < (48 : Int32))) ∧ (¬ ((57 : Int32) < x0)) ∧ j58_1 = (1 : Int32))) → own_Go p e below s (Q1 Z x0 x1  h0 n0) ({ frames := 0, cells := 0, slots := 0, locals := 0 } : Room).cells ({ frames := 0, cells := 0, slots := 0, locals := 0 } : Room).slots s₁ (mkF m 58 #[.val (.int x0), .val (.int x1)] [(.int j58_1)]) := by
    intro j58_1 hJ58_1
    refine own_retN X0 hx hlk (t := .boolean) Bd.returns (by simp) (hb hby d1_58) ?_ (by decide) (by decide)
    rw [e0]
    refine ⟨⟨_, rfl, ?_⟩, N0, rfl⟩
    have hb : j58_1 = 0 ∨ j58_1 = 1 := by
      simp only [Int32.lt_iff_toInt_lt, ← Int32.toInt_inj, show (0 : Int32).toInt = 0 from rfl, show (1 : Int32).toInt = 1 from rfl, show (48 : Int32).toInt = 48 from rfl, show (57 : Int32).toInt = 57 from rfl, show (65 : Int32).toInt = 65 from rfl, show (90 : Int32).toInt = 90 from rfl, show (95 : Int32).toInt = 95 from rfl, show (97 : Int32).toInt = 97 from rfl, show (122 : Int32).toInt = 122 from rfl, show (128 : Int32).toInt = 128 from rfl] at hJ58_1 ⊢
      omega
    rw [own_narb hb]
    simp only [own_P, own_A, Int32.lt_iff_toInt_lt, ← Int32.toInt_inj, show (0 : Int32).toInt = 0 from rfl, show (1 : Int32).toInt = 1 from rfl, show (48 : Int32).toInt = 48 from rfl, show (57 : Int32).toInt = 57 from rfl, show (65 : Int32).toInt = 65 from rfl, show (90 : Int32).toInt = 90 from rfl, show (95 : Int32).toInt = 95 from rfl, show (97 : Int32).toInt = 97 from rfl, show (122 : Int32).toInt = 122 from rfl, show (128 : Int32).toInt = 128 from rfl] at hJ58_1 ⊢
    omega
  refine own_icmp X0 hx (pc' := 12) (pc2 := 6) (hb hby d1_3) (by decide) (by decide) rfl (fun (hc3 : x0 < (97 : Int32)) => ?_) (fun (hc3 : ¬ (x0 < (97 : Int32))) => ?_)
  ·
    refine own_st (T' := s₁) (F' := (mkF m 13 #[.val (.int x0), .val (.int x1)] [(.int x0)])) (fun _ k => XS.iloadN X0.here hx rfl (hb hby d1_12) rfl  k) ?_
    refine own_st (T' := s₁) (F' := (mkF m 15 #[.val (.int x0), .val (.int x1)] [(.int (65 : Int32)), (.int x0)])) (fun _ k => XS.bipush X0.here hx rfl (hb hby d1_13) k) ?_
    refine own_icmp X0 hx (pc' := 24) (pc2 := 18) (hb hby d1_15) (by decide) (by decide) rfl (fun (hc15 : x0 < (65 : Int32)) => ?_) (fun (hc15 : ¬ (x0 < (65 : Int32))) => ?_)
    ·
      refine own_st (T' := s₁) (F' := (mkF m 25 #[.val (.int x0), .val (.int x1)] [(.int x0)])) (fun _ k => XS.iloadN X0.here hx rfl (hb hby d1_24) rfl  k) ?_
      refine own_st (T' := s₁) (F' := (mkF m 27 #[.val (.int x0), .val (.int x1)] [(.int (95 : Int32)), (.int x0)])) (fun _ k => XS.bipush X0.here hx rfl (hb hby d1_25) k) ?_
      refine own_icmp X0 hx (pc' := 53) (pc2 := 30) (hb hby d1_27) (by decide) (by decide) rfl (fun (hc27 : x0 = (95 : Int32)) => ?_) (fun (hc27 : ¬ (x0 = (95 : Int32))) => ?_)
      ·
        refine own_st (T' := s₁) (F' := (mkF m 54 #[.val (.int x0), .val (.int x1)] [(.int (1 : Int32))])) (fun _ k => XS.iconst X0.here hx rfl (hb hby d1_53) k) ?_
        refine own_st (T' := s₁) (F' := (mkF m 58 #[.val (.int x0), .val (.int x1)] [(.int (1 : Int32))])) (fun _ k => XS.goto X0.here hx rfl (pc0 := 54) (pc' := 58) rfl (hb hby d1_54) (by decide) (by decide) k) ?_
        exact J58_1 (1 : Int32) (Or.inl (⟨hc3, hc15, hc27, rfl⟩))
      ·
        refine own_st (T' := s₁) (F' := (mkF m 31 #[.val (.int x0), .val (.int x1)] [(.int x0)])) (fun _ k => XS.iloadN X0.here hx rfl (hb hby d1_30) rfl  k) ?_
        refine own_st (T' := s₁) (F' := (mkF m 34 #[.val (.int x0), .val (.int x1)] [(.int (128 : Int32)), (.int x0)])) (fun _ k => XS.sipush X0.here hx rfl (hb hby d1_31) k) ?_
        refine own_icmp X0 hx (pc' := 53) (pc2 := 37) (hb hby d1_34) (by decide) (by decide) rfl (fun (hc34 : ¬ (x0 < (128 : Int32))) => ?_) (fun (hc34 : x0 < (128 : Int32)) => ?_)
        ·
          refine own_st (T' := s₁) (F' := (mkF m 54 #[.val (.int x0), .val (.int x1)] [(.int (1 : Int32))])) (fun _ k => XS.iconst X0.here hx rfl (hb hby d1_53) k) ?_
          refine own_st (T' := s₁) (F' := (mkF m 58 #[.val (.int x0), .val (.int x1)] [(.int (1 : Int32))])) (fun _ k => XS.goto X0.here hx rfl (pc0 := 54) (pc' := 58) rfl (hb hby d1_54) (by decide) (by decide) k) ?_
          exact J58_1 (1 : Int32) (Or.inr (Or.inl (⟨hc3, hc15, hc27, hc34, rfl⟩)))
        ·
          refine own_st (T' := s₁) (F' := (mkF m 38 #[.val (.int x0), .val (.int x1)] [(.int x1)])) (fun _ k => XS.iloadN X0.here hx rfl (hb hby d1_37) rfl  k) ?_
          refine own_ifc X0 hx (pc' := 57) (pc2 := 41) (hb hby d1_38) (by decide) (by decide) rfl (fun (hc38 : x1 = (0 : Int32)) => ?_) (fun (hc38 : ¬ (x1 = (0 : Int32))) => ?_)
          ·
            refine own_st (T' := s₁) (F' := (mkF m 58 #[.val (.int x0), .val (.int x1)] [(.int (0 : Int32))])) (fun _ k => XS.iconst X0.here hx rfl (hb hby d1_57) k) ?_
            exact J58_1 (0 : Int32) (Or.inr (Or.inr (Or.inl (⟨hc3, hc15, hc27, hc34, hc38, rfl⟩))))
          ·
            refine own_st (T' := s₁) (F' := (mkF m 42 #[.val (.int x0), .val (.int x1)] [(.int x0)])) (fun _ k => XS.iloadN X0.here hx rfl (hb hby d1_41) rfl  k) ?_
            refine own_st (T' := s₁) (F' := (mkF m 44 #[.val (.int x0), .val (.int x1)] [(.int (48 : Int32)), (.int x0)])) (fun _ k => XS.bipush X0.here hx rfl (hb hby d1_42) k) ?_
            refine own_icmp X0 hx (pc' := 57) (pc2 := 47) (hb hby d1_44) (by decide) (by decide) rfl (fun (hc44 : x0 < (48 : Int32)) => ?_) (fun (hc44 : ¬ (x0 < (48 : Int32))) => ?_)
            ·
              refine own_st (T' := s₁) (F' := (mkF m 58 #[.val (.int x0), .val (.int x1)] [(.int (0 : Int32))])) (fun _ k => XS.iconst X0.here hx rfl (hb hby d1_57) k) ?_
              exact J58_1 (0 : Int32) (Or.inr (Or.inr (Or.inr (Or.inl (⟨hc3, hc15, hc27, hc34, hc38, hc44, rfl⟩)))))
            ·
              refine own_st (T' := s₁) (F' := (mkF m 48 #[.val (.int x0), .val (.int x1)] [(.int x0)])) (fun _ k => XS.iloadN X0.here hx rfl (hb hby d1_47) rfl  k) ?_
              refine own_st (T' := s₁) (F' := (mkF m 50 #[.val (.int x0), .val (.int x1)] [(.int (57 : Int32)), (.int x0)])) (fun _ k => XS.bipush X0.here hx rfl (hb hby d1_48) k) ?_
              refine own_icmp X0 hx (pc' := 57) (pc2 := 53) (hb hby d1_50) (by decide) (by decide) rfl (fun (hc50 : (57 : Int32) < x0) => ?_) (fun (hc50 : ¬ ((57 : Int32) < x0)) => ?_)
              ·
                refine own_st (T' := s₁) (F' := (mkF m 58 #[.val (.int x0), .val (.int x1)] [(.int (0 : Int32))])) (fun _ k => XS.iconst X0.here hx rfl (hb hby d1_57) k) ?_
                exact J58_1 (0 : Int32) (Or.inr (Or.inr (Or.inr (Or.inr (Or.inl (⟨hc3, hc15, hc27, hc34, hc38, hc44, hc50, rfl⟩))))))
              ·
                refine own_st (T' := s₁) (F' := (mkF m 54 #[.val (.int x0), .val (.int x1)] [(.int (1 : Int32))])) (fun _ k => XS.iconst X0.here hx rfl (hb hby d1_53) k) ?_
                refine own_st (T' := s₁) (F' := (mkF m 58 #[.val (.int x0), .val (.int x1)] [(.int (1 : Int32))])) (fun _ k => XS.goto X0.here hx rfl (pc0 := 54) (pc' := 58) rfl (hb hby d1_54) (by decide) (by decide) k) ?_
                exact J58_1 (1 : Int32) (Or.inr (Or.inr (Or.inr (Or.inr (Or.inr (Or.inl (⟨hc3, hc15, hc27, hc34, hc38, hc44, hc50, rfl⟩)))))))
    ·
      refine own_st (T' := s₁) (F' := (mkF m 19 #[.val (.int x0), .val (.int x1)] [(.int x0)])) (fun _ k => XS.iloadN X0.here hx rfl (hb hby d1_18) rfl  k) ?_
      refine own_st (T' := s₁) (F' := (mkF m 21 #[.val (.int x0), .val (.int x1)] [(.int (90 : Int32)), (.int x0)])) (fun _ k => XS.bipush X0.here hx rfl (hb hby d1_19) k) ?_
      refine own_icmp X0 hx (pc' := 53) (pc2 := 24) (hb hby d1_21) (by decide) (by decide) rfl (fun (hc21 : ¬ ((90 : Int32) < x0)) => ?_) (fun (hc21 : (90 : Int32) < x0) => ?_)
      ·
        refine own_st (T' := s₁) (F' := (mkF m 54 #[.val (.int x0), .val (.int x1)] [(.int (1 : Int32))])) (fun _ k => XS.iconst X0.here hx rfl (hb hby d1_53) k) ?_
        refine own_st (T' := s₁) (F' := (mkF m 58 #[.val (.int x0), .val (.int x1)] [(.int (1 : Int32))])) (fun _ k => XS.goto X0.here hx rfl (pc0 := 54) (pc' := 58) rfl (hb hby d1_54) (by decide) (by decide) k) ?_
        exact J58_1 (1 : Int32) (Or.inr (Or.inr (Or.inr (Or.inr (Or.inr (Or.inr (Or.inl (⟨hc3, hc15, hc21, rfl⟩))))))))
      ·
        refine own_st (T' := s₁) (F' := (mkF m 25 #[.val (.int x0), .val (.int x1)] [(.int x0)])) (fun _ k => XS.iloadN X0.here hx rfl (hb hby d1_24) rfl  k) ?_
        refine own_st (T' := s₁) (F' := (mkF m 27 #[.val (.int x0), .val (.int x1)] [(.int (95 : Int32)), (.int x0)])) (fun _ k => XS.bipush X0.here hx rfl (hb hby d1_25) k) ?_
        refine own_icmp X0 hx (pc' := 53) (pc2 := 30) (hb hby d1_27) (by decide) (by decide) rfl (fun (hc27 : x0 = (95 : Int32)) => ?_) (fun (hc27 : ¬ (x0 = (95 : Int32))) => ?_)
        ·
          refine own_st (T' := s₁) (F' := (mkF m 54 #[.val (.int x0), .val (.int x1)] [(.int (1 : Int32))])) (fun _ k => XS.iconst X0.here hx rfl (hb hby d1_53) k) ?_
          refine own_st (T' := s₁) (F' := (mkF m 58 #[.val (.int x0), .val (.int x1)] [(.int (1 : Int32))])) (fun _ k => XS.goto X0.here hx rfl (pc0 := 54) (pc' := 58) rfl (hb hby d1_54) (by decide) (by decide) k) ?_
          exact J58_1 (1 : Int32) (Or.inr (Or.inr (Or.inr (Or.inr (Or.inr (Or.inr (Or.inr (Or.inl (⟨hc3, hc15, hc21, hc27, rfl⟩)))))))))
        ·
          refine own_st (T' := s₁) (F' := (mkF m 31 #[.val (.int x0), .val (.int x1)] [(.int x0)])) (fun _ k => XS.iloadN X0.here hx rfl (hb hby d1_30) rfl  k) ?_
          refine own_st (T' := s₁) (F' := (mkF m 34 #[.val (.int x0), .val (.int x1)] [(.int (128 : Int32)), (.int x0)])) (fun _ k => XS.sipush X0.here hx rfl (hb hby d1_31) k) ?_
          refine own_icmp X0 hx (pc' := 53) (pc2 := 37) (hb hby d1_34) (by decide) (by decide) rfl (fun (hc34 : ¬ (x0 < (128 : Int32))) => ?_) (fun (hc34 : x0 < (128 : Int32)) => ?_)
          ·
            refine own_st (T' := s₁) (F' := (mkF m 54 #[.val (.int x0), .val (.int x1)] [(.int (1 : Int32))])) (fun _ k => XS.iconst X0.here hx rfl (hb hby d1_53) k) ?_
            refine own_st (T' := s₁) (F' := (mkF m 58 #[.val (.int x0), .val (.int x1)] [(.int (1 : Int32))])) (fun _ k => XS.goto X0.here hx rfl (pc0 := 54) (pc' := 58) rfl (hb hby d1_54) (by decide) (by decide) k) ?_
            exact J58_1 (1 : Int32) (Or.inr (Or.inr (Or.inr (Or.inr (Or.inr (Or.inr (Or.inr (Or.inr (Or.inl (⟨hc3, hc15, hc21, hc27, hc34, rfl⟩))))))))))
          ·
            refine own_st (T' := s₁) (F' := (mkF m 38 #[.val (.int x0), .val (.int x1)] [(.int x1)])) (fun _ k => XS.iloadN X0.here hx rfl (hb hby d1_37) rfl  k) ?_
            refine own_ifc X0 hx (pc' := 57) (pc2 := 41) (hb hby d1_38) (by decide) (by decide) rfl (fun (hc38 : x1 = (0 : Int32)) => ?_) (fun (hc38 : ¬ (x1 = (0 : Int32))) => ?_)
            ·
              refine own_st (T' := s₁) (F' := (mkF m 58 #[.val (.int x0), .val (.int x1)] [(.int (0 : Int32))])) (fun _ k => XS.iconst X0.here hx rfl (hb hby d1_57) k) ?_
              exact J58_1 (0 : Int32) (Or.inr (Or.inr (Or.inr (Or.inr (Or.inr (Or.inr (Or.inr (Or.inr (Or.inr (Or.inl (⟨hc3, hc15, hc21, hc27, hc34, hc38, rfl⟩)))))))))))
            ·
              refine own_st (T' := s₁) (F' := (mkF m 42 #[.val (.int x0), .val (.int x1)] [(.int x0)])) (fun _ k => XS.iloadN X0.here hx rfl (hb hby d1_41) rfl  k) ?_
              refine own_st (T' := s₁) (F' := (mkF m 44 #[.val (.int x0), .val (.int x1)] [(.int (48 : Int32)), (.int x0)])) (fun _ k => XS.bipush X0.here hx rfl (hb hby d1_42) k) ?_
              refine own_icmp X0 hx (pc' := 57) (pc2 := 47) (hb hby d1_44) (by decide) (by decide) rfl (fun (hc44 : x0 < (48 : Int32)) => ?_) (fun (hc44 : ¬ (x0 < (48 : Int32))) => ?_)
              ·
                refine own_st (T' := s₁) (F' := (mkF m 58 #[.val (.int x0), .val (.int x1)] [(.int (0 : Int32))])) (fun _ k => XS.iconst X0.here hx rfl (hb hby d1_57) k) ?_
                exact J58_1 (0 : Int32) (Or.inr (Or.inr (Or.inr (Or.inr (Or.inr (Or.inr (Or.inr (Or.inr (Or.inr (Or.inr (Or.inl (⟨hc3, hc15, hc21, hc27, hc34, hc38, hc44, rfl⟩))))))))))))
              ·
                refine own_st (T' := s₁) (F' := (mkF m 48 #[.val (.int x0), .val (.int x1)] [(.int x0)])) (fun _ k => XS.iloadN X0.here hx rfl (hb hby d1_47) rfl  k) ?_
                refine own_st (T' := s₁) (F' := (mkF m 50 #[.val (.int x0), .val (.int x1)] [(.int (57 : Int32)), (.int x0)])) (fun _ k => XS.bipush X0.here hx rfl (hb hby d1_48) k) ?_
                refine own_icmp X0 hx (pc' := 57) (pc2 := 53) (hb hby d1_50) (by decide) (by decide) rfl (fun (hc50 : (57 : Int32) < x0) => ?_) (fun (hc50 : ¬ ((57 : Int32) < x0)) => ?_)
                ·
                  refine own_st (T' := s₁) (F' := (mkF m 58 #[.val (.int x0), .val (.int x1)] [(.int (0 : Int32))])) (fun _ k => XS.iconst X0.here hx rfl (hb hby d1_57) k) ?_
                  exact J58_1 (0 : Int32) (Or.inr (Or.inr (Or.inr (Or.inr (Or.inr (Or.inr (Or.inr (Or.inr (Or.inr (Or.inr (Or.inr (Or.inl (⟨hc3, hc15, hc21, hc27, hc34, hc38, hc44, hc50, rfl⟩)))))))))))))
                ·
                  refine own_st (T' := s₁) (F' := (mkF m 54 #[.val (.int x0), .val (.int x1)] [(.int (1 : Int32))])) (fun _ k => XS.iconst X0.here hx rfl (hb hby d1_53) k) ?_
                  refine own_st (T' := s₁) (F' := (mkF m 58 #[.val (.int x0), .val (.int x1)] [(.int (1 : Int32))])) (fun _ k => XS.goto X0.here hx rfl (pc0 := 54) (pc' := 58) rfl (hb hby d1_54) (by decide) (by decide) k) ?_
                  exact J58_1 (1 : Int32) (Or.inr (Or.inr (Or.inr (Or.inr (Or.inr (Or.inr (Or.inr (Or.inr (Or.inr (Or.inr (Or.inr (Or.inr (Or.inl (⟨hc3, hc15, hc21, hc27, hc34, hc38, hc44, hc50, rfl⟩))))))))))))))
  ·
    refine own_st (T' := s₁) (F' := (mkF m 7 #[.val (.int x0), .val (.int x1)] [(.int x0)])) (fun _ k => XS.iloadN X0.here hx rfl (hb hby d1_6) rfl  k) ?_
    refine own_st (T' := s₁) (F' := (mkF m 9 #[.val (.int x0), .val (.int x1)] [(.int (122 : Int32)), (.int x0)])) (fun _ k => XS.bipush X0.here hx rfl (hb hby d1_7) k) ?_
    refine own_icmp X0 hx (pc' := 53) (pc2 := 12) (hb hby d1_9) (by decide) (by decide) rfl (fun (hc9 : ¬ ((122 : Int32) < x0)) => ?_) (fun (hc9 : (122 : Int32) < x0) => ?_)
    ·
      refine own_st (T' := s₁) (F' := (mkF m 54 #[.val (.int x0), .val (.int x1)] [(.int (1 : Int32))])) (fun _ k => XS.iconst X0.here hx rfl (hb hby d1_53) k) ?_
      refine own_st (T' := s₁) (F' := (mkF m 58 #[.val (.int x0), .val (.int x1)] [(.int (1 : Int32))])) (fun _ k => XS.goto X0.here hx rfl (pc0 := 54) (pc' := 58) rfl (hb hby d1_54) (by decide) (by decide) k) ?_
      exact J58_1 (1 : Int32) (Or.inr (Or.inr (Or.inr (Or.inr (Or.inr (Or.inr (Or.inr (Or.inr (Or.inr (Or.inr (Or.inr (Or.inr (Or.inr (Or.inl (⟨hc3, hc9, rfl⟩)))))))))))))))
    ·
      refine own_st (T' := s₁) (F' := (mkF m 13 #[.val (.int x0), .val (.int x1)] [(.int x0)])) (fun _ k => XS.iloadN X0.here hx rfl (hb hby d1_12) rfl  k) ?_
      refine own_st (T' := s₁) (F' := (mkF m 15 #[.val (.int x0), .val (.int x1)] [(.int (65 : Int32)), (.int x0)])) (fun _ k => XS.bipush X0.here hx rfl (hb hby d1_13) k) ?_
      refine own_icmp X0 hx (pc' := 24) (pc2 := 18) (hb hby d1_15) (by decide) (by decide) rfl (fun (hc15 : x0 < (65 : Int32)) => ?_) (fun (hc15 : ¬ (x0 < (65 : Int32))) => ?_)
      ·
        refine own_st (T' := s₁) (F' := (mkF m 25 #[.val (.int x0), .val (.int x1)] [(.int x0)])) (fun _ k => XS.iloadN X0.here hx rfl (hb hby d1_24) rfl  k) ?_
        refine own_st (T' := s₁) (F' := (mkF m 27 #[.val (.int x0), .val (.int x1)] [(.int (95 : Int32)), (.int x0)])) (fun _ k => XS.bipush X0.here hx rfl (hb hby d1_25) k) ?_
        refine own_icmp X0 hx (pc' := 53) (pc2 := 30) (hb hby d1_27) (by decide) (by decide) rfl (fun (hc27 : x0 = (95 : Int32)) => ?_) (fun (hc27 : ¬ (x0 = (95 : Int32))) => ?_)
        ·
          refine own_st (T' := s₁) (F' := (mkF m 54 #[.val (.int x0), .val (.int x1)] [(.int (1 : Int32))])) (fun _ k => XS.iconst X0.here hx rfl (hb hby d1_53) k) ?_
          refine own_st (T' := s₁) (F' := (mkF m 58 #[.val (.int x0), .val (.int x1)] [(.int (1 : Int32))])) (fun _ k => XS.goto X0.here hx rfl (pc0 := 54) (pc' := 58) rfl (hb hby d1_54) (by decide) (by decide) k) ?_
          exact J58_1 (1 : Int32) (Or.inr (Or.inr (Or.inr (Or.inr (Or.inr (Or.inr (Or.inr (Or.inr (Or.inr (Or.inr (Or.inr (Or.inr (Or.inr (Or.inr (Or.inl (⟨hc3, hc9, hc15, hc27, rfl⟩))))))))))))))))
        ·
          refine own_st (T' := s₁) (F' := (mkF m 31 #[.val (.int x0), .val (.int x1)] [(.int x0)])) (fun _ k => XS.iloadN X0.here hx rfl (hb hby d1_30) rfl  k) ?_
          refine own_st (T' := s₁) (F' := (mkF m 34 #[.val (.int x0), .val (.int x1)] [(.int (128 : Int32)), (.int x0)])) (fun _ k => XS.sipush X0.here hx rfl (hb hby d1_31) k) ?_
          refine own_icmp X0 hx (pc' := 53) (pc2 := 37) (hb hby d1_34) (by decide) (by decide) rfl (fun (hc34 : ¬ (x0 < (128 : Int32))) => ?_) (fun (hc34 : x0 < (128 : Int32)) => ?_)
          ·
            refine own_st (T' := s₁) (F' := (mkF m 54 #[.val (.int x0), .val (.int x1)] [(.int (1 : Int32))])) (fun _ k => XS.iconst X0.here hx rfl (hb hby d1_53) k) ?_
            refine own_st (T' := s₁) (F' := (mkF m 58 #[.val (.int x0), .val (.int x1)] [(.int (1 : Int32))])) (fun _ k => XS.goto X0.here hx rfl (pc0 := 54) (pc' := 58) rfl (hb hby d1_54) (by decide) (by decide) k) ?_
            exact J58_1 (1 : Int32) (Or.inr (Or.inr (Or.inr (Or.inr (Or.inr (Or.inr (Or.inr (Or.inr (Or.inr (Or.inr (Or.inr (Or.inr (Or.inr (Or.inr (Or.inr (Or.inl (⟨hc3, hc9, hc15, hc27, hc34, rfl⟩)))))))))))))))))
          ·
            refine own_st (T' := s₁) (F' := (mkF m 38 #[.val (.int x0), .val (.int x1)] [(.int x1)])) (fun _ k => XS.iloadN X0.here hx rfl (hb hby d1_37) rfl  k) ?_
            refine own_ifc X0 hx (pc' := 57) (pc2 := 41) (hb hby d1_38) (by decide) (by decide) rfl (fun (hc38 : x1 = (0 : Int32)) => ?_) (fun (hc38 : ¬ (x1 = (0 : Int32))) => ?_)
            ·
              refine own_st (T' := s₁) (F' := (mkF m 58 #[.val (.int x0), .val (.int x1)] [(.int (0 : Int32))])) (fun _ k => XS.iconst X0.here hx rfl (hb hby d1_57) k) ?_
              exact J58_1 (0 : Int32) (Or.inr (Or.inr (Or.inr (Or.inr (Or.inr (Or.inr (Or.inr (Or.inr (Or.inr (Or.inr (Or.inr (Or.inr (Or.inr (Or.inr (Or.inr (Or.inr (Or.inl (⟨hc3, hc9, hc15, hc27, hc34, hc38, rfl⟩))))))))))))))))))
            ·
              refine own_st (T' := s₁) (F' := (mkF m 42 #[.val (.int x0), .val (.int x1)] [(.int x0)])) (fun _ k => XS.iloadN X0.here hx rfl (hb hby d1_41) rfl  k) ?_
              refine own_st (T' := s₁) (F' := (mkF m 44 #[.val (.int x0), .val (.int x1)] [(.int (48 : Int32)), (.int x0)])) (fun _ k => XS.bipush X0.here hx rfl (hb hby d1_42) k) ?_
              refine own_icmp X0 hx (pc' := 57) (pc2 := 47) (hb hby d1_44) (by decide) (by decide) rfl (fun (hc44 : x0 < (48 : Int32)) => ?_) (fun (hc44 : ¬ (x0 < (48 : Int32))) => ?_)
              ·
                refine own_st (T' := s₁) (F' := (mkF m 58 #[.val (.int x0), .val (.int x1)] [(.int (0 : Int32))])) (fun _ k => XS.iconst X0.here hx rfl (hb hby d1_57) k) ?_
                exact J58_1 (0 : Int32) (Or.inr (Or.inr (Or.inr (Or.inr (Or.inr (Or.inr (Or.inr (Or.inr (Or.inr (Or.inr (Or.inr (Or.inr (Or.inr (Or.inr (Or.inr (Or.inr (Or.inr (Or.inl (⟨hc3, hc9, hc15, hc27, hc34, hc38, hc44, rfl⟩)))))))))))))))))))
              ·
                refine own_st (T' := s₁) (F' := (mkF m 48 #[.val (.int x0), .val (.int x1)] [(.int x0)])) (fun _ k => XS.iloadN X0.here hx rfl (hb hby d1_47) rfl  k) ?_
                refine own_st (T' := s₁) (F' := (mkF m 50 #[.val (.int x0), .val (.int x1)] [(.int (57 : Int32)), (.int x0)])) (fun _ k => XS.bipush X0.here hx rfl (hb hby d1_48) k) ?_
                refine own_icmp X0 hx (pc' := 57) (pc2 := 53) (hb hby d1_50) (by decide) (by decide) rfl (fun (hc50 : (57 : Int32) < x0) => ?_) (fun (hc50 : ¬ ((57 : Int32) < x0)) => ?_)
                ·
                  refine own_st (T' := s₁) (F' := (mkF m 58 #[.val (.int x0), .val (.int x1)] [(.int (0 : Int32))])) (fun _ k => XS.iconst X0.here hx rfl (hb hby d1_57) k) ?_
                  exact J58_1 (0 : Int32) (Or.inr (Or.inr (Or.inr (Or.inr (Or.inr (Or.inr (Or.inr (Or.inr (Or.inr (Or.inr (Or.inr (Or.inr (Or.inr (Or.inr (Or.inr (Or.inr (Or.inr (Or.inr (Or.inl (⟨hc3, hc9, hc15, hc27, hc34, hc38, hc44, hc50, rfl⟩))))))))))))))))))))
                ·
                  refine own_st (T' := s₁) (F' := (mkF m 54 #[.val (.int x0), .val (.int x1)] [(.int (1 : Int32))])) (fun _ k => XS.iconst X0.here hx rfl (hb hby d1_53) k) ?_
                  refine own_st (T' := s₁) (F' := (mkF m 58 #[.val (.int x0), .val (.int x1)] [(.int (1 : Int32))])) (fun _ k => XS.goto X0.here hx rfl (pc0 := 54) (pc' := 58) rfl (hb hby d1_54) (by decide) (by decide) k) ?_
                  exact J58_1 (1 : Int32) (Or.inr (Or.inr (Or.inr (Or.inr (Or.inr (Or.inr (Or.inr (Or.inr (Or.inr (Or.inr (Or.inr (Or.inr (Or.inr (Or.inr (Or.inr (Or.inr (Or.inr (Or.inr (Or.inr (Or.inl (⟨hc3, hc9, hc15, hc27, hc34, hc38, hc44, hc50, rfl⟩)))))))))))))))))))))
      ·
        refine own_st (T' := s₁) (F' := (mkF m 19 #[.val (.int x0), .val (.int x1)] [(.int x0)])) (fun _ k => XS.iloadN X0.here hx rfl (hb hby d1_18) rfl  k) ?_
        refine own_st (T' := s₁) (F' := (mkF m 21 #[.val (.int x0), .val (.int x1)] [(.int (90 : Int32)), (.int x0)])) (fun _ k => XS.bipush X0.here hx rfl (hb hby d1_19) k) ?_
        refine own_icmp X0 hx (pc' := 53) (pc2 := 24) (hb hby d1_21) (by decide) (by decide) rfl (fun (hc21 : ¬ ((90 : Int32) < x0)) => ?_) (fun (hc21 : (90 : Int32) < x0) => ?_)
        ·
          refine own_st (T' := s₁) (F' := (mkF m 54 #[.val (.int x0), .val (.int x1)] [(.int (1 : Int32))])) (fun _ k => XS.iconst X0.here hx rfl (hb hby d1_53) k) ?_
          refine own_st (T' := s₁) (F' := (mkF m 58 #[.val (.int x0), .val (.int x1)] [(.int (1 : Int32))])) (fun _ k => XS.goto X0.here hx rfl (pc0 := 54) (pc' := 58) rfl (hb hby d1_54) (by decide) (by decide) k) ?_
          exact J58_1 (1 : Int32) (Or.inr (Or.inr (Or.inr (Or.inr (Or.inr (Or.inr (Or.inr (Or.inr (Or.inr (Or.inr (Or.inr (Or.inr (Or.inr (Or.inr (Or.inr (Or.inr (Or.inr (Or.inr (Or.inr (Or.inr (Or.inl (⟨hc3, hc9, hc15, hc21, rfl⟩))))))))))))))))))))))
        ·
          refine own_st (T' := s₁) (F' := (mkF m 25 #[.val (.int x0), .val (.int x1)] [(.int x0)])) (fun _ k => XS.iloadN X0.here hx rfl (hb hby d1_24) rfl  k) ?_
          refine own_st (T' := s₁) (F' := (mkF m 27 #[.val (.int x0), .val (.int x1)] [(.int (95 : Int32)), (.int x0)])) (fun _ k => XS.bipush X0.here hx rfl (hb hby d1_25) k) ?_
          refine own_icmp X0 hx (pc' := 53) (pc2 := 30) (hb hby d1_27) (by decide) (by decide) rfl (fun (hc27 : x0 = (95 : Int32)) => ?_) (fun (hc27 : ¬ (x0 = (95 : Int32))) => ?_)
          ·
            refine own_st (T' := s₁) (F' := (mkF m 54 #[.val (.int x0), .val (.int x1)] [(.int (1 : Int32))])) (fun _ k => XS.iconst X0.here hx rfl (hb hby d1_53) k) ?_
            refine own_st (T' := s₁) (F' := (mkF m 58 #[.val (.int x0), .val (.int x1)] [(.int (1 : Int32))])) (fun _ k => XS.goto X0.here hx rfl (pc0 := 54) (pc' := 58) rfl (hb hby d1_54) (by decide) (by decide) k) ?_
            exact J58_1 (1 : Int32) (Or.inr (Or.inr (Or.inr (Or.inr (Or.inr (Or.inr (Or.inr (Or.inr (Or.inr (Or.inr (Or.inr (Or.inr (Or.inr (Or.inr (Or.inr (Or.inr (Or.inr (Or.inr (Or.inr (Or.inr (Or.inr (Or.inl (⟨hc3, hc9, hc15, hc21, hc27, rfl⟩)))))))))))))))))))))))
          ·
            refine own_st (T' := s₁) (F' := (mkF m 31 #[.val (.int x0), .val (.int x1)] [(.int x0)])) (fun _ k => XS.iloadN X0.here hx rfl (hb hby d1_30) rfl  k) ?_
            refine own_st (T' := s₁) (F' := (mkF m 34 #[.val (.int x0), .val (.int x1)] [(.int (128 : Int32)), (.int x0)])) (fun _ k => XS.sipush X0.here hx rfl (hb hby d1_31) k) ?_
            refine own_icmp X0 hx (pc' := 53) (pc2 := 37) (hb hby d1_34) (by decide) (by decide) rfl (fun (hc34 : ¬ (x0 < (128 : Int32))) => ?_) (fun (hc34 : x0 < (128 : Int32)) => ?_)
            ·
              refine own_st (T' := s₁) (F' := (mkF m 54 #[.val (.int x0), .val (.int x1)] [(.int (1 : Int32))])) (fun _ k => XS.iconst X0.here hx rfl (hb hby d1_53) k) ?_
              refine own_st (T' := s₁) (F' := (mkF m 58 #[.val (.int x0), .val (.int x1)] [(.int (1 : Int32))])) (fun _ k => XS.goto X0.here hx rfl (pc0 := 54) (pc' := 58) rfl (hb hby d1_54) (by decide) (by decide) k) ?_
              exact J58_1 (1 : Int32) (Or.inr (Or.inr (Or.inr (Or.inr (Or.inr (Or.inr (Or.inr (Or.inr (Or.inr (Or.inr (Or.inr (Or.inr (Or.inr (Or.inr (Or.inr (Or.inr (Or.inr (Or.inr (Or.inr (Or.inr (Or.inr (Or.inr (Or.inl (⟨hc3, hc9, hc15, hc21, hc27, hc34, rfl⟩))))))))))))))))))))))))
            ·
              refine own_st (T' := s₁) (F' := (mkF m 38 #[.val (.int x0), .val (.int x1)] [(.int x1)])) (fun _ k => XS.iloadN X0.here hx rfl (hb hby d1_37) rfl  k) ?_
              refine own_ifc X0 hx (pc' := 57) (pc2 := 41) (hb hby d1_38) (by decide) (by decide) rfl (fun (hc38 : x1 = (0 : Int32)) => ?_) (fun (hc38 : ¬ (x1 = (0 : Int32))) => ?_)
              ·
                refine own_st (T' := s₁) (F' := (mkF m 58 #[.val (.int x0), .val (.int x1)] [(.int (0 : Int32))])) (fun _ k => XS.iconst X0.here hx rfl (hb hby d1_57) k) ?_
                exact J58_1 (0 : Int32) (Or.inr (Or.inr (Or.inr (Or.inr (Or.inr (Or.inr (Or.inr (Or.inr (Or.inr (Or.inr (Or.inr (Or.inr (Or.inr (Or.inr (Or.inr (Or.inr (Or.inr (Or.inr (Or.inr (Or.inr (Or.inr (Or.inr (Or.inr (Or.inl (⟨hc3, hc9, hc15, hc21, hc27, hc34, hc38, rfl⟩)))))))))))))))))))))))))
              ·
                refine own_st (T' := s₁) (F' := (mkF m 42 #[.val (.int x0), .val (.int x1)] [(.int x0)])) (fun _ k => XS.iloadN X0.here hx rfl (hb hby d1_41) rfl  k) ?_
                refine own_st (T' := s₁) (F' := (mkF m 44 #[.val (.int x0), .val (.int x1)] [(.int (48 : Int32)), (.int x0)])) (fun _ k => XS.bipush X0.here hx rfl (hb hby d1_42) k) ?_
                refine own_icmp X0 hx (pc' := 57) (pc2 := 47) (hb hby d1_44) (by decide) (by decide) rfl (fun (hc44 : x0 < (48 : Int32)) => ?_) (fun (hc44 : ¬ (x0 < (48 : Int32))) => ?_)
                ·
                  refine own_st (T' := s₁) (F' := (mkF m 58 #[.val (.int x0), .val (.int x1)] [(.int (0 : Int32))])) (fun _ k => XS.iconst X0.here hx rfl (hb hby d1_57) k) ?_
                  exact J58_1 (0 : Int32) (Or.inr (Or.inr (Or.inr (Or.inr (Or.inr (Or.inr (Or.inr (Or.inr (Or.inr (Or.inr (Or.inr (Or.inr (Or.inr (Or.inr (Or.inr (Or.inr (Or.inr (Or.inr (Or.inr (Or.inr (Or.inr (Or.inr (Or.inr (Or.inr (Or.inl (⟨hc3, hc9, hc15, hc21, hc27, hc34, hc38, hc44, rfl⟩))))))))))))))))))))))))))
                ·
                  refine own_st (T' := s₁) (F' := (mkF m 48 #[.val (.int x0), .val (.int x1)] [(.int x0)])) (fun _ k => XS.iloadN X0.here hx rfl (hb hby d1_47) rfl  k) ?_
                  refine own_st (T' := s₁) (F' := (mkF m 50 #[.val (.int x0), .val (.int x1)] [(.int (57 : Int32)), (.int x0)])) (fun _ k => XS.bipush X0.here hx rfl (hb hby d1_48) k) ?_
                  refine own_icmp X0 hx (pc' := 57) (pc2 := 53) (hb hby d1_50) (by decide) (by decide) rfl (fun (hc50 : (57 : Int32) < x0) => ?_) (fun (hc50 : ¬ ((57 : Int32) < x0)) => ?_)
                  ·
                    refine own_st (T' := s₁) (F' := (mkF m 58 #[.val (.int x0), .val (.int x1)] [(.int (0 : Int32))])) (fun _ k => XS.iconst X0.here hx rfl (hb hby d1_57) k) ?_
                    exact J58_1 (0 : Int32) (Or.inr (Or.inr (Or.inr (Or.inr (Or.inr (Or.inr (Or.inr (Or.inr (Or.inr (Or.inr (Or.inr (Or.inr (Or.inr (Or.inr (Or.inr (Or.inr (Or.inr (Or.inr (Or.inr (Or.inr (Or.inr (Or.inr (Or.inr (Or.inr (Or.inr (Or.inl (⟨hc3, hc9, hc15, hc21, hc27, hc34, hc38, hc44, hc50, rfl⟩)))))))))))))))))))))))))))
                  ·
                    refine own_st (T' := s₁) (F' := (mkF m 54 #[.val (.int x0), .val (.int x1)] [(.int (1 : Int32))])) (fun _ k => XS.iconst X0.here hx rfl (hb hby d1_53) k) ?_
                    refine own_st (T' := s₁) (F' := (mkF m 58 #[.val (.int x0), .val (.int x1)] [(.int (1 : Int32))])) (fun _ k => XS.goto X0.here hx rfl (pc0 := 54) (pc' := 58) rfl (hb hby d1_54) (by decide) (by decide) k) ?_
                    exact J58_1 (1 : Int32) (Or.inr (Or.inr (Or.inr (Or.inr (Or.inr (Or.inr (Or.inr (Or.inr (Or.inr (Or.inr (Or.inr (Or.inr (Or.inr (Or.inr (Or.inr (Or.inr (Or.inr (Or.inr (Or.inr (Or.inr (Or.inr (Or.inr (Or.inr (Or.inr (Or.inr (Or.inr (⟨hc3, hc9, hc15, hc21, hc27, hc34, hc38, hc44, hc50, rfl⟩)))))))))))))))))))))))))))
theorem d2_0 : decode method_2_code 0 = .ok (.iload_n 0, 1) := by decide +kernel
theorem d2_1 : decode method_2_code 1 = .ok (.sipush 128, 3) := by decide +kernel
theorem d2_4 : decode method_2_code 4 = .ok (.if_icmp .lt 5, 3) := by decide +kernel
theorem d2_7 : decode method_2_code 7 = .ok (.iconst 1, 1) := by decide +kernel
theorem d2_8 : decode method_2_code 8 = .ok (.ireturn, 1) := by decide +kernel
theorem d2_9 : decode method_2_code 9 = .ok (.iload_n 0, 1) := by decide +kernel
theorem d2_10 : decode method_2_code 10 = .ok (.bipush 32, 2) := by decide +kernel
theorem d2_12 : decode method_2_code 12 = .ok (.ior, 1) := by decide +kernel
theorem d2_13 : decode method_2_code 13 = .ok (.istore_n 2, 1) := by decide +kernel
theorem d2_14 : decode method_2_code 14 = .ok (.iload_n 2, 1) := by decide +kernel
theorem d2_15 : decode method_2_code 15 = .ok (.bipush 97, 2) := by decide +kernel
theorem d2_17 : decode method_2_code 17 = .ok (.if_icmp .lt 13, 3) := by decide +kernel
theorem d2_20 : decode method_2_code 20 = .ok (.iload_n 2, 1) := by decide +kernel
theorem d2_21 : decode method_2_code 21 = .ok (.bipush 122, 2) := by decide +kernel
theorem d2_23 : decode method_2_code 23 = .ok (.if_icmp .gt 7, 3) := by decide +kernel
theorem d2_26 : decode method_2_code 26 = .ok (.iconst 1, 1) := by decide +kernel
theorem d2_27 : decode method_2_code 27 = .ok (.goto 4, 3) := by decide +kernel
theorem d2_30 : decode method_2_code 30 = .ok (.iconst 0, 1) := by decide +kernel
theorem d2_31 : decode method_2_code 31 = .ok (.istore_n 3, 1) := by decide +kernel
theorem d2_32 : decode method_2_code 32 = .ok (.iload_n 0, 1) := by decide +kernel
theorem d2_33 : decode method_2_code 33 = .ok (.bipush 48, 2) := by decide +kernel
theorem d2_35 : decode method_2_code 35 = .ok (.if_icmp .lt 13, 3) := by decide +kernel
theorem d2_38 : decode method_2_code 38 = .ok (.iload_n 0, 1) := by decide +kernel
theorem d2_39 : decode method_2_code 39 = .ok (.bipush 57, 2) := by decide +kernel
theorem d2_41 : decode method_2_code 41 = .ok (.if_icmp .gt 7, 3) := by decide +kernel
theorem d2_44 : decode method_2_code 44 = .ok (.iconst 1, 1) := by decide +kernel
theorem d2_45 : decode method_2_code 45 = .ok (.goto 4, 3) := by decide +kernel
theorem d2_48 : decode method_2_code 48 = .ok (.iconst 0, 1) := by decide +kernel
theorem d2_49 : decode method_2_code 49 = .ok (.istore 4, 2) := by decide +kernel
theorem d2_51 : decode method_2_code 51 = .ok (.iload_n 3, 1) := by decide +kernel
theorem d2_52 : decode method_2_code 52 = .ok (.ifCond .eq 5, 3) := by decide +kernel
theorem d2_55 : decode method_2_code 55 = .ok (.iconst 1, 1) := by decide +kernel
theorem d2_56 : decode method_2_code 56 = .ok (.ireturn, 1) := by decide +kernel
theorem d2_57 : decode method_2_code 57 = .ok (.iload_n 0, 1) := by decide +kernel
theorem d2_58 : decode method_2_code 58 = .ok (.bipush 95, 2) := by decide +kernel
theorem d2_60 : decode method_2_code 60 = .ok (.if_icmp .ne 5, 3) := by decide +kernel
theorem d2_63 : decode method_2_code 63 = .ok (.iconst 1, 1) := by decide +kernel
theorem d2_64 : decode method_2_code 64 = .ok (.ireturn, 1) := by decide +kernel
theorem d2_65 : decode method_2_code 65 = .ok (.iload 4, 2) := by decide +kernel
theorem d2_67 : decode method_2_code 67 = .ok (.ifCond .eq 5, 3) := by decide +kernel
theorem d2_70 : decode method_2_code 70 = .ok (.iload_n 1, 1) := by decide +kernel
theorem d2_71 : decode method_2_code 71 = .ok (.ireturn, 1) := by decide +kernel
theorem d2_72 : decode method_2_code 72 = .ok (.iconst 0, 1) := by decide +kernel
theorem d2_73 : decode method_2_code 73 = .ok (.ireturn, 1) := by decide +kernel
theorem own_pn2 : plainName "com/example/opzet/opzet/ScriptTextIsNameCharacterPinLaw" = true := by first | (simp [plainName, overriddenIn]; done) | decide +kernel
theorem own_ef2 (m : MethodId) (x0 : Int32) (x1 : Int32) : entryFrame m #[(.int x0), (.int x1)] 5 = (mkF m 0 #[.val (.int x0), .val (.int x1), .unset, .unset, .unset] []) := by first | (simp [entryFrame, mkF, argsToLocals, Value.category]; done) | rfl
def Q2 (Z : State) (x0 : Int32) (x1 : Int32)  (h0 : Heap) (n0 : Nat) (v : Option Value) (h : Heap) (L : List Loc) : Prop := (∃ z : Int32, v = some (.int z) ∧ (own_P x0 x1 z)) ∧ Fr n0 L ∧ h = h0
set_option maxRecDepth 65536 in
set_option maxHeartbeats 40000000 in
theorem rm2 (l : Launch) (Z : State) (a0 : Array Value) (hw : ∀ d ∈ tables_1, d.before a0 Z = true) (ws : List Jvm.Cond) (x0 : Int32) (x1 : Int32)  (h0 : Heap) (n0 : Nat) (Z0 : n0 ≤ h0.size) (hv : 0 ≤ x0.toInt) (hd : x1 = 0 ∨ x1 = 1) :
    MetFree l (⟨"com/example/opzet/opzet/ScriptTextIsNameCharacterPinLaw", "expected", "(IZ)Z"⟩ : MethodName) (head1 (Jvm.Cond.code (⟨"com/example/opzet/opzet/ScriptTextIsNameCharacterPinLaw", "expected", "(IZ)Z"⟩ : MethodName) method_2_code 5 (some .boolean) :: ws) ({ frames := 0, cells := 0, slots := 0, locals := 0 } : Room)) (fun a U => a = #[(.int x0), (.int x1)] ∧ Z.Warmed39 U.vm ∧ U.heap = h0) (fun _ _ _ _ _ => True) (fun _ U oc U' => ∃ v L, oc = .returned v ∧ Q2 Z x0 x1  h0 n0 v U'.heap L ∧ FrameEnd U oc U' L ({ frames := 0, cells := 0, slots := 0, locals := 0 } : Room).cells ({ frames := 0, cells := 0, slots := 0, locals := 0 } : Room).slots) := by
  refine MetFree.of_bodySF (plainFor_of_name own_pn2) hisR ?_
  intro p e s m args below meth c s₁ Bd hml0 hP hK
  obtain ⟨rfl, hZ, hh⟩ := hP
  have hx := Bd.exec
  have hby := Bd.bytes
  have hlk : meth.locks = false := BodyLoose.notSynchronized Bd
  have hml : c.maxLocals = 5 := hml0
  have hown : s.vm.findClass "com/example/opzet/opzet/ScriptTextIsNameCharacterPinLaw" = some m.cls := findClass_of_methodNamed Bd.named
  have hnm := (name_of_methodNamed Bd.named Bd.method).1
  have X0 : Stand p l e ({ frames := 0, cells := 0, slots := 0, locals := 0 } : Room) s m #[(.int x0), (.int x1)] below meth c s₁ [] 0 0 := Stand.of_body Bd
  have e0 : s₁.heap = h0 := by rw [← hh, Bd.state]; rfl
  have N0 := Fr.nil n0
  refine own_enter (own_ef2 m x0 x1) ?_
  show own_Go p e below s (Q2 Z x0 x1  h0 n0) ({ frames := 0, cells := 0, slots := 0, locals := 0 } : Room).cells ({ frames := 0, cells := 0, slots := 0, locals := 0 } : Room).slots s₁ (mkF m 0 #[.val (.int x0), .val (.int x1), .unset, .unset, .unset] [])
  refine own_st (T' := s₁) (F' := (mkF m 1 #[.val (.int x0), .val (.int x1), .unset, .unset, .unset] [(.int x0)])) (fun _ k => XS.iloadN X0.here hx rfl (hb hby d2_0) rfl  k) ?_
  refine own_st (T' := s₁) (F' := (mkF m 4 #[.val (.int x0), .val (.int x1), .unset, .unset, .unset] [(.int (128 : Int32)), (.int x0)])) (fun _ k => XS.sipush X0.here hx rfl (hb hby d2_1) k) ?_
  refine own_icmp X0 hx (pc' := 9) (pc2 := 7) (hb hby d2_4) (by decide) (by decide) rfl (fun (hc4 : x0 < (128 : Int32)) => ?_) (fun (hc4 : ¬ (x0 < (128 : Int32))) => ?_)
  ·
    refine own_st (T' := s₁) (F' := (mkF m 10 #[.val (.int x0), .val (.int x1), .unset, .unset, .unset] [(.int x0)])) (fun _ k => XS.iloadN X0.here hx rfl (hb hby d2_9) rfl  k) ?_
    refine own_st (T' := s₁) (F' := (mkF m 12 #[.val (.int x0), .val (.int x1), .unset, .unset, .unset] [(.int (32 : Int32)), (.int x0)])) (fun _ k => XS.bipush X0.here hx rfl (hb hby d2_10) k) ?_
    refine own_st (T' := s₁) (F' := (mkF m 13 #[.val (.int x0), .val (.int x1), .unset, .unset, .unset] [(.int (x0 ||| (32 : Int32)))])) (fun _ k => XS.ior X0.here hx rfl (hb hby d2_12) rfl k) ?_
    refine own_st (T' := s₁) (F' := (mkF m 14 #[.val (.int x0), .val (.int x1), .val (.int (x0 ||| (32 : Int32))), .unset, .unset] [])) (fun _ k => XS.istoreN X0.here hx rfl (hb hby d2_13) rfl (l' := #[.val (.int x0), .val (.int x1), .val (.int (x0 ||| (32 : Int32))), .unset, .unset]) rfl k) ?_
    refine own_st (T' := s₁) (F' := (mkF m 15 #[.val (.int x0), .val (.int x1), .val (.int (x0 ||| (32 : Int32))), .unset, .unset] [(.int (x0 ||| (32 : Int32)))])) (fun _ k => XS.iloadN X0.here hx rfl (hb hby d2_14) rfl  k) ?_
    refine own_st (T' := s₁) (F' := (mkF m 17 #[.val (.int x0), .val (.int x1), .val (.int (x0 ||| (32 : Int32))), .unset, .unset] [(.int (97 : Int32)), (.int (x0 ||| (32 : Int32)))])) (fun _ k => XS.bipush X0.here hx rfl (hb hby d2_15) k) ?_
    have J31_1 : ∀ (j31_1 : Int32), ((((x0 ||| (32 : Int32)) < (97 : Int32)) ∧ j31_1 = (0 : Int32)) ∨ ((¬ ((x0 ||| (32 : Int32)) < (97 : Int32))) ∧ ((122 : Int32) < (x0 ||| (32 : Int32))) ∧ j31_1 = (0 : Int32)) ∨ ((¬ ((x0 ||| (32 : Int32)) < (97 : Int32))) ∧ (¬ ((122 : Int32) < (x0 ||| (32 : Int32)))) ∧ j31_1 = (1 : Int32))) → own_Go p e below s (Q2 Z x0 x1  h0 n0) ({ frames := 0, cells := 0, slots := 0, locals := 0 } : Room).cells ({ frames := 0, cells := 0, slots := 0, locals := 0 } : Room).slots s₁ (mkF m 31 #[.val (.int x0), .val (.int x1), .val (.int (x0 ||| (32 : Int32))), .unset, .unset] [(.int j31_1)]) := by
      intro j31_1 hJ31_1
      refine own_st (T' := s₁) (F' := (mkF m 32 #[.val (.int x0), .val (.int x1), .val (.int (x0 ||| (32 : Int32))), .val (.int j31_1), .unset] [])) (fun _ k => XS.istoreN X0.here hx rfl (hb hby d2_31) rfl (l' := #[.val (.int x0), .val (.int x1), .val (.int (x0 ||| (32 : Int32))), .val (.int j31_1), .unset]) rfl k) ?_
      refine own_st (T' := s₁) (F' := (mkF m 33 #[.val (.int x0), .val (.int x1), .val (.int (x0 ||| (32 : Int32))), .val (.int j31_1), .unset] [(.int x0)])) (fun _ k => XS.iloadN X0.here hx rfl (hb hby d2_32) rfl  k) ?_
      refine own_st (T' := s₁) (F' := (mkF m 35 #[.val (.int x0), .val (.int x1), .val (.int (x0 ||| (32 : Int32))), .val (.int j31_1), .unset] [(.int (48 : Int32)), (.int x0)])) (fun _ k => XS.bipush X0.here hx rfl (hb hby d2_33) k) ?_
      have J49_2 : ∀ (j49_1 : Int32), (((x0 < (48 : Int32)) ∧ j49_1 = (0 : Int32)) ∨ ((¬ (x0 < (48 : Int32))) ∧ ((57 : Int32) < x0) ∧ j49_1 = (0 : Int32)) ∨ ((¬ (x0 < (48 : Int32))) ∧ (¬ ((57 : Int32) < x0)) ∧ j49_1 = (1 : Int32))) → own_Go p e below s (Q2 Z x0 x1  h0 n0) ({ frames := 0, cells := 0, slots := 0, locals := 0 } : Room).cells ({ frames := 0, cells := 0, slots := 0, locals := 0 } : Room).slots s₁ (mkF m 49 #[.val (.int x0), .val (.int x1), .val (.int (x0 ||| (32 : Int32))), .val (.int j31_1), .unset] [(.int j49_1)]) := by
        intro j49_1 hJ49_2
        refine own_st (T' := s₁) (F' := (mkF m 51 #[.val (.int x0), .val (.int x1), .val (.int (x0 ||| (32 : Int32))), .val (.int j31_1), .val (.int j49_1)] [])) (fun _ k => XS.istore X0.here hx rfl (hb hby d2_49) rfl (l' := #[.val (.int x0), .val (.int x1), .val (.int (x0 ||| (32 : Int32))), .val (.int j31_1), .val (.int j49_1)]) rfl k) ?_
        refine own_st (T' := s₁) (F' := (mkF m 52 #[.val (.int x0), .val (.int x1), .val (.int (x0 ||| (32 : Int32))), .val (.int j31_1), .val (.int j49_1)] [(.int j31_1)])) (fun _ k => XS.iloadN X0.here hx rfl (hb hby d2_51) rfl  k) ?_
        refine own_ifc X0 hx (pc' := 57) (pc2 := 55) (hb hby d2_52) (by decide) (by decide) rfl (fun (hc52 : j31_1 = (0 : Int32)) => ?_) (fun (hc52 : ¬ (j31_1 = (0 : Int32))) => ?_)
        ·
          refine own_st (T' := s₁) (F' := (mkF m 58 #[.val (.int x0), .val (.int x1), .val (.int (x0 ||| (32 : Int32))), .val (.int j31_1), .val (.int j49_1)] [(.int x0)])) (fun _ k => XS.iloadN X0.here hx rfl (hb hby d2_57) rfl  k) ?_
          refine own_st (T' := s₁) (F' := (mkF m 60 #[.val (.int x0), .val (.int x1), .val (.int (x0 ||| (32 : Int32))), .val (.int j31_1), .val (.int j49_1)] [(.int (95 : Int32)), (.int x0)])) (fun _ k => XS.bipush X0.here hx rfl (hb hby d2_58) k) ?_
          refine own_icmp X0 hx (pc' := 65) (pc2 := 63) (hb hby d2_60) (by decide) (by decide) rfl (fun (hc60 : ¬ (x0 = (95 : Int32))) => ?_) (fun (hc60 : x0 = (95 : Int32)) => ?_)
          ·
            refine own_st (T' := s₁) (F' := (mkF m 67 #[.val (.int x0), .val (.int x1), .val (.int (x0 ||| (32 : Int32))), .val (.int j31_1), .val (.int j49_1)] [(.int j49_1)])) (fun _ k => XS.iload X0.here hx rfl (hb hby d2_65) rfl  k) ?_
            refine own_ifc X0 hx (pc' := 72) (pc2 := 70) (hb hby d2_67) (by decide) (by decide) rfl (fun (hc67 : j49_1 = (0 : Int32)) => ?_) (fun (hc67 : ¬ (j49_1 = (0 : Int32))) => ?_)
            ·
              refine own_st (T' := s₁) (F' := (mkF m 73 #[.val (.int x0), .val (.int x1), .val (.int (x0 ||| (32 : Int32))), .val (.int j31_1), .val (.int j49_1)] [(.int (0 : Int32))])) (fun _ k => XS.iconst X0.here hx rfl (hb hby d2_72) k) ?_
              refine own_retN X0 hx hlk (t := .boolean) Bd.returns (by simp) (hb hby d2_73) ?_ (by decide) (by decide)
              rw [e0]
              refine ⟨⟨_, rfl, ?_⟩, N0, rfl⟩
              have hf := own_fold x0 hv hc4
              have e1 : j31_1 = 1 ↔ ((¬ x0 < 97 ∧ ¬ (122 : Int32) < x0) ∨ (¬ x0 < 65 ∧ ¬ (90 : Int32) < x0)) := by
                rw [← hf]
                rcases hJ31_1 with ⟨a, q⟩ | ⟨a, b, q⟩ | ⟨a, b, q⟩ <;> simp_all
              have e2 : j49_1 = 1 ↔ (¬ x0 < 48 ∧ ¬ (57 : Int32) < x0) := by
                rcases hJ49_2 with ⟨a, q⟩ | ⟨a, b, q⟩ | ⟨a, b, q⟩ <;> simp_all
              have o1 : j31_1 = 0 ∨ j31_1 = 1 := by rcases hJ31_1 with ⟨a, q⟩ | ⟨a, b, q⟩ | ⟨a, b, q⟩ <;> simp [q]
              have o2 : j49_1 = 0 ∨ j49_1 = 1 := by rcases hJ49_2 with ⟨a, q⟩ | ⟨a, b, q⟩ | ⟨a, b, q⟩ <;> simp [q]
              have q1 : ¬ ((¬ x0 < 97 ∧ ¬ (122 : Int32) < x0) ∨ (¬ x0 < 65 ∧ ¬ (90 : Int32) < x0)) := fun z => by have := e1.mpr z; rw [hc52] at this; exact absurd this (by decide)
              have q2 : ¬ (¬ x0 < 48 ∧ ¬ (57 : Int32) < x0) := fun z => by have := e2.mpr z; rw [hc67] at this; exact absurd this (by decide)
              exact Or.inr ⟨rfl, fun z => by rcases z with z | z | z | z | z; exact q1 (Or.inl z); exact q1 (Or.inr z); exact hc60 z; exact z hc4; exact q2 z.2⟩
            ·
              refine own_st (T' := s₁) (F' := (mkF m 71 #[.val (.int x0), .val (.int x1), .val (.int (x0 ||| (32 : Int32))), .val (.int j31_1), .val (.int j49_1)] [(.int x1)])) (fun _ k => XS.iloadN X0.here hx rfl (hb hby d2_70) rfl  k) ?_
              refine own_retN X0 hx hlk (t := .boolean) Bd.returns (by simp) (hb hby d2_71) ?_ (by decide) (by decide)
              rw [e0]
              refine ⟨⟨_, rfl, ?_⟩, N0, rfl⟩
              have hf := own_fold x0 hv hc4
              have e1 : j31_1 = 1 ↔ ((¬ x0 < 97 ∧ ¬ (122 : Int32) < x0) ∨ (¬ x0 < 65 ∧ ¬ (90 : Int32) < x0)) := by
                rw [← hf]
                rcases hJ31_1 with ⟨a, q⟩ | ⟨a, b, q⟩ | ⟨a, b, q⟩ <;> simp_all
              have e2 : j49_1 = 1 ↔ (¬ x0 < 48 ∧ ¬ (57 : Int32) < x0) := by
                rcases hJ49_2 with ⟨a, q⟩ | ⟨a, b, q⟩ | ⟨a, b, q⟩ <;> simp_all
              have o1 : j31_1 = 0 ∨ j31_1 = 1 := by rcases hJ31_1 with ⟨a, q⟩ | ⟨a, b, q⟩ | ⟨a, b, q⟩ <;> simp [q]
              have o2 : j49_1 = 0 ∨ j49_1 = 1 := by rcases hJ49_2 with ⟨a, q⟩ | ⟨a, b, q⟩ | ⟨a, b, q⟩ <;> simp [q]
              have q1 : ¬ ((¬ x0 < 97 ∧ ¬ (122 : Int32) < x0) ∨ (¬ x0 < 65 ∧ ¬ (90 : Int32) < x0)) := fun z => by have := e1.mpr z; rw [hc52] at this; exact absurd this (by decide)
              have q2 := e2.mp (o2.resolve_left hc67)
              rcases hd with d0 | d1
              · rw [d0]; exact Or.inr ⟨rfl, fun z => by rcases z with z | z | z | z | z; exact q1 (Or.inl z); exact q1 (Or.inr z); exact hc60 z; exact z hc4; exact z.1 rfl⟩
              · rw [d1]; exact Or.inl ⟨rfl, Or.inr (Or.inr (Or.inr (Or.inr ⟨by decide, q2⟩)))⟩
          ·
            refine own_st (T' := s₁) (F' := (mkF m 64 #[.val (.int x0), .val (.int x1), .val (.int (x0 ||| (32 : Int32))), .val (.int j31_1), .val (.int j49_1)] [(.int (1 : Int32))])) (fun _ k => XS.iconst X0.here hx rfl (hb hby d2_63) k) ?_
            refine own_retN X0 hx hlk (t := .boolean) Bd.returns (by simp) (hb hby d2_64) ?_ (by decide) (by decide)
            rw [e0]
            refine ⟨⟨_, rfl, ?_⟩, N0, rfl⟩
            have hf := own_fold x0 hv hc4
            have e1 : j31_1 = 1 ↔ ((¬ x0 < 97 ∧ ¬ (122 : Int32) < x0) ∨ (¬ x0 < 65 ∧ ¬ (90 : Int32) < x0)) := by
              rw [← hf]
              rcases hJ31_1 with ⟨a, q⟩ | ⟨a, b, q⟩ | ⟨a, b, q⟩ <;> simp_all
            have e2 : j49_1 = 1 ↔ (¬ x0 < 48 ∧ ¬ (57 : Int32) < x0) := by
              rcases hJ49_2 with ⟨a, q⟩ | ⟨a, b, q⟩ | ⟨a, b, q⟩ <;> simp_all
            have o1 : j31_1 = 0 ∨ j31_1 = 1 := by rcases hJ31_1 with ⟨a, q⟩ | ⟨a, b, q⟩ | ⟨a, b, q⟩ <;> simp [q]
            have o2 : j49_1 = 0 ∨ j49_1 = 1 := by rcases hJ49_2 with ⟨a, q⟩ | ⟨a, b, q⟩ | ⟨a, b, q⟩ <;> simp [q]
            exact Or.inl ⟨rfl, Or.inr (Or.inr (Or.inl hc60))⟩
        ·
          refine own_st (T' := s₁) (F' := (mkF m 56 #[.val (.int x0), .val (.int x1), .val (.int (x0 ||| (32 : Int32))), .val (.int j31_1), .val (.int j49_1)] [(.int (1 : Int32))])) (fun _ k => XS.iconst X0.here hx rfl (hb hby d2_55) k) ?_
          refine own_retN X0 hx hlk (t := .boolean) Bd.returns (by simp) (hb hby d2_56) ?_ (by decide) (by decide)
          rw [e0]
          refine ⟨⟨_, rfl, ?_⟩, N0, rfl⟩
          have hf := own_fold x0 hv hc4
          have e1 : j31_1 = 1 ↔ ((¬ x0 < 97 ∧ ¬ (122 : Int32) < x0) ∨ (¬ x0 < 65 ∧ ¬ (90 : Int32) < x0)) := by
            rw [← hf]
            rcases hJ31_1 with ⟨a, q⟩ | ⟨a, b, q⟩ | ⟨a, b, q⟩ <;> simp_all
          have e2 : j49_1 = 1 ↔ (¬ x0 < 48 ∧ ¬ (57 : Int32) < x0) := by
            rcases hJ49_2 with ⟨a, q⟩ | ⟨a, b, q⟩ | ⟨a, b, q⟩ <;> simp_all
          have o1 : j31_1 = 0 ∨ j31_1 = 1 := by rcases hJ31_1 with ⟨a, q⟩ | ⟨a, b, q⟩ | ⟨a, b, q⟩ <;> simp [q]
          have o2 : j49_1 = 0 ∨ j49_1 = 1 := by rcases hJ49_2 with ⟨a, q⟩ | ⟨a, b, q⟩ | ⟨a, b, q⟩ <;> simp [q]
          have q1 := e1.mp (o1.resolve_left hc52)
          exact Or.inl ⟨rfl, q1.elim Or.inl fun z => Or.inr (Or.inl z)⟩
      refine own_icmp X0 hx (pc' := 48) (pc2 := 38) (hb hby d2_35) (by decide) (by decide) rfl (fun (hc35 : x0 < (48 : Int32)) => ?_) (fun (hc35 : ¬ (x0 < (48 : Int32))) => ?_)
      ·
        refine own_st (T' := s₁) (F' := (mkF m 49 #[.val (.int x0), .val (.int x1), .val (.int (x0 ||| (32 : Int32))), .val (.int j31_1), .unset] [(.int (0 : Int32))])) (fun _ k => XS.iconst X0.here hx rfl (hb hby d2_48) k) ?_
        exact J49_2 (0 : Int32) (Or.inl (⟨hc35, rfl⟩))
      ·
        refine own_st (T' := s₁) (F' := (mkF m 39 #[.val (.int x0), .val (.int x1), .val (.int (x0 ||| (32 : Int32))), .val (.int j31_1), .unset] [(.int x0)])) (fun _ k => XS.iloadN X0.here hx rfl (hb hby d2_38) rfl  k) ?_
        refine own_st (T' := s₁) (F' := (mkF m 41 #[.val (.int x0), .val (.int x1), .val (.int (x0 ||| (32 : Int32))), .val (.int j31_1), .unset] [(.int (57 : Int32)), (.int x0)])) (fun _ k => XS.bipush X0.here hx rfl (hb hby d2_39) k) ?_
        refine own_icmp X0 hx (pc' := 48) (pc2 := 44) (hb hby d2_41) (by decide) (by decide) rfl (fun (hc41 : (57 : Int32) < x0) => ?_) (fun (hc41 : ¬ ((57 : Int32) < x0)) => ?_)
        ·
          refine own_st (T' := s₁) (F' := (mkF m 49 #[.val (.int x0), .val (.int x1), .val (.int (x0 ||| (32 : Int32))), .val (.int j31_1), .unset] [(.int (0 : Int32))])) (fun _ k => XS.iconst X0.here hx rfl (hb hby d2_48) k) ?_
          exact J49_2 (0 : Int32) (Or.inr (Or.inl (⟨hc35, hc41, rfl⟩)))
        ·
          refine own_st (T' := s₁) (F' := (mkF m 45 #[.val (.int x0), .val (.int x1), .val (.int (x0 ||| (32 : Int32))), .val (.int j31_1), .unset] [(.int (1 : Int32))])) (fun _ k => XS.iconst X0.here hx rfl (hb hby d2_44) k) ?_
          refine own_st (T' := s₁) (F' := (mkF m 49 #[.val (.int x0), .val (.int x1), .val (.int (x0 ||| (32 : Int32))), .val (.int j31_1), .unset] [(.int (1 : Int32))])) (fun _ k => XS.goto X0.here hx rfl (pc0 := 45) (pc' := 49) rfl (hb hby d2_45) (by decide) (by decide) k) ?_
          exact J49_2 (1 : Int32) (Or.inr (Or.inr (⟨hc35, hc41, rfl⟩)))
    refine own_icmp X0 hx (pc' := 30) (pc2 := 20) (hb hby d2_17) (by decide) (by decide) rfl (fun (hc17 : (x0 ||| (32 : Int32)) < (97 : Int32)) => ?_) (fun (hc17 : ¬ ((x0 ||| (32 : Int32)) < (97 : Int32))) => ?_)
    ·
      refine own_st (T' := s₁) (F' := (mkF m 31 #[.val (.int x0), .val (.int x1), .val (.int (x0 ||| (32 : Int32))), .unset, .unset] [(.int (0 : Int32))])) (fun _ k => XS.iconst X0.here hx rfl (hb hby d2_30) k) ?_
      exact J31_1 (0 : Int32) (Or.inl (⟨hc17, rfl⟩))
    ·
      refine own_st (T' := s₁) (F' := (mkF m 21 #[.val (.int x0), .val (.int x1), .val (.int (x0 ||| (32 : Int32))), .unset, .unset] [(.int (x0 ||| (32 : Int32)))])) (fun _ k => XS.iloadN X0.here hx rfl (hb hby d2_20) rfl  k) ?_
      refine own_st (T' := s₁) (F' := (mkF m 23 #[.val (.int x0), .val (.int x1), .val (.int (x0 ||| (32 : Int32))), .unset, .unset] [(.int (122 : Int32)), (.int (x0 ||| (32 : Int32)))])) (fun _ k => XS.bipush X0.here hx rfl (hb hby d2_21) k) ?_
      refine own_icmp X0 hx (pc' := 30) (pc2 := 26) (hb hby d2_23) (by decide) (by decide) rfl (fun (hc23 : (122 : Int32) < (x0 ||| (32 : Int32))) => ?_) (fun (hc23 : ¬ ((122 : Int32) < (x0 ||| (32 : Int32)))) => ?_)
      ·
        refine own_st (T' := s₁) (F' := (mkF m 31 #[.val (.int x0), .val (.int x1), .val (.int (x0 ||| (32 : Int32))), .unset, .unset] [(.int (0 : Int32))])) (fun _ k => XS.iconst X0.here hx rfl (hb hby d2_30) k) ?_
        exact J31_1 (0 : Int32) (Or.inr (Or.inl (⟨hc17, hc23, rfl⟩)))
      ·
        refine own_st (T' := s₁) (F' := (mkF m 27 #[.val (.int x0), .val (.int x1), .val (.int (x0 ||| (32 : Int32))), .unset, .unset] [(.int (1 : Int32))])) (fun _ k => XS.iconst X0.here hx rfl (hb hby d2_26) k) ?_
        refine own_st (T' := s₁) (F' := (mkF m 31 #[.val (.int x0), .val (.int x1), .val (.int (x0 ||| (32 : Int32))), .unset, .unset] [(.int (1 : Int32))])) (fun _ k => XS.goto X0.here hx rfl (pc0 := 27) (pc' := 31) rfl (hb hby d2_27) (by decide) (by decide) k) ?_
        exact J31_1 (1 : Int32) (Or.inr (Or.inr (⟨hc17, hc23, rfl⟩)))
  ·
    refine own_st (T' := s₁) (F' := (mkF m 8 #[.val (.int x0), .val (.int x1), .unset, .unset, .unset] [(.int (1 : Int32))])) (fun _ k => XS.iconst X0.here hx rfl (hb hby d2_7) k) ?_
    refine own_retN X0 hx hlk (t := .boolean) Bd.returns (by simp) (hb hby d2_8) ?_ (by decide) (by decide)
    rw [e0]
    refine ⟨⟨_, rfl, ?_⟩, N0, rfl⟩
    exact Or.inl ⟨rfl, Or.inr (Or.inr (Or.inr (Or.inl hc4)))⟩
theorem own_pd0 : parseMethodDescriptor "(CZ)Z" = some ⟨[.char, .boolean], some .boolean⟩ := by decide +kernel
theorem own_pd1 : parseMethodDescriptor "(IZ)Z" = some ⟨[.int, .boolean], some .boolean⟩ := by decide +kernel
theorem own_pn0 : plainName "com/example/opzet/opzet/ScriptTextIsNameCharacterPinLaw" = true := by first | (simp [plainName, overriddenIn]; done) | decide +kernel
theorem own_ef0 (m : MethodId) (x0 : Int32) (x1 : Int32) : entryFrame m #[(.int x0), (.int x1)] maxLocals = (mkF m 0 #[.val (.int x0), .val (.int x1), .unset, .unset, .unset, .unset] []) := by first | (simp [entryFrame, mkF, argsToLocals, Value.category, maxLocals]; done) | rfl
def Q0 (Z : State) (x0 : Int32) (x1 : Int32)  (h0 : Heap) (n0 : Nat) (v : Option Value) (h : Heap) (L : List Loc) : Prop := (∃ z : Int32, v = some (.int z) ∧ (z = 1)) ∧ Fr n0 L ∧ h = h0
set_option maxRecDepth 65536 in
set_option maxHeartbeats 40000000 in
theorem rm0 (l : Launch) (Z : State) (a0 : Array Value) (hw : ∀ d ∈ tables_1, d.before a0 Z = true) (ws : List Jvm.Cond) (x0 : Int32) (x1 : Int32)  (h0 : Heap) (n0 : Nat) (Z0 : n0 ≤ h0.size)  :
    MetFree l x (head1 (Jvm.Cond.code x code maxLocals ret :: ws) room_1) (fun a U => a = #[(.int x0), (.int x1)] ∧ Z.Warmed39 U.vm ∧ U.heap = h0) (fun _ _ _ _ _ => True) (fun _ U oc U' => ∃ v L, oc = .returned v ∧ Q0 Z x0 x1  h0 n0 v U'.heap L ∧ FrameEnd U oc U' L room_1.cells room_1.slots) := by
  refine MetFree.of_bodySF (plainFor_of_name own_pn0) hisR ?_
  intro p e s m args below meth c s₁ Bd hml0 hP hK
  obtain ⟨rfl, hZ, hh⟩ := hP
  have hx := Bd.exec
  have hby := Bd.bytes
  have hlk : meth.locks = false := BodyLoose.notSynchronized Bd
  have hml : c.maxLocals = 6 := hml0
  have hown : s.vm.findClass "com/example/opzet/opzet/ScriptTextIsNameCharacterPinLaw" = some m.cls := findClass_of_methodNamed Bd.named
  have hnm := (name_of_methodNamed Bd.named Bd.method).1
  have X0 : Stand p l e room_1 s m #[(.int x0), (.int x1)] below meth c s₁ [] 0 0 := Stand.of_body Bd
  have e0 : s₁.heap = h0 := by rw [← hh, Bd.state]; rfl
  have N0 := Fr.nil n0
  refine own_enter (own_ef0 m x0 x1) ?_
  show own_Go p e below s (Q0 Z x0 x1  h0 n0) room_1.cells room_1.slots s₁ (mkF m 0 #[.val (.int x0), .val (.int x1), .unset, .unset, .unset, .unset] [])
  refine own_st (T' := s₁) (F' := (mkF m 1 #[.val (.int x0), .val (.int x1), .unset, .unset, .unset, .unset] [(.int x0)])) (fun _ k => XS.iloadN X0.here hx rfl (hb hby at_0) rfl  k) ?_
  refine own_st (T' := s₁) (F' := (mkF m 2 #[.val (.int x0), .val (.int x1), .unset, .unset, .unset, .unset] [(.int (x0.toUInt32.toUInt16.toUInt32.toInt32))])) (fun _ k => XS.i2c X0.here hx rfl (hb hby at_1) rfl k) ?_
  refine own_st (T' := s₁) (F' := (mkF m 3 #[.val (.int x0), .val (.int x1), .val (.int (x0.toUInt32.toUInt16.toUInt32.toInt32)), .unset, .unset, .unset] [])) (fun _ k => XS.istoreN X0.here hx rfl (hb hby at_2) rfl (l' := #[.val (.int x0), .val (.int x1), .val (.int (x0.toUInt32.toUInt16.toUInt32.toInt32)), .unset, .unset, .unset]) rfl k) ?_
  refine own_st (T' := s₁) (F' := (mkF m 4 #[.val (.int x0), .val (.int x1), .val (.int (x0.toUInt32.toUInt16.toUInt32.toInt32)), .unset, .unset, .unset] [(.int (x0.toUInt32.toUInt16.toUInt32.toInt32))])) (fun _ k => XS.iloadN X0.here hx rfl (hb hby at_3) rfl  k) ?_
  refine own_st (T' := s₁) (F' := (mkF m 5 #[.val (.int x0), .val (.int x1), .val (.int (x0.toUInt32.toUInt16.toUInt32.toInt32)), .val (.int (x0.toUInt32.toUInt16.toUInt32.toInt32)), .unset, .unset] [])) (fun _ k => XS.istoreN X0.here hx rfl (hb hby at_4) rfl (l' := #[.val (.int x0), .val (.int x1), .val (.int (x0.toUInt32.toUInt16.toUInt32.toInt32)), .val (.int (x0.toUInt32.toUInt16.toUInt32.toInt32)), .unset, .unset]) rfl k) ?_
  refine own_st (T' := s₁) (F' := (mkF m 6 #[.val (.int x0), .val (.int x1), .val (.int (x0.toUInt32.toUInt16.toUInt32.toInt32)), .val (.int (x0.toUInt32.toUInt16.toUInt32.toInt32)), .unset, .unset] [(.int x1)])) (fun _ k => XS.iloadN X0.here hx rfl (hb hby at_5) rfl  k) ?_
  refine own_st (T' := s₁) (F' := (mkF m 7 #[.val (.int x0), .val (.int x1), .val (.int (x0.toUInt32.toUInt16.toUInt32.toInt32)), .val (.int (x0.toUInt32.toUInt16.toUInt32.toInt32)), .unset, .unset] [(.int (1 : Int32)), (.int x1)])) (fun _ k => XS.iconst X0.here hx rfl (hb hby at_6) k) ?_
  refine own_st (T' := s₁) (F' := (mkF m 8 #[.val (.int x0), .val (.int x1), .val (.int (x0.toUInt32.toUInt16.toUInt32.toInt32)), .val (.int (x0.toUInt32.toUInt16.toUInt32.toInt32)), .unset, .unset] [(.int (x1 &&& (1 : Int32)))])) (fun _ k => XS.iand X0.here hx rfl (hb hby at_7) rfl k) ?_
  have J16_1 : ∀ (j16_1 : Int32), ((((x1 &&& (1 : Int32)) = (0 : Int32)) ∧ j16_1 = (0 : Int32)) ∨ ((¬ ((x1 &&& (1 : Int32)) = (0 : Int32))) ∧ j16_1 = (1 : Int32))) → own_Go p e below s (Q0 Z x0 x1  h0 n0) room_1.cells room_1.slots s₁ (mkF m 16 #[.val (.int x0), .val (.int x1), .val (.int (x0.toUInt32.toUInt16.toUInt32.toInt32)), .val (.int (x0.toUInt32.toUInt16.toUInt32.toInt32)), .unset, .unset] [(.int j16_1)]) := by
    intro j16_1 hJ16_1
    refine own_st (T' := s₁) (F' := (mkF m 18 #[.val (.int x0), .val (.int x1), .val (.int (x0.toUInt32.toUInt16.toUInt32.toInt32)), .val (.int (x0.toUInt32.toUInt16.toUInt32.toInt32)), .val (.int j16_1), .unset] [])) (fun _ k => XS.istore X0.here hx rfl (hb hby at_16) rfl (l' := #[.val (.int x0), .val (.int x1), .val (.int (x0.toUInt32.toUInt16.toUInt32.toInt32)), .val (.int (x0.toUInt32.toUInt16.toUInt32.toInt32)), .val (.int j16_1), .unset]) rfl k) ?_
    refine own_st (T' := s₁) (F' := (mkF m 19 #[.val (.int x0), .val (.int x1), .val (.int (x0.toUInt32.toUInt16.toUInt32.toInt32)), .val (.int (x0.toUInt32.toUInt16.toUInt32.toInt32)), .val (.int j16_1), .unset] [(.int (x0.toUInt32.toUInt16.toUInt32.toInt32))])) (fun _ k => XS.iloadN X0.here hx rfl (hb hby at_18) rfl  k) ?_
    refine own_st (T' := s₁) (F' := (mkF m 21 #[.val (.int x0), .val (.int x1), .val (.int (x0.toUInt32.toUInt16.toUInt32.toInt32)), .val (.int (x0.toUInt32.toUInt16.toUInt32.toInt32)), .val (.int j16_1), .unset] [(.int j16_1), (.int (x0.toUInt32.toUInt16.toUInt32.toInt32))])) (fun _ k => XS.iload X0.here hx rfl (hb hby at_19) rfl  k) ?_
    obtain ⟨_, _, ⟨T2, L2, k2, n2⟩, -, X2, ⟨Lc2, hQ2, l2, y2, z2⟩, st2⟩ := Jvm.LawKit.callS X0 hx (y := (⟨"com/example/opzet/opzet/ScriptText", "isNameCharacter", "(CZ)Z"⟩ : MethodName)) hown (mvT hZ (hw _ (List.mem_of_getElem? (i := 0) rfl))) (mvT hZ (hw _ (List.mem_of_getElem? (i := 1) rfl))) (mvT hZ (hw _ (List.mem_of_getElem? (i := 2) rfl))) (mvT hZ (hw _ (List.mem_of_getElem? (i := 3) rfl))) (by decide) (backOf (W := 0) (rm1 l Z a0 hw [] (x0.toUInt32.toUInt16.toUInt32.toInt32) j16_1  h0 n0 Z0 ) hZ (hw _ (List.mem_of_getElem? (i := 3) rfl)) (hw _ (List.mem_of_getElem? (i := 2) rfl)) (by decide) (by decide)) (g := (mkF m 21 #[.val (.int x0), .val (.int x1), .val (.int (x0.toUInt32.toUInt16.toUInt32.toInt32)), .val (.int (x0.toUInt32.toUInt16.toUInt32.toInt32)), .val (.int j16_1), .unset] [(.int j16_1), (.int (x0.toUInt32.toUInt16.toUInt32.toInt32))])) rfl (by rw [hml]; rfl) (argsL := [(.int (x0.toUInt32.toUInt16.toUInt32.toInt32)), (.int j16_1)]) (rest := []) (lenOf own_pd0 rfl) rfl (by show 2 * 0 + _ ≤ _; exact Nat.le_of_eq rfl) (hb hby at_21) (fun _ _ => ⟨rfl, e0, (by decide : 0 + 0 ≤ _), (by decide : 0 + 0 ≤ _)⟩)
    dsimp only [Pt.U, Pt.locs, Pt.cells, Pt.slots] at X2 l2 y2 z2 st2 hQ2
    subst l2 y2 z2
    obtain ⟨⟨r2, rfl, hr2⟩, Nq2, eq2⟩ := hQ2
    have N2 := Fr.app N0 Nq2
    refine own_st (T' := T2) (F' := (mkF m 24 #[.val (.int x0), .val (.int x1), .val (.int (x0.toUInt32.toUInt16.toUInt32.toInt32)), .val (.int (x0.toUInt32.toUInt16.toUInt32.toInt32)), .val (.int j16_1), .unset] [(.int r2)])) (fun _ k => st2 _ k) ?_
    refine own_st (T' := T2) (F' := (mkF m 26 #[.val (.int x0), .val (.int x1), .val (.int (x0.toUInt32.toUInt16.toUInt32.toInt32)), .val (.int (x0.toUInt32.toUInt16.toUInt32.toInt32)), .val (.int j16_1), .val (.int r2)] [])) (fun _ k => XS.istore X2.here hx rfl (hb hby at_24) rfl (l' := #[.val (.int x0), .val (.int x1), .val (.int (x0.toUInt32.toUInt16.toUInt32.toInt32)), .val (.int (x0.toUInt32.toUInt16.toUInt32.toInt32)), .val (.int j16_1), .val (.int r2)]) rfl k) ?_
    refine own_st (T' := T2) (F' := (mkF m 28 #[.val (.int x0), .val (.int x1), .val (.int (x0.toUInt32.toUInt16.toUInt32.toInt32)), .val (.int (x0.toUInt32.toUInt16.toUInt32.toInt32)), .val (.int j16_1), .val (.int r2)] [(.int r2)])) (fun _ k => XS.iload X2.here hx rfl (hb hby at_26) rfl  k) ?_
    refine own_st (T' := T2) (F' := (mkF m 29 #[.val (.int x0), .val (.int x1), .val (.int (x0.toUInt32.toUInt16.toUInt32.toInt32)), .val (.int (x0.toUInt32.toUInt16.toUInt32.toInt32)), .val (.int j16_1), .val (.int r2)] [(.int (x0.toUInt32.toUInt16.toUInt32.toInt32)), (.int r2)])) (fun _ k => XS.iloadN X2.here hx rfl (hb hby at_28) rfl  k) ?_
    refine own_st (T' := T2) (F' := (mkF m 31 #[.val (.int x0), .val (.int x1), .val (.int (x0.toUInt32.toUInt16.toUInt32.toInt32)), .val (.int (x0.toUInt32.toUInt16.toUInt32.toInt32)), .val (.int j16_1), .val (.int r2)] [(.int j16_1), (.int (x0.toUInt32.toUInt16.toUInt32.toInt32)), (.int r2)])) (fun _ k => XS.iload X2.here hx rfl (hb hby at_29) rfl  k) ?_
    obtain ⟨_, _, ⟨T3, L3, k3, n3⟩, -, X3, ⟨Lc3, hQ3, l3, y3, z3⟩, st3⟩ := Jvm.LawKit.callS X2 hx (y := (⟨"com/example/opzet/opzet/ScriptTextIsNameCharacterPinLaw", "expected", "(IZ)Z"⟩ : MethodName)) hown (mvT hZ (hw _ (List.mem_of_getElem? (i := 4) rfl))) (mvT hZ (hw _ (List.mem_of_getElem? (i := 5) rfl))) (mvT hZ (hw _ (List.mem_of_getElem? (i := 6) rfl))) (mvT hZ (hw _ (List.mem_of_getElem? (i := 7) rfl))) (by decide) (backOf (W := 1) (rm2 l Z a0 hw [] (x0.toUInt32.toUInt16.toUInt32.toInt32) j16_1  h0 n0 Z0 (c_i2c x0).2.1 (by rcases hJ16_1 with ⟨_, q⟩ | ⟨_, q⟩ <;> simp [q])) hZ (hw _ (List.mem_of_getElem? (i := 7) rfl)) (hw _ (List.mem_of_getElem? (i := 6) rfl)) (by decide) (by decide)) (g := (mkF m 31 #[.val (.int x0), .val (.int x1), .val (.int (x0.toUInt32.toUInt16.toUInt32.toInt32)), .val (.int (x0.toUInt32.toUInt16.toUInt32.toInt32)), .val (.int j16_1), .val (.int r2)] [(.int j16_1), (.int (x0.toUInt32.toUInt16.toUInt32.toInt32)), (.int r2)])) rfl (by rw [hml]; rfl) (argsL := [(.int (x0.toUInt32.toUInt16.toUInt32.toInt32)), (.int j16_1)]) (rest := [(.int r2)]) (lenOf own_pd1 rfl) rfl (by show 2 * 0 + _ ≤ _; exact Nat.le_of_eq rfl) (hb hby at_31) (fun _ _ => ⟨rfl, eq2, (by decide : 0 + 0 ≤ _), (by decide : 0 + 0 ≤ _)⟩)
    dsimp only [Pt.U, Pt.locs, Pt.cells, Pt.slots] at X3 l3 y3 z3 st3 hQ3
    subst l3 y3 z3
    obtain ⟨⟨r3, rfl, hr3⟩, Nq3, eq3⟩ := hQ3
    have N3 := Fr.app N2 Nq3
    refine own_st (T' := T3) (F' := (mkF m 34 #[.val (.int x0), .val (.int x1), .val (.int (x0.toUInt32.toUInt16.toUInt32.toInt32)), .val (.int (x0.toUInt32.toUInt16.toUInt32.toInt32)), .val (.int j16_1), .val (.int r2)] [(.int r3), (.int r2)])) (fun _ k => st3 _ k) ?_
    have J42_4 : ∀ (j42_1 : Int32), (((¬ (r2 = r3)) ∧ j42_1 = (0 : Int32)) ∨ ((r2 = r3) ∧ j42_1 = (1 : Int32))) → own_Go p e below s (Q0 Z x0 x1  h0 n0) room_1.cells room_1.slots T3 (mkF m 42 #[.val (.int x0), .val (.int x1), .val (.int (x0.toUInt32.toUInt16.toUInt32.toInt32)), .val (.int (x0.toUInt32.toUInt16.toUInt32.toInt32)), .val (.int j16_1), .val (.int r2)] [(.int j42_1)]) := by
      intro j42_1 hJ42_4
      refine own_retN X3 hx hlk (t := .boolean) Bd.returns (by simp) (hb hby at_42) ?_ (by decide) (by decide)
      rw [eq3]
      refine ⟨⟨_, rfl, ?_⟩, N3, rfl⟩
      rcases hJ42_4 with ⟨h, rfl⟩ | ⟨h, rfl⟩
      · exact absurd (own_u hr2 hr3) h
      · rfl
    refine own_icmp X3 hx (pc' := 41) (pc2 := 37) (hb hby at_34) (by decide) (by decide) rfl (fun (hc34 : ¬ (r2 = r3)) => ?_) (fun (hc34 : r2 = r3) => ?_)
    ·
      refine own_st (T' := T3) (F' := (mkF m 42 #[.val (.int x0), .val (.int x1), .val (.int (x0.toUInt32.toUInt16.toUInt32.toInt32)), .val (.int (x0.toUInt32.toUInt16.toUInt32.toInt32)), .val (.int j16_1), .val (.int r2)] [(.int (0 : Int32))])) (fun _ k => XS.iconst X3.here hx rfl (hb hby at_41) k) ?_
      exact J42_4 (0 : Int32) (Or.inl (⟨hc34, rfl⟩))
    ·
      refine own_st (T' := T3) (F' := (mkF m 38 #[.val (.int x0), .val (.int x1), .val (.int (x0.toUInt32.toUInt16.toUInt32.toInt32)), .val (.int (x0.toUInt32.toUInt16.toUInt32.toInt32)), .val (.int j16_1), .val (.int r2)] [(.int (1 : Int32))])) (fun _ k => XS.iconst X3.here hx rfl (hb hby at_37) k) ?_
      refine own_st (T' := T3) (F' := (mkF m 42 #[.val (.int x0), .val (.int x1), .val (.int (x0.toUInt32.toUInt16.toUInt32.toInt32)), .val (.int (x0.toUInt32.toUInt16.toUInt32.toInt32)), .val (.int j16_1), .val (.int r2)] [(.int (1 : Int32))])) (fun _ k => XS.goto X3.here hx rfl (pc0 := 38) (pc' := 42) rfl (hb hby at_38) (by decide) (by decide) k) ?_
      exact J42_4 (1 : Int32) (Or.inr (⟨hc34, rfl⟩))
  refine own_ifc X0 hx (pc' := 15) (pc2 := 11) (hb hby at_8) (by decide) (by decide) rfl (fun (hc8 : (x1 &&& (1 : Int32)) = (0 : Int32)) => ?_) (fun (hc8 : ¬ ((x1 &&& (1 : Int32)) = (0 : Int32))) => ?_)
  ·
    refine own_st (T' := s₁) (F' := (mkF m 16 #[.val (.int x0), .val (.int x1), .val (.int (x0.toUInt32.toUInt16.toUInt32.toInt32)), .val (.int (x0.toUInt32.toUInt16.toUInt32.toInt32)), .unset, .unset] [(.int (0 : Int32))])) (fun _ k => XS.iconst X0.here hx rfl (hb hby at_15) k) ?_
    exact J16_1 (0 : Int32) (Or.inl (⟨hc8, rfl⟩))
  ·
    refine own_st (T' := s₁) (F' := (mkF m 12 #[.val (.int x0), .val (.int x1), .val (.int (x0.toUInt32.toUInt16.toUInt32.toInt32)), .val (.int (x0.toUInt32.toUInt16.toUInt32.toInt32)), .unset, .unset] [(.int (1 : Int32))])) (fun _ k => XS.iconst X0.here hx rfl (hb hby at_11) k) ?_
    refine own_st (T' := s₁) (F' := (mkF m 16 #[.val (.int x0), .val (.int x1), .val (.int (x0.toUInt32.toUInt16.toUInt32.toInt32)), .val (.int (x0.toUInt32.toUInt16.toUInt32.toInt32)), .unset, .unset] [(.int (1 : Int32))])) (fun _ k => XS.goto X0.here hx rfl (pc0 := 12) (pc' := 16) rfl (hb hby at_12) (by decide) (by decide) k) ?_
    exact J16_1 (1 : Int32) (Or.inr (⟨hc8, rfl⟩))
set_option maxRecDepth 65536 in
set_option maxHeartbeats 40000000 in
theorem comes_1 {Post : Tables → Env → Array Value → State → Outcome → State → Prop} (hpost : ∀ tb e args s v u, (limb_1_1.after args s (.returned v) u = true ∧ limb_1_2.after args s (.returned v) u = true ∧ True) → FrameEnd s (.returned v) u (Jvm.fieldLocs frame_1_writes args s ++ Jvm.arrayLocs frame_1_arrays args s ++ Jvm.staticLocs frame_1_statics s) 0 0 → Post tb e args s (.returned v) u) :
    ArmFor flags0 classFile x code maxLocals ret World_1 tables_1 room_1 Calls_1 rest_1 Pre_1 Post := by
  intro l hfl _ _ p e ha hc hk s m args below hf hA hF happ hP
  obtain ⟨hcalls, hrest, hpre⟩ := hP
  obtain ⟨-, -, -, hnamed, -, -, -, hat⟩ := (Spec.applies_iff hf).mp happ
  obtain ⟨hg, hn⟩ := and_e (Cond.before_iff.mp (show (Jvm.Cond.and given_1 narrow_1).before args s = true from hpre))
  obtain ⟨g0, hg0⟩ := and_e hg
  obtain ⟨g1, hg1⟩ := and_e hg0
  obtain ⟨w0, w1, rfl⟩ : ∃ w0 w1 : Value, args = #[w0, w1] := by
    have hs : args.size = 2 := by simpa [Cond.value, given_1] using g0
    obtain ⟨L⟩ := args
    match L, hs with
    | [w0, w1], _ => exact ⟨w0, w1, rfl⟩
  have hw := fun d (hd : d ∈ tables_1) => atoms_spec (ws := Jvm.Cond.code x code maxLocals ret :: tables_1) hat d (List.mem_cons_of_mem _ hd)
  have hfit : Fit s := fun {y c} hc i hi => by
    obtain ⟨ha, rfl⟩ := Array.getElem?_eq_some_iff.mp hc
    have q := List.all_eq_true.mp ((Array.all_eq_true_iff_forall_mem.mp hF) _ (Array.getElem_mem ha)) i (List.mem_range.mpr hi)
    simpa [Array.getElem?_eq_getElem hi] using q
  obtain ⟨i0, ei0⟩ := is_v g1
  obtain rfl : w0 = (.int i0) := Option.some.inj ei0
  obtain ⟨i1, ei1⟩ := is_v hg1
  obtain rfl : w1 = (.int i1) := Option.some.inj ei1
  obtain ⟨n, o, h1, h2, h3, _, L, rfl, ⟨⟨_, rfl, rfl⟩, N, _⟩, hq⟩ := rm0 l s _ hw tables_1 i0 i1  s.heap s.heap.size (Nat.le_refl _)  p e ha hc hk s m _ below hf ((Spec.applies_iff_loose hf).mp happ).1 ⟨rfl, State.Warmed39.refl s, rfl⟩ trivial
  refine ⟨n, _, h1, h2, h3, hpost _ _ _ _ _ _ ⟨Cond.after_iff.mpr rfl, Cond.after_iff.mpr (eq_i res_at (Term.int_eval (1)) rfl), trivial⟩ ⟨hq.1, hq.2.1, (hq.2.2.sift fun y hy => Or.inr (N y hy)).mono (by decide) (by decide)⟩⟩
theorem main_1_1 : Claimed_1_1 := comes_1 fun _ _ _ _ _ _ h hF => ⟨h.1, hF⟩
theorem main_1_2 : Claimed_1_2 := comes_1 fun _ _ _ _ _ _ h hF => ⟨h.2.1, hF⟩
end Jvm.Pilot.@@N@@
namespace Jvm.Pilot.@@N@@
open Jvm Jvm.ClassFile Sem Op Lib Jvm.Free Jvm.Stand Jvm.Pilot.@@N@@.Jvm.D
/-! MADE BY PROGRAM (witnessworld.py) out of the Statement's table words and the real class files: 9 classes; the members and pool entries that the words name. The judged class is class 1, her method 2. -/
namespace start1
open Jvm.ClassFile
def u (s : String) : CpInfo := .utf8 (stringToUtf16 s)
/-- a pool by its gaps: so many unusable entries, then the entry; so many at the end -/
def gap : Nat → List CpInfo → List CpInfo
  | 0, r => r
  | n + 1, r => .unusable :: gap n r
def poolList (es : List (Nat × CpInfo)) (last : Nat) : List CpInfo := es.foldr (fun e r => gap e.1 (e.2 :: r)) (gap last [])
def pool (es : List (Nat × CpInfo)) (last : Nat) : Array CpInfo := ⟨poolList es last⟩
def fileOf (pool : Array CpInfo) (this : Nat) (attrs : Array Attribute := #[]) (ms : Array MethodInfo := #[]) (fl : Nat := 33) (sup : Nat := 0) (ifs : Array Nat := #[]) (fds : Array FieldInfo := #[]) : ClassFile where
  minorVersion := 0
  majorVersion := 65
  constantPool := pool
  accessFlags := fl
  thisClass := this
  superClass := sup
  interfaces := ifs
  fields := fds
  methods := ms
  attributes := attrs
def plain (name : String) (sup : Option ClassId) : Class where
  name := name
  kind := .ordinary
  loader := none
  accessFlags := 33
  super := sup
  interfaces := #[]
  cf := none
  fields := #[]
  methods := #[]
  instanceTypes := #[]
  staticTypes := #[]
  resolved := #[]
  callSites := []
  init := .initialized
  statics := none
  mirror := none

def pool0 : Array CpInfo := pool [(5, u "<init>"), (0, u "()V"), (1, .class_ 10), (1, u "java/lang/Object")] 113

def k0m0 : Method := { name := "<init>", desc := "()V", sig := { parameters := [], returnType := none }, accessFlags := 1, code := none }
/-- java/lang/Object -/
def k0 : Class := { plain "java/lang/Object" none with
  accessFlags := 33
  interfaces := #[]
  cf := some (fileOf pool0 8 #[] #[{ accessFlags := 1, nameIndex := 5, descriptorIndex := 6, attributes := #[] }] 33 0 #[] #[])
  fields := #[]
  methods := #[k0m0]
  instanceTypes := #[]
  staticTypes := #[]
  resolved := Array.replicate 124 none
  statics := none }

def pool1 : Array CpInfo := pool [(2, .class_ 4), (1, u "java/lang/Object"), (0, u "<init>"), (0, u "()V"), (0, .methodref 8 9), (0, .class_ 10), (0, .nameAndType 11 12), (0, u "com/example/opzet/opzet/ScriptText"), (0, u "isNameCharacter"), (0, u "(CZ)Z"), (0, .methodref 14 15), (0, .class_ 16), (0, .nameAndType 17 18), (0, u "com/example/opzet/opzet/ScriptTextIsNameCharacterPinLaw"), (0, u "expected"), (0, u "(IZ)Z"), (3, u "law"), (0, u "(II)Z")] 2

def k1m0 : Method := { name := "<init>", desc := "()V", sig := { parameters := [], returnType := none }, accessFlags := 2, code := none }
def k1c1 : Code := { maxStack := 2, maxLocals := 5, code := method_2_code, exceptionTable := #[], attributes := #[] }
def k1m1 : Method := { name := "expected", desc := "(IZ)Z", sig := { parameters := [.int, .boolean], returnType := some .boolean }, accessFlags := 10, code := some k1c1 }
def k1c2 : Code := { maxStack := 3, maxLocals := 6, code := code, exceptionTable := #[], attributes := #[] }
def k1m2 : Method := { name := "law", desc := "(II)Z", sig := { parameters := [.int, .int], returnType := some .boolean }, accessFlags := 9, code := some k1c2 }
/-- com/example/opzet/opzet/ScriptTextIsNameCharacterPinLaw -/
def k1 : Class := { plain "com/example/opzet/opzet/ScriptTextIsNameCharacterPinLaw" (some 0) with
  accessFlags := 49
  interfaces := #[]
  cf := some (fileOf pool1 14 #[] #[{ accessFlags := 2, nameIndex := 5, descriptorIndex := 6, attributes := #[] }, { accessFlags := 10, nameIndex := 17, descriptorIndex := 18, attributes := #[] }, { accessFlags := 9, nameIndex := 22, descriptorIndex := 23, attributes := #[] }] 49 2 #[] #[])
  fields := #[]
  methods := #[k1m0, k1m1, k1m2]
  instanceTypes := #[]
  staticTypes := #[]
  resolved := Array.replicate 26 none
  statics := none }

def pool2 : Array CpInfo := pool [(2, .class_ 4), (1, u "java/lang/Object"), (0, u "<init>"), (0, u "()V"), (40, .class_ 48), (0, u "com/example/opzet/opzet/ScriptText$UnterminatedException"), (6, .class_ 57), (1, u "com/example/opzet/opzet/ScriptText"), (0, u "isNameCharacter"), (0, u "(CZ)Z"), (65, .class_ 126), (0, u "com/example/opzet/opzet/ScriptText$UnsupportedCommandException"), (0, .class_ 128), (0, u "com/example/opzet/opzet/ScriptText$Syntax"), (0, .class_ 130), (0, u "com/example/opzet/opzet/ScriptText$StringRules"), (0, .class_ 132), (0, u "com/example/opzet/opzet/ScriptText$StringRules$1"), (0, .class_ 134), (0, u "com/example/opzet/opzet/ScriptText$StatementReader"), (0, .class_ 136), (0, u "com/example/opzet/opzet/ScriptText$StatementReader$1"), (0, .class_ 138), (0, u "com/example/opzet/opzet/ScriptText$Block"), (0, .class_ 140), (0, u "com/example/opzet/opzet/ScriptText$Interpolation"), (0, .class_ 142), (0, u "com/example/opzet/opzet/ScriptText$ClientCommand"), (0, .class_ 144), (0, u "com/example/opzet/opzet/ScriptText$ClientCommand$Include"), (0, .class_ 146), (0, u "com/example/opzet/opzet/ScriptText$ClientCommand$Echo"), (0, .class_ 148), (0, u "com/example/opzet/opzet/ScriptText$ClientCommand$Variables"), (0, .class_ 150), (0, u "com/example/opzet/opzet/ScriptText$ClientCommand$Delimiter"), (0, .class_ 152), (0, u "com/example/opzet/opzet/ScriptText$ClientCommand$PassedOver")] 28

def k2m0 : Method := { name := "<init>", desc := "()V", sig := { parameters := [], returnType := none }, accessFlags := 2, code := none }
def k2c1 : Code := { maxStack := 2, maxLocals := 2, code := prog_102_method_15_code, exceptionTable := #[], attributes := #[] }
def k2m1 : Method := { name := "isNameCharacter", desc := "(CZ)Z", sig := { parameters := [.char, .boolean], returnType := some .boolean }, accessFlags := 8, code := some k2c1 }
/-- com/example/opzet/opzet/ScriptText -/
def k2 : Class := { plain "com/example/opzet/opzet/ScriptText" (some 0) with
  accessFlags := 48
  interfaces := #[]
  cf := some (fileOf pool2 55 #[.nestMembers #[47, 125, 127, 129, 131, 133, 135, 137, 139, 141, 143, 145, 147, 149, 151]] #[{ accessFlags := 2, nameIndex := 5, descriptorIndex := 6, attributes := #[] }, { accessFlags := 8, nameIndex := 58, descriptorIndex := 59, attributes := #[] }] 48 2 #[] #[])
  fields := #[]
  methods := #[k2m0, k2m1]
  instanceTypes := #[]
  staticTypes := #[]
  resolved := Array.replicate 181 none
  statics := none }

def pool3 : Array CpInfo := pool [(1, u "java/lang/Cloneable"), (0, .class_ 1), (0, u "java/lang/Object"), (0, .class_ 3)] 3

/-- java/lang/Cloneable -/
def k3 : Class := { plain "java/lang/Cloneable" (some 0) with
  accessFlags := 1537
  interfaces := #[]
  cf := some (fileOf pool3 2 #[] #[] 1537 4 #[] #[])
  fields := #[]
  methods := #[]
  instanceTypes := #[]
  staticTypes := #[]
  resolved := Array.replicate 8 none
  statics := none }

def pool4 : Array CpInfo := pool [(1, u "java/io/Serializable"), (0, .class_ 1), (0, u "java/lang/Object"), (0, .class_ 3)] 3

/-- java/io/Serializable -/
def k4 : Class := { plain "java/io/Serializable" (some 0) with
  accessFlags := 1537
  interfaces := #[]
  cf := some (fileOf pool4 2 #[] #[] 1537 4 #[] #[])
  fields := #[]
  methods := #[]
  instanceTypes := #[]
  staticTypes := #[]
  resolved := Array.replicate 8 none
  statics := none }

/-- the primitive byte -/
def k5 : Class := { plain "byte" none with kind := .primitive 'B', accessFlags := 0x411 }
/-- [B -/
def k6 : Class := { plain "[B" (some 0) with kind := .array 5 .byte, interfaces := #[3, 4], accessFlags := 1041 }

/-- the primitive int -/
def k7 : Class := { plain "int" none with kind := .primitive 'I', accessFlags := 0x411 }
/-- [I -/
def k8 : Class := { plain "[I" (some 0) with kind := .array 7 .int, interfaces := #[3, 4], accessFlags := 1041 }

def heap : Heap := #[]
def classes : Array Class := #[k0, k1, k2, k3, k4, k5, k6, k7, k8]
def interned : List (Array UInt16 × Addr) := []
def slotsUsed : Nat := 0
def theMethod : MethodId := ⟨1, 2⟩
def args0 : Array Value := #[.int 5, .int 1]
def aboutOver (below : List Frame) : State where
  vm := { classes := classes, interned := interned.toArray }
  heap := heap
  slotsUsed := slotsUsed
  threads := #[{ frames := .invoking theMethod args0 :: below }]
def below0 : List Frame := [.native { method := ⟨0, 0⟩, args := #[] }]
def about1 : State := aboutOver below0
def p0 : Program := .bare "" "" ""
def e0 : Env := launch0.env 0 0 0
theorem w_frames : about1.frames = Frame.invoking theMethod args0 :: below0 := rfl
set_option maxRecDepth 65536 in
theorem w_args : argsFit about1.vm theMethod args0 = true := by decide +kernel
set_option maxRecDepth 65536 in
theorem w_heap : heapFits about1 = true := by decide +kernel
set_option maxRecDepth 65536 in
theorem w_runnable : about1.curStatus? = some .runnable := by decide +kernel
set_option maxRecDepth 65536 in
theorem w_alone : about1.alone = true := by decide +kernel
set_option maxRecDepth 65536 in
theorem w_named : about1.methodNamed? x = some theMethod := by decide +kernel
set_option maxRecDepth 65536 in
theorem w_hears : about1.hears theMethod below0 = true := by decide +kernel
set_option maxRecDepth 65536 in
theorem w_ripe : about1.ripe theMethod args0 below0 = true := by decide +kernel
theorem w_running : about1.status = .running := rfl
set_option maxRecDepth 65536 in
theorem w_room : about1.hasRoom e0.platform room_1 = true :=
  launch0.hasRoom_least _ room_1 (by decide +kernel) (by decide +kernel) (by decide +kernel) (by decide +kernel) (by decide +kernel) (by decide +kernel)
theorem allAtoms_all (ts : List Jvm.Cond) (a : Array Jvm.Value) (st : Jvm.State) : (allAtoms ts).before a st = ts.all (fun c => c.before a st) := by
  induction ts with
  | nil => rfl
  | cons c t ih =>
    show (Jvm.Cond.and c (allAtoms t)).before a st = _
    rw [Jvm.Cond.before_and, ih, List.all_cons]
def words1 : List Jvm.Cond := Jvm.Cond.code x code maxLocals ret :: tables_1
/-- a 'code' word, met by the world's own term for the bytes: nothing is compared byte by byte -/
theorem code_word {y : MethodName} {bytes : ByteArray} {mx : Nat} {rt : Option FieldType} {a : Array Value} {s : State} {m : MethodId} {meth : Method} {c : Code} (h1 : s.methodNamed? y = some m) (h2 : s.vm.method? m = some meth) (h3 : meth.code = some c) (h4 : c.code = bytes)
    (h5 : (c.maxLocals == mx && c.exceptionTable.isEmpty && decide (c.maxStack ≤ mostOperands) && decide (meth.sig.returnType = rt) && !meth.locks && decide (parseMethodDescriptor y.desc = some meth.sig)) = true) : (Jvm.Cond.code y bytes mx rt).before a s = true := by
  simp only [Bool.and_eq_true, beq_iff_eq, Bool.not_eq_true', decide_eq_true_eq] at h5
  obtain ⟨⟨⟨⟨⟨g1, g2⟩, g3⟩, g4⟩, g5⟩, g6⟩ := h5
  simp [Cond.before, Cond.holds, Cond.value, h1, h2, h3, h4, g1, g2, g3, g4, g5, g6]
def isCode : Jvm.Cond → Bool
  | .code _ _ _ _ => true
  | _ => false
theorem all_split {L : List Jvm.Cond} {P : Jvm.Cond → Bool} (h1 : L.all (fun c => isCode c || P c) = true) (h2 : ∀ c ∈ L.filter isCode, P c = true) : L.all P = true := by
  refine List.all_eq_true.mpr fun c hc => ?_
  have h := List.all_eq_true.mp h1 c hc
  rcases Bool.eq_false_or_eq_true (isCode c) with hi | hi
  · exact h2 c (List.mem_filter.mpr ⟨hc, hi⟩)
  · simpa [hi] using h
set_option maxRecDepth 65536 in
theorem w_c0 : (Jvm.Cond.code x code maxLocals ret).before args0 about1 = true := code_word (m := ⟨1, 2⟩) (meth := k1m2) (c := k1c2) (by decide +kernel) rfl rfl rfl (by decide +kernel)
set_option maxRecDepth 65536 in
theorem w_c1 : (Jvm.Cond.code ({ cls := "com/example/opzet/opzet/ScriptText", name := "isNameCharacter", desc := "(CZ)Z" } : Jvm.MethodName) prog_102_method_15_code (2 : Nat) (Option.some Jvm.ClassFile.FieldType.boolean)).before args0 about1 = true := code_word (m := ⟨2, 1⟩) (meth := k2m1) (c := k2c1) (by decide +kernel) rfl rfl rfl (by decide +kernel)
set_option maxRecDepth 65536 in
theorem w_c2 : (Jvm.Cond.code ({ cls := "com/example/opzet/opzet/ScriptTextIsNameCharacterPinLaw", name := "expected", desc := "(IZ)Z" } : Jvm.MethodName) method_2_code (5 : Nat) (Option.some Jvm.ClassFile.FieldType.boolean)).before args0 about1 = true := code_word (m := ⟨1, 1⟩) (meth := k1m1) (c := k1c1) (by decide +kernel) rfl rfl rfl (by decide +kernel)
def codes1 : List Jvm.Cond := [Jvm.Cond.code x code maxLocals ret, Jvm.Cond.code ({ cls := "com/example/opzet/opzet/ScriptText", name := "isNameCharacter", desc := "(CZ)Z" } : Jvm.MethodName) prog_102_method_15_code (2 : Nat) (Option.some Jvm.ClassFile.FieldType.boolean), Jvm.Cond.code ({ cls := "com/example/opzet/opzet/ScriptTextIsNameCharacterPinLaw", name := "expected", desc := "(IZ)Z" } : Jvm.MethodName) method_2_code (5 : Nat) (Option.some Jvm.ClassFile.FieldType.boolean)]
set_option maxRecDepth 65536 in
theorem codes_eq : words1.filter isCode = codes1 := rfl
theorem w_codes : ∀ c ∈ words1.filter isCode, c.before args0 about1 = true := by
  rw [codes_eq]
  intro c hc
  simp only [codes1, List.mem_cons, List.not_mem_nil, or_false] at hc
  rcases hc with rfl | rfl | rfl
  · exact w_c0
  · exact w_c1
  · exact w_c2
set_option maxRecDepth 65536 in
theorem w_t1 : words1.all (fun c => isCode c || c.before args0 about1) = true := by decide +kernel
theorem w_tables : (allAtoms (Jvm.Cond.code x code maxLocals ret :: tables_1)).before args0 about1 = true := by
  rw [allAtoms_all]
  show words1.all (fun c => c.before args0 about1) = true
  refine all_split ?_ w_codes
  rw [w_t1]
set_option maxRecDepth 65536 in
theorem w_case : (Jvm.Cond.and given_1 narrow_1).before args0 about1 = true := by decide +kernel
theorem w_applies : (headSpec (Jvm.Cond.code x code maxLocals ret :: tables_1) room_1).applies x e0.platform about1 = true :=
  (Spec.applies_iff w_frames).mpr ⟨w_running, w_runnable, w_alone, w_named, w_hears, w_ripe, w_room, w_tables⟩
theorem atStart : AtStart classFile x code maxLocals ret World_1 tables_1 room_1 Calls_1 rest_1 Pre_1 launch0 p0 e0 about1 theMethod args0 below0 :=
  ⟨lists_1, trivial, launch0.admits_env _ _ _, launch0.least_env, fairChoices_fair.cas, fairChoices_fair.clock, w_frames, w_args, w_heap, w_applies, trivial, trivial, w_case⟩
end start1
theorem witness_1 : WitnessClaimed_1 := ⟨start1.p0, start1.e0, start1.about1, start1.theMethod, start1.args0, start1.below0, start1.atStart⟩
end Jvm.Pilot.@@N@@
