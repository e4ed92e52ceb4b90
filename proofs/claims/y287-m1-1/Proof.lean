import JvmDerived
import JvmDerived.Pilot.@@N@@Statement
import JvmDerived.Pilot.@@N@@Code
set_option linter.unusedVariables false
set_option linter.unusedSimpArgs false
namespace Jvm.Pilot.@@N@@
open Jvm Jvm.ClassFile Sem Op Lib Jvm.Free Jvm.Stand Jvm.LawKit Jvm.RoadKit Bundle Jvm.Pilot.@@N@@.Jvm.D
section Own
variable {p : Program} {l : Launch} {e : Env} {R : Room} {s : State} {m : MethodId} {args : Array Value} {below : List Frame} {meth : Method} {c : Code} {T T' : State} {locs : List Loc} {cells slots : Nat} {Qf : Option Value → Heap → List Loc → Prop} {C S : Nat} {F F' : JFrame}
/-- from the state T with the frame F on top the invocation ends as Qf says -/
def own_Go (p : Program) (e : Env) (below : List Frame) (s : State) (Qf : Option Value → Heap → List Loc → Prop) (C S : Nat) (T : State) (F : JFrame) : Prop :=
  ∃ s₂ o, Steps p.tables e below (T.setTop F) s₂ ∧ s₂.status = .running ∧ Ended s₂ below o ∧ ∃ v L, o = .returned v ∧ Qf v s₂.heap L ∧ FrameEnd s o s₂ L C S
theorem own_enter (q : F = F') (hr : own_Go p e below s Qf C S T F') : ∃ s₂ o, Steps p.tables e below (T.setTop F) s₂ ∧ s₂.status = .running ∧ Ended s₂ below o ∧ ∃ v L, o = .returned v ∧ Qf v s₂.heap L ∧ FrameEnd s o s₂ L C S := by
  subst q; exact hr
theorem own_st (st : ∀ t, Steps p.tables e below (T'.setTop F') t → Steps p.tables e below (T.setTop F) t) (hr : own_Go p e below s Qf C S T' F') : own_Go p e below s Qf C S T F := by
  obtain ⟨s2, o, h1, h2⟩ := hr
  exact ⟨s2, o, st _ h1, h2⟩
theorem own_tr (st : Steps p.tables e below (T.setTop F) (T'.setTop F')) (hr : own_Go p e below s Qf C S T' F') : own_Go p e below s Qf C S T F := by
  obtain ⟨s2, o, h1, h2⟩ := hr
  exact ⟨s2, o, st.trans h1, h2⟩
theorem own_ret (X : Stand p l e R s m args below meth c T locs cells slots) (hlk : meth.locks = false) {v : Option Value} (hv : meth.sig.returnType = none → v = none)
    (st : ∀ fs, (∀ (f : JFrame) (acts : List Action), f.method = m → f.locked = none → f.entered = [] → (doReturn e (T.setTop f) acts v).1 = T.setFrames fs) → Steps p.tables e below (T.setTop F) (T.setFrames fs))
    (hQ : Qf v T.heap locs) (hC : cells ≤ C) (hS : slots ≤ S) : own_Go p e below s Qf C S T F := by
  obtain ⟨fs, hr, hrun, hended, hW, hsame⟩ := X.leave (v := v) hv hlk
  exact ⟨_, _, st fs hr, hrun, hended, _, _, rfl, hQ, ⟨_, rfl⟩, hW, hsame.mono hC hS⟩
theorem own_retN (X : Stand p l e R s m args below meth c T locs cells slots) (hx : p.tables.exec = Jvm.exec) (hlk : meth.locks = false) {pc : Nat} {Ls : Array Slot} {z : Int32} {t : FieldType} {rest : List Value} (hret : meth.sig.returnType = some t) (ht : t = .boolean ∨ t = .byte ∨ t = .char ∨ t = .short) (hd : decode c.code pc = .ok (.ireturn, 1))
    (hQ : Qf (some (.int (nar t z))) T.heap locs) (hC : cells ≤ C) (hS : slots ≤ S) : own_Go p e below s Qf C S T (mkF m pc Ls (.int z :: rest)) :=
  own_ret X hlk (fun h => by rw [hret] at h; cases h) (fun _ hr => retN X hx hret ht hd hr) hQ hC hS
theorem own_retI (X : Stand p l e R s m args below meth c T locs cells slots) (hx : p.tables.exec = Jvm.exec) (hlk : meth.locks = false) {pc : Nat} {Ls : Array Slot} {z : Int32} {rest : List Value} (hret : meth.sig.returnType = some .int) (hd : decode c.code pc = .ok (.ireturn, 1))
    (hQ : Qf (some (.int z)) T.heap locs) (hC : cells ≤ C) (hS : slots ≤ S) : own_Go p e below s Qf C S T (mkF m pc Ls (.int z :: rest)) :=
  own_ret X hlk (fun h => by rw [hret] at h; cases h) (fun _ hr => retOut X hx hret rfl (Or.inl ⟨rfl, Or.inl rfl, _, rfl⟩) hd hr) hQ hC hS
theorem own_retJ (X : Stand p l e R s m args below meth c T locs cells slots) (hx : p.tables.exec = Jvm.exec) (hlk : meth.locks = false) {pc : Nat} {Ls : Array Slot} {z : Int64} {rest : List Value} (hret : meth.sig.returnType = some .long) (hd : decode c.code pc = .ok (.lreturn, 1))
    (hQ : Qf (some (.long z)) T.heap locs) (hC : cells ≤ C) (hS : slots ≤ S) : own_Go p e below s Qf C S T (mkF m pc Ls (.long z :: rest)) :=
  own_ret X hlk (fun h => by rw [hret] at h; cases h) (fun _ hr => retOut X hx hret rfl (Or.inr (Or.inl ⟨rfl, rfl, _, rfl⟩)) hd hr) hQ hC hS
theorem own_retA (X : Stand p l e R s m args below meth c T locs cells slots) (hx : p.tables.exec = Jvm.exec) (hlk : meth.locks = false) {pc : Nat} {Ls : Array Slot} {w : Value} {t : FieldType} {rest : List Value} (hret : meth.sig.returnType = some t) (ht : t.isReference = true) (hw : w.isRef = true) (hn : narrow t w = w) (hd : decode c.code pc = .ok (.areturn, 1))
    (hQ : Qf (some w) T.heap locs) (hC : cells ≤ C) (hS : slots ≤ S) : own_Go p e below s Qf C S T (mkF m pc Ls (w :: rest)) :=
  own_ret X hlk (fun h => by rw [hret] at h; cases h) (fun _ hr => retOut X hx hret hn (Or.inr (Or.inr (Or.inr (Or.inr ⟨rfl, ht, hw⟩)))) hd hr) hQ hC hS
theorem own_retV (X : Stand p l e R s m args below meth c T locs cells slots) (hx : p.tables.exec = Jvm.exec) (hlk : meth.locks = false) {pc : Nat} {Ls : Array Slot} (hret : meth.sig.returnType = none) (hd : decode c.code pc = .ok (.return_, 1))
    (hQ : Qf none T.heap locs) (hC : cells ≤ C) (hS : slots ≤ S) : own_Go p e below s Qf C S T (mkF m pc Ls []) :=
  own_ret X hlk (fun _ => rfl) (fun _ hr => X.returnOut hx hret hd hr) hQ hC hS
def own_cc : ClassFile.Cond → Int32 → Int32 → Prop
  | .eq, x, y => x = y
  | .ne, x, y => ¬ x = y
  | .lt, x, y => x < y
  | .ge, x, y => ¬ x < y
  | .gt, x, y => y < x
  | .le, x, y => ¬ y < x
def own_nn : ClassFile.Cond → Int32 → Int32 → Prop
  | .eq, x, y => ¬ x = y
  | .ne, x, y => x = y
  | .lt, x, y => ¬ x < y
  | .ge, x, y => x < y
  | .gt, x, y => ¬ y < x
  | .le, x, y => y < x
theorem own_split (cd : ClassFile.Cond) (x y : Int32) : (own_cc cd x y ∧ if_icmp.holds cd x y = true) ∨ (own_nn cd x y ∧ if_icmp.holds cd x y = false) := by
  cases cd
  · by_cases h : x = y
    · exact Or.inl ⟨h, (teq h).1⟩
    · exact Or.inr ⟨h, (feq h).1⟩
  · by_cases h : x = y
    · exact Or.inr ⟨h, (teq h).2⟩
    · exact Or.inl ⟨h, (feq h).2⟩
  · by_cases h : x < y
    · exact Or.inl ⟨h, (tlt h).1⟩
    · exact Or.inr ⟨h, (flt h).1⟩
  · by_cases h : x < y
    · exact Or.inr ⟨h, (tlt h).2.1⟩
    · exact Or.inl ⟨h, (flt h).2.1⟩
  · by_cases h : y < x
    · exact Or.inl ⟨h, (tlt h).2.2.1⟩
    · exact Or.inr ⟨h, (flt h).2.2.1⟩
  · by_cases h : y < x
    · exact Or.inr ⟨h, (tlt h).2.2.2⟩
    · exact Or.inl ⟨h, (flt h).2.2.2⟩
theorem own_icmp (X : Stand p l e R s m args below meth c T locs cells slots) (hx : p.tables.exec = Jvm.exec) {pc pc' pc2 : Nat} {Ls : Array Slot} {st : List Value} {x y : Int32} {cd : ClassFile.Cond} {o : Int} (hd : decode c.code pc = .ok (.if_icmp cd o, 3)) (ho : 0 ≤ (pc : Int) + o) (hp : ((pc : Int) + o).toNat = pc') (h2 : pc + 3 = pc2)
    (hY : own_cc cd x y → own_Go p e below s Qf C S T (mkF m pc' Ls st)) (hN : own_nn cd x y → own_Go p e below s Qf C S T (mkF m pc2 Ls st)) : own_Go p e below s Qf C S T (mkF m pc Ls (.int y :: .int x :: st)) := by
  subst h2
  rcases own_split cd x y with ⟨h, q⟩ | ⟨h, q⟩
  · exact own_st (fun _ k => XS.icmpYes X.here hx rfl (pc0 := pc) (pc' := pc') rfl hd rfl q ho hp k) (hY h)
  · exact own_st (fun _ k => XS.icmpNo X.here hx rfl hd rfl q k) (hN h)
theorem own_ifc (X : Stand p l e R s m args below meth c T locs cells slots) (hx : p.tables.exec = Jvm.exec) {pc pc' pc2 : Nat} {Ls : Array Slot} {st : List Value} {x : Int32} {cd : ClassFile.Cond} {o : Int} (hd : decode c.code pc = .ok (.ifCond cd o, 3)) (ho : 0 ≤ (pc : Int) + o) (hp : ((pc : Int) + o).toNat = pc') (h2 : pc + 3 = pc2)
    (hY : own_cc cd x 0 → own_Go p e below s Qf C S T (mkF m pc' Ls st)) (hN : own_nn cd x 0 → own_Go p e below s Qf C S T (mkF m pc2 Ls st)) : own_Go p e below s Qf C S T (mkF m pc Ls (.int x :: st)) := by
  subst h2
  rcases own_split cd x 0 with ⟨h, q⟩ | ⟨h, q⟩
  · exact own_st (fun _ k => XS.ifYes X.here hx rfl (pc0 := pc) (pc' := pc') rfl hd rfl ((if0 _ _).trans q) ho hp k) (hY h)
  · exact own_st (fun _ k => XS.ifNo X.here hx rfl hd rfl ((if0 _ _).trans q) k) (hN h)
def own_ccL : ClassFile.Cond → Int64 → Int64 → Prop
  | .eq, x, y => x = y
  | .ne, x, y => ¬ x = y
  | .lt, x, y => x < y
  | .ge, x, y => ¬ x < y
  | .gt, x, y => y < x
  | .le, x, y => ¬ y < x
def own_nnL : ClassFile.Cond → Int64 → Int64 → Prop
  | .eq, x, y => ¬ x = y
  | .ne, x, y => x = y
  | .lt, x, y => ¬ x < y
  | .ge, x, y => x < y
  | .gt, x, y => ¬ y < x
  | .le, x, y => y < x
theorem own_lc (cd : ClassFile.Cond) (x y : Int64) : (own_cc cd (lcmpW x y) 0 → own_ccL cd x y) ∧ (own_nn cd (lcmpW x y) 0 → own_nnL cd x y) := by
  have h1 : x > y → lcmpW x y = 1 := fun h => by simp [lcmpW, h]
  have h2 : x = y → lcmpW x y = 0 := fun h => by subst h; simp [lcmpW, Int64.lt_irrefl]
  have h3 : ¬ x > y → ¬ x = y → lcmpW x y = -1 := fun h h' => by simp [lcmpW, h, h']
  have lt : x < y ↔ lcmpW x y < 0 := by
    by_cases a : x > y
    · rw [h1 a]; exact ⟨fun b => absurd (Int64.lt_trans a b) (Int64.lt_irrefl), fun b => absurd b (by decide)⟩
    · by_cases b : x = y
      · rw [h2 b, b]; exact ⟨fun q => absurd q (Int64.lt_irrefl), fun q => absurd q (by decide)⟩
      · rw [h3 a b]; exact ⟨fun _ => by decide, fun _ => by
          rw [Int64.lt_iff_toInt_lt]; simp only [gt_iff_lt, Int64.lt_iff_toInt_lt] at a
          have : x.toInt ≠ y.toInt := fun q => b (Int64.toInt_inj.mp q)
          omega⟩
  have gt : y < x ↔ 0 < lcmpW x y := by
    by_cases a : x > y
    · rw [h1 a]; exact ⟨fun _ => by decide, fun _ => a⟩
    · by_cases b : x = y
      · rw [h2 b]; exact ⟨fun q => absurd q a, fun q => absurd q (by decide)⟩
      · rw [h3 a b]; exact ⟨fun q => absurd q a, fun q => absurd q (by decide)⟩
  have eq : x = y ↔ lcmpW x y = 0 := by
    by_cases a : x > y
    · rw [h1 a]; exact ⟨fun b => absurd a (by rw [b]; exact Int64.lt_irrefl), fun b => absurd b (by decide)⟩
    · by_cases b : x = y
      · exact ⟨fun _ => h2 b, fun _ => b⟩
      · rw [h3 a b]; exact ⟨fun q => absurd q b, fun q => absurd q (by decide)⟩
  cases cd
  · exact ⟨fun h => eq.mpr h, fun h q => h (eq.mp q)⟩
  · exact ⟨fun h q => h (eq.mp q), fun h => eq.mpr h⟩
  · exact ⟨fun h => lt.mpr h, fun h q => h (lt.mp q)⟩
  · exact ⟨fun h q => h (lt.mp q), fun h => lt.mpr h⟩
  · exact ⟨fun h => gt.mpr h, fun h q => h (gt.mp q)⟩
  · exact ⟨fun h q => h (gt.mp q), fun h => gt.mpr h⟩
theorem own_iflc (X : Stand p l e R s m args below meth c T locs cells slots) (hx : p.tables.exec = Jvm.exec) {pc pc' pc2 : Nat} {Ls : Array Slot} {st : List Value} {x y : Int64} {cd : ClassFile.Cond} {o : Int} (hd : decode c.code pc = .ok (.ifCond cd o, 3)) (ho : 0 ≤ (pc : Int) + o) (hp : ((pc : Int) + o).toNat = pc') (h2 : pc + 3 = pc2)
    (hY : own_ccL cd x y → own_Go p e below s Qf C S T (mkF m pc' Ls st)) (hN : own_nnL cd x y → own_Go p e below s Qf C S T (mkF m pc2 Ls st)) : own_Go p e below s Qf C S T (mkF m pc Ls (.int (lcmpW x y) :: st)) :=
  own_ifc X hx hd ho hp h2 (fun h => hY ((own_lc cd x y).1 h)) (fun h => hN ((own_lc cd x y).2 h))
theorem own_acmp (X : Stand p l e R s m args below meth c T locs cells slots) (hx : p.tables.exec = Jvm.exec) {pc pc' pc2 : Nat} {Ls : Array Slot} {st : List Value} {x y : Addr} {o : Int} {cd : ACond} (hd : decode c.code pc = .ok (.if_acmp cd o, 3)) (ho : 0 ≤ (pc : Int) + o) (hp : ((pc : Int) + o).toNat = pc') (h2 : pc + 3 = pc2)
    (hE : x = y → own_Go p e below s Qf C S T (mkF m (if acV cd true = true then pc' else pc2) Ls st)) (hN : ¬ x = y → own_Go p e below s Qf C S T (mkF m (if acV cd false = true then pc' else pc2) Ls st)) : own_Go p e below s Qf C S T (mkF m pc Ls (.ref y :: .ref x :: st)) := by
  subst h2 hp
  by_cases h : x = y
  · exact own_st (fun _ k => Jvm.RoadKit.acmp (g := mkF m pc Ls (.ref y :: .ref x :: st)) X hx rfl rfl rfl (pc0 := pc) (same := true) rfl hd rfl (decide_eq_true (congrArg Value.ref h)) ho rfl k) (hE h)
  · exact own_st (fun _ k => Jvm.RoadKit.acmp (g := mkF m pc Ls (.ref y :: .ref x :: st)) X hx rfl rfl rfl (pc0 := pc) (same := false) rfl hd rfl (decide_eq_false fun q => h (Value.ref.inj q)) ho rfl k) (hN h)
theorem own_ord {Z : State} {a0 : Array Value} {t : Term} {a : Addr} {C n d : String} {k : Int32} (ev : t.eval a0 Z none [] Z = some (.ref a)) (h : (Cond.eq (Term.field t C n d) (Term.int k)).value a0 Z none Z [] = some true) : Fld Z Z.heap a C n d (.int k) := by
  have e1 : (Term.field t C n d).eval a0 Z none [] Z = Z.fieldOf? a C n d := fld_at ev
  simp only [Cond.value, e1] at h
  cases hq : Z.fieldOf? a C n d with
  | none => simp [hq] at h
  | some v =>
    rw [hq] at h
    cases v <;> simp [Term.eval] at h
    subst h
    exact Fld.start hq
theorem own_narb {z : Int32} (h : z = 0 ∨ z = 1) : nar .boolean z = z := by rcases h with rfl | rfl <;> rfl
theorem own_stk {Z : State} {h h' : Heap} {C n d : String} {v : Value} {ws : List Addr} (F : Sta Z h C n d v) (K : Keep h h' ws) (q : ∀ x ∈ ws, ∀ c : Cell, h[x]? = some c → c.vm.isStatics = false) : Sta Z h' C n d v := by
  obtain ⟨cf, i, k, f, st, cell, h1, h2, h3, h4, h5, h6, h7⟩ := F
  exact ⟨cf, i, k, f, st, cell, h1, h2, h3, h4, K.2.1 st cell h5 (fun z => by rw [q st z cell h5] at h6; cases h6), h6, h7⟩
theorem own_npE {Z : State} {h : Heap} {a : Addr} {C : String} (E : Exa Z h a C) : ∀ c : Cell, h[a]? = some c → c.vm.isStatics = false := fun c hc => by
  obtain ⟨cell, k, h1, h2, h3, h4, h5⟩ := E
  cases h1.symm.trans hc
  exact h4
theorem own_npA {Z : State} {h : Heap} {a : Addr} {k : ClassId} {ty : FieldType} {z : Int32} {vs : List Value} {dv : Value} (V : Arv Z h a k ty z vs dv) : ∀ c : Cell, h[a]? = some c → c.vm.isStatics = false := fun c hc => by
  obtain ⟨cl, A, r⟩ := V
  cases A.1.symm.trans hc
  exact A.plain
theorem own_len {Z : State} {a0 : Array Value} {t : Term} {a : Addr} {cl : Cell} {ty : FieldType} {k : Int32} (ev : t.eval a0 Z none [] Z = some (.ref a)) (A : Arr Z Z.heap a cl ty) (h : (Cond.eq (Term.length t) (Term.int k)).value a0 Z none Z [] = some true) : cl.slots.size < 2 ^ 31 ∧ cl.slots.size.toInt32 = k := by
  have ha : Z.arrayAt? a = some cl := IntBox.arrayAt_of A.1 A.2.1 A.2.2
  simp only [Cond.value, Term.eval, ev, Option.bind_eq_bind, Option.bind_some, ha] at h
  by_cases q : cl.slots.size < 2 ^ 31
  · simp [q] at h; exact ⟨q, h⟩
  · simp [q] at h
theorem own_elem {Z : State} {a0 : Array Value} {t : Term} {a : Addr} {cl : Cell} {ty : FieldType} {j v : Int32} (ev : t.eval a0 Z none [] Z = some (.ref a)) (A : Arr Z Z.heap a cl ty) (hj : ¬ j < 0) (h : (Cond.eq (Term.elem t (Term.int j)) (Term.int v)).value a0 Z none Z [] = some true) : cl.slots[j.toNatClampNeg]? = some (.int v) := by
  have ha : Z.arrayAt? a = some cl := IntBox.arrayAt_of A.1 A.2.1 A.2.2
  have e1 : (Term.elem t (Term.int j)).eval a0 Z none [] Z = cl.slots[j.toNatClampNeg]? := elem_f ev rfl ha hj
  simp only [Cond.value, e1] at h
  cases hq : cl.slots[j.toNatClampNeg]? with
  | none => simp [hq] at h
  | some w =>
    rw [hq] at h
    cases w <;> simp [Term.eval] at h
    rw [h]
theorem own_arvex {Z : State} {a : Addr} {cl : Cell} {ty : FieldType} {z : Int32} {dv : Value} (hf : Fit Z) (A : Arr Z Z.heap a cl ty) (q : cl.slots.size < 2 ^ 31) (e : cl.slots.size.toInt32 = z) (hz : ¬ z < 0) : ∃ vs, Arv Z Z.heap a cl.cls ty z vs dv := by
  have S : cl.slots.size = z.toNatClampNeg := by rw [← e]; simp only [Int32.toNatClampNeg, len_toInt q]; rfl
  have H : Has cl cl.slots.toList dv := fun k hk => by
    rw [List.getD_eq_getElem?_getD, Array.getElem?_toList, Array.getElem?_eq_getElem hk]; rfl
  refine ⟨cl.slots.toList, cl, A, rfl, S, hz, H, fun j hj => ?_⟩
  have e1 : (Nat.toInt32 j).toNatClampNeg = j := by simp only [Int32.toNatClampNeg, len_toInt (Nat.lt_trans hj q)]; rfl
  exact elem_fits (j := Nat.toInt32 j) hf A (idx_in hj q) (by rw [e1]; exact H j hj)
theorem own_selp {s : State} {args : Array Value} {y : MethodName} {n : Nat} (wi : (Cond.instantiable y.cls n).before args s = true) (hp : s.PrivateAt y) (hi : (Cond.instanceMethod y).before args s = true) (hy : y.cls ≠ "java/lang/invoke/MethodHandle" ∧ y.cls ≠ "java/lang/invoke/VarHandle") : (Cond.selects y.cls y y).before args s = true := by
  obtain ⟨c, k, hc, hk, -, hf, -⟩ := Cond.instantiable_spec wi
  exact selects_self_of_private hc hk (by simp only [Bool.or_eq_false_iff] at hf; exact hf.1) hp hi hy
theorem own_nar0 : nar .boolean (0 : Int32) = 0 := rfl
theorem own_nar1 : nar .boolean (1 : Int32) = 1 := rfl
end Own

def own_sum : List Value → Int64
  | [] => 0
  | .long x :: r => x + own_sum r
  | _ :: r => own_sum r
theorem own_sum_set (d : Value) : ∀ (vs : List Value) (i : Nat) (y : Int64), i < vs.length → vs.getD i d = .long y → own_sum (vs.set i (.long (y + 1))) = own_sum vs + 1
  | [], i, y, h, _ => absurd h (Nat.not_lt_zero _)
  | v :: r, 0, y, _, h => by
    have h' : v = .long y := h
    subst h'
    show (y + 1) + own_sum r = (y + own_sum r) + 1
    ac_rfl
  | v :: r, i + 1, y, h, q => by
    have ih := own_sum_set d r i y (Nat.lt_of_succ_lt_succ h) q
    cases v <;> first | exact ih | (rename_i x; show x + own_sum (r.set i (.long (y + 1))) = (x + own_sum r) + 1; rw [ih]; ac_rfl)
theorem own_sum20 {vs : List Value} {d : Value} {y0 y1 y2 y3 y4 y5 y6 y7 y8 y9 y10 y11 y12 y13 y14 y15 y16 y17 y18 y19 : Int64} (hl : vs.length = 20) (h0 : vs.getD 0 d = .long y0) (h1 : vs.getD 1 d = .long y1) (h2 : vs.getD 2 d = .long y2) (h3 : vs.getD 3 d = .long y3) (h4 : vs.getD 4 d = .long y4) (h5 : vs.getD 5 d = .long y5) (h6 : vs.getD 6 d = .long y6) (h7 : vs.getD 7 d = .long y7) (h8 : vs.getD 8 d = .long y8) (h9 : vs.getD 9 d = .long y9) (h10 : vs.getD 10 d = .long y10) (h11 : vs.getD 11 d = .long y11) (h12 : vs.getD 12 d = .long y12) (h13 : vs.getD 13 d = .long y13) (h14 : vs.getD 14 d = .long y14) (h15 : vs.getD 15 d = .long y15) (h16 : vs.getD 16 d = .long y16) (h17 : vs.getD 17 d = .long y17) (h18 : vs.getD 18 d = .long y18) (h19 : vs.getD 19 d = .long y19) : (((((((((((((((((((((0 : Int64) + y0) + y1) + y2) + y3) + y4) + y5) + y6) + y7) + y8) + y9) + y10) + y11) + y12) + y13) + y14) + y15) + y16) + y17) + y18) + y19) = own_sum vs := by
  match vs, hl with
  | [a0, a1, a2, a3, a4, a5, a6, a7, a8, a9, a10, a11, a12, a13, a14, a15, a16, a17, a18, a19], _ =>
    simp only [List.getD_cons_zero, List.getD_cons_succ] at *
    subst_vars
    simp only [own_sum, Int64.zero_add, Int64.add_zero]
    ac_rfl
theorem own_el {Z : State} {h : Heap} {a : Addr} {k : ClassId} {vs : List Value} {d : Value} (V : Arv Z h a k .long 20 vs d) (i : Nat) (hi : i < 20) : ∃ y, vs.getD i d = .long y := by
  obtain ⟨cl, A, q, S, M, H, U⟩ := V
  exact fit_J (U i (by rw [S]; exact hi))
def own_bit (x y : Int32) : Int32 := ((x.toUInt32 >>> (y &&& 31).toUInt32).toInt32) &&& 1
theorem own_bit01 (x y : Int32) : own_bit x y = 0 ∨ own_bit x y = 1 := and_one _
theorem own_t (x : Int32) : 20 ≤ ((20 : Int64) + ((x &&& (15 : Int32)).toInt64)).toInt := by
  have h := c_and x 15 (by decide)
  have a := c_ladd 20 ((x &&& (15 : Int32)).toInt64)
  have b := c_i2l (x &&& (15 : Int32))
  have r := rng64 ((20 : Int64) + ((x &&& (15 : Int32)).toInt64))
  have e1 : (15 : Int32).toInt = 15 := rfl
  have e2 : (20 : Int64).toInt = 20 := rfl
  omega
theorem own_t20 (x : Int32) : ¬ ((20 : Int64) + ((x &&& (15 : Int32)).toInt64)) < 20 := by
  have h := own_t x
  have e2 : (20 : Int64).toInt = 20 := rfl
  rw [Int64.lt_iff_toInt_lt]; omega
theorem own_n (x : Int32) : 0 ≤ ((x &&& (15 : Int32)) % (9 : Int32)).toInt ∧ ((x &&& (15 : Int32)) % (9 : Int32)).toInt ≤ 8 := by
  have h1 := (c_and x 15 (by decide)).1
  have h2 := (c_irem (x &&& 15) 9 9 rfl).1 h1
  omega
def own_I (i : Int) (n : Int32) (ob : Int64) (ba : Int32) (vs : List Value) (e : Int64) : Prop :=
  (ob.toInt = i ∧ i ≤ n.toInt ∨ ob.toInt = n.toInt ∧ n.toInt ≤ i) ∧ 0 ≤ ba.toInt ∧ ba.toInt ≤ i ∧ vs.length = 20 ∧ own_sum vs = e
theorem own_I_skip {i j : Int} {n : Int32} {ob : Int64} {ba : Int32} {vs : List Value} {e : Int64} {l : Int32} (h : own_I i n ob ba vs e) (hl : l.toInt = i) (hj : j = i + 1) (hc : ¬ l < n) : own_I j n ob ba vs e := by
  obtain ⟨a, b, c, d, f⟩ := h
  rw [Int32.lt_iff_toInt_lt] at hc
  exact ⟨by omega, b, by omega, d, f⟩
theorem own_I_step {i j : Int} {n : Int32} {ob : Int64} {ba ba' : Int32} {vs vs' : List Value} {e : Int64} {l x r : Int32} (h : own_I i n ob ba vs e) (hl : l.toInt = i) (hj : j = i + 1) (h8 : i ≤ 8) (hc : l < n) (hb : ba' = ba ∨ ba' = ba + 1) (hv : vs'.length = 20) (hs : own_sum vs' = own_sum vs + x.toInt64) (hx : x = r) : own_I j n (ob + 1) ba' vs' (e + r.toInt64) := by
  obtain ⟨a, b, c, d, f⟩ := h
  rw [Int32.lt_iff_toInt_lt] at hc
  have q := c_ladd ob 1
  have q1 := rng64 (ob + 1)
  have e1 : (1 : Int64).toInt = 1 := rfl
  have e2 : (1 : Int32).toInt = 1 := rfl
  have q2 := c_iadd ba 1
  have q3 := rng32 (ba + 1)
  have n1 := rng32 n
  refine ⟨by omega, ?_, ?_, hv, ?_⟩
  · rcases hb with rfl | rfl <;> omega
  · rcases hb with rfl | rfl <;> omega
  · subst hx; rw [hs, f]
theorem own_I_ob {i : Int} {n : Int32} {ob t : Int64} {ba : Int32} {vs : List Value} {e : Int64} (h : own_I i n ob ba vs e) (h8 : i ≤ 8) (ht : 20 ≤ t.toInt) : ¬ ob = t := by
  obtain ⟨a, -⟩ := h
  intro q; subst q; omega
theorem own_I_ba {i : Int} {n : Int32} {ob : Int64} {ba : Int32} {vs : List Value} {e : Int64} (h : own_I i n ob ba vs e) (h8 : i ≤ 8) : ¬ ba < 0 ∧ ba < 18 := by
  obtain ⟨-, b, c, -⟩ := h
  have e0 : (0 : Int32).toInt = 0 := rfl
  have e1 : (18 : Int32).toInt = 18 := rfl
  rw [Int32.lt_iff_toInt_lt, Int32.lt_iff_toInt_lt]; omega
theorem own_bi {b c : Int32} (h : c = b ∨ c = b + 1) (hb : ¬ b < 0 ∧ b < 18) : ¬ c < 0 ∧ c < 20 := by
  have e0 : (0 : Int32).toInt = 0 := rfl
  have e1 : (18 : Int32).toInt = 18 := rfl
  have e3 : (20 : Int32).toInt = 20 := rfl
  have e2 : (1 : Int32).toInt = 1 := rfl
  have q2 := c_iadd b 1
  have q3 := rng32 (b + 1)
  simp only [Int32.lt_iff_toInt_lt] at *
  rcases h with rfl | rfl <;> omega
theorem own_nat20 {c : Int32} (h : ¬ c < 0 ∧ c < 20) : c.toNatClampNeg < 20 := by
  have e0 : (0 : Int32).toInt = 0 := rfl
  have e3 : (20 : Int32).toInt = 20 := rfl
  simp only [Int32.lt_iff_toInt_lt] at h
  simp only [Int32.toNatClampNeg]; omega

theorem d4_0 : decode method_2_code 0 = .ok (.iload_n 0, 1) := by decide +kernel
theorem d4_1 : decode method_2_code 1 = .ok (.iload_n 1, 1) := by decide +kernel
theorem d4_2 : decode method_2_code 2 = .ok (.iushr, 1) := by decide +kernel
theorem d4_3 : decode method_2_code 3 = .ok (.iconst 1, 1) := by decide +kernel
theorem d4_4 : decode method_2_code 4 = .ok (.iand, 1) := by decide +kernel
theorem d4_5 : decode method_2_code 5 = .ok (.ireturn, 1) := by decide +kernel
theorem own_pn4 : plainName "com/example/slotter/slotter/analysis/BatchMeansEventsPinLaw" = true := by first | (simp [plainName, overriddenIn]; done) | decide +kernel
theorem own_ef4 (m : MethodId) (x0 : Int32) (x1 : Int32) : entryFrame m #[(.int x0), (.int x1)] 2 = (mkF m 0 #[.val (.int x0), .val (.int x1)] []) := by first | (simp [entryFrame, mkF, argsToLocals, Value.category]; done) | rfl
def Q4 (Z : State) (x0 : Int32) (x1 : Int32)  (h0 : Heap) (n0 : Nat) (v : Option Value) (h : Heap) (L : List Loc) : Prop := (∃ z : Int32, v = some (.int z) ∧ (z = own_bit x0 x1)) ∧ Fr n0 L ∧ h = h0
set_option maxRecDepth 65536 in
set_option maxHeartbeats 40000000 in
theorem rm4 (l : Launch) (Z : State) (a0 : Array Value) (hw : ∀ d ∈ tables_1, d.before a0 Z = true) (ws : List Jvm.Cond) (x0 : Int32) (x1 : Int32)  (h0 : Heap) (n0 : Nat) (Z0 : n0 ≤ h0.size)  :
    MetFree l (⟨"com/example/slotter/slotter/analysis/BatchMeansEventsPinLaw", "bit", "(II)I"⟩ : MethodName) (head1 (Jvm.Cond.code (⟨"com/example/slotter/slotter/analysis/BatchMeansEventsPinLaw", "bit", "(II)I"⟩ : MethodName) method_2_code 2 (some .int) :: ws) ({ frames := 0, cells := 0, slots := 0, locals := 0 } : Room)) (fun a U => a = #[(.int x0), (.int x1)] ∧ Z.Warmed39 U.vm ∧ U.heap = h0) (fun _ _ _ _ _ => True) (fun _ U oc U' => ∃ v L, oc = .returned v ∧ Q4 Z x0 x1  h0 n0 v U'.heap L ∧ FrameEnd U oc U' L ({ frames := 0, cells := 0, slots := 0, locals := 0 } : Room).cells ({ frames := 0, cells := 0, slots := 0, locals := 0 } : Room).slots) := by
  refine MetFree.of_bodySF (plainFor_of_name own_pn4) hisR ?_
  intro p e s m args below meth c s₁ Bd hml0 hP hK
  obtain ⟨rfl, hZ, hh⟩ := hP
  have hx := Bd.exec
  have hby := Bd.bytes
  have hlk : meth.locks = false := BodyLoose.notSynchronized Bd
  have hml : c.maxLocals = 2 := hml0
  have hown : s.vm.findClass "com/example/slotter/slotter/analysis/BatchMeansEventsPinLaw" = some m.cls := findClass_of_methodNamed Bd.named
  have hnm := (name_of_methodNamed Bd.named Bd.method).1
  have X0 : Stand p l e ({ frames := 0, cells := 0, slots := 0, locals := 0 } : Room) s m #[(.int x0), (.int x1)] below meth c s₁ [] 0 0 := Stand.of_body Bd
  have e0 : s₁.heap = h0 := by rw [← hh, Bd.state]; rfl
  have N0 := Fr.nil n0
  refine own_enter (own_ef4 m x0 x1) ?_
  show own_Go p e below s (Q4 Z x0 x1  h0 n0) ({ frames := 0, cells := 0, slots := 0, locals := 0 } : Room).cells ({ frames := 0, cells := 0, slots := 0, locals := 0 } : Room).slots s₁ (mkF m 0 #[.val (.int x0), .val (.int x1)] [])
  refine own_st (T' := s₁) (F' := (mkF m 1 #[.val (.int x0), .val (.int x1)] [(.int x0)])) (fun _ k => XS.iloadN X0.here hx rfl (hb hby d4_0) rfl  k) ?_
  refine own_st (T' := s₁) (F' := (mkF m 2 #[.val (.int x0), .val (.int x1)] [(.int x1), (.int x0)])) (fun _ k => XS.iloadN X0.here hx rfl (hb hby d4_1) rfl  k) ?_
  refine own_st (T' := s₁) (F' := (mkF m 3 #[.val (.int x0), .val (.int x1)] [(.int ((x0.toUInt32 >>> (x1 &&& 31).toUInt32).toInt32))])) (fun _ k => XS.iushr X0.here hx rfl (hb hby d4_2) rfl k) ?_
  refine own_st (T' := s₁) (F' := (mkF m 4 #[.val (.int x0), .val (.int x1)] [(.int (1 : Int32)), (.int ((x0.toUInt32 >>> (x1 &&& 31).toUInt32).toInt32))])) (fun _ k => XS.iconst X0.here hx rfl (hb hby d4_3) k) ?_
  refine own_st (T' := s₁) (F' := (mkF m 5 #[.val (.int x0), .val (.int x1)] [(.int (((x0.toUInt32 >>> (x1 &&& 31).toUInt32).toInt32) &&& (1 : Int32)))])) (fun _ k => XS.iand X0.here hx rfl (hb hby d4_4) rfl k) ?_
  refine own_retI X0 hx hlk Bd.returns (hb hby d4_5) ?_ (by decide) (by decide)
  rw [e0]
  refine ⟨⟨_, rfl, ?_⟩, N0, rfl⟩
  rfl
theorem d3_0 : decode prog_1_method_6_code 0 = .ok (.iload_n 1, 1) := by decide +kernel
theorem d3_1 : decode prog_1_method_6_code 1 = .ok (.i2l, 1) := by decide +kernel
theorem d3_2 : decode prog_1_method_6_code 2 = .ok (.lconst 1, 1) := by decide +kernel
theorem d3_3 : decode prog_1_method_6_code 3 = .ok (.ladd, 1) := by decide +kernel
theorem d3_4 : decode prog_1_method_6_code 4 = .ok (.lstore_n 2, 1) := by decide +kernel
theorem d3_5 : decode prog_1_method_6_code 5 = .ok (.aload_n 0, 1) := by decide +kernel
theorem d3_6 : decode prog_1_method_6_code 6 = .ok (.getfield 24, 3) := by decide +kernel
theorem d3_9 : decode prog_1_method_6_code 9 = .ok (.ldc2_w 13, 3) := by decide +kernel
theorem d3_12 : decode prog_1_method_6_code 12 = .ok (.ldiv, 1) := by decide +kernel
theorem d3_13 : decode prog_1_method_6_code 13 = .ok (.lload_n 2, 1) := by decide +kernel
theorem d3_14 : decode prog_1_method_6_code 14 = .ok (.lmul, 1) := by decide +kernel
theorem d3_15 : decode prog_1_method_6_code 15 = .ok (.aload_n 0, 1) := by decide +kernel
theorem d3_16 : decode prog_1_method_6_code 16 = .ok (.getfield 24, 3) := by decide +kernel
theorem d3_19 : decode prog_1_method_6_code 19 = .ok (.ldc2_w 13, 3) := by decide +kernel
theorem d3_22 : decode prog_1_method_6_code 22 = .ok (.lrem, 1) := by decide +kernel
theorem d3_23 : decode prog_1_method_6_code 23 = .ok (.lload_n 2, 1) := by decide +kernel
theorem d3_24 : decode prog_1_method_6_code 24 = .ok (.lmul, 1) := by decide +kernel
theorem d3_25 : decode prog_1_method_6_code 25 = .ok (.ldc2_w 13, 3) := by decide +kernel
theorem d3_28 : decode prog_1_method_6_code 28 = .ok (.ldiv, 1) := by decide +kernel
theorem d3_29 : decode prog_1_method_6_code 29 = .ok (.ladd, 1) := by decide +kernel
theorem d3_30 : decode prog_1_method_6_code 30 = .ok (.lreturn, 1) := by decide +kernel
theorem own_pn3 : plainName "com/example/slotter/slotter/analysis/BatchMeans" = true := by first | (simp [plainName, overriddenIn]; done) | decide +kernel
theorem own_ef3 (m : MethodId) (o : Addr) (x0 : Int32) : entryFrame m #[(.ref o), (.int x0)] 4 = (mkF m 0 #[.val (.ref o), .val (.int x0), .unset, .unset] []) := by first | (simp [entryFrame, mkF, argsToLocals, Value.category]; done) | rfl
def Q3 (Z : State) (o : Addr) (x0 : Int32) (t : Int64) (h0 : Heap) (n0 : Nat) (v : Option Value) (h : Heap) (L : List Loc) : Prop := (∃ z : Int64, v = some (.long z) ∧ (True)) ∧ Fr n0 L ∧ h = h0
set_option maxRecDepth 65536 in
set_option maxHeartbeats 40000000 in
theorem rm3 (l : Launch) (Z : State) (a0 : Array Value) (hw : ∀ d ∈ tables_1, d.before a0 Z = true) (ws : List Jvm.Cond) (o : Addr) (x0 : Int32) (t : Int64) (h0 : Heap) (n0 : Nat) (Z0 : n0 ≤ h0.size) (hF : Fld Z h0 o "com/example/slotter/slotter/analysis/BatchMeans" "total" "J" (.long t)) :
    MetFree l (⟨"com/example/slotter/slotter/analysis/BatchMeans", "batchEnd", "(I)J"⟩ : MethodName) (head1 (Jvm.Cond.code (⟨"com/example/slotter/slotter/analysis/BatchMeans", "batchEnd", "(I)J"⟩ : MethodName) prog_1_method_6_code 4 (some .long) :: ws) ({ frames := 0, cells := 0, slots := 0, locals := 0 } : Room)) (fun a U => a = #[(.ref o), (.int x0)] ∧ Z.Warmed39 U.vm ∧ U.heap = h0) (fun _ _ _ _ _ => True) (fun _ U oc U' => ∃ v L, oc = .returned v ∧ Q3 Z o x0 t h0 n0 v U'.heap L ∧ FrameEnd U oc U' L ({ frames := 0, cells := 0, slots := 0, locals := 0 } : Room).cells ({ frames := 0, cells := 0, slots := 0, locals := 0 } : Room).slots) := by
  refine MetFree.of_bodySF (plainFor_of_name own_pn3) hisR ?_
  intro p e s m args below meth c s₁ Bd hml0 hP hK
  obtain ⟨rfl, hZ, hh⟩ := hP
  have hx := Bd.exec
  have hby := Bd.bytes
  have hlk : meth.locks = false := BodyLoose.notSynchronized Bd
  have hml : c.maxLocals = 4 := hml0
  have hown : s.vm.findClass "com/example/slotter/slotter/analysis/BatchMeans" = some m.cls := findClass_of_methodNamed Bd.named
  have hnm := (name_of_methodNamed Bd.named Bd.method).1
  have X0 : Stand p l e ({ frames := 0, cells := 0, slots := 0, locals := 0 } : Room) s m #[(.ref o), (.int x0)] below meth c s₁ [] 0 0 := Stand.of_body Bd
  have e0 : s₁.heap = h0 := by rw [← hh, Bd.state]; rfl
  have N0 := Fr.nil n0
  refine own_enter (own_ef3 m o x0) ?_
  show own_Go p e below s (Q3 Z o x0 t h0 n0) ({ frames := 0, cells := 0, slots := 0, locals := 0 } : Room).cells ({ frames := 0, cells := 0, slots := 0, locals := 0 } : Room).slots s₁ (mkF m 0 #[.val (.ref o), .val (.int x0), .unset, .unset] [])
  refine own_st (T' := s₁) (F' := (mkF m 1 #[.val (.ref o), .val (.int x0), .unset, .unset] [(.int x0)])) (fun _ k => XS.iloadN X0.here hx rfl (hb hby d3_0) rfl  k) ?_
  refine own_st (T' := s₁) (F' := (mkF m 2 #[.val (.ref o), .val (.int x0), .unset, .unset] [(.long (x0.toInt64))])) (fun _ k => XS.i2l X0.here hx rfl (hb hby d3_1) rfl k) ?_
  refine own_st (T' := s₁) (F' := (mkF m 3 #[.val (.ref o), .val (.int x0), .unset, .unset] [(.long (1 : Int64)), (.long (x0.toInt64))])) (fun _ k => XS.lconst X0.here hx rfl (hb hby d3_2) k) ?_
  refine own_st (T' := s₁) (F' := (mkF m 4 #[.val (.ref o), .val (.int x0), .unset, .unset] [(.long ((x0.toInt64) + (1 : Int64)))])) (fun _ k => XS.ladd X0.here hx rfl (hb hby d3_3) rfl k) ?_
  refine own_st (T' := s₁) (F' := (mkF m 5 #[.val (.ref o), .val (.int x0), .val (.long ((x0.toInt64) + (1 : Int64))), .second] [])) (fun _ k => XS.lstoreN X0.here hx rfl (hb hby d3_4) rfl (l' := #[.val (.ref o), .val (.int x0), .val (.long ((x0.toInt64) + (1 : Int64))), .second]) rfl k) ?_
  refine own_st (T' := s₁) (F' := (mkF m 6 #[.val (.ref o), .val (.int x0), .val (.long ((x0.toInt64) + (1 : Int64))), .second] [(.ref o)])) (fun _ k => XS.aloadN X0.here hx rfl (hb hby d3_5) rfl rfl k) ?_
  obtain ⟨T1, X1, e1, st1⟩ := getF X0 hx hZ hown (host := "") (Or.inl (hw _ (List.mem_of_getElem? (i := 14) rfl))) Via.refl e0 hF (g := (mkF m 6 #[.val (.ref o), .val (.int x0), .val (.long ((x0.toInt64) + (1 : Int64))), .second] [(.ref o)])) rfl rfl (hb hby d3_6)
  refine own_st (T' := T1) (F' := (mkF m 9 #[.val (.ref o), .val (.int x0), .val (.long ((x0.toInt64) + (1 : Int64))), .second] [(.long t)])) (fun _ k => st1 _ k) ?_
  refine own_st (T' := T1) (F' := (mkF m 12 #[.val (.ref o), .val (.int x0), .val (.long ((x0.toInt64) + (1 : Int64))), .second] [(.long (20 : Int64)), (.long t)])) (fun _ k => X1.ldc2Long hx hown (mvT hZ (hw _ (List.mem_of_getElem? (i := 13) rfl))) (g := (mkF m 9 #[.val (.ref o), .val (.int x0), .val (.long ((x0.toInt64) + (1 : Int64))), .second] [(.long t)])) rfl (hb hby d3_9) _ k) ?_
  refine own_st (T' := T1) (F' := (mkF m 13 #[.val (.ref o), .val (.int x0), .val (.long ((x0.toInt64) + (1 : Int64))), .second] [(.long (t / (20 : Int64)))])) (fun _ k => XS.ldiv X1.here hx rfl (hb hby d3_12) rfl (by decide) k) ?_
  refine own_st (T' := T1) (F' := (mkF m 14 #[.val (.ref o), .val (.int x0), .val (.long ((x0.toInt64) + (1 : Int64))), .second] [(.long ((x0.toInt64) + (1 : Int64))), (.long (t / (20 : Int64)))])) (fun _ k => XS.lloadN X1.here hx rfl (hb hby d3_13) rfl  k) ?_
  refine own_st (T' := T1) (F' := (mkF m 15 #[.val (.ref o), .val (.int x0), .val (.long ((x0.toInt64) + (1 : Int64))), .second] [(.long ((t / (20 : Int64)) * ((x0.toInt64) + (1 : Int64))))])) (fun _ k => XS.lmul X1.here hx rfl (hb hby d3_14) rfl k) ?_
  refine own_st (T' := T1) (F' := (mkF m 16 #[.val (.ref o), .val (.int x0), .val (.long ((x0.toInt64) + (1 : Int64))), .second] [(.ref o), (.long ((t / (20 : Int64)) * ((x0.toInt64) + (1 : Int64))))])) (fun _ k => XS.aloadN X1.here hx rfl (hb hby d3_15) rfl rfl k) ?_
  obtain ⟨T2, X2, e2, st2⟩ := getF X1 hx hZ hown (host := "") (Or.inl (hw _ (List.mem_of_getElem? (i := 14) rfl))) Via.refl e1 hF (g := (mkF m 16 #[.val (.ref o), .val (.int x0), .val (.long ((x0.toInt64) + (1 : Int64))), .second] [(.ref o), (.long ((t / (20 : Int64)) * ((x0.toInt64) + (1 : Int64))))])) rfl rfl (hb hby d3_16)
  refine own_st (T' := T2) (F' := (mkF m 19 #[.val (.ref o), .val (.int x0), .val (.long ((x0.toInt64) + (1 : Int64))), .second] [(.long t), (.long ((t / (20 : Int64)) * ((x0.toInt64) + (1 : Int64))))])) (fun _ k => st2 _ k) ?_
  refine own_st (T' := T2) (F' := (mkF m 22 #[.val (.ref o), .val (.int x0), .val (.long ((x0.toInt64) + (1 : Int64))), .second] [(.long (20 : Int64)), (.long t), (.long ((t / (20 : Int64)) * ((x0.toInt64) + (1 : Int64))))])) (fun _ k => X2.ldc2Long hx hown (mvT hZ (hw _ (List.mem_of_getElem? (i := 13) rfl))) (g := (mkF m 19 #[.val (.ref o), .val (.int x0), .val (.long ((x0.toInt64) + (1 : Int64))), .second] [(.long t), (.long ((t / (20 : Int64)) * ((x0.toInt64) + (1 : Int64))))])) rfl (hb hby d3_19) _ k) ?_
  refine own_st (T' := T2) (F' := (mkF m 23 #[.val (.ref o), .val (.int x0), .val (.long ((x0.toInt64) + (1 : Int64))), .second] [(.long (t - t / (20 : Int64) * (20 : Int64))), (.long ((t / (20 : Int64)) * ((x0.toInt64) + (1 : Int64))))])) (fun _ k => XT.lrem X2.here hx rfl (hb hby d3_22) rfl (by decide) k) ?_
  refine own_st (T' := T2) (F' := (mkF m 24 #[.val (.ref o), .val (.int x0), .val (.long ((x0.toInt64) + (1 : Int64))), .second] [(.long ((x0.toInt64) + (1 : Int64))), (.long (t - t / (20 : Int64) * (20 : Int64))), (.long ((t / (20 : Int64)) * ((x0.toInt64) + (1 : Int64))))])) (fun _ k => XS.lloadN X2.here hx rfl (hb hby d3_23) rfl  k) ?_
  refine own_st (T' := T2) (F' := (mkF m 25 #[.val (.ref o), .val (.int x0), .val (.long ((x0.toInt64) + (1 : Int64))), .second] [(.long ((t - t / (20 : Int64) * (20 : Int64)) * ((x0.toInt64) + (1 : Int64)))), (.long ((t / (20 : Int64)) * ((x0.toInt64) + (1 : Int64))))])) (fun _ k => XS.lmul X2.here hx rfl (hb hby d3_24) rfl k) ?_
  refine own_st (T' := T2) (F' := (mkF m 28 #[.val (.ref o), .val (.int x0), .val (.long ((x0.toInt64) + (1 : Int64))), .second] [(.long (20 : Int64)), (.long ((t - t / (20 : Int64) * (20 : Int64)) * ((x0.toInt64) + (1 : Int64)))), (.long ((t / (20 : Int64)) * ((x0.toInt64) + (1 : Int64))))])) (fun _ k => X2.ldc2Long hx hown (mvT hZ (hw _ (List.mem_of_getElem? (i := 13) rfl))) (g := (mkF m 25 #[.val (.ref o), .val (.int x0), .val (.long ((x0.toInt64) + (1 : Int64))), .second] [(.long ((t - t / (20 : Int64) * (20 : Int64)) * ((x0.toInt64) + (1 : Int64)))), (.long ((t / (20 : Int64)) * ((x0.toInt64) + (1 : Int64))))])) rfl (hb hby d3_25) _ k) ?_
  refine own_st (T' := T2) (F' := (mkF m 29 #[.val (.ref o), .val (.int x0), .val (.long ((x0.toInt64) + (1 : Int64))), .second] [(.long (((t - t / (20 : Int64) * (20 : Int64)) * ((x0.toInt64) + (1 : Int64))) / (20 : Int64))), (.long ((t / (20 : Int64)) * ((x0.toInt64) + (1 : Int64))))])) (fun _ k => XS.ldiv X2.here hx rfl (hb hby d3_28) rfl (by decide) k) ?_
  refine own_st (T' := T2) (F' := (mkF m 30 #[.val (.ref o), .val (.int x0), .val (.long ((x0.toInt64) + (1 : Int64))), .second] [(.long (((t / (20 : Int64)) * ((x0.toInt64) + (1 : Int64))) + (((t - t / (20 : Int64) * (20 : Int64)) * ((x0.toInt64) + (1 : Int64))) / (20 : Int64))))])) (fun _ k => XS.ladd X2.here hx rfl (hb hby d3_29) rfl k) ?_
  refine own_retJ X2 hx hlk Bd.returns (hb hby d3_30) ?_ (by decide) (by decide)
  rw [e2]
  refine ⟨⟨_, rfl, ?_⟩, N0, rfl⟩
  trivial
theorem own_pd0 : parseMethodDescriptor "(I)J" = some ⟨[.int], some .long⟩ := by decide +kernel
theorem d1_0 : decode prog_1_method_1_code 0 = .ok (.aload_n 0, 1) := by decide +kernel
theorem d1_1 : decode prog_1_method_1_code 1 = .ok (.invokespecial 1, 3) := by decide +kernel
theorem d1_4 : decode prog_1_method_1_code 4 = .ok (.aload_n 0, 1) := by decide +kernel
theorem d1_5 : decode prog_1_method_1_code 5 = .ok (.bipush 20, 2) := by decide +kernel
theorem d1_7 : decode prog_1_method_1_code 7 = .ok (.newarray .long, 2) := by decide +kernel
theorem d1_9 : decode prog_1_method_1_code 9 = .ok (.putfield 9, 3) := by decide +kernel
theorem d1_12 : decode prog_1_method_1_code 12 = .ok (.lload_n 1, 1) := by decide +kernel
theorem d1_13 : decode prog_1_method_1_code 13 = .ok (.ldc2_w 13, 3) := by decide +kernel
theorem d1_16 : decode prog_1_method_1_code 16 = .ok (.lcmp, 1) := by decide +kernel
theorem d1_17 : decode prog_1_method_1_code 17 = .ok (.ifCond .ge 17, 3) := by decide +kernel
theorem d1_34 : decode prog_1_method_1_code 34 = .ok (.aload_n 0, 1) := by decide +kernel
theorem d1_35 : decode prog_1_method_1_code 35 = .ok (.lload_n 1, 1) := by decide +kernel
theorem d1_36 : decode prog_1_method_1_code 36 = .ok (.putfield 24, 3) := by decide +kernel
theorem d1_39 : decode prog_1_method_1_code 39 = .ok (.aload_n 0, 1) := by decide +kernel
theorem d1_40 : decode prog_1_method_1_code 40 = .ok (.aload_n 0, 1) := by decide +kernel
theorem d1_41 : decode prog_1_method_1_code 41 = .ok (.iconst 0, 1) := by decide +kernel
theorem d1_42 : decode prog_1_method_1_code 42 = .ok (.invokevirtual 28, 3) := by decide +kernel
theorem d1_45 : decode prog_1_method_1_code 45 = .ok (.putfield 32, 3) := by decide +kernel
theorem d1_48 : decode prog_1_method_1_code 48 = .ok (.return_, 1) := by decide +kernel
theorem own_pn1 : plainName "com/example/slotter/slotter/analysis/BatchMeans" = true := by first | (simp [plainName, overriddenIn]; done) | decide +kernel
theorem own_ef1 (m : MethodId) (o : Addr) (x0 : Int64) : entryFrame m #[(.ref o), (.long x0)] 3 = (mkF m 0 #[.val (.ref o), .val (.long x0), .second] []) := by first | (simp [entryFrame, mkF, argsToLocals, Value.category]; done) | rfl
def Q1 (Z : State) (o : Addr) (x0 : Int64) (u0 : Value) (u1 : Value) (u2 : Value) (h0 : Heap) (n0 : Nat) (v : Option Value) (h : Heap) (L : List Loc) : Prop := v = none ∧ Fr n0 L ∧ Keep h0 h [o] ∧ Exa Z h o "com/example/slotter/slotter/analysis/BatchMeans" ∧ (∃ (ev : Addr) (k : ClassId) (be : Int64), h0.size ≤ ev ∧ Fld Z h o "com/example/slotter/slotter/analysis/BatchMeans" "events" "[J" (.ref ev) ∧ Fld Z h o "com/example/slotter/slotter/analysis/BatchMeans" "total" "J" (.long x0) ∧ Fld Z h o "com/example/slotter/slotter/analysis/BatchMeans" "batchEnd" "J" (.long be) ∧ Fld Z h o "com/example/slotter/slotter/analysis/BatchMeans" "observed" "J" (.long (0 : Int64)) ∧ Fld Z h o "com/example/slotter/slotter/analysis/BatchMeans" "batch" "I" (.int (0 : Int32)) ∧ Arv Z h ev k .long (20 : Int32) (List.replicate 20 (.long (0 : Int64))) (.long (0 : Int64)))
set_option maxRecDepth 65536 in
set_option maxHeartbeats 40000000 in
theorem rm1 (l : Launch) (Z : State) (a0 : Array Value) (hw : ∀ d ∈ tables_1, d.before a0 Z = true) (ws : List Jvm.Cond) (o : Addr) (x0 : Int64) (u0 : Value) (u1 : Value) (u2 : Value) (h0 : Heap) (n0 : Nat) (Z0 : n0 ≤ h0.size) (hge_o : n0 ≤ o) (hE : Exa Z h0 o "com/example/slotter/slotter/analysis/BatchMeans") (hF0 : Fld Z h0 o "com/example/slotter/slotter/analysis/BatchMeans" "events" "[J" u0) (hF1 : Fld Z h0 o "com/example/slotter/slotter/analysis/BatchMeans" "total" "J" u1) (hF2 : Fld Z h0 o "com/example/slotter/slotter/analysis/BatchMeans" "batchEnd" "J" u2) (hF3 : Fld Z h0 o "com/example/slotter/slotter/analysis/BatchMeans" "observed" "J" (.long (0 : Int64))) (hF4 : Fld Z h0 o "com/example/slotter/slotter/analysis/BatchMeans" "batch" "I" (.int (0 : Int32))) (ht : ¬ x0 < 20) :
    MetFree l (⟨"com/example/slotter/slotter/analysis/BatchMeans", "<init>", "(J)V"⟩ : MethodName) (head1 (Jvm.Cond.code (⟨"com/example/slotter/slotter/analysis/BatchMeans", "<init>", "(J)V"⟩ : MethodName) prog_1_method_1_code 3 none :: ws) ({ frames := 1, cells := 1, slots := 20, locals := 16 } : Room)) (fun a U => a = #[(.ref o), (.long x0)] ∧ Z.Warmed39 U.vm ∧ U.heap = h0) (fun _ _ _ _ _ => True) (fun _ U oc U' => ∃ v L, oc = .returned v ∧ Q1 Z o x0 u0 u1 u2 h0 n0 v U'.heap L ∧ FrameEnd U oc U' L ({ frames := 1, cells := 1, slots := 20, locals := 16 } : Room).cells ({ frames := 1, cells := 1, slots := 20, locals := 16 } : Room).slots) := by
  refine MetFree.of_bodySF (plainFor_of_name own_pn1) hisR ?_
  intro p e s m args below meth c s₁ Bd hml0 hP hK
  obtain ⟨rfl, hZ, hh⟩ := hP
  have hx := Bd.exec
  have hby := Bd.bytes
  have hlk : meth.locks = false := BodyLoose.notSynchronized Bd
  have hml : c.maxLocals = 3 := hml0
  have hown : s.vm.findClass "com/example/slotter/slotter/analysis/BatchMeans" = some m.cls := findClass_of_methodNamed Bd.named
  have hnm := (name_of_methodNamed Bd.named Bd.method).1
  have X0 : Stand p l e ({ frames := 1, cells := 1, slots := 20, locals := 16 } : Room) s m #[(.ref o), (.long x0)] below meth c s₁ [] 0 0 := Stand.of_body Bd
  have e0 : s₁.heap = h0 := by rw [← hh, Bd.state]; rfl
  have N0 := Fr.nil n0
  refine own_enter (own_ef1 m o x0) ?_
  show own_Go p e below s (Q1 Z o x0 u0 u1 u2 h0 n0) ({ frames := 1, cells := 1, slots := 20, locals := 16 } : Room).cells ({ frames := 1, cells := 1, slots := 20, locals := 16 } : Room).slots s₁ (mkF m 0 #[.val (.ref o), .val (.long x0), .second] [])
  refine own_st (T' := s₁) (F' := (mkF m 1 #[.val (.ref o), .val (.long x0), .second] [(.ref o)])) (fun _ k => XS.aloadN X0.here hx rfl (hb hby d1_0) rfl rfl k) ?_
  obtain ⟨T1, X1, e1, st1⟩ := initO X0 hx hZ hown (hw _ (List.mem_of_getElem? (i := 7) rfl)) (hw _ (List.mem_of_getElem? (i := 8) rfl)) (hw _ (List.mem_of_getElem? (i := 9) rfl)) e0 (g := (mkF m 1 #[.val (.ref o), .val (.long x0), .second] [(.ref o)])) rfl (by rw [hml]; rfl) rfl (hb hby d1_1) (by decide) (W := 0) (by show 2 * 0 + _ ≤ _; exact Nat.le_of_eq rfl) (by decide)
  refine own_st (T' := T1) (F' := (mkF m 4 #[.val (.ref o), .val (.long x0), .second] [])) (fun _ k => st1 _ k) ?_
  refine own_st (T' := T1) (F' := (mkF m 5 #[.val (.ref o), .val (.long x0), .second] [(.ref o)])) (fun _ k => XS.aloadN X1.here hx rfl (hb hby d1_4) rfl rfl k) ?_
  refine own_st (T' := T1) (F' := (mkF m 7 #[.val (.ref o), .val (.long x0), .second] [(.int (20 : Int32)), (.ref o)])) (fun _ k => XS.bipush X1.here hx rfl (hb hby d1_5) k) ?_
  obtain ⟨T2, h2, k2, X2, e2, E2, A2, AE2, st2⟩ := newPE X1 hx hZ (hw _ (List.mem_of_getElem? (i := 10) rfl)) e1 (g := (mkF m 7 #[.val (.ref o), .val (.long x0), .second] [(.int (20 : Int32)), (.ref o)])) rfl (hb hby d1_7) rfl (by decide) (cap := 20) (by decide) (by decide) (by decide) (by decide) (ad := "[J") (by decide)
  obtain ⟨b2, g2⟩ : ∃ z, z = h0.size := ⟨_, rfl⟩
  rw [← g2] at A2 AE2 st2
  have ge2 : n0 ≤ b2 := by rw [g2]; exact Z0
  have hge2 : h0.size ≤ b2 := by rw [g2]; exact (Keep.refl h0 [o]).1
  have ne2_1 : o ≠ b2 := by rw [g2]; exact Nat.ne_of_lt hE.lt
  have f3 : Exa Z h2 o "com/example/slotter/slotter/analysis/BatchMeans" := hE.ext E2
  have f4 : Fld Z h2 o "com/example/slotter/slotter/analysis/BatchMeans" "events" "[J" u0 := hF0.ext E2
  have f5 : Fld Z h2 o "com/example/slotter/slotter/analysis/BatchMeans" "total" "J" u1 := hF1.ext E2
  have f6 : Fld Z h2 o "com/example/slotter/slotter/analysis/BatchMeans" "batchEnd" "J" u2 := hF2.ext E2
  have f7 : Fld Z h2 o "com/example/slotter/slotter/analysis/BatchMeans" "observed" "J" (.long (0 : Int64)) := hF3.ext E2
  have f8 : Fld Z h2 o "com/example/slotter/slotter/analysis/BatchMeans" "batch" "I" (.int (0 : Int32)) := hF4.ext E2
  have K2 : Keep h0 h2 [o] := (Keep.refl h0 [o]).ext E2
  have Zs2 : n0 ≤ h2.size := Nat.le_trans Z0 K2.1
  have V2 : Arv Z h2 b2 k2 .long (20 : Int32) [(.long (0 : Int64)), (.long (0 : Int64)), (.long (0 : Int64)), (.long (0 : Int64)), (.long (0 : Int64)), (.long (0 : Int64)), (.long (0 : Int64)), (.long (0 : Int64)), (.long (0 : Int64)), (.long (0 : Int64)), (.long (0 : Int64)), (.long (0 : Int64)), (.long (0 : Int64)), (.long (0 : Int64)), (.long (0 : Int64)), (.long (0 : Int64)), (.long (0 : Int64)), (.long (0 : Int64)), (.long (0 : Int64)), (.long (0 : Int64))] (.long (0 : Int64)) := (Arv.new A2 (by decide)).pad (pad_rep [] (.long (0 : Int64)) 20)
  refine own_st (T' := T2) (F' := (mkF m 9 #[.val (.ref o), .val (.long x0), .second] [(.ref b2), (.ref o)])) (fun _ k => st2 _ k) ?_
  obtain ⟨T9, h9, X9, e9, W9, st9⟩ := putF X2 hx hZ hown (host := "") (Or.inl (hw _ (List.mem_of_getElem? (i := 11) rfl))) Via.refl e2 f4 f3 (Or.inr ⟨(hw _ (List.mem_of_getElem? (i := 12) rfl)), rfl, hnm⟩) (hw _ (List.mem_of_getElem? (i := 2) rfl)) (ty := (.array .long)) (by decide) rfl rfl (g := (mkF m 9 #[.val (.ref o), .val (.long x0), .second] [(.ref b2), (.ref o)])) rfl rfl (hb hby d1_9)
  have N9 := Fr.snoc X9 N0 hge_o
  have f10 : Exa Z h9 o "com/example/slotter/slotter/analysis/BatchMeans" := f3.wr W9
  have f11 : Fld Z h9 o "com/example/slotter/slotter/analysis/BatchMeans" "events" "[J" (.ref b2) := f4.same W9
  have f12 : Fld Z h9 o "com/example/slotter/slotter/analysis/BatchMeans" "total" "J" u1 := f5.other W9 (Or.inr (slot_ne (Or.inr (hw _ (List.mem_of_getElem? (i := 15) rfl))) (Or.inr (hw _ (List.mem_of_getElem? (i := 12) rfl))) (by decide) (t := .long) (t' := (.array .long)) (by decide) (by decide)))
  have f13 : Fld Z h9 o "com/example/slotter/slotter/analysis/BatchMeans" "batchEnd" "J" u2 := f6.other W9 (Or.inr (slot_ne (Or.inl (hw _ (List.mem_of_getElem? (i := 21) rfl))) (Or.inr (hw _ (List.mem_of_getElem? (i := 12) rfl))) (by decide) (t := .long) (t' := (.array .long)) (by decide) (by decide)))
  have f14 : Fld Z h9 o "com/example/slotter/slotter/analysis/BatchMeans" "observed" "J" (.long (0 : Int64)) := f7.other W9 (Or.inr (slot_ne (Or.inl (hw _ (List.mem_of_getElem? (i := 32) rfl))) (Or.inr (hw _ (List.mem_of_getElem? (i := 12) rfl))) (by decide) (t := .long) (t' := (.array .long)) (by decide) (by decide)))
  have f15 : Fld Z h9 o "com/example/slotter/slotter/analysis/BatchMeans" "batch" "I" (.int (0 : Int32)) := f8.other W9 (Or.inr (slot_ne (Or.inl (hw _ (List.mem_of_getElem? (i := 34) rfl))) (Or.inr (hw _ (List.mem_of_getElem? (i := 12) rfl))) (by decide) (t := .int) (t' := (.array .long)) (by decide) (by decide)))
  have f16 : Exa Z h9 b2 "[J" := AE2.wr W9
  have f17 : Arv Z h9 b2 k2 .long (20 : Int32) [(.long (0 : Int64)), (.long (0 : Int64)), (.long (0 : Int64)), (.long (0 : Int64)), (.long (0 : Int64)), (.long (0 : Int64)), (.long (0 : Int64)), (.long (0 : Int64)), (.long (0 : Int64)), (.long (0 : Int64)), (.long (0 : Int64)), (.long (0 : Int64)), (.long (0 : Int64)), (.long (0 : Int64)), (.long (0 : Int64)), (.long (0 : Int64)), (.long (0 : Int64)), (.long (0 : Int64)), (.long (0 : Int64)), (.long (0 : Int64))] (.long (0 : Int64)) := V2.other W9 (Ne.symm ne2_1)
  have K9 : Keep h0 h9 [o] := K2.wr W9 (Or.inl (List.mem_of_getElem? (i := 0) rfl))
  have Zs9 : n0 ≤ h9.size := Nat.le_trans Z0 K9.1
  refine own_st (T' := T9) (F' := (mkF m 12 #[.val (.ref o), .val (.long x0), .second] [])) (fun _ k => st9 _ k) ?_
  refine own_st (T' := T9) (F' := (mkF m 13 #[.val (.ref o), .val (.long x0), .second] [(.long x0)])) (fun _ k => XS.lloadN X9.here hx rfl (hb hby d1_12) rfl  k) ?_
  refine own_st (T' := T9) (F' := (mkF m 16 #[.val (.ref o), .val (.long x0), .second] [(.long (20 : Int64)), (.long x0)])) (fun _ k => X9.ldc2Long hx hown (mvT hZ (hw _ (List.mem_of_getElem? (i := 13) rfl))) (g := (mkF m 13 #[.val (.ref o), .val (.long x0), .second] [(.long x0)])) rfl (hb hby d1_13) _ k) ?_
  refine own_st (T' := T9) (F' := (mkF m 17 #[.val (.ref o), .val (.long x0), .second] [(.int (lcmpW x0 (20 : Int64)))])) (fun _ k => XS.lcmp X9.here hx rfl (hb hby d1_16) rfl k) ?_
  refine own_iflc X9 hx (pc' := 34) (pc2 := 20) (hb hby d1_17) (by decide) (by decide) rfl (fun (hc17 : ¬ (x0 < (20 : Int64))) => ?_) (fun (hc17 : x0 < (20 : Int64)) => ?_)
  ·
    refine own_st (T' := T9) (F' := (mkF m 35 #[.val (.ref o), .val (.long x0), .second] [(.ref o)])) (fun _ k => XS.aloadN X9.here hx rfl (hb hby d1_34) rfl rfl k) ?_
    refine own_st (T' := T9) (F' := (mkF m 36 #[.val (.ref o), .val (.long x0), .second] [(.long x0), (.ref o)])) (fun _ k => XS.lloadN X9.here hx rfl (hb hby d1_35) rfl  k) ?_
    obtain ⟨T18, h18, X18, e18, W18, st18⟩ := putF X9 hx hZ hown (host := "") (Or.inl (hw _ (List.mem_of_getElem? (i := 14) rfl))) Via.refl e9 f12 f10 (Or.inr ⟨(hw _ (List.mem_of_getElem? (i := 15) rfl)), rfl, hnm⟩) (hw _ (List.mem_of_getElem? (i := 2) rfl)) (ty := .long) (by decide) rfl rfl (g := (mkF m 36 #[.val (.ref o), .val (.long x0), .second] [(.long x0), (.ref o)])) rfl rfl (hb hby d1_36)
    have N18 := Fr.snoc X18 N9 hge_o
    have f19 : Exa Z h18 o "com/example/slotter/slotter/analysis/BatchMeans" := f10.wr W18
    have f20 : Fld Z h18 o "com/example/slotter/slotter/analysis/BatchMeans" "events" "[J" (.ref b2) := f11.other W18 (Or.inr (slot_ne (Or.inr (hw _ (List.mem_of_getElem? (i := 12) rfl))) (Or.inr (hw _ (List.mem_of_getElem? (i := 15) rfl))) (by decide) (t := (.array .long)) (t' := .long) (by decide) (by decide)))
    have f21 : Fld Z h18 o "com/example/slotter/slotter/analysis/BatchMeans" "total" "J" (.long x0) := f12.same W18
    have f22 : Fld Z h18 o "com/example/slotter/slotter/analysis/BatchMeans" "batchEnd" "J" u2 := f13.other W18 (Or.inr (slot_ne (Or.inl (hw _ (List.mem_of_getElem? (i := 21) rfl))) (Or.inr (hw _ (List.mem_of_getElem? (i := 15) rfl))) (by decide) (t := .long) (t' := .long) (by decide) (by decide)))
    have f23 : Fld Z h18 o "com/example/slotter/slotter/analysis/BatchMeans" "observed" "J" (.long (0 : Int64)) := f14.other W18 (Or.inr (slot_ne (Or.inl (hw _ (List.mem_of_getElem? (i := 32) rfl))) (Or.inr (hw _ (List.mem_of_getElem? (i := 15) rfl))) (by decide) (t := .long) (t' := .long) (by decide) (by decide)))
    have f24 : Fld Z h18 o "com/example/slotter/slotter/analysis/BatchMeans" "batch" "I" (.int (0 : Int32)) := f15.other W18 (Or.inr (slot_ne (Or.inl (hw _ (List.mem_of_getElem? (i := 34) rfl))) (Or.inr (hw _ (List.mem_of_getElem? (i := 15) rfl))) (by decide) (t := .int) (t' := .long) (by decide) (by decide)))
    have f25 : Exa Z h18 b2 "[J" := f16.wr W18
    have f26 : Arv Z h18 b2 k2 .long (20 : Int32) [(.long (0 : Int64)), (.long (0 : Int64)), (.long (0 : Int64)), (.long (0 : Int64)), (.long (0 : Int64)), (.long (0 : Int64)), (.long (0 : Int64)), (.long (0 : Int64)), (.long (0 : Int64)), (.long (0 : Int64)), (.long (0 : Int64)), (.long (0 : Int64)), (.long (0 : Int64)), (.long (0 : Int64)), (.long (0 : Int64)), (.long (0 : Int64)), (.long (0 : Int64)), (.long (0 : Int64)), (.long (0 : Int64)), (.long (0 : Int64))] (.long (0 : Int64)) := f17.other W18 (Ne.symm ne2_1)
    have K18 : Keep h0 h18 [o] := K9.wr W18 (Or.inl (List.mem_of_getElem? (i := 0) rfl))
    have Zs18 : n0 ≤ h18.size := Nat.le_trans Z0 K18.1
    refine own_st (T' := T18) (F' := (mkF m 39 #[.val (.ref o), .val (.long x0), .second] [])) (fun _ k => st18 _ k) ?_
    refine own_st (T' := T18) (F' := (mkF m 40 #[.val (.ref o), .val (.long x0), .second] [(.ref o)])) (fun _ k => XS.aloadN X18.here hx rfl (hb hby d1_39) rfl rfl k) ?_
    refine own_st (T' := T18) (F' := (mkF m 41 #[.val (.ref o), .val (.long x0), .second] [(.ref o), (.ref o)])) (fun _ k => XS.aloadN X18.here hx rfl (hb hby d1_40) rfl rfl k) ?_
    refine own_st (T' := T18) (F' := (mkF m 42 #[.val (.ref o), .val (.long x0), .second] [(.int (0 : Int32)), (.ref o), (.ref o)])) (fun _ k => XS.iconst X18.here hx rfl (hb hby d1_41) k) ?_
    obtain ⟨cq27, q27, q27'⟩ := f19.cell
    obtain ⟨_, _, ⟨T27, L27, k27, n27⟩, -, X27, ⟨Lc27, hQ27, l27, y27, z27⟩, st27⟩ := X18.privateBack hx (y := (⟨"com/example/slotter/slotter/analysis/BatchMeans", "batchEnd", "(I)J"⟩ : MethodName)) hown (mvT hZ (hw _ (List.mem_of_getElem? (i := 16) rfl))) (mvT hZ (hw _ (List.mem_of_getElem? (i := 17) rfl))) (own_selp (mvT hZ (hw _ (List.mem_of_getElem? (i := 2) rfl))) (Cond.privateMethod_at (mvP hZ (hw _ (List.mem_of_getElem? (i := 18) rfl)) (args := #[]))) (mvT hZ (hw _ (List.mem_of_getElem? (i := 17) rfl))) (by decide)) (Cond.privateMethod_at (mvP hZ (hw _ (List.mem_of_getElem? (i := 18) rfl)) (args := #[]))) (mvT hZ (hw _ (List.mem_of_getElem? (i := 19) rfl))) (by decide) (backOf (W := 1) (rm3 l Z a0 hw [] o (0 : Int32) x0 h18 n0 Zs18 f21) hZ (hw _ (List.mem_of_getElem? (i := 19) rfl)) (hw _ (List.mem_of_getElem? (i := 3) rfl)) (by decide) (by decide)) (g := (mkF m 42 #[.val (.ref o), .val (.long x0), .second] [(.int (0 : Int32)), (.ref o), (.ref o)])) rfl (by rw [hml]; rfl) (Steps.refl _) (a := o) (by rw [e18]; exact q27) q27' (argsL := [(.int (0 : Int32))]) (rest := [(.ref o)]) (lenOf own_pd0 rfl) rfl (by show 2 * 0 + _ ≤ _; exact Nat.le_of_eq rfl) (hb hby d1_42) (fun _ _ => ⟨rfl, e18, (by decide : 1 + 0 ≤ _), (by decide : 20 + 0 ≤ _)⟩)
    dsimp only [Pt.U, Pt.locs, Pt.cells, Pt.slots] at X27 l27 y27 z27 st27 hQ27
    subst l27 y27 z27
    obtain ⟨⟨r27, rfl, hr27⟩, Nq27, eq27⟩ := hQ27
    have N27 := Fr.app N18 Nq27
    refine own_tr (T' := T27) (F' := (mkF m 45 #[.val (.ref o), .val (.long x0), .second] [(.long r27), (.ref o)])) st27 ?_
    obtain ⟨T28, h28, X28, e28, W28, st28⟩ := putF X27 hx hZ hown (host := "") (Or.inl (hw _ (List.mem_of_getElem? (i := 20) rfl))) Via.refl eq27 f22 f19 (Or.inl (hw _ (List.mem_of_getElem? (i := 21) rfl))) (hw _ (List.mem_of_getElem? (i := 2) rfl)) (ty := .long) (by decide) rfl rfl (g := (mkF m 45 #[.val (.ref o), .val (.long x0), .second] [(.long r27), (.ref o)])) rfl rfl (hb hby d1_45)
    have N28 := Fr.snoc X28 N27 hge_o
    have f29 : Exa Z h28 o "com/example/slotter/slotter/analysis/BatchMeans" := f19.wr W28
    have f30 : Fld Z h28 o "com/example/slotter/slotter/analysis/BatchMeans" "events" "[J" (.ref b2) := f20.other W28 (Or.inr (slot_ne (Or.inr (hw _ (List.mem_of_getElem? (i := 12) rfl))) (Or.inl (hw _ (List.mem_of_getElem? (i := 21) rfl))) (by decide) (t := (.array .long)) (t' := .long) (by decide) (by decide)))
    have f31 : Fld Z h28 o "com/example/slotter/slotter/analysis/BatchMeans" "total" "J" (.long x0) := f21.other W28 (Or.inr (slot_ne (Or.inr (hw _ (List.mem_of_getElem? (i := 15) rfl))) (Or.inl (hw _ (List.mem_of_getElem? (i := 21) rfl))) (by decide) (t := .long) (t' := .long) (by decide) (by decide)))
    have f32 : Fld Z h28 o "com/example/slotter/slotter/analysis/BatchMeans" "batchEnd" "J" (.long r27) := f22.same W28
    have f33 : Fld Z h28 o "com/example/slotter/slotter/analysis/BatchMeans" "observed" "J" (.long (0 : Int64)) := f23.other W28 (Or.inr (slot_ne (Or.inl (hw _ (List.mem_of_getElem? (i := 32) rfl))) (Or.inl (hw _ (List.mem_of_getElem? (i := 21) rfl))) (by decide) (t := .long) (t' := .long) (by decide) (by decide)))
    have f34 : Fld Z h28 o "com/example/slotter/slotter/analysis/BatchMeans" "batch" "I" (.int (0 : Int32)) := f24.other W28 (Or.inr (slot_ne (Or.inl (hw _ (List.mem_of_getElem? (i := 34) rfl))) (Or.inl (hw _ (List.mem_of_getElem? (i := 21) rfl))) (by decide) (t := .int) (t' := .long) (by decide) (by decide)))
    have f35 : Exa Z h28 b2 "[J" := f25.wr W28
    have f36 : Arv Z h28 b2 k2 .long (20 : Int32) [(.long (0 : Int64)), (.long (0 : Int64)), (.long (0 : Int64)), (.long (0 : Int64)), (.long (0 : Int64)), (.long (0 : Int64)), (.long (0 : Int64)), (.long (0 : Int64)), (.long (0 : Int64)), (.long (0 : Int64)), (.long (0 : Int64)), (.long (0 : Int64)), (.long (0 : Int64)), (.long (0 : Int64)), (.long (0 : Int64)), (.long (0 : Int64)), (.long (0 : Int64)), (.long (0 : Int64)), (.long (0 : Int64)), (.long (0 : Int64))] (.long (0 : Int64)) := f26.other W28 (Ne.symm ne2_1)
    have K28 : Keep h0 h28 [o] := K18.wr W28 (Or.inl (List.mem_of_getElem? (i := 0) rfl))
    have Zs28 : n0 ≤ h28.size := Nat.le_trans Z0 K28.1
    refine own_st (T' := T28) (F' := (mkF m 48 #[.val (.ref o), .val (.long x0), .second] [])) (fun _ k => st28 _ k) ?_
    refine own_retV X28 hx hlk Bd.returns (hb hby d1_48) ?_ (by decide) (by decide)
    rw [e28]
    refine ⟨rfl, N28, K28, f29, ?_⟩
    exact ⟨b2, _, _, hge2, f30, f31, f32, f33, f34, f36⟩
  ·
    exact absurd hc17 ht
theorem d5_0 : decode prog_1_method_2_code 0 = .ok (.aload_n 0, 1) := by decide +kernel
theorem d5_1 : decode prog_1_method_2_code 1 = .ok (.getfield 34, 3) := by decide +kernel
theorem d5_4 : decode prog_1_method_2_code 4 = .ok (.aload_n 0, 1) := by decide +kernel
theorem d5_5 : decode prog_1_method_2_code 5 = .ok (.getfield 24, 3) := by decide +kernel
theorem d5_8 : decode prog_1_method_2_code 8 = .ok (.lcmp, 1) := by decide +kernel
theorem d5_9 : decode prog_1_method_2_code 9 = .ok (.ifCond .ne 20, 3) := by decide +kernel
theorem d5_29 : decode prog_1_method_2_code 29 = .ok (.aload_n 0, 1) := by decide +kernel
theorem d5_30 : decode prog_1_method_2_code 30 = .ok (.getfield 34, 3) := by decide +kernel
theorem d5_33 : decode prog_1_method_2_code 33 = .ok (.aload_n 0, 1) := by decide +kernel
theorem d5_34 : decode prog_1_method_2_code 34 = .ok (.getfield 32, 3) := by decide +kernel
theorem d5_37 : decode prog_1_method_2_code 37 = .ok (.lcmp, 1) := by decide +kernel
theorem d5_38 : decode prog_1_method_2_code 38 = .ok (.ifCond .ne 25, 3) := by decide +kernel
theorem d5_41 : decode prog_1_method_2_code 41 = .ok (.aload_n 0, 1) := by decide +kernel
theorem d5_42 : decode prog_1_method_2_code 42 = .ok (.dup, 1) := by decide +kernel
theorem d5_43 : decode prog_1_method_2_code 43 = .ok (.getfield 41, 3) := by decide +kernel
theorem d5_46 : decode prog_1_method_2_code 46 = .ok (.iconst 1, 1) := by decide +kernel
theorem d5_47 : decode prog_1_method_2_code 47 = .ok (.iadd, 1) := by decide +kernel
theorem d5_48 : decode prog_1_method_2_code 48 = .ok (.putfield 41, 3) := by decide +kernel
theorem d5_51 : decode prog_1_method_2_code 51 = .ok (.aload_n 0, 1) := by decide +kernel
theorem d5_52 : decode prog_1_method_2_code 52 = .ok (.aload_n 0, 1) := by decide +kernel
theorem d5_53 : decode prog_1_method_2_code 53 = .ok (.aload_n 0, 1) := by decide +kernel
theorem d5_54 : decode prog_1_method_2_code 54 = .ok (.getfield 41, 3) := by decide +kernel
theorem d5_57 : decode prog_1_method_2_code 57 = .ok (.invokevirtual 28, 3) := by decide +kernel
theorem d5_60 : decode prog_1_method_2_code 60 = .ok (.putfield 32, 3) := by decide +kernel
theorem d5_63 : decode prog_1_method_2_code 63 = .ok (.aload_n 0, 1) := by decide +kernel
theorem d5_64 : decode prog_1_method_2_code 64 = .ok (.dup, 1) := by decide +kernel
theorem d5_65 : decode prog_1_method_2_code 65 = .ok (.getfield 34, 3) := by decide +kernel
theorem d5_68 : decode prog_1_method_2_code 68 = .ok (.lconst 1, 1) := by decide +kernel
theorem d5_69 : decode prog_1_method_2_code 69 = .ok (.ladd, 1) := by decide +kernel
theorem d5_70 : decode prog_1_method_2_code 70 = .ok (.putfield 34, 3) := by decide +kernel
theorem d5_73 : decode prog_1_method_2_code 73 = .ok (.iload_n 1, 1) := by decide +kernel
theorem d5_74 : decode prog_1_method_2_code 74 = .ok (.ifCond .eq 16, 3) := by decide +kernel
theorem d5_77 : decode prog_1_method_2_code 77 = .ok (.aload_n 0, 1) := by decide +kernel
theorem d5_78 : decode prog_1_method_2_code 78 = .ok (.getfield 9, 3) := by decide +kernel
theorem d5_81 : decode prog_1_method_2_code 81 = .ok (.aload_n 0, 1) := by decide +kernel
theorem d5_82 : decode prog_1_method_2_code 82 = .ok (.getfield 41, 3) := by decide +kernel
theorem d5_85 : decode prog_1_method_2_code 85 = .ok (.dup2, 1) := by decide +kernel
theorem d5_86 : decode prog_1_method_2_code 86 = .ok (.laload, 1) := by decide +kernel
theorem d5_87 : decode prog_1_method_2_code 87 = .ok (.lconst 1, 1) := by decide +kernel
theorem d5_88 : decode prog_1_method_2_code 88 = .ok (.ladd, 1) := by decide +kernel
theorem d5_89 : decode prog_1_method_2_code 89 = .ok (.lastore, 1) := by decide +kernel
theorem d5_90 : decode prog_1_method_2_code 90 = .ok (.return_, 1) := by decide +kernel
theorem own_pn5 : plainName "com/example/slotter/slotter/analysis/BatchMeans" = true := by first | (simp [plainName, overriddenIn]; done) | decide +kernel
theorem own_ef5 (m : MethodId) (o : Addr) (x0 : Int32) : entryFrame m #[(.ref o), (.int x0)] 2 = (mkF m 0 #[.val (.ref o), .val (.int x0)] []) := by first | (simp [entryFrame, mkF, argsToLocals, Value.category]; done) | rfl
def Q5 (Z : State) (o : Addr) (x0 : Int32) (ev : Addr) (t : Int64) (be : Int64) (ob : Int64) (ba : Int32) (k : ClassId) (vs : List Value) (h0 : Heap) (n0 : Nat) (v : Option Value) (h : Heap) (L : List Loc) : Prop := v = none ∧ Fr n0 L ∧ Keep h0 h [o, ev] ∧ Exa Z h o "com/example/slotter/slotter/analysis/BatchMeans" ∧ Fld Z h o "com/example/slotter/slotter/analysis/BatchMeans" "events" "[J" (.ref ev) ∧ Fld Z h o "com/example/slotter/slotter/analysis/BatchMeans" "total" "J" (.long t) ∧ Fld Z h o "com/example/slotter/slotter/analysis/BatchMeans" "observed" "J" (.long (ob + 1)) ∧ (∃ (b' : Int32) (e' : Int64) (w' : List Value), Fld Z h o "com/example/slotter/slotter/analysis/BatchMeans" "batch" "I" (.int b') ∧ Fld Z h o "com/example/slotter/slotter/analysis/BatchMeans" "batchEnd" "J" (.long e') ∧ Arv Z h ev k .long (20 : Int32) w' (.long (0 : Int64)) ∧ (b' = ba ∨ b' = ba + 1) ∧ w'.length = 20 ∧ own_sum w' = own_sum vs + x0.toInt64)
set_option maxRecDepth 65536 in
set_option maxHeartbeats 40000000 in
theorem rm5 (l : Launch) (Z : State) (a0 : Array Value) (hw : ∀ d ∈ tables_1, d.before a0 Z = true) (ws : List Jvm.Cond) (o : Addr) (x0 : Int32) (ev : Addr) (t : Int64) (be : Int64) (ob : Int64) (ba : Int32) (k : ClassId) (vs : List Value) (h0 : Heap) (n0 : Nat) (Z0 : n0 ≤ h0.size) (hge_o : n0 ≤ o) (hE : Exa Z h0 o "com/example/slotter/slotter/analysis/BatchMeans") (hF0 : Fld Z h0 o "com/example/slotter/slotter/analysis/BatchMeans" "events" "[J" (.ref ev)) (hge_ev : n0 ≤ ev) (hF1 : Fld Z h0 o "com/example/slotter/slotter/analysis/BatchMeans" "total" "J" (.long t)) (hF2 : Fld Z h0 o "com/example/slotter/slotter/analysis/BatchMeans" "batchEnd" "J" (.long be)) (hF3 : Fld Z h0 o "com/example/slotter/slotter/analysis/BatchMeans" "observed" "J" (.long ob)) (hF4 : Fld Z h0 o "com/example/slotter/slotter/analysis/BatchMeans" "batch" "I" (.int ba)) (V_e : Arv Z h0 ev k .long (20 : Int32) vs (.long (0 : Int64))) (hne : ev ≠ o) (hob : ¬ ob = t) (hba : ¬ ba < 0 ∧ ba < 18) (hlen : vs.length = 20) (hxx : x0 = 0 ∨ x0 = 1) :
    MetFree l (⟨"com/example/slotter/slotter/analysis/BatchMeans", "observe", "(Z)V"⟩ : MethodName) (head1 (Jvm.Cond.code (⟨"com/example/slotter/slotter/analysis/BatchMeans", "observe", "(Z)V"⟩ : MethodName) prog_1_method_2_code 2 none :: ws) ({ frames := 1, cells := 0, slots := 0, locals := 16 } : Room)) (fun a U => a = #[(.ref o), (.int x0)] ∧ Z.Warmed39 U.vm ∧ U.heap = h0) (fun _ _ _ _ _ => True) (fun _ U oc U' => ∃ v L, oc = .returned v ∧ Q5 Z o x0 ev t be ob ba k vs h0 n0 v U'.heap L ∧ FrameEnd U oc U' L ({ frames := 1, cells := 0, slots := 0, locals := 16 } : Room).cells ({ frames := 1, cells := 0, slots := 0, locals := 16 } : Room).slots) := by
  refine MetFree.of_bodySF (plainFor_of_name own_pn5) hisR ?_
  intro p e s m args below meth c s₁ Bd hml0 hP hK
  obtain ⟨rfl, hZ, hh⟩ := hP
  have hx := Bd.exec
  have hby := Bd.bytes
  have hlk : meth.locks = false := BodyLoose.notSynchronized Bd
  have hml : c.maxLocals = 2 := hml0
  have hown : s.vm.findClass "com/example/slotter/slotter/analysis/BatchMeans" = some m.cls := findClass_of_methodNamed Bd.named
  have hnm := (name_of_methodNamed Bd.named Bd.method).1
  have X0 : Stand p l e ({ frames := 1, cells := 0, slots := 0, locals := 16 } : Room) s m #[(.ref o), (.int x0)] below meth c s₁ [] 0 0 := Stand.of_body Bd
  have e0 : s₁.heap = h0 := by rw [← hh, Bd.state]; rfl
  have N0 := Fr.nil n0
  refine own_enter (own_ef5 m o x0) ?_
  show own_Go p e below s (Q5 Z o x0 ev t be ob ba k vs h0 n0) ({ frames := 1, cells := 0, slots := 0, locals := 16 } : Room).cells ({ frames := 1, cells := 0, slots := 0, locals := 16 } : Room).slots s₁ (mkF m 0 #[.val (.ref o), .val (.int x0)] [])
  refine own_st (T' := s₁) (F' := (mkF m 1 #[.val (.ref o), .val (.int x0)] [(.ref o)])) (fun _ k => XS.aloadN X0.here hx rfl (hb hby d5_0) rfl rfl k) ?_
  obtain ⟨T1, X1, e1, st1⟩ := getF X0 hx hZ hown (host := "") (Or.inl (hw _ (List.mem_of_getElem? (i := 31) rfl))) Via.refl e0 hF3 (g := (mkF m 1 #[.val (.ref o), .val (.int x0)] [(.ref o)])) rfl rfl (hb hby d5_1)
  refine own_st (T' := T1) (F' := (mkF m 4 #[.val (.ref o), .val (.int x0)] [(.long ob)])) (fun _ k => st1 _ k) ?_
  refine own_st (T' := T1) (F' := (mkF m 5 #[.val (.ref o), .val (.int x0)] [(.ref o), (.long ob)])) (fun _ k => XS.aloadN X1.here hx rfl (hb hby d5_4) rfl rfl k) ?_
  obtain ⟨T2, X2, e2, st2⟩ := getF X1 hx hZ hown (host := "") (Or.inl (hw _ (List.mem_of_getElem? (i := 14) rfl))) Via.refl e1 hF1 (g := (mkF m 5 #[.val (.ref o), .val (.int x0)] [(.ref o), (.long ob)])) rfl rfl (hb hby d5_5)
  refine own_st (T' := T2) (F' := (mkF m 8 #[.val (.ref o), .val (.int x0)] [(.long t), (.long ob)])) (fun _ k => st2 _ k) ?_
  refine own_st (T' := T2) (F' := (mkF m 9 #[.val (.ref o), .val (.int x0)] [(.int (lcmpW ob t))])) (fun _ k => XS.lcmp X2.here hx rfl (hb hby d5_8) rfl k) ?_
  refine own_iflc X2 hx (pc' := 29) (pc2 := 12) (hb hby d5_9) (by decide) (by decide) rfl (fun (hc9 : ¬ (ob = t)) => ?_) (fun (hc9 : ob = t) => ?_)
  ·
    refine own_st (T' := T2) (F' := (mkF m 30 #[.val (.ref o), .val (.int x0)] [(.ref o)])) (fun _ k => XS.aloadN X2.here hx rfl (hb hby d5_29) rfl rfl k) ?_
    obtain ⟨T3, X3, e3, st3⟩ := getF X2 hx hZ hown (host := "") (Or.inl (hw _ (List.mem_of_getElem? (i := 31) rfl))) Via.refl e2 hF3 (g := (mkF m 30 #[.val (.ref o), .val (.int x0)] [(.ref o)])) rfl rfl (hb hby d5_30)
    refine own_st (T' := T3) (F' := (mkF m 33 #[.val (.ref o), .val (.int x0)] [(.long ob)])) (fun _ k => st3 _ k) ?_
    refine own_st (T' := T3) (F' := (mkF m 34 #[.val (.ref o), .val (.int x0)] [(.ref o), (.long ob)])) (fun _ k => XS.aloadN X3.here hx rfl (hb hby d5_33) rfl rfl k) ?_
    obtain ⟨T4, X4, e4, st4⟩ := getF X3 hx hZ hown (host := "") (Or.inl (hw _ (List.mem_of_getElem? (i := 20) rfl))) Via.refl e3 hF2 (g := (mkF m 34 #[.val (.ref o), .val (.int x0)] [(.ref o), (.long ob)])) rfl rfl (hb hby d5_34)
    refine own_st (T' := T4) (F' := (mkF m 37 #[.val (.ref o), .val (.int x0)] [(.long be), (.long ob)])) (fun _ k => st4 _ k) ?_
    refine own_st (T' := T4) (F' := (mkF m 38 #[.val (.ref o), .val (.int x0)] [(.int (lcmpW ob be))])) (fun _ k => XS.lcmp X4.here hx rfl (hb hby d5_37) rfl k) ?_
    have J63_5 : ∀ (j63_103 : Int64) (j63_105 : Int32) (TJ5 : State) (LJ5 : List Loc) (XJ5 : Stand p l e ({ frames := 1, cells := 0, slots := 0, locals := 16 } : Room) s m #[(.ref o), (.int x0)] below meth c TJ5 LJ5 0 0) (NJ5 : Fr n0 LJ5) (hJ5 : Heap) (eJ5 : TJ5.heap = hJ5) (zJ5 : n0 ≤ hJ5.size) (kJ5 : Keep h0 hJ5 [o, ev]) (fJ5_0 : Exa Z hJ5 o "com/example/slotter/slotter/analysis/BatchMeans") (fJ5_1 : Fld Z hJ5 o "com/example/slotter/slotter/analysis/BatchMeans" "events" "[J" (.ref ev)) (fJ5_2 : Fld Z hJ5 o "com/example/slotter/slotter/analysis/BatchMeans" "total" "J" (.long t)) (fJ5_3 : Fld Z hJ5 o "com/example/slotter/slotter/analysis/BatchMeans" "batchEnd" "J" (.long j63_103)) (fJ5_4 : Fld Z hJ5 o "com/example/slotter/slotter/analysis/BatchMeans" "observed" "J" (.long ob)) (fJ5_5 : Fld Z hJ5 o "com/example/slotter/slotter/analysis/BatchMeans" "batch" "I" (.int j63_105)) (fJ5_6 : Arv Z hJ5 ev k .long (20 : Int32) vs (.long (0 : Int64))), (j63_105 = ba ∨ j63_105 = ba + 1) → own_Go p e below s (Q5 Z o x0 ev t be ob ba k vs h0 n0) ({ frames := 1, cells := 0, slots := 0, locals := 16 } : Room).cells ({ frames := 1, cells := 0, slots := 0, locals := 16 } : Room).slots TJ5 (mkF m 63 #[.val (.ref o), .val (.int x0)] []) := by
      intro j63_103 j63_105 TJ5 LJ5 XJ5 NJ5 hJ5 eJ5 zJ5 kJ5 fJ5_0 fJ5_1 fJ5_2 fJ5_3 fJ5_4 fJ5_5 fJ5_6 hJ63_5
      refine own_st (T' := TJ5) (F' := (mkF m 64 #[.val (.ref o), .val (.int x0)] [(.ref o)])) (fun _ k => XS.aloadN XJ5.here hx rfl (hb hby d5_63) rfl rfl k) ?_
      refine own_st (T' := TJ5) (F' := (mkF m 65 #[.val (.ref o), .val (.int x0)] [(.ref o), (.ref o)])) (fun _ k => XS.dup XJ5.here hx rfl (hb hby d5_64) rfl rfl k) ?_
      obtain ⟨T6, X6, e6, st6⟩ := getF XJ5 hx hZ hown (host := "") (Or.inl (hw _ (List.mem_of_getElem? (i := 31) rfl))) Via.refl eJ5 fJ5_4 (g := (mkF m 65 #[.val (.ref o), .val (.int x0)] [(.ref o), (.ref o)])) rfl rfl (hb hby d5_65)
      refine own_st (T' := T6) (F' := (mkF m 68 #[.val (.ref o), .val (.int x0)] [(.long ob), (.ref o)])) (fun _ k => st6 _ k) ?_
      refine own_st (T' := T6) (F' := (mkF m 69 #[.val (.ref o), .val (.int x0)] [(.long (1 : Int64)), (.long ob), (.ref o)])) (fun _ k => XS.lconst X6.here hx rfl (hb hby d5_68) k) ?_
      refine own_st (T' := T6) (F' := (mkF m 70 #[.val (.ref o), .val (.int x0)] [(.long (ob + (1 : Int64))), (.ref o)])) (fun _ k => XS.ladd X6.here hx rfl (hb hby d5_69) rfl k) ?_
      obtain ⟨T7, h7, X7, e7, W7, st7⟩ := putF X6 hx hZ hown (host := "") (Or.inl (hw _ (List.mem_of_getElem? (i := 31) rfl))) Via.refl e6 fJ5_4 fJ5_0 (Or.inl (hw _ (List.mem_of_getElem? (i := 32) rfl))) (hw _ (List.mem_of_getElem? (i := 2) rfl)) (ty := .long) (by decide) rfl rfl (g := (mkF m 70 #[.val (.ref o), .val (.int x0)] [(.long (ob + (1 : Int64))), (.ref o)])) rfl rfl (hb hby d5_70)
      have N7 := Fr.snoc X7 NJ5 hge_o
      have f8 : Exa Z h7 o "com/example/slotter/slotter/analysis/BatchMeans" := fJ5_0.wr W7
      have f9 : Fld Z h7 o "com/example/slotter/slotter/analysis/BatchMeans" "events" "[J" (.ref ev) := fJ5_1.other W7 (Or.inr (slot_ne (Or.inr (hw _ (List.mem_of_getElem? (i := 12) rfl))) (Or.inl (hw _ (List.mem_of_getElem? (i := 32) rfl))) (by decide) (t := (.array .long)) (t' := .long) (by decide) (by decide)))
      have f10 : Fld Z h7 o "com/example/slotter/slotter/analysis/BatchMeans" "total" "J" (.long t) := fJ5_2.other W7 (Or.inr (slot_ne (Or.inr (hw _ (List.mem_of_getElem? (i := 15) rfl))) (Or.inl (hw _ (List.mem_of_getElem? (i := 32) rfl))) (by decide) (t := .long) (t' := .long) (by decide) (by decide)))
      have f11 : Fld Z h7 o "com/example/slotter/slotter/analysis/BatchMeans" "batchEnd" "J" (.long j63_103) := fJ5_3.other W7 (Or.inr (slot_ne (Or.inl (hw _ (List.mem_of_getElem? (i := 21) rfl))) (Or.inl (hw _ (List.mem_of_getElem? (i := 32) rfl))) (by decide) (t := .long) (t' := .long) (by decide) (by decide)))
      have f12 : Fld Z h7 o "com/example/slotter/slotter/analysis/BatchMeans" "observed" "J" (.long (ob + (1 : Int64))) := fJ5_4.same W7
      have f13 : Fld Z h7 o "com/example/slotter/slotter/analysis/BatchMeans" "batch" "I" (.int j63_105) := fJ5_5.other W7 (Or.inr (slot_ne (Or.inl (hw _ (List.mem_of_getElem? (i := 34) rfl))) (Or.inl (hw _ (List.mem_of_getElem? (i := 32) rfl))) (by decide) (t := .int) (t' := .long) (by decide) (by decide)))
      have f14 : Arv Z h7 ev k .long (20 : Int32) vs (.long (0 : Int64)) := fJ5_6.other W7 hne
      have K7 : Keep h0 h7 [o, ev] := kJ5.wr W7 (Or.inl (List.mem_of_getElem? (i := 0) rfl))
      have Zs7 : n0 ≤ h7.size := Nat.le_trans Z0 K7.1
      refine own_st (T' := T7) (F' := (mkF m 73 #[.val (.ref o), .val (.int x0)] [])) (fun _ k => st7 _ k) ?_
      refine own_st (T' := T7) (F' := (mkF m 74 #[.val (.ref o), .val (.int x0)] [(.int x0)])) (fun _ k => XS.iloadN X7.here hx rfl (hb hby d5_73) rfl  k) ?_
      refine own_ifc X7 hx (pc' := 90) (pc2 := 77) (hb hby d5_74) (by decide) (by decide) rfl (fun (hc74 : x0 = (0 : Int32)) => ?_) (fun (hc74 : ¬ (x0 = (0 : Int32))) => ?_)
      ·
        refine own_retV X7 hx hlk Bd.returns (hb hby d5_90) ?_ (by decide) (by decide)
        rw [e7]
        refine ⟨rfl, N7, K7, f8, f9, f10, f12, ?_⟩
        exact ⟨_, _, _, f13, f11, f14, hJ63_5, hlen, (by rw [hc74]; exact (Int64.add_zero _).symm)⟩
      ·
        refine own_st (T' := T7) (F' := (mkF m 78 #[.val (.ref o), .val (.int x0)] [(.ref o)])) (fun _ k => XS.aloadN X7.here hx rfl (hb hby d5_77) rfl rfl k) ?_
        obtain ⟨T15, X15, e15, st15⟩ := getF X7 hx hZ hown (host := "") (Or.inl (hw _ (List.mem_of_getElem? (i := 11) rfl))) Via.refl e7 f9 (g := (mkF m 78 #[.val (.ref o), .val (.int x0)] [(.ref o)])) rfl rfl (hb hby d5_78)
        refine own_st (T' := T15) (F' := (mkF m 81 #[.val (.ref o), .val (.int x0)] [(.ref ev)])) (fun _ k => st15 _ k) ?_
        refine own_st (T' := T15) (F' := (mkF m 82 #[.val (.ref o), .val (.int x0)] [(.ref o), (.ref ev)])) (fun _ k => XS.aloadN X15.here hx rfl (hb hby d5_81) rfl rfl k) ?_
        obtain ⟨T16, X16, e16, st16⟩ := getF X15 hx hZ hown (host := "") (Or.inl (hw _ (List.mem_of_getElem? (i := 33) rfl))) Via.refl e15 f13 (g := (mkF m 82 #[.val (.ref o), .val (.int x0)] [(.ref o), (.ref ev)])) rfl rfl (hb hby d5_82)
        refine own_st (T' := T16) (F' := (mkF m 85 #[.val (.ref o), .val (.int x0)] [(.int j63_105), (.ref ev)])) (fun _ k => st16 _ k) ?_
        refine own_st (T' := T16) (F' := (mkF m 86 #[.val (.ref o), .val (.int x0)] [(.int j63_105), (.ref ev), (.int j63_105), (.ref ev)])) (fun _ k => XT.dup2 X16.here hx rfl (hb hby d5_85) rfl rfl rfl k) ?_
        have hbi := own_bi hJ63_5 hba
        obtain ⟨yy, hyy⟩ := own_el f14 (j63_105).toNatClampNeg (own_nat20 hbi)
        obtain ⟨cl17, Ar17, Aq17, As17, Am17, Ah17, Au17⟩ := id f14
        have hin17 : ¬ (j63_105 < 0 ∨ cl17.slots.size ≤ (j63_105).toNatClampNeg) := inb_of As17 (hbi)
        have hat17 : cl17.slots[(j63_105).toNatClampNeg]? = some (.long yy) := Ah17.at hin17 (hyy)
        refine own_st (T' := T16) (F' := (mkF m 87 #[.val (.ref o), .val (.int x0)] [(.long yy), (.int j63_105), (.ref ev)])) (fun _ k => X16.laload hx (j := j63_105) (v := (.long yy)) (by rw [e16]; exact Ar17.1) (State.isArrayOf_alike hZ.alike Ar17.2.1) Ar17.2.2 hin17 hat17 (g := (mkF m 86 #[.val (.ref o), .val (.int x0)] [(.int j63_105), (.ref ev), (.int j63_105), (.ref ev)])) rfl rfl (hb hby d5_86) _ k) ?_
        refine own_st (T' := T16) (F' := (mkF m 88 #[.val (.ref o), .val (.int x0)] [(.long (1 : Int64)), (.long yy), (.int j63_105), (.ref ev)])) (fun _ k => XS.lconst X16.here hx rfl (hb hby d5_87) k) ?_
        refine own_st (T' := T16) (F' := (mkF m 89 #[.val (.ref o), .val (.int x0)] [(.long (yy + (1 : Int64))), (.int j63_105), (.ref ev)])) (fun _ k => XS.ladd X16.here hx rfl (hb hby d5_88) rfl k) ?_
        obtain ⟨cl18, Ar18, Aq18, As18, Am18, Ah18, Au18⟩ := id f14
        have hin18 : ¬ (j63_105 < 0 ∨ cl18.slots.size ≤ (j63_105).toNatClampNeg) := inb_of As18 (hbi)
        obtain ⟨T18, h18, X18, e18, W18, st18⟩ := stJ X16 hx hZ e16 Ar18 (j := j63_105) hin18 (g := (mkF m 89 #[.val (.ref o), .val (.int x0)] [(.long (yy + (1 : Int64))), (.int j63_105), (.ref ev)])) rfl rfl (hb hby d5_89)
        have V18 : Arv Z h18 ev k .long (20 : Int32) (vs.set (j63_105).toNatClampNeg (.long (yy + (1 : Int64)))) (.long (0 : Int64)) := Arv.set Ar18 Aq18 As18 Am18 Ah18 Au18 rfl W18 (j63_105).toNatClampNeg rfl (by rw [hlen]; exact own_nat20 hbi)
        have N18 := Fr.snoc X18 N7 hge_ev
        have f19 : Exa Z h18 o "com/example/slotter/slotter/analysis/BatchMeans" := f8.wr W18
        have f20 : Fld Z h18 o "com/example/slotter/slotter/analysis/BatchMeans" "events" "[J" (.ref ev) := f9.other W18 (Or.inl (Ne.symm hne))
        have f21 : Fld Z h18 o "com/example/slotter/slotter/analysis/BatchMeans" "total" "J" (.long t) := f10.other W18 (Or.inl (Ne.symm hne))
        have f22 : Fld Z h18 o "com/example/slotter/slotter/analysis/BatchMeans" "batchEnd" "J" (.long j63_103) := f11.other W18 (Or.inl (Ne.symm hne))
        have f23 : Fld Z h18 o "com/example/slotter/slotter/analysis/BatchMeans" "observed" "J" (.long (ob + (1 : Int64))) := f12.other W18 (Or.inl (Ne.symm hne))
        have f24 : Fld Z h18 o "com/example/slotter/slotter/analysis/BatchMeans" "batch" "I" (.int j63_105) := f13.other W18 (Or.inl (Ne.symm hne))
        have K18 : Keep h0 h18 [o, ev] := K7.wr W18 (Or.inl (List.mem_of_getElem? (i := 1) rfl))
        have Zs18 : n0 ≤ h18.size := Nat.le_trans Z0 K18.1
        refine own_st (T' := T18) (F' := (mkF m 90 #[.val (.ref o), .val (.int x0)] [])) (fun _ k => st18 _ k) ?_
        refine own_retV X18 hx hlk Bd.returns (hb hby d5_90) ?_ (by decide) (by decide)
        rw [e18]
        refine ⟨rfl, N18, K18, f19, f20, f21, f23, ?_⟩
        exact ⟨_, _, _, f24, f22, V18, hJ63_5, (by rw [List.length_set]; exact hlen), (by rcases hxx with h | h; exact absurd h hc74; rw [own_sum_set _ _ _ _ (by rw [hlen]; exact own_nat20 hbi) hyy, h]; rfl)⟩
    refine own_iflc X4 hx (pc' := 63) (pc2 := 41) (hb hby d5_38) (by decide) (by decide) rfl (fun (hc38 : ¬ (ob = be)) => ?_) (fun (hc38 : ob = be) => ?_)
    ·
      exact J63_5 be ba T4 _ X4 N0 h0 e4 Z0 (Keep.refl h0 [o, ev]) hE hF0 hF1 hF2 hF3 hF4 V_e (Or.inl rfl)
    ·
      refine own_st (T' := T4) (F' := (mkF m 42 #[.val (.ref o), .val (.int x0)] [(.ref o)])) (fun _ k => XS.aloadN X4.here hx rfl (hb hby d5_41) rfl rfl k) ?_
      refine own_st (T' := T4) (F' := (mkF m 43 #[.val (.ref o), .val (.int x0)] [(.ref o), (.ref o)])) (fun _ k => XS.dup X4.here hx rfl (hb hby d5_42) rfl rfl k) ?_
      obtain ⟨T25, X25, e25, st25⟩ := getF X4 hx hZ hown (host := "") (Or.inl (hw _ (List.mem_of_getElem? (i := 33) rfl))) Via.refl e4 hF4 (g := (mkF m 43 #[.val (.ref o), .val (.int x0)] [(.ref o), (.ref o)])) rfl rfl (hb hby d5_43)
      refine own_st (T' := T25) (F' := (mkF m 46 #[.val (.ref o), .val (.int x0)] [(.int ba), (.ref o)])) (fun _ k => st25 _ k) ?_
      refine own_st (T' := T25) (F' := (mkF m 47 #[.val (.ref o), .val (.int x0)] [(.int (1 : Int32)), (.int ba), (.ref o)])) (fun _ k => XS.iconst X25.here hx rfl (hb hby d5_46) k) ?_
      refine own_st (T' := T25) (F' := (mkF m 48 #[.val (.ref o), .val (.int x0)] [(.int (ba + (1 : Int32))), (.ref o)])) (fun _ k => XS.iadd X25.here hx rfl (hb hby d5_47) rfl k) ?_
      obtain ⟨T26, h26, X26, e26, W26, st26⟩ := putF X25 hx hZ hown (host := "") (Or.inl (hw _ (List.mem_of_getElem? (i := 33) rfl))) Via.refl e25 hF4 hE (Or.inl (hw _ (List.mem_of_getElem? (i := 34) rfl))) (hw _ (List.mem_of_getElem? (i := 2) rfl)) (ty := .int) (by decide) rfl rfl (g := (mkF m 48 #[.val (.ref o), .val (.int x0)] [(.int (ba + (1 : Int32))), (.ref o)])) rfl rfl (hb hby d5_48)
      have N26 := Fr.snoc X26 N0 hge_o
      have f27 : Exa Z h26 o "com/example/slotter/slotter/analysis/BatchMeans" := hE.wr W26
      have f28 : Fld Z h26 o "com/example/slotter/slotter/analysis/BatchMeans" "events" "[J" (.ref ev) := hF0.other W26 (Or.inr (slot_ne (Or.inr (hw _ (List.mem_of_getElem? (i := 12) rfl))) (Or.inl (hw _ (List.mem_of_getElem? (i := 34) rfl))) (by decide) (t := (.array .long)) (t' := .int) (by decide) (by decide)))
      have f29 : Fld Z h26 o "com/example/slotter/slotter/analysis/BatchMeans" "total" "J" (.long t) := hF1.other W26 (Or.inr (slot_ne (Or.inr (hw _ (List.mem_of_getElem? (i := 15) rfl))) (Or.inl (hw _ (List.mem_of_getElem? (i := 34) rfl))) (by decide) (t := .long) (t' := .int) (by decide) (by decide)))
      have f30 : Fld Z h26 o "com/example/slotter/slotter/analysis/BatchMeans" "batchEnd" "J" (.long be) := hF2.other W26 (Or.inr (slot_ne (Or.inl (hw _ (List.mem_of_getElem? (i := 21) rfl))) (Or.inl (hw _ (List.mem_of_getElem? (i := 34) rfl))) (by decide) (t := .long) (t' := .int) (by decide) (by decide)))
      have f31 : Fld Z h26 o "com/example/slotter/slotter/analysis/BatchMeans" "observed" "J" (.long ob) := hF3.other W26 (Or.inr (slot_ne (Or.inl (hw _ (List.mem_of_getElem? (i := 32) rfl))) (Or.inl (hw _ (List.mem_of_getElem? (i := 34) rfl))) (by decide) (t := .long) (t' := .int) (by decide) (by decide)))
      have f32 : Fld Z h26 o "com/example/slotter/slotter/analysis/BatchMeans" "batch" "I" (.int (ba + (1 : Int32))) := hF4.same W26
      have f33 : Arv Z h26 ev k .long (20 : Int32) vs (.long (0 : Int64)) := V_e.other W26 hne
      have K26 : Keep h0 h26 [o, ev] := (Keep.refl h0 [o, ev]).wr W26 (Or.inl (List.mem_of_getElem? (i := 0) rfl))
      have Zs26 : n0 ≤ h26.size := Nat.le_trans Z0 K26.1
      refine own_st (T' := T26) (F' := (mkF m 51 #[.val (.ref o), .val (.int x0)] [])) (fun _ k => st26 _ k) ?_
      refine own_st (T' := T26) (F' := (mkF m 52 #[.val (.ref o), .val (.int x0)] [(.ref o)])) (fun _ k => XS.aloadN X26.here hx rfl (hb hby d5_51) rfl rfl k) ?_
      refine own_st (T' := T26) (F' := (mkF m 53 #[.val (.ref o), .val (.int x0)] [(.ref o), (.ref o)])) (fun _ k => XS.aloadN X26.here hx rfl (hb hby d5_52) rfl rfl k) ?_
      refine own_st (T' := T26) (F' := (mkF m 54 #[.val (.ref o), .val (.int x0)] [(.ref o), (.ref o), (.ref o)])) (fun _ k => XS.aloadN X26.here hx rfl (hb hby d5_53) rfl rfl k) ?_
      obtain ⟨T34, X34, e34, st34⟩ := getF X26 hx hZ hown (host := "") (Or.inl (hw _ (List.mem_of_getElem? (i := 33) rfl))) Via.refl e26 f32 (g := (mkF m 54 #[.val (.ref o), .val (.int x0)] [(.ref o), (.ref o), (.ref o)])) rfl rfl (hb hby d5_54)
      refine own_st (T' := T34) (F' := (mkF m 57 #[.val (.ref o), .val (.int x0)] [(.int (ba + (1 : Int32))), (.ref o), (.ref o)])) (fun _ k => st34 _ k) ?_
      obtain ⟨cq35, q35, q35'⟩ := f27.cell
      obtain ⟨_, _, ⟨T35, L35, k35, n35⟩, -, X35, ⟨Lc35, hQ35, l35, y35, z35⟩, st35⟩ := X34.privateBack hx (y := (⟨"com/example/slotter/slotter/analysis/BatchMeans", "batchEnd", "(I)J"⟩ : MethodName)) hown (mvT hZ (hw _ (List.mem_of_getElem? (i := 16) rfl))) (mvT hZ (hw _ (List.mem_of_getElem? (i := 17) rfl))) (own_selp (mvT hZ (hw _ (List.mem_of_getElem? (i := 2) rfl))) (Cond.privateMethod_at (mvP hZ (hw _ (List.mem_of_getElem? (i := 18) rfl)) (args := #[]))) (mvT hZ (hw _ (List.mem_of_getElem? (i := 17) rfl))) (by decide)) (Cond.privateMethod_at (mvP hZ (hw _ (List.mem_of_getElem? (i := 18) rfl)) (args := #[]))) (mvT hZ (hw _ (List.mem_of_getElem? (i := 19) rfl))) (by decide) (backOf (W := 1) (rm3 l Z a0 hw [] o (ba + (1 : Int32)) t h26 n0 Zs26 f29) hZ (hw _ (List.mem_of_getElem? (i := 19) rfl)) (hw _ (List.mem_of_getElem? (i := 3) rfl)) (by decide) (by decide)) (g := (mkF m 57 #[.val (.ref o), .val (.int x0)] [(.int (ba + (1 : Int32))), (.ref o), (.ref o)])) rfl (by rw [hml]; rfl) (Steps.refl _) (a := o) (by rw [e34]; exact q35) q35' (argsL := [(.int (ba + (1 : Int32)))]) (rest := [(.ref o)]) (lenOf own_pd0 rfl) rfl (by show 2 * 0 + _ ≤ _; exact Nat.le_of_eq rfl) (hb hby d5_57) (fun _ _ => ⟨rfl, e34, (by decide : 0 + 0 ≤ _), (by decide : 0 + 0 ≤ _)⟩)
      dsimp only [Pt.U, Pt.locs, Pt.cells, Pt.slots] at X35 l35 y35 z35 st35 hQ35
      subst l35 y35 z35
      obtain ⟨⟨r35, rfl, hr35⟩, Nq35, eq35⟩ := hQ35
      have N35 := Fr.app N26 Nq35
      refine own_tr (T' := T35) (F' := (mkF m 60 #[.val (.ref o), .val (.int x0)] [(.long r35), (.ref o)])) st35 ?_
      obtain ⟨T36, h36, X36, e36, W36, st36⟩ := putF X35 hx hZ hown (host := "") (Or.inl (hw _ (List.mem_of_getElem? (i := 20) rfl))) Via.refl eq35 f30 f27 (Or.inl (hw _ (List.mem_of_getElem? (i := 21) rfl))) (hw _ (List.mem_of_getElem? (i := 2) rfl)) (ty := .long) (by decide) rfl rfl (g := (mkF m 60 #[.val (.ref o), .val (.int x0)] [(.long r35), (.ref o)])) rfl rfl (hb hby d5_60)
      have N36 := Fr.snoc X36 N35 hge_o
      have f37 : Exa Z h36 o "com/example/slotter/slotter/analysis/BatchMeans" := f27.wr W36
      have f38 : Fld Z h36 o "com/example/slotter/slotter/analysis/BatchMeans" "events" "[J" (.ref ev) := f28.other W36 (Or.inr (slot_ne (Or.inr (hw _ (List.mem_of_getElem? (i := 12) rfl))) (Or.inl (hw _ (List.mem_of_getElem? (i := 21) rfl))) (by decide) (t := (.array .long)) (t' := .long) (by decide) (by decide)))
      have f39 : Fld Z h36 o "com/example/slotter/slotter/analysis/BatchMeans" "total" "J" (.long t) := f29.other W36 (Or.inr (slot_ne (Or.inr (hw _ (List.mem_of_getElem? (i := 15) rfl))) (Or.inl (hw _ (List.mem_of_getElem? (i := 21) rfl))) (by decide) (t := .long) (t' := .long) (by decide) (by decide)))
      have f40 : Fld Z h36 o "com/example/slotter/slotter/analysis/BatchMeans" "batchEnd" "J" (.long r35) := f30.same W36
      have f41 : Fld Z h36 o "com/example/slotter/slotter/analysis/BatchMeans" "observed" "J" (.long ob) := f31.other W36 (Or.inr (slot_ne (Or.inl (hw _ (List.mem_of_getElem? (i := 32) rfl))) (Or.inl (hw _ (List.mem_of_getElem? (i := 21) rfl))) (by decide) (t := .long) (t' := .long) (by decide) (by decide)))
      have f42 : Fld Z h36 o "com/example/slotter/slotter/analysis/BatchMeans" "batch" "I" (.int (ba + (1 : Int32))) := f32.other W36 (Or.inr (slot_ne (Or.inl (hw _ (List.mem_of_getElem? (i := 34) rfl))) (Or.inl (hw _ (List.mem_of_getElem? (i := 21) rfl))) (by decide) (t := .int) (t' := .long) (by decide) (by decide)))
      have f43 : Arv Z h36 ev k .long (20 : Int32) vs (.long (0 : Int64)) := f33.other W36 hne
      have K36 : Keep h0 h36 [o, ev] := K26.wr W36 (Or.inl (List.mem_of_getElem? (i := 0) rfl))
      have Zs36 : n0 ≤ h36.size := Nat.le_trans Z0 K36.1
      refine own_st (T' := T36) (F' := (mkF m 63 #[.val (.ref o), .val (.int x0)] [])) (fun _ k => st36 _ k) ?_
      exact J63_5 r35 (ba + (1 : Int32)) T36 _ X36 N36 h36 e36 Zs36 K36 f37 f38 f39 f40 f41 f42 f43 (Or.inr rfl)
  ·
    exact absurd hc9 hob
theorem d6_0 : decode prog_1_method_4_code 0 = .ok (.lconst 0, 1) := by decide +kernel
theorem d6_1 : decode prog_1_method_4_code 1 = .ok (.lstore_n 1, 1) := by decide +kernel
theorem d6_2 : decode prog_1_method_4_code 2 = .ok (.aload_n 0, 1) := by decide +kernel
theorem d6_3 : decode prog_1_method_4_code 3 = .ok (.getfield 9, 3) := by decide +kernel
theorem d6_6 : decode prog_1_method_4_code 6 = .ok (.astore_n 3, 1) := by decide +kernel
theorem d6_7 : decode prog_1_method_4_code 7 = .ok (.aload_n 3, 1) := by decide +kernel
theorem d6_8 : decode prog_1_method_4_code 8 = .ok (.arraylength, 1) := by decide +kernel
theorem d6_9 : decode prog_1_method_4_code 9 = .ok (.istore 4, 2) := by decide +kernel
theorem d6_11 : decode prog_1_method_4_code 11 = .ok (.iconst 0, 1) := by decide +kernel
theorem d6_12 : decode prog_1_method_4_code 12 = .ok (.istore 5, 2) := by decide +kernel
theorem d6_14 : decode prog_1_method_4_code 14 = .ok (.iload 5, 2) := by decide +kernel
theorem d6_16 : decode prog_1_method_4_code 16 = .ok (.iload 4, 2) := by decide +kernel
theorem d6_18 : decode prog_1_method_4_code 18 = .ok (.if_icmp .ge 20, 3) := by decide +kernel
theorem d6_21 : decode prog_1_method_4_code 21 = .ok (.aload_n 3, 1) := by decide +kernel
theorem d6_22 : decode prog_1_method_4_code 22 = .ok (.iload 5, 2) := by decide +kernel
theorem d6_24 : decode prog_1_method_4_code 24 = .ok (.laload, 1) := by decide +kernel
theorem d6_25 : decode prog_1_method_4_code 25 = .ok (.lstore 6, 2) := by decide +kernel
theorem d6_27 : decode prog_1_method_4_code 27 = .ok (.lload_n 1, 1) := by decide +kernel
theorem d6_28 : decode prog_1_method_4_code 28 = .ok (.lload 6, 2) := by decide +kernel
theorem d6_30 : decode prog_1_method_4_code 30 = .ok (.ladd, 1) := by decide +kernel
theorem d6_31 : decode prog_1_method_4_code 31 = .ok (.lstore_n 1, 1) := by decide +kernel
theorem d6_32 : decode prog_1_method_4_code 32 = .ok (.iinc 5 1, 3) := by decide +kernel
theorem d6_35 : decode prog_1_method_4_code 35 = .ok (.goto (-21), 3) := by decide +kernel
theorem d6_38 : decode prog_1_method_4_code 38 = .ok (.lload_n 1, 1) := by decide +kernel
theorem d6_39 : decode prog_1_method_4_code 39 = .ok (.lreturn, 1) := by decide +kernel
theorem own_pn6 : plainName "com/example/slotter/slotter/analysis/BatchMeans" = true := by first | (simp [plainName, overriddenIn]; done) | decide +kernel
theorem own_ef6 (m : MethodId) (o : Addr) : entryFrame m #[(.ref o)] 8 = (mkF m 0 #[.val (.ref o), .unset, .unset, .unset, .unset, .unset, .unset, .unset] []) := by first | (simp [entryFrame, mkF, argsToLocals, Value.category]; done) | rfl
def Q6 (Z : State) (o : Addr) (ev : Addr) (k : ClassId) (vs : List Value) (h0 : Heap) (n0 : Nat) (v : Option Value) (h : Heap) (L : List Loc) : Prop := (∃ z : Int64, v = some (.long z) ∧ (z = own_sum vs)) ∧ Fr n0 L ∧ h = h0
set_option maxRecDepth 65536 in
set_option maxHeartbeats 40000000 in
theorem rm6 (l : Launch) (Z : State) (a0 : Array Value) (hw : ∀ d ∈ tables_1, d.before a0 Z = true) (ws : List Jvm.Cond) (o : Addr) (ev : Addr) (k : ClassId) (vs : List Value) (h0 : Heap) (n0 : Nat) (Z0 : n0 ≤ h0.size) (hF0 : Fld Z h0 o "com/example/slotter/slotter/analysis/BatchMeans" "events" "[J" (.ref ev)) (V_e : Arv Z h0 ev k .long (20 : Int32) vs (.long (0 : Int64))) (hlen : vs.length = 20) :
    MetFree l (⟨"com/example/slotter/slotter/analysis/BatchMeans", "events", "()J"⟩ : MethodName) (head1 (Jvm.Cond.code (⟨"com/example/slotter/slotter/analysis/BatchMeans", "events", "()J"⟩ : MethodName) prog_1_method_4_code 8 (some .long) :: ws) ({ frames := 0, cells := 0, slots := 0, locals := 0 } : Room)) (fun a U => a = #[(.ref o)] ∧ Z.Warmed39 U.vm ∧ U.heap = h0) (fun _ _ _ _ _ => True) (fun _ U oc U' => ∃ v L, oc = .returned v ∧ Q6 Z o ev k vs h0 n0 v U'.heap L ∧ FrameEnd U oc U' L ({ frames := 0, cells := 0, slots := 0, locals := 0 } : Room).cells ({ frames := 0, cells := 0, slots := 0, locals := 0 } : Room).slots) := by
  refine MetFree.of_bodySF (plainFor_of_name own_pn6) hisR ?_
  intro p e s m args below meth c s₁ Bd hml0 hP hK
  obtain ⟨rfl, hZ, hh⟩ := hP
  have hx := Bd.exec
  have hby := Bd.bytes
  have hlk : meth.locks = false := BodyLoose.notSynchronized Bd
  have hml : c.maxLocals = 8 := hml0
  have hown : s.vm.findClass "com/example/slotter/slotter/analysis/BatchMeans" = some m.cls := findClass_of_methodNamed Bd.named
  have hnm := (name_of_methodNamed Bd.named Bd.method).1
  have X0 : Stand p l e ({ frames := 0, cells := 0, slots := 0, locals := 0 } : Room) s m #[(.ref o)] below meth c s₁ [] 0 0 := Stand.of_body Bd
  have e0 : s₁.heap = h0 := by rw [← hh, Bd.state]; rfl
  have N0 := Fr.nil n0
  refine own_enter (own_ef6 m o) ?_
  show own_Go p e below s (Q6 Z o ev k vs h0 n0) ({ frames := 0, cells := 0, slots := 0, locals := 0 } : Room).cells ({ frames := 0, cells := 0, slots := 0, locals := 0 } : Room).slots s₁ (mkF m 0 #[.val (.ref o), .unset, .unset, .unset, .unset, .unset, .unset, .unset] [])
  refine own_st (T' := s₁) (F' := (mkF m 1 #[.val (.ref o), .unset, .unset, .unset, .unset, .unset, .unset, .unset] [(.long (0 : Int64))])) (fun _ k => XS.lconst X0.here hx rfl (hb hby d6_0) k) ?_
  refine own_st (T' := s₁) (F' := (mkF m 2 #[.val (.ref o), .val (.long (0 : Int64)), .second, .unset, .unset, .unset, .unset, .unset] [])) (fun _ k => XS.lstoreN X0.here hx rfl (hb hby d6_1) rfl (l' := #[.val (.ref o), .val (.long (0 : Int64)), .second, .unset, .unset, .unset, .unset, .unset]) rfl k) ?_
  refine own_st (T' := s₁) (F' := (mkF m 3 #[.val (.ref o), .val (.long (0 : Int64)), .second, .unset, .unset, .unset, .unset, .unset] [(.ref o)])) (fun _ k => XS.aloadN X0.here hx rfl (hb hby d6_2) rfl rfl k) ?_
  obtain ⟨T1, X1, e1, st1⟩ := getF X0 hx hZ hown (host := "") (Or.inl (hw _ (List.mem_of_getElem? (i := 11) rfl))) Via.refl e0 hF0 (g := (mkF m 3 #[.val (.ref o), .val (.long (0 : Int64)), .second, .unset, .unset, .unset, .unset, .unset] [(.ref o)])) rfl rfl (hb hby d6_3)
  refine own_st (T' := T1) (F' := (mkF m 6 #[.val (.ref o), .val (.long (0 : Int64)), .second, .unset, .unset, .unset, .unset, .unset] [(.ref ev)])) (fun _ k => st1 _ k) ?_
  refine own_st (T' := T1) (F' := (mkF m 7 #[.val (.ref o), .val (.long (0 : Int64)), .second, .val (.ref ev), .unset, .unset, .unset, .unset] [])) (fun _ k => XS.astoreN X1.here hx rfl (hb hby d6_6) rfl rfl (l' := #[.val (.ref o), .val (.long (0 : Int64)), .second, .val (.ref ev), .unset, .unset, .unset, .unset]) rfl k) ?_
  refine own_st (T' := T1) (F' := (mkF m 8 #[.val (.ref o), .val (.long (0 : Int64)), .second, .val (.ref ev), .unset, .unset, .unset, .unset] [(.ref ev)])) (fun _ k => XS.aloadN X1.here hx rfl (hb hby d6_7) rfl rfl k) ?_
  obtain ⟨cl2, Ar2, Aq2, As2, Am2, Ah2, Au2⟩ := id V_e
  refine own_st (T' := T1) (F' := (mkF m 9 #[.val (.ref o), .val (.long (0 : Int64)), .second, .val (.ref ev), .unset, .unset, .unset, .unset] [(.int (20 : Int32))])) (fun _ k => X1.arraylength hx (cell := cl2) (by rw [e1]; exact Ar2.1) (State.isArrayOf_alike hZ.alike Ar2.2.1) (g := (mkF m 8 #[.val (.ref o), .val (.long (0 : Int64)), .second, .val (.ref ev), .unset, .unset, .unset, .unset] [(.ref ev)])) rfl (rest := []) rfl (hb hby d6_8) _ (by rw [len_of As2 Am2]; exact k)) ?_
  refine own_st (T' := T1) (F' := (mkF m 11 #[.val (.ref o), .val (.long (0 : Int64)), .second, .val (.ref ev), .val (.int (20 : Int32)), .unset, .unset, .unset] [])) (fun _ k => XS.istore X1.here hx rfl (hb hby d6_9) rfl (l' := #[.val (.ref o), .val (.long (0 : Int64)), .second, .val (.ref ev), .val (.int (20 : Int32)), .unset, .unset, .unset]) rfl k) ?_
  refine own_st (T' := T1) (F' := (mkF m 12 #[.val (.ref o), .val (.long (0 : Int64)), .second, .val (.ref ev), .val (.int (20 : Int32)), .unset, .unset, .unset] [(.int (0 : Int32))])) (fun _ k => XS.iconst X1.here hx rfl (hb hby d6_11) k) ?_
  refine own_st (T' := T1) (F' := (mkF m 14 #[.val (.ref o), .val (.long (0 : Int64)), .second, .val (.ref ev), .val (.int (20 : Int32)), .val (.int (0 : Int32)), .unset, .unset] [])) (fun _ k => XS.istore X1.here hx rfl (hb hby d6_12) rfl (l' := #[.val (.ref o), .val (.long (0 : Int64)), .second, .val (.ref ev), .val (.int (20 : Int32)), .val (.int (0 : Int32)), .unset, .unset]) rfl k) ?_
  refine own_st (T' := T1) (F' := (mkF m 16 #[.val (.ref o), .val (.long (0 : Int64)), .second, .val (.ref ev), .val (.int (20 : Int32)), .val (.int (0 : Int32)), .unset, .unset] [(.int (0 : Int32))])) (fun _ k => XS.iload X1.here hx rfl (hb hby d6_14) rfl  k) ?_
  refine own_st (T' := T1) (F' := (mkF m 18 #[.val (.ref o), .val (.long (0 : Int64)), .second, .val (.ref ev), .val (.int (20 : Int32)), .val (.int (0 : Int32)), .unset, .unset] [(.int (20 : Int32)), (.int (0 : Int32))])) (fun _ k => XS.iload X1.here hx rfl (hb hby d6_16) rfl  k) ?_
  refine own_icmp X1 hx (pc' := 38) (pc2 := 21) (hb hby d6_18) (by decide) (by decide) rfl (fun (hc18_3 : ¬ ((0 : Int32) < (20 : Int32))) => ?_) (fun (hc18_3 : (0 : Int32) < (20 : Int32)) => ?_)
  · exact absurd hc18_3 (by decide)
  refine own_st (T' := T1) (F' := (mkF m 22 #[.val (.ref o), .val (.long (0 : Int64)), .second, .val (.ref ev), .val (.int (20 : Int32)), .val (.int (0 : Int32)), .unset, .unset] [(.ref ev)])) (fun _ k => XS.aloadN X1.here hx rfl (hb hby d6_21) rfl rfl k) ?_
  refine own_st (T' := T1) (F' := (mkF m 24 #[.val (.ref o), .val (.long (0 : Int64)), .second, .val (.ref ev), .val (.int (20 : Int32)), .val (.int (0 : Int32)), .unset, .unset] [(.int (0 : Int32)), (.ref ev)])) (fun _ k => XS.iload X1.here hx rfl (hb hby d6_22) rfl  k) ?_
  obtain ⟨y0, hy0⟩ := own_el V_e 0 (by decide)
  obtain ⟨cl4, Ar4, Aq4, As4, Am4, Ah4, Au4⟩ := id V_e
  have hin4 : ¬ ((0 : Int32) < 0 ∨ cl4.slots.size ≤ ((0 : Int32)).toNatClampNeg) := inb_of As4 ⟨by decide, by decide⟩
  have hat4 : cl4.slots[((0 : Int32)).toNatClampNeg]? = some (.long y0) := Ah4.at hin4 (hy0)
  refine own_st (T' := T1) (F' := (mkF m 25 #[.val (.ref o), .val (.long (0 : Int64)), .second, .val (.ref ev), .val (.int (20 : Int32)), .val (.int (0 : Int32)), .unset, .unset] [(.long y0)])) (fun _ k => X1.laload hx (j := (0 : Int32)) (v := (.long y0)) (by rw [e1]; exact Ar4.1) (State.isArrayOf_alike hZ.alike Ar4.2.1) Ar4.2.2 hin4 hat4 (g := (mkF m 24 #[.val (.ref o), .val (.long (0 : Int64)), .second, .val (.ref ev), .val (.int (20 : Int32)), .val (.int (0 : Int32)), .unset, .unset] [(.int (0 : Int32)), (.ref ev)])) rfl rfl (hb hby d6_24) _ k) ?_
  refine own_st (T' := T1) (F' := (mkF m 27 #[.val (.ref o), .val (.long (0 : Int64)), .second, .val (.ref ev), .val (.int (20 : Int32)), .val (.int (0 : Int32)), .val (.long y0), .second] [])) (fun _ k => XS.lstore X1.here hx rfl (hb hby d6_25) rfl (l' := #[.val (.ref o), .val (.long (0 : Int64)), .second, .val (.ref ev), .val (.int (20 : Int32)), .val (.int (0 : Int32)), .val (.long y0), .second]) rfl k) ?_
  refine own_st (T' := T1) (F' := (mkF m 28 #[.val (.ref o), .val (.long (0 : Int64)), .second, .val (.ref ev), .val (.int (20 : Int32)), .val (.int (0 : Int32)), .val (.long y0), .second] [(.long (0 : Int64))])) (fun _ k => XS.lloadN X1.here hx rfl (hb hby d6_27) rfl  k) ?_
  refine own_st (T' := T1) (F' := (mkF m 30 #[.val (.ref o), .val (.long (0 : Int64)), .second, .val (.ref ev), .val (.int (20 : Int32)), .val (.int (0 : Int32)), .val (.long y0), .second] [(.long y0), (.long (0 : Int64))])) (fun _ k => XS.lload X1.here hx rfl (hb hby d6_28) rfl  k) ?_
  refine own_st (T' := T1) (F' := (mkF m 31 #[.val (.ref o), .val (.long (0 : Int64)), .second, .val (.ref ev), .val (.int (20 : Int32)), .val (.int (0 : Int32)), .val (.long y0), .second] [(.long ((0 : Int64) + y0))])) (fun _ k => XS.ladd X1.here hx rfl (hb hby d6_30) rfl k) ?_
  refine own_st (T' := T1) (F' := (mkF m 32 #[.val (.ref o), .val (.long ((0 : Int64) + y0)), .second, .val (.ref ev), .val (.int (20 : Int32)), .val (.int (0 : Int32)), .val (.long y0), .second] [])) (fun _ k => XS.lstoreN X1.here hx rfl (hb hby d6_31) rfl (l' := #[.val (.ref o), .val (.long ((0 : Int64) + y0)), .second, .val (.ref ev), .val (.int (20 : Int32)), .val (.int (0 : Int32)), .val (.long y0), .second]) rfl k) ?_
  refine own_st (T' := T1) (F' := (mkF m 35 #[.val (.ref o), .val (.long ((0 : Int64) + y0)), .second, .val (.ref ev), .val (.int (20 : Int32)), .val (.int (1 : Int32)), .val (.long y0), .second] [])) (fun _ k => XS.iinc X1.here hx rfl (hb hby d6_32) rfl (l' := #[.val (.ref o), .val (.long ((0 : Int64) + y0)), .second, .val (.ref ev), .val (.int (20 : Int32)), .val (.int (1 : Int32)), .val (.long y0), .second]) rfl k) ?_
  refine own_st (T' := T1) (F' := (mkF m 14 #[.val (.ref o), .val (.long ((0 : Int64) + y0)), .second, .val (.ref ev), .val (.int (20 : Int32)), .val (.int (1 : Int32)), .val (.long y0), .second] [])) (fun _ k => XS.goto X1.here hx rfl (pc0 := 35) (pc' := 14) rfl (hb hby d6_35) (by decide) (by decide) k) ?_
  refine own_st (T' := T1) (F' := (mkF m 16 #[.val (.ref o), .val (.long ((0 : Int64) + y0)), .second, .val (.ref ev), .val (.int (20 : Int32)), .val (.int (1 : Int32)), .val (.long y0), .second] [(.int (1 : Int32))])) (fun _ k => XS.iload X1.here hx rfl (hb hby d6_14) rfl  k) ?_
  refine own_st (T' := T1) (F' := (mkF m 18 #[.val (.ref o), .val (.long ((0 : Int64) + y0)), .second, .val (.ref ev), .val (.int (20 : Int32)), .val (.int (1 : Int32)), .val (.long y0), .second] [(.int (20 : Int32)), (.int (1 : Int32))])) (fun _ k => XS.iload X1.here hx rfl (hb hby d6_16) rfl  k) ?_
  refine own_icmp X1 hx (pc' := 38) (pc2 := 21) (hb hby d6_18) (by decide) (by decide) rfl (fun (hc18_5 : ¬ ((1 : Int32) < (20 : Int32))) => ?_) (fun (hc18_5 : (1 : Int32) < (20 : Int32)) => ?_)
  · exact absurd hc18_5 (by decide)
  refine own_st (T' := T1) (F' := (mkF m 22 #[.val (.ref o), .val (.long ((0 : Int64) + y0)), .second, .val (.ref ev), .val (.int (20 : Int32)), .val (.int (1 : Int32)), .val (.long y0), .second] [(.ref ev)])) (fun _ k => XS.aloadN X1.here hx rfl (hb hby d6_21) rfl rfl k) ?_
  refine own_st (T' := T1) (F' := (mkF m 24 #[.val (.ref o), .val (.long ((0 : Int64) + y0)), .second, .val (.ref ev), .val (.int (20 : Int32)), .val (.int (1 : Int32)), .val (.long y0), .second] [(.int (1 : Int32)), (.ref ev)])) (fun _ k => XS.iload X1.here hx rfl (hb hby d6_22) rfl  k) ?_
  obtain ⟨y1, hy1⟩ := own_el V_e 1 (by decide)
  obtain ⟨cl6, Ar6, Aq6, As6, Am6, Ah6, Au6⟩ := id V_e
  have hin6 : ¬ ((1 : Int32) < 0 ∨ cl6.slots.size ≤ ((1 : Int32)).toNatClampNeg) := inb_of As6 ⟨by decide, by decide⟩
  have hat6 : cl6.slots[((1 : Int32)).toNatClampNeg]? = some (.long y1) := Ah6.at hin6 (hy1)
  refine own_st (T' := T1) (F' := (mkF m 25 #[.val (.ref o), .val (.long ((0 : Int64) + y0)), .second, .val (.ref ev), .val (.int (20 : Int32)), .val (.int (1 : Int32)), .val (.long y0), .second] [(.long y1)])) (fun _ k => X1.laload hx (j := (1 : Int32)) (v := (.long y1)) (by rw [e1]; exact Ar6.1) (State.isArrayOf_alike hZ.alike Ar6.2.1) Ar6.2.2 hin6 hat6 (g := (mkF m 24 #[.val (.ref o), .val (.long ((0 : Int64) + y0)), .second, .val (.ref ev), .val (.int (20 : Int32)), .val (.int (1 : Int32)), .val (.long y0), .second] [(.int (1 : Int32)), (.ref ev)])) rfl rfl (hb hby d6_24) _ k) ?_
  refine own_st (T' := T1) (F' := (mkF m 27 #[.val (.ref o), .val (.long ((0 : Int64) + y0)), .second, .val (.ref ev), .val (.int (20 : Int32)), .val (.int (1 : Int32)), .val (.long y1), .second] [])) (fun _ k => XS.lstore X1.here hx rfl (hb hby d6_25) rfl (l' := #[.val (.ref o), .val (.long ((0 : Int64) + y0)), .second, .val (.ref ev), .val (.int (20 : Int32)), .val (.int (1 : Int32)), .val (.long y1), .second]) rfl k) ?_
  refine own_st (T' := T1) (F' := (mkF m 28 #[.val (.ref o), .val (.long ((0 : Int64) + y0)), .second, .val (.ref ev), .val (.int (20 : Int32)), .val (.int (1 : Int32)), .val (.long y1), .second] [(.long ((0 : Int64) + y0))])) (fun _ k => XS.lloadN X1.here hx rfl (hb hby d6_27) rfl  k) ?_
  refine own_st (T' := T1) (F' := (mkF m 30 #[.val (.ref o), .val (.long ((0 : Int64) + y0)), .second, .val (.ref ev), .val (.int (20 : Int32)), .val (.int (1 : Int32)), .val (.long y1), .second] [(.long y1), (.long ((0 : Int64) + y0))])) (fun _ k => XS.lload X1.here hx rfl (hb hby d6_28) rfl  k) ?_
  refine own_st (T' := T1) (F' := (mkF m 31 #[.val (.ref o), .val (.long ((0 : Int64) + y0)), .second, .val (.ref ev), .val (.int (20 : Int32)), .val (.int (1 : Int32)), .val (.long y1), .second] [(.long (((0 : Int64) + y0) + y1))])) (fun _ k => XS.ladd X1.here hx rfl (hb hby d6_30) rfl k) ?_
  refine own_st (T' := T1) (F' := (mkF m 32 #[.val (.ref o), .val (.long (((0 : Int64) + y0) + y1)), .second, .val (.ref ev), .val (.int (20 : Int32)), .val (.int (1 : Int32)), .val (.long y1), .second] [])) (fun _ k => XS.lstoreN X1.here hx rfl (hb hby d6_31) rfl (l' := #[.val (.ref o), .val (.long (((0 : Int64) + y0) + y1)), .second, .val (.ref ev), .val (.int (20 : Int32)), .val (.int (1 : Int32)), .val (.long y1), .second]) rfl k) ?_
  refine own_st (T' := T1) (F' := (mkF m 35 #[.val (.ref o), .val (.long (((0 : Int64) + y0) + y1)), .second, .val (.ref ev), .val (.int (20 : Int32)), .val (.int (2 : Int32)), .val (.long y1), .second] [])) (fun _ k => XS.iinc X1.here hx rfl (hb hby d6_32) rfl (l' := #[.val (.ref o), .val (.long (((0 : Int64) + y0) + y1)), .second, .val (.ref ev), .val (.int (20 : Int32)), .val (.int (2 : Int32)), .val (.long y1), .second]) rfl k) ?_
  refine own_st (T' := T1) (F' := (mkF m 14 #[.val (.ref o), .val (.long (((0 : Int64) + y0) + y1)), .second, .val (.ref ev), .val (.int (20 : Int32)), .val (.int (2 : Int32)), .val (.long y1), .second] [])) (fun _ k => XS.goto X1.here hx rfl (pc0 := 35) (pc' := 14) rfl (hb hby d6_35) (by decide) (by decide) k) ?_
  refine own_st (T' := T1) (F' := (mkF m 16 #[.val (.ref o), .val (.long (((0 : Int64) + y0) + y1)), .second, .val (.ref ev), .val (.int (20 : Int32)), .val (.int (2 : Int32)), .val (.long y1), .second] [(.int (2 : Int32))])) (fun _ k => XS.iload X1.here hx rfl (hb hby d6_14) rfl  k) ?_
  refine own_st (T' := T1) (F' := (mkF m 18 #[.val (.ref o), .val (.long (((0 : Int64) + y0) + y1)), .second, .val (.ref ev), .val (.int (20 : Int32)), .val (.int (2 : Int32)), .val (.long y1), .second] [(.int (20 : Int32)), (.int (2 : Int32))])) (fun _ k => XS.iload X1.here hx rfl (hb hby d6_16) rfl  k) ?_
  refine own_icmp X1 hx (pc' := 38) (pc2 := 21) (hb hby d6_18) (by decide) (by decide) rfl (fun (hc18_7 : ¬ ((2 : Int32) < (20 : Int32))) => ?_) (fun (hc18_7 : (2 : Int32) < (20 : Int32)) => ?_)
  · exact absurd hc18_7 (by decide)
  refine own_st (T' := T1) (F' := (mkF m 22 #[.val (.ref o), .val (.long (((0 : Int64) + y0) + y1)), .second, .val (.ref ev), .val (.int (20 : Int32)), .val (.int (2 : Int32)), .val (.long y1), .second] [(.ref ev)])) (fun _ k => XS.aloadN X1.here hx rfl (hb hby d6_21) rfl rfl k) ?_
  refine own_st (T' := T1) (F' := (mkF m 24 #[.val (.ref o), .val (.long (((0 : Int64) + y0) + y1)), .second, .val (.ref ev), .val (.int (20 : Int32)), .val (.int (2 : Int32)), .val (.long y1), .second] [(.int (2 : Int32)), (.ref ev)])) (fun _ k => XS.iload X1.here hx rfl (hb hby d6_22) rfl  k) ?_
  obtain ⟨y2, hy2⟩ := own_el V_e 2 (by decide)
  obtain ⟨cl8, Ar8, Aq8, As8, Am8, Ah8, Au8⟩ := id V_e
  have hin8 : ¬ ((2 : Int32) < 0 ∨ cl8.slots.size ≤ ((2 : Int32)).toNatClampNeg) := inb_of As8 ⟨by decide, by decide⟩
  have hat8 : cl8.slots[((2 : Int32)).toNatClampNeg]? = some (.long y2) := Ah8.at hin8 (hy2)
  refine own_st (T' := T1) (F' := (mkF m 25 #[.val (.ref o), .val (.long (((0 : Int64) + y0) + y1)), .second, .val (.ref ev), .val (.int (20 : Int32)), .val (.int (2 : Int32)), .val (.long y1), .second] [(.long y2)])) (fun _ k => X1.laload hx (j := (2 : Int32)) (v := (.long y2)) (by rw [e1]; exact Ar8.1) (State.isArrayOf_alike hZ.alike Ar8.2.1) Ar8.2.2 hin8 hat8 (g := (mkF m 24 #[.val (.ref o), .val (.long (((0 : Int64) + y0) + y1)), .second, .val (.ref ev), .val (.int (20 : Int32)), .val (.int (2 : Int32)), .val (.long y1), .second] [(.int (2 : Int32)), (.ref ev)])) rfl rfl (hb hby d6_24) _ k) ?_
  refine own_st (T' := T1) (F' := (mkF m 27 #[.val (.ref o), .val (.long (((0 : Int64) + y0) + y1)), .second, .val (.ref ev), .val (.int (20 : Int32)), .val (.int (2 : Int32)), .val (.long y2), .second] [])) (fun _ k => XS.lstore X1.here hx rfl (hb hby d6_25) rfl (l' := #[.val (.ref o), .val (.long (((0 : Int64) + y0) + y1)), .second, .val (.ref ev), .val (.int (20 : Int32)), .val (.int (2 : Int32)), .val (.long y2), .second]) rfl k) ?_
  refine own_st (T' := T1) (F' := (mkF m 28 #[.val (.ref o), .val (.long (((0 : Int64) + y0) + y1)), .second, .val (.ref ev), .val (.int (20 : Int32)), .val (.int (2 : Int32)), .val (.long y2), .second] [(.long (((0 : Int64) + y0) + y1))])) (fun _ k => XS.lloadN X1.here hx rfl (hb hby d6_27) rfl  k) ?_
  refine own_st (T' := T1) (F' := (mkF m 30 #[.val (.ref o), .val (.long (((0 : Int64) + y0) + y1)), .second, .val (.ref ev), .val (.int (20 : Int32)), .val (.int (2 : Int32)), .val (.long y2), .second] [(.long y2), (.long (((0 : Int64) + y0) + y1))])) (fun _ k => XS.lload X1.here hx rfl (hb hby d6_28) rfl  k) ?_
  refine own_st (T' := T1) (F' := (mkF m 31 #[.val (.ref o), .val (.long (((0 : Int64) + y0) + y1)), .second, .val (.ref ev), .val (.int (20 : Int32)), .val (.int (2 : Int32)), .val (.long y2), .second] [(.long ((((0 : Int64) + y0) + y1) + y2))])) (fun _ k => XS.ladd X1.here hx rfl (hb hby d6_30) rfl k) ?_
  refine own_st (T' := T1) (F' := (mkF m 32 #[.val (.ref o), .val (.long ((((0 : Int64) + y0) + y1) + y2)), .second, .val (.ref ev), .val (.int (20 : Int32)), .val (.int (2 : Int32)), .val (.long y2), .second] [])) (fun _ k => XS.lstoreN X1.here hx rfl (hb hby d6_31) rfl (l' := #[.val (.ref o), .val (.long ((((0 : Int64) + y0) + y1) + y2)), .second, .val (.ref ev), .val (.int (20 : Int32)), .val (.int (2 : Int32)), .val (.long y2), .second]) rfl k) ?_
  refine own_st (T' := T1) (F' := (mkF m 35 #[.val (.ref o), .val (.long ((((0 : Int64) + y0) + y1) + y2)), .second, .val (.ref ev), .val (.int (20 : Int32)), .val (.int (3 : Int32)), .val (.long y2), .second] [])) (fun _ k => XS.iinc X1.here hx rfl (hb hby d6_32) rfl (l' := #[.val (.ref o), .val (.long ((((0 : Int64) + y0) + y1) + y2)), .second, .val (.ref ev), .val (.int (20 : Int32)), .val (.int (3 : Int32)), .val (.long y2), .second]) rfl k) ?_
  refine own_st (T' := T1) (F' := (mkF m 14 #[.val (.ref o), .val (.long ((((0 : Int64) + y0) + y1) + y2)), .second, .val (.ref ev), .val (.int (20 : Int32)), .val (.int (3 : Int32)), .val (.long y2), .second] [])) (fun _ k => XS.goto X1.here hx rfl (pc0 := 35) (pc' := 14) rfl (hb hby d6_35) (by decide) (by decide) k) ?_
  refine own_st (T' := T1) (F' := (mkF m 16 #[.val (.ref o), .val (.long ((((0 : Int64) + y0) + y1) + y2)), .second, .val (.ref ev), .val (.int (20 : Int32)), .val (.int (3 : Int32)), .val (.long y2), .second] [(.int (3 : Int32))])) (fun _ k => XS.iload X1.here hx rfl (hb hby d6_14) rfl  k) ?_
  refine own_st (T' := T1) (F' := (mkF m 18 #[.val (.ref o), .val (.long ((((0 : Int64) + y0) + y1) + y2)), .second, .val (.ref ev), .val (.int (20 : Int32)), .val (.int (3 : Int32)), .val (.long y2), .second] [(.int (20 : Int32)), (.int (3 : Int32))])) (fun _ k => XS.iload X1.here hx rfl (hb hby d6_16) rfl  k) ?_
  refine own_icmp X1 hx (pc' := 38) (pc2 := 21) (hb hby d6_18) (by decide) (by decide) rfl (fun (hc18_9 : ¬ ((3 : Int32) < (20 : Int32))) => ?_) (fun (hc18_9 : (3 : Int32) < (20 : Int32)) => ?_)
  · exact absurd hc18_9 (by decide)
  refine own_st (T' := T1) (F' := (mkF m 22 #[.val (.ref o), .val (.long ((((0 : Int64) + y0) + y1) + y2)), .second, .val (.ref ev), .val (.int (20 : Int32)), .val (.int (3 : Int32)), .val (.long y2), .second] [(.ref ev)])) (fun _ k => XS.aloadN X1.here hx rfl (hb hby d6_21) rfl rfl k) ?_
  refine own_st (T' := T1) (F' := (mkF m 24 #[.val (.ref o), .val (.long ((((0 : Int64) + y0) + y1) + y2)), .second, .val (.ref ev), .val (.int (20 : Int32)), .val (.int (3 : Int32)), .val (.long y2), .second] [(.int (3 : Int32)), (.ref ev)])) (fun _ k => XS.iload X1.here hx rfl (hb hby d6_22) rfl  k) ?_
  obtain ⟨y3, hy3⟩ := own_el V_e 3 (by decide)
  obtain ⟨cl10, Ar10, Aq10, As10, Am10, Ah10, Au10⟩ := id V_e
  have hin10 : ¬ ((3 : Int32) < 0 ∨ cl10.slots.size ≤ ((3 : Int32)).toNatClampNeg) := inb_of As10 ⟨by decide, by decide⟩
  have hat10 : cl10.slots[((3 : Int32)).toNatClampNeg]? = some (.long y3) := Ah10.at hin10 (hy3)
  refine own_st (T' := T1) (F' := (mkF m 25 #[.val (.ref o), .val (.long ((((0 : Int64) + y0) + y1) + y2)), .second, .val (.ref ev), .val (.int (20 : Int32)), .val (.int (3 : Int32)), .val (.long y2), .second] [(.long y3)])) (fun _ k => X1.laload hx (j := (3 : Int32)) (v := (.long y3)) (by rw [e1]; exact Ar10.1) (State.isArrayOf_alike hZ.alike Ar10.2.1) Ar10.2.2 hin10 hat10 (g := (mkF m 24 #[.val (.ref o), .val (.long ((((0 : Int64) + y0) + y1) + y2)), .second, .val (.ref ev), .val (.int (20 : Int32)), .val (.int (3 : Int32)), .val (.long y2), .second] [(.int (3 : Int32)), (.ref ev)])) rfl rfl (hb hby d6_24) _ k) ?_
  refine own_st (T' := T1) (F' := (mkF m 27 #[.val (.ref o), .val (.long ((((0 : Int64) + y0) + y1) + y2)), .second, .val (.ref ev), .val (.int (20 : Int32)), .val (.int (3 : Int32)), .val (.long y3), .second] [])) (fun _ k => XS.lstore X1.here hx rfl (hb hby d6_25) rfl (l' := #[.val (.ref o), .val (.long ((((0 : Int64) + y0) + y1) + y2)), .second, .val (.ref ev), .val (.int (20 : Int32)), .val (.int (3 : Int32)), .val (.long y3), .second]) rfl k) ?_
  refine own_st (T' := T1) (F' := (mkF m 28 #[.val (.ref o), .val (.long ((((0 : Int64) + y0) + y1) + y2)), .second, .val (.ref ev), .val (.int (20 : Int32)), .val (.int (3 : Int32)), .val (.long y3), .second] [(.long ((((0 : Int64) + y0) + y1) + y2))])) (fun _ k => XS.lloadN X1.here hx rfl (hb hby d6_27) rfl  k) ?_
  refine own_st (T' := T1) (F' := (mkF m 30 #[.val (.ref o), .val (.long ((((0 : Int64) + y0) + y1) + y2)), .second, .val (.ref ev), .val (.int (20 : Int32)), .val (.int (3 : Int32)), .val (.long y3), .second] [(.long y3), (.long ((((0 : Int64) + y0) + y1) + y2))])) (fun _ k => XS.lload X1.here hx rfl (hb hby d6_28) rfl  k) ?_
  refine own_st (T' := T1) (F' := (mkF m 31 #[.val (.ref o), .val (.long ((((0 : Int64) + y0) + y1) + y2)), .second, .val (.ref ev), .val (.int (20 : Int32)), .val (.int (3 : Int32)), .val (.long y3), .second] [(.long (((((0 : Int64) + y0) + y1) + y2) + y3))])) (fun _ k => XS.ladd X1.here hx rfl (hb hby d6_30) rfl k) ?_
  refine own_st (T' := T1) (F' := (mkF m 32 #[.val (.ref o), .val (.long (((((0 : Int64) + y0) + y1) + y2) + y3)), .second, .val (.ref ev), .val (.int (20 : Int32)), .val (.int (3 : Int32)), .val (.long y3), .second] [])) (fun _ k => XS.lstoreN X1.here hx rfl (hb hby d6_31) rfl (l' := #[.val (.ref o), .val (.long (((((0 : Int64) + y0) + y1) + y2) + y3)), .second, .val (.ref ev), .val (.int (20 : Int32)), .val (.int (3 : Int32)), .val (.long y3), .second]) rfl k) ?_
  refine own_st (T' := T1) (F' := (mkF m 35 #[.val (.ref o), .val (.long (((((0 : Int64) + y0) + y1) + y2) + y3)), .second, .val (.ref ev), .val (.int (20 : Int32)), .val (.int (4 : Int32)), .val (.long y3), .second] [])) (fun _ k => XS.iinc X1.here hx rfl (hb hby d6_32) rfl (l' := #[.val (.ref o), .val (.long (((((0 : Int64) + y0) + y1) + y2) + y3)), .second, .val (.ref ev), .val (.int (20 : Int32)), .val (.int (4 : Int32)), .val (.long y3), .second]) rfl k) ?_
  refine own_st (T' := T1) (F' := (mkF m 14 #[.val (.ref o), .val (.long (((((0 : Int64) + y0) + y1) + y2) + y3)), .second, .val (.ref ev), .val (.int (20 : Int32)), .val (.int (4 : Int32)), .val (.long y3), .second] [])) (fun _ k => XS.goto X1.here hx rfl (pc0 := 35) (pc' := 14) rfl (hb hby d6_35) (by decide) (by decide) k) ?_
  refine own_st (T' := T1) (F' := (mkF m 16 #[.val (.ref o), .val (.long (((((0 : Int64) + y0) + y1) + y2) + y3)), .second, .val (.ref ev), .val (.int (20 : Int32)), .val (.int (4 : Int32)), .val (.long y3), .second] [(.int (4 : Int32))])) (fun _ k => XS.iload X1.here hx rfl (hb hby d6_14) rfl  k) ?_
  refine own_st (T' := T1) (F' := (mkF m 18 #[.val (.ref o), .val (.long (((((0 : Int64) + y0) + y1) + y2) + y3)), .second, .val (.ref ev), .val (.int (20 : Int32)), .val (.int (4 : Int32)), .val (.long y3), .second] [(.int (20 : Int32)), (.int (4 : Int32))])) (fun _ k => XS.iload X1.here hx rfl (hb hby d6_16) rfl  k) ?_
  refine own_icmp X1 hx (pc' := 38) (pc2 := 21) (hb hby d6_18) (by decide) (by decide) rfl (fun (hc18_11 : ¬ ((4 : Int32) < (20 : Int32))) => ?_) (fun (hc18_11 : (4 : Int32) < (20 : Int32)) => ?_)
  · exact absurd hc18_11 (by decide)
  refine own_st (T' := T1) (F' := (mkF m 22 #[.val (.ref o), .val (.long (((((0 : Int64) + y0) + y1) + y2) + y3)), .second, .val (.ref ev), .val (.int (20 : Int32)), .val (.int (4 : Int32)), .val (.long y3), .second] [(.ref ev)])) (fun _ k => XS.aloadN X1.here hx rfl (hb hby d6_21) rfl rfl k) ?_
  refine own_st (T' := T1) (F' := (mkF m 24 #[.val (.ref o), .val (.long (((((0 : Int64) + y0) + y1) + y2) + y3)), .second, .val (.ref ev), .val (.int (20 : Int32)), .val (.int (4 : Int32)), .val (.long y3), .second] [(.int (4 : Int32)), (.ref ev)])) (fun _ k => XS.iload X1.here hx rfl (hb hby d6_22) rfl  k) ?_
  obtain ⟨y4, hy4⟩ := own_el V_e 4 (by decide)
  obtain ⟨cl12, Ar12, Aq12, As12, Am12, Ah12, Au12⟩ := id V_e
  have hin12 : ¬ ((4 : Int32) < 0 ∨ cl12.slots.size ≤ ((4 : Int32)).toNatClampNeg) := inb_of As12 ⟨by decide, by decide⟩
  have hat12 : cl12.slots[((4 : Int32)).toNatClampNeg]? = some (.long y4) := Ah12.at hin12 (hy4)
  refine own_st (T' := T1) (F' := (mkF m 25 #[.val (.ref o), .val (.long (((((0 : Int64) + y0) + y1) + y2) + y3)), .second, .val (.ref ev), .val (.int (20 : Int32)), .val (.int (4 : Int32)), .val (.long y3), .second] [(.long y4)])) (fun _ k => X1.laload hx (j := (4 : Int32)) (v := (.long y4)) (by rw [e1]; exact Ar12.1) (State.isArrayOf_alike hZ.alike Ar12.2.1) Ar12.2.2 hin12 hat12 (g := (mkF m 24 #[.val (.ref o), .val (.long (((((0 : Int64) + y0) + y1) + y2) + y3)), .second, .val (.ref ev), .val (.int (20 : Int32)), .val (.int (4 : Int32)), .val (.long y3), .second] [(.int (4 : Int32)), (.ref ev)])) rfl rfl (hb hby d6_24) _ k) ?_
  refine own_st (T' := T1) (F' := (mkF m 27 #[.val (.ref o), .val (.long (((((0 : Int64) + y0) + y1) + y2) + y3)), .second, .val (.ref ev), .val (.int (20 : Int32)), .val (.int (4 : Int32)), .val (.long y4), .second] [])) (fun _ k => XS.lstore X1.here hx rfl (hb hby d6_25) rfl (l' := #[.val (.ref o), .val (.long (((((0 : Int64) + y0) + y1) + y2) + y3)), .second, .val (.ref ev), .val (.int (20 : Int32)), .val (.int (4 : Int32)), .val (.long y4), .second]) rfl k) ?_
  refine own_st (T' := T1) (F' := (mkF m 28 #[.val (.ref o), .val (.long (((((0 : Int64) + y0) + y1) + y2) + y3)), .second, .val (.ref ev), .val (.int (20 : Int32)), .val (.int (4 : Int32)), .val (.long y4), .second] [(.long (((((0 : Int64) + y0) + y1) + y2) + y3))])) (fun _ k => XS.lloadN X1.here hx rfl (hb hby d6_27) rfl  k) ?_
  refine own_st (T' := T1) (F' := (mkF m 30 #[.val (.ref o), .val (.long (((((0 : Int64) + y0) + y1) + y2) + y3)), .second, .val (.ref ev), .val (.int (20 : Int32)), .val (.int (4 : Int32)), .val (.long y4), .second] [(.long y4), (.long (((((0 : Int64) + y0) + y1) + y2) + y3))])) (fun _ k => XS.lload X1.here hx rfl (hb hby d6_28) rfl  k) ?_
  refine own_st (T' := T1) (F' := (mkF m 31 #[.val (.ref o), .val (.long (((((0 : Int64) + y0) + y1) + y2) + y3)), .second, .val (.ref ev), .val (.int (20 : Int32)), .val (.int (4 : Int32)), .val (.long y4), .second] [(.long ((((((0 : Int64) + y0) + y1) + y2) + y3) + y4))])) (fun _ k => XS.ladd X1.here hx rfl (hb hby d6_30) rfl k) ?_
  refine own_st (T' := T1) (F' := (mkF m 32 #[.val (.ref o), .val (.long ((((((0 : Int64) + y0) + y1) + y2) + y3) + y4)), .second, .val (.ref ev), .val (.int (20 : Int32)), .val (.int (4 : Int32)), .val (.long y4), .second] [])) (fun _ k => XS.lstoreN X1.here hx rfl (hb hby d6_31) rfl (l' := #[.val (.ref o), .val (.long ((((((0 : Int64) + y0) + y1) + y2) + y3) + y4)), .second, .val (.ref ev), .val (.int (20 : Int32)), .val (.int (4 : Int32)), .val (.long y4), .second]) rfl k) ?_
  refine own_st (T' := T1) (F' := (mkF m 35 #[.val (.ref o), .val (.long ((((((0 : Int64) + y0) + y1) + y2) + y3) + y4)), .second, .val (.ref ev), .val (.int (20 : Int32)), .val (.int (5 : Int32)), .val (.long y4), .second] [])) (fun _ k => XS.iinc X1.here hx rfl (hb hby d6_32) rfl (l' := #[.val (.ref o), .val (.long ((((((0 : Int64) + y0) + y1) + y2) + y3) + y4)), .second, .val (.ref ev), .val (.int (20 : Int32)), .val (.int (5 : Int32)), .val (.long y4), .second]) rfl k) ?_
  refine own_st (T' := T1) (F' := (mkF m 14 #[.val (.ref o), .val (.long ((((((0 : Int64) + y0) + y1) + y2) + y3) + y4)), .second, .val (.ref ev), .val (.int (20 : Int32)), .val (.int (5 : Int32)), .val (.long y4), .second] [])) (fun _ k => XS.goto X1.here hx rfl (pc0 := 35) (pc' := 14) rfl (hb hby d6_35) (by decide) (by decide) k) ?_
  refine own_st (T' := T1) (F' := (mkF m 16 #[.val (.ref o), .val (.long ((((((0 : Int64) + y0) + y1) + y2) + y3) + y4)), .second, .val (.ref ev), .val (.int (20 : Int32)), .val (.int (5 : Int32)), .val (.long y4), .second] [(.int (5 : Int32))])) (fun _ k => XS.iload X1.here hx rfl (hb hby d6_14) rfl  k) ?_
  refine own_st (T' := T1) (F' := (mkF m 18 #[.val (.ref o), .val (.long ((((((0 : Int64) + y0) + y1) + y2) + y3) + y4)), .second, .val (.ref ev), .val (.int (20 : Int32)), .val (.int (5 : Int32)), .val (.long y4), .second] [(.int (20 : Int32)), (.int (5 : Int32))])) (fun _ k => XS.iload X1.here hx rfl (hb hby d6_16) rfl  k) ?_
  refine own_icmp X1 hx (pc' := 38) (pc2 := 21) (hb hby d6_18) (by decide) (by decide) rfl (fun (hc18_13 : ¬ ((5 : Int32) < (20 : Int32))) => ?_) (fun (hc18_13 : (5 : Int32) < (20 : Int32)) => ?_)
  · exact absurd hc18_13 (by decide)
  refine own_st (T' := T1) (F' := (mkF m 22 #[.val (.ref o), .val (.long ((((((0 : Int64) + y0) + y1) + y2) + y3) + y4)), .second, .val (.ref ev), .val (.int (20 : Int32)), .val (.int (5 : Int32)), .val (.long y4), .second] [(.ref ev)])) (fun _ k => XS.aloadN X1.here hx rfl (hb hby d6_21) rfl rfl k) ?_
  refine own_st (T' := T1) (F' := (mkF m 24 #[.val (.ref o), .val (.long ((((((0 : Int64) + y0) + y1) + y2) + y3) + y4)), .second, .val (.ref ev), .val (.int (20 : Int32)), .val (.int (5 : Int32)), .val (.long y4), .second] [(.int (5 : Int32)), (.ref ev)])) (fun _ k => XS.iload X1.here hx rfl (hb hby d6_22) rfl  k) ?_
  obtain ⟨y5, hy5⟩ := own_el V_e 5 (by decide)
  obtain ⟨cl14, Ar14, Aq14, As14, Am14, Ah14, Au14⟩ := id V_e
  have hin14 : ¬ ((5 : Int32) < 0 ∨ cl14.slots.size ≤ ((5 : Int32)).toNatClampNeg) := inb_of As14 ⟨by decide, by decide⟩
  have hat14 : cl14.slots[((5 : Int32)).toNatClampNeg]? = some (.long y5) := Ah14.at hin14 (hy5)
  refine own_st (T' := T1) (F' := (mkF m 25 #[.val (.ref o), .val (.long ((((((0 : Int64) + y0) + y1) + y2) + y3) + y4)), .second, .val (.ref ev), .val (.int (20 : Int32)), .val (.int (5 : Int32)), .val (.long y4), .second] [(.long y5)])) (fun _ k => X1.laload hx (j := (5 : Int32)) (v := (.long y5)) (by rw [e1]; exact Ar14.1) (State.isArrayOf_alike hZ.alike Ar14.2.1) Ar14.2.2 hin14 hat14 (g := (mkF m 24 #[.val (.ref o), .val (.long ((((((0 : Int64) + y0) + y1) + y2) + y3) + y4)), .second, .val (.ref ev), .val (.int (20 : Int32)), .val (.int (5 : Int32)), .val (.long y4), .second] [(.int (5 : Int32)), (.ref ev)])) rfl rfl (hb hby d6_24) _ k) ?_
  refine own_st (T' := T1) (F' := (mkF m 27 #[.val (.ref o), .val (.long ((((((0 : Int64) + y0) + y1) + y2) + y3) + y4)), .second, .val (.ref ev), .val (.int (20 : Int32)), .val (.int (5 : Int32)), .val (.long y5), .second] [])) (fun _ k => XS.lstore X1.here hx rfl (hb hby d6_25) rfl (l' := #[.val (.ref o), .val (.long ((((((0 : Int64) + y0) + y1) + y2) + y3) + y4)), .second, .val (.ref ev), .val (.int (20 : Int32)), .val (.int (5 : Int32)), .val (.long y5), .second]) rfl k) ?_
  refine own_st (T' := T1) (F' := (mkF m 28 #[.val (.ref o), .val (.long ((((((0 : Int64) + y0) + y1) + y2) + y3) + y4)), .second, .val (.ref ev), .val (.int (20 : Int32)), .val (.int (5 : Int32)), .val (.long y5), .second] [(.long ((((((0 : Int64) + y0) + y1) + y2) + y3) + y4))])) (fun _ k => XS.lloadN X1.here hx rfl (hb hby d6_27) rfl  k) ?_
  refine own_st (T' := T1) (F' := (mkF m 30 #[.val (.ref o), .val (.long ((((((0 : Int64) + y0) + y1) + y2) + y3) + y4)), .second, .val (.ref ev), .val (.int (20 : Int32)), .val (.int (5 : Int32)), .val (.long y5), .second] [(.long y5), (.long ((((((0 : Int64) + y0) + y1) + y2) + y3) + y4))])) (fun _ k => XS.lload X1.here hx rfl (hb hby d6_28) rfl  k) ?_
  refine own_st (T' := T1) (F' := (mkF m 31 #[.val (.ref o), .val (.long ((((((0 : Int64) + y0) + y1) + y2) + y3) + y4)), .second, .val (.ref ev), .val (.int (20 : Int32)), .val (.int (5 : Int32)), .val (.long y5), .second] [(.long (((((((0 : Int64) + y0) + y1) + y2) + y3) + y4) + y5))])) (fun _ k => XS.ladd X1.here hx rfl (hb hby d6_30) rfl k) ?_
  refine own_st (T' := T1) (F' := (mkF m 32 #[.val (.ref o), .val (.long (((((((0 : Int64) + y0) + y1) + y2) + y3) + y4) + y5)), .second, .val (.ref ev), .val (.int (20 : Int32)), .val (.int (5 : Int32)), .val (.long y5), .second] [])) (fun _ k => XS.lstoreN X1.here hx rfl (hb hby d6_31) rfl (l' := #[.val (.ref o), .val (.long (((((((0 : Int64) + y0) + y1) + y2) + y3) + y4) + y5)), .second, .val (.ref ev), .val (.int (20 : Int32)), .val (.int (5 : Int32)), .val (.long y5), .second]) rfl k) ?_
  refine own_st (T' := T1) (F' := (mkF m 35 #[.val (.ref o), .val (.long (((((((0 : Int64) + y0) + y1) + y2) + y3) + y4) + y5)), .second, .val (.ref ev), .val (.int (20 : Int32)), .val (.int (6 : Int32)), .val (.long y5), .second] [])) (fun _ k => XS.iinc X1.here hx rfl (hb hby d6_32) rfl (l' := #[.val (.ref o), .val (.long (((((((0 : Int64) + y0) + y1) + y2) + y3) + y4) + y5)), .second, .val (.ref ev), .val (.int (20 : Int32)), .val (.int (6 : Int32)), .val (.long y5), .second]) rfl k) ?_
  refine own_st (T' := T1) (F' := (mkF m 14 #[.val (.ref o), .val (.long (((((((0 : Int64) + y0) + y1) + y2) + y3) + y4) + y5)), .second, .val (.ref ev), .val (.int (20 : Int32)), .val (.int (6 : Int32)), .val (.long y5), .second] [])) (fun _ k => XS.goto X1.here hx rfl (pc0 := 35) (pc' := 14) rfl (hb hby d6_35) (by decide) (by decide) k) ?_
  refine own_st (T' := T1) (F' := (mkF m 16 #[.val (.ref o), .val (.long (((((((0 : Int64) + y0) + y1) + y2) + y3) + y4) + y5)), .second, .val (.ref ev), .val (.int (20 : Int32)), .val (.int (6 : Int32)), .val (.long y5), .second] [(.int (6 : Int32))])) (fun _ k => XS.iload X1.here hx rfl (hb hby d6_14) rfl  k) ?_
  refine own_st (T' := T1) (F' := (mkF m 18 #[.val (.ref o), .val (.long (((((((0 : Int64) + y0) + y1) + y2) + y3) + y4) + y5)), .second, .val (.ref ev), .val (.int (20 : Int32)), .val (.int (6 : Int32)), .val (.long y5), .second] [(.int (20 : Int32)), (.int (6 : Int32))])) (fun _ k => XS.iload X1.here hx rfl (hb hby d6_16) rfl  k) ?_
  refine own_icmp X1 hx (pc' := 38) (pc2 := 21) (hb hby d6_18) (by decide) (by decide) rfl (fun (hc18_15 : ¬ ((6 : Int32) < (20 : Int32))) => ?_) (fun (hc18_15 : (6 : Int32) < (20 : Int32)) => ?_)
  · exact absurd hc18_15 (by decide)
  refine own_st (T' := T1) (F' := (mkF m 22 #[.val (.ref o), .val (.long (((((((0 : Int64) + y0) + y1) + y2) + y3) + y4) + y5)), .second, .val (.ref ev), .val (.int (20 : Int32)), .val (.int (6 : Int32)), .val (.long y5), .second] [(.ref ev)])) (fun _ k => XS.aloadN X1.here hx rfl (hb hby d6_21) rfl rfl k) ?_
  refine own_st (T' := T1) (F' := (mkF m 24 #[.val (.ref o), .val (.long (((((((0 : Int64) + y0) + y1) + y2) + y3) + y4) + y5)), .second, .val (.ref ev), .val (.int (20 : Int32)), .val (.int (6 : Int32)), .val (.long y5), .second] [(.int (6 : Int32)), (.ref ev)])) (fun _ k => XS.iload X1.here hx rfl (hb hby d6_22) rfl  k) ?_
  obtain ⟨y6, hy6⟩ := own_el V_e 6 (by decide)
  obtain ⟨cl16, Ar16, Aq16, As16, Am16, Ah16, Au16⟩ := id V_e
  have hin16 : ¬ ((6 : Int32) < 0 ∨ cl16.slots.size ≤ ((6 : Int32)).toNatClampNeg) := inb_of As16 ⟨by decide, by decide⟩
  have hat16 : cl16.slots[((6 : Int32)).toNatClampNeg]? = some (.long y6) := Ah16.at hin16 (hy6)
  refine own_st (T' := T1) (F' := (mkF m 25 #[.val (.ref o), .val (.long (((((((0 : Int64) + y0) + y1) + y2) + y3) + y4) + y5)), .second, .val (.ref ev), .val (.int (20 : Int32)), .val (.int (6 : Int32)), .val (.long y5), .second] [(.long y6)])) (fun _ k => X1.laload hx (j := (6 : Int32)) (v := (.long y6)) (by rw [e1]; exact Ar16.1) (State.isArrayOf_alike hZ.alike Ar16.2.1) Ar16.2.2 hin16 hat16 (g := (mkF m 24 #[.val (.ref o), .val (.long (((((((0 : Int64) + y0) + y1) + y2) + y3) + y4) + y5)), .second, .val (.ref ev), .val (.int (20 : Int32)), .val (.int (6 : Int32)), .val (.long y5), .second] [(.int (6 : Int32)), (.ref ev)])) rfl rfl (hb hby d6_24) _ k) ?_
  refine own_st (T' := T1) (F' := (mkF m 27 #[.val (.ref o), .val (.long (((((((0 : Int64) + y0) + y1) + y2) + y3) + y4) + y5)), .second, .val (.ref ev), .val (.int (20 : Int32)), .val (.int (6 : Int32)), .val (.long y6), .second] [])) (fun _ k => XS.lstore X1.here hx rfl (hb hby d6_25) rfl (l' := #[.val (.ref o), .val (.long (((((((0 : Int64) + y0) + y1) + y2) + y3) + y4) + y5)), .second, .val (.ref ev), .val (.int (20 : Int32)), .val (.int (6 : Int32)), .val (.long y6), .second]) rfl k) ?_
  refine own_st (T' := T1) (F' := (mkF m 28 #[.val (.ref o), .val (.long (((((((0 : Int64) + y0) + y1) + y2) + y3) + y4) + y5)), .second, .val (.ref ev), .val (.int (20 : Int32)), .val (.int (6 : Int32)), .val (.long y6), .second] [(.long (((((((0 : Int64) + y0) + y1) + y2) + y3) + y4) + y5))])) (fun _ k => XS.lloadN X1.here hx rfl (hb hby d6_27) rfl  k) ?_
  refine own_st (T' := T1) (F' := (mkF m 30 #[.val (.ref o), .val (.long (((((((0 : Int64) + y0) + y1) + y2) + y3) + y4) + y5)), .second, .val (.ref ev), .val (.int (20 : Int32)), .val (.int (6 : Int32)), .val (.long y6), .second] [(.long y6), (.long (((((((0 : Int64) + y0) + y1) + y2) + y3) + y4) + y5))])) (fun _ k => XS.lload X1.here hx rfl (hb hby d6_28) rfl  k) ?_
  refine own_st (T' := T1) (F' := (mkF m 31 #[.val (.ref o), .val (.long (((((((0 : Int64) + y0) + y1) + y2) + y3) + y4) + y5)), .second, .val (.ref ev), .val (.int (20 : Int32)), .val (.int (6 : Int32)), .val (.long y6), .second] [(.long ((((((((0 : Int64) + y0) + y1) + y2) + y3) + y4) + y5) + y6))])) (fun _ k => XS.ladd X1.here hx rfl (hb hby d6_30) rfl k) ?_
  refine own_st (T' := T1) (F' := (mkF m 32 #[.val (.ref o), .val (.long ((((((((0 : Int64) + y0) + y1) + y2) + y3) + y4) + y5) + y6)), .second, .val (.ref ev), .val (.int (20 : Int32)), .val (.int (6 : Int32)), .val (.long y6), .second] [])) (fun _ k => XS.lstoreN X1.here hx rfl (hb hby d6_31) rfl (l' := #[.val (.ref o), .val (.long ((((((((0 : Int64) + y0) + y1) + y2) + y3) + y4) + y5) + y6)), .second, .val (.ref ev), .val (.int (20 : Int32)), .val (.int (6 : Int32)), .val (.long y6), .second]) rfl k) ?_
  refine own_st (T' := T1) (F' := (mkF m 35 #[.val (.ref o), .val (.long ((((((((0 : Int64) + y0) + y1) + y2) + y3) + y4) + y5) + y6)), .second, .val (.ref ev), .val (.int (20 : Int32)), .val (.int (7 : Int32)), .val (.long y6), .second] [])) (fun _ k => XS.iinc X1.here hx rfl (hb hby d6_32) rfl (l' := #[.val (.ref o), .val (.long ((((((((0 : Int64) + y0) + y1) + y2) + y3) + y4) + y5) + y6)), .second, .val (.ref ev), .val (.int (20 : Int32)), .val (.int (7 : Int32)), .val (.long y6), .second]) rfl k) ?_
  refine own_st (T' := T1) (F' := (mkF m 14 #[.val (.ref o), .val (.long ((((((((0 : Int64) + y0) + y1) + y2) + y3) + y4) + y5) + y6)), .second, .val (.ref ev), .val (.int (20 : Int32)), .val (.int (7 : Int32)), .val (.long y6), .second] [])) (fun _ k => XS.goto X1.here hx rfl (pc0 := 35) (pc' := 14) rfl (hb hby d6_35) (by decide) (by decide) k) ?_
  refine own_st (T' := T1) (F' := (mkF m 16 #[.val (.ref o), .val (.long ((((((((0 : Int64) + y0) + y1) + y2) + y3) + y4) + y5) + y6)), .second, .val (.ref ev), .val (.int (20 : Int32)), .val (.int (7 : Int32)), .val (.long y6), .second] [(.int (7 : Int32))])) (fun _ k => XS.iload X1.here hx rfl (hb hby d6_14) rfl  k) ?_
  refine own_st (T' := T1) (F' := (mkF m 18 #[.val (.ref o), .val (.long ((((((((0 : Int64) + y0) + y1) + y2) + y3) + y4) + y5) + y6)), .second, .val (.ref ev), .val (.int (20 : Int32)), .val (.int (7 : Int32)), .val (.long y6), .second] [(.int (20 : Int32)), (.int (7 : Int32))])) (fun _ k => XS.iload X1.here hx rfl (hb hby d6_16) rfl  k) ?_
  refine own_icmp X1 hx (pc' := 38) (pc2 := 21) (hb hby d6_18) (by decide) (by decide) rfl (fun (hc18_17 : ¬ ((7 : Int32) < (20 : Int32))) => ?_) (fun (hc18_17 : (7 : Int32) < (20 : Int32)) => ?_)
  · exact absurd hc18_17 (by decide)
  refine own_st (T' := T1) (F' := (mkF m 22 #[.val (.ref o), .val (.long ((((((((0 : Int64) + y0) + y1) + y2) + y3) + y4) + y5) + y6)), .second, .val (.ref ev), .val (.int (20 : Int32)), .val (.int (7 : Int32)), .val (.long y6), .second] [(.ref ev)])) (fun _ k => XS.aloadN X1.here hx rfl (hb hby d6_21) rfl rfl k) ?_
  refine own_st (T' := T1) (F' := (mkF m 24 #[.val (.ref o), .val (.long ((((((((0 : Int64) + y0) + y1) + y2) + y3) + y4) + y5) + y6)), .second, .val (.ref ev), .val (.int (20 : Int32)), .val (.int (7 : Int32)), .val (.long y6), .second] [(.int (7 : Int32)), (.ref ev)])) (fun _ k => XS.iload X1.here hx rfl (hb hby d6_22) rfl  k) ?_
  obtain ⟨y7, hy7⟩ := own_el V_e 7 (by decide)
  obtain ⟨cl18, Ar18, Aq18, As18, Am18, Ah18, Au18⟩ := id V_e
  have hin18 : ¬ ((7 : Int32) < 0 ∨ cl18.slots.size ≤ ((7 : Int32)).toNatClampNeg) := inb_of As18 ⟨by decide, by decide⟩
  have hat18 : cl18.slots[((7 : Int32)).toNatClampNeg]? = some (.long y7) := Ah18.at hin18 (hy7)
  refine own_st (T' := T1) (F' := (mkF m 25 #[.val (.ref o), .val (.long ((((((((0 : Int64) + y0) + y1) + y2) + y3) + y4) + y5) + y6)), .second, .val (.ref ev), .val (.int (20 : Int32)), .val (.int (7 : Int32)), .val (.long y6), .second] [(.long y7)])) (fun _ k => X1.laload hx (j := (7 : Int32)) (v := (.long y7)) (by rw [e1]; exact Ar18.1) (State.isArrayOf_alike hZ.alike Ar18.2.1) Ar18.2.2 hin18 hat18 (g := (mkF m 24 #[.val (.ref o), .val (.long ((((((((0 : Int64) + y0) + y1) + y2) + y3) + y4) + y5) + y6)), .second, .val (.ref ev), .val (.int (20 : Int32)), .val (.int (7 : Int32)), .val (.long y6), .second] [(.int (7 : Int32)), (.ref ev)])) rfl rfl (hb hby d6_24) _ k) ?_
  refine own_st (T' := T1) (F' := (mkF m 27 #[.val (.ref o), .val (.long ((((((((0 : Int64) + y0) + y1) + y2) + y3) + y4) + y5) + y6)), .second, .val (.ref ev), .val (.int (20 : Int32)), .val (.int (7 : Int32)), .val (.long y7), .second] [])) (fun _ k => XS.lstore X1.here hx rfl (hb hby d6_25) rfl (l' := #[.val (.ref o), .val (.long ((((((((0 : Int64) + y0) + y1) + y2) + y3) + y4) + y5) + y6)), .second, .val (.ref ev), .val (.int (20 : Int32)), .val (.int (7 : Int32)), .val (.long y7), .second]) rfl k) ?_
  refine own_st (T' := T1) (F' := (mkF m 28 #[.val (.ref o), .val (.long ((((((((0 : Int64) + y0) + y1) + y2) + y3) + y4) + y5) + y6)), .second, .val (.ref ev), .val (.int (20 : Int32)), .val (.int (7 : Int32)), .val (.long y7), .second] [(.long ((((((((0 : Int64) + y0) + y1) + y2) + y3) + y4) + y5) + y6))])) (fun _ k => XS.lloadN X1.here hx rfl (hb hby d6_27) rfl  k) ?_
  refine own_st (T' := T1) (F' := (mkF m 30 #[.val (.ref o), .val (.long ((((((((0 : Int64) + y0) + y1) + y2) + y3) + y4) + y5) + y6)), .second, .val (.ref ev), .val (.int (20 : Int32)), .val (.int (7 : Int32)), .val (.long y7), .second] [(.long y7), (.long ((((((((0 : Int64) + y0) + y1) + y2) + y3) + y4) + y5) + y6))])) (fun _ k => XS.lload X1.here hx rfl (hb hby d6_28) rfl  k) ?_
  refine own_st (T' := T1) (F' := (mkF m 31 #[.val (.ref o), .val (.long ((((((((0 : Int64) + y0) + y1) + y2) + y3) + y4) + y5) + y6)), .second, .val (.ref ev), .val (.int (20 : Int32)), .val (.int (7 : Int32)), .val (.long y7), .second] [(.long (((((((((0 : Int64) + y0) + y1) + y2) + y3) + y4) + y5) + y6) + y7))])) (fun _ k => XS.ladd X1.here hx rfl (hb hby d6_30) rfl k) ?_
  refine own_st (T' := T1) (F' := (mkF m 32 #[.val (.ref o), .val (.long (((((((((0 : Int64) + y0) + y1) + y2) + y3) + y4) + y5) + y6) + y7)), .second, .val (.ref ev), .val (.int (20 : Int32)), .val (.int (7 : Int32)), .val (.long y7), .second] [])) (fun _ k => XS.lstoreN X1.here hx rfl (hb hby d6_31) rfl (l' := #[.val (.ref o), .val (.long (((((((((0 : Int64) + y0) + y1) + y2) + y3) + y4) + y5) + y6) + y7)), .second, .val (.ref ev), .val (.int (20 : Int32)), .val (.int (7 : Int32)), .val (.long y7), .second]) rfl k) ?_
  refine own_st (T' := T1) (F' := (mkF m 35 #[.val (.ref o), .val (.long (((((((((0 : Int64) + y0) + y1) + y2) + y3) + y4) + y5) + y6) + y7)), .second, .val (.ref ev), .val (.int (20 : Int32)), .val (.int (8 : Int32)), .val (.long y7), .second] [])) (fun _ k => XS.iinc X1.here hx rfl (hb hby d6_32) rfl (l' := #[.val (.ref o), .val (.long (((((((((0 : Int64) + y0) + y1) + y2) + y3) + y4) + y5) + y6) + y7)), .second, .val (.ref ev), .val (.int (20 : Int32)), .val (.int (8 : Int32)), .val (.long y7), .second]) rfl k) ?_
  refine own_st (T' := T1) (F' := (mkF m 14 #[.val (.ref o), .val (.long (((((((((0 : Int64) + y0) + y1) + y2) + y3) + y4) + y5) + y6) + y7)), .second, .val (.ref ev), .val (.int (20 : Int32)), .val (.int (8 : Int32)), .val (.long y7), .second] [])) (fun _ k => XS.goto X1.here hx rfl (pc0 := 35) (pc' := 14) rfl (hb hby d6_35) (by decide) (by decide) k) ?_
  refine own_st (T' := T1) (F' := (mkF m 16 #[.val (.ref o), .val (.long (((((((((0 : Int64) + y0) + y1) + y2) + y3) + y4) + y5) + y6) + y7)), .second, .val (.ref ev), .val (.int (20 : Int32)), .val (.int (8 : Int32)), .val (.long y7), .second] [(.int (8 : Int32))])) (fun _ k => XS.iload X1.here hx rfl (hb hby d6_14) rfl  k) ?_
  refine own_st (T' := T1) (F' := (mkF m 18 #[.val (.ref o), .val (.long (((((((((0 : Int64) + y0) + y1) + y2) + y3) + y4) + y5) + y6) + y7)), .second, .val (.ref ev), .val (.int (20 : Int32)), .val (.int (8 : Int32)), .val (.long y7), .second] [(.int (20 : Int32)), (.int (8 : Int32))])) (fun _ k => XS.iload X1.here hx rfl (hb hby d6_16) rfl  k) ?_
  refine own_icmp X1 hx (pc' := 38) (pc2 := 21) (hb hby d6_18) (by decide) (by decide) rfl (fun (hc18_19 : ¬ ((8 : Int32) < (20 : Int32))) => ?_) (fun (hc18_19 : (8 : Int32) < (20 : Int32)) => ?_)
  · exact absurd hc18_19 (by decide)
  refine own_st (T' := T1) (F' := (mkF m 22 #[.val (.ref o), .val (.long (((((((((0 : Int64) + y0) + y1) + y2) + y3) + y4) + y5) + y6) + y7)), .second, .val (.ref ev), .val (.int (20 : Int32)), .val (.int (8 : Int32)), .val (.long y7), .second] [(.ref ev)])) (fun _ k => XS.aloadN X1.here hx rfl (hb hby d6_21) rfl rfl k) ?_
  refine own_st (T' := T1) (F' := (mkF m 24 #[.val (.ref o), .val (.long (((((((((0 : Int64) + y0) + y1) + y2) + y3) + y4) + y5) + y6) + y7)), .second, .val (.ref ev), .val (.int (20 : Int32)), .val (.int (8 : Int32)), .val (.long y7), .second] [(.int (8 : Int32)), (.ref ev)])) (fun _ k => XS.iload X1.here hx rfl (hb hby d6_22) rfl  k) ?_
  obtain ⟨y8, hy8⟩ := own_el V_e 8 (by decide)
  obtain ⟨cl20, Ar20, Aq20, As20, Am20, Ah20, Au20⟩ := id V_e
  have hin20 : ¬ ((8 : Int32) < 0 ∨ cl20.slots.size ≤ ((8 : Int32)).toNatClampNeg) := inb_of As20 ⟨by decide, by decide⟩
  have hat20 : cl20.slots[((8 : Int32)).toNatClampNeg]? = some (.long y8) := Ah20.at hin20 (hy8)
  refine own_st (T' := T1) (F' := (mkF m 25 #[.val (.ref o), .val (.long (((((((((0 : Int64) + y0) + y1) + y2) + y3) + y4) + y5) + y6) + y7)), .second, .val (.ref ev), .val (.int (20 : Int32)), .val (.int (8 : Int32)), .val (.long y7), .second] [(.long y8)])) (fun _ k => X1.laload hx (j := (8 : Int32)) (v := (.long y8)) (by rw [e1]; exact Ar20.1) (State.isArrayOf_alike hZ.alike Ar20.2.1) Ar20.2.2 hin20 hat20 (g := (mkF m 24 #[.val (.ref o), .val (.long (((((((((0 : Int64) + y0) + y1) + y2) + y3) + y4) + y5) + y6) + y7)), .second, .val (.ref ev), .val (.int (20 : Int32)), .val (.int (8 : Int32)), .val (.long y7), .second] [(.int (8 : Int32)), (.ref ev)])) rfl rfl (hb hby d6_24) _ k) ?_
  refine own_st (T' := T1) (F' := (mkF m 27 #[.val (.ref o), .val (.long (((((((((0 : Int64) + y0) + y1) + y2) + y3) + y4) + y5) + y6) + y7)), .second, .val (.ref ev), .val (.int (20 : Int32)), .val (.int (8 : Int32)), .val (.long y8), .second] [])) (fun _ k => XS.lstore X1.here hx rfl (hb hby d6_25) rfl (l' := #[.val (.ref o), .val (.long (((((((((0 : Int64) + y0) + y1) + y2) + y3) + y4) + y5) + y6) + y7)), .second, .val (.ref ev), .val (.int (20 : Int32)), .val (.int (8 : Int32)), .val (.long y8), .second]) rfl k) ?_
  refine own_st (T' := T1) (F' := (mkF m 28 #[.val (.ref o), .val (.long (((((((((0 : Int64) + y0) + y1) + y2) + y3) + y4) + y5) + y6) + y7)), .second, .val (.ref ev), .val (.int (20 : Int32)), .val (.int (8 : Int32)), .val (.long y8), .second] [(.long (((((((((0 : Int64) + y0) + y1) + y2) + y3) + y4) + y5) + y6) + y7))])) (fun _ k => XS.lloadN X1.here hx rfl (hb hby d6_27) rfl  k) ?_
  refine own_st (T' := T1) (F' := (mkF m 30 #[.val (.ref o), .val (.long (((((((((0 : Int64) + y0) + y1) + y2) + y3) + y4) + y5) + y6) + y7)), .second, .val (.ref ev), .val (.int (20 : Int32)), .val (.int (8 : Int32)), .val (.long y8), .second] [(.long y8), (.long (((((((((0 : Int64) + y0) + y1) + y2) + y3) + y4) + y5) + y6) + y7))])) (fun _ k => XS.lload X1.here hx rfl (hb hby d6_28) rfl  k) ?_
  refine own_st (T' := T1) (F' := (mkF m 31 #[.val (.ref o), .val (.long (((((((((0 : Int64) + y0) + y1) + y2) + y3) + y4) + y5) + y6) + y7)), .second, .val (.ref ev), .val (.int (20 : Int32)), .val (.int (8 : Int32)), .val (.long y8), .second] [(.long ((((((((((0 : Int64) + y0) + y1) + y2) + y3) + y4) + y5) + y6) + y7) + y8))])) (fun _ k => XS.ladd X1.here hx rfl (hb hby d6_30) rfl k) ?_
  refine own_st (T' := T1) (F' := (mkF m 32 #[.val (.ref o), .val (.long ((((((((((0 : Int64) + y0) + y1) + y2) + y3) + y4) + y5) + y6) + y7) + y8)), .second, .val (.ref ev), .val (.int (20 : Int32)), .val (.int (8 : Int32)), .val (.long y8), .second] [])) (fun _ k => XS.lstoreN X1.here hx rfl (hb hby d6_31) rfl (l' := #[.val (.ref o), .val (.long ((((((((((0 : Int64) + y0) + y1) + y2) + y3) + y4) + y5) + y6) + y7) + y8)), .second, .val (.ref ev), .val (.int (20 : Int32)), .val (.int (8 : Int32)), .val (.long y8), .second]) rfl k) ?_
  refine own_st (T' := T1) (F' := (mkF m 35 #[.val (.ref o), .val (.long ((((((((((0 : Int64) + y0) + y1) + y2) + y3) + y4) + y5) + y6) + y7) + y8)), .second, .val (.ref ev), .val (.int (20 : Int32)), .val (.int (9 : Int32)), .val (.long y8), .second] [])) (fun _ k => XS.iinc X1.here hx rfl (hb hby d6_32) rfl (l' := #[.val (.ref o), .val (.long ((((((((((0 : Int64) + y0) + y1) + y2) + y3) + y4) + y5) + y6) + y7) + y8)), .second, .val (.ref ev), .val (.int (20 : Int32)), .val (.int (9 : Int32)), .val (.long y8), .second]) rfl k) ?_
  refine own_st (T' := T1) (F' := (mkF m 14 #[.val (.ref o), .val (.long ((((((((((0 : Int64) + y0) + y1) + y2) + y3) + y4) + y5) + y6) + y7) + y8)), .second, .val (.ref ev), .val (.int (20 : Int32)), .val (.int (9 : Int32)), .val (.long y8), .second] [])) (fun _ k => XS.goto X1.here hx rfl (pc0 := 35) (pc' := 14) rfl (hb hby d6_35) (by decide) (by decide) k) ?_
  refine own_st (T' := T1) (F' := (mkF m 16 #[.val (.ref o), .val (.long ((((((((((0 : Int64) + y0) + y1) + y2) + y3) + y4) + y5) + y6) + y7) + y8)), .second, .val (.ref ev), .val (.int (20 : Int32)), .val (.int (9 : Int32)), .val (.long y8), .second] [(.int (9 : Int32))])) (fun _ k => XS.iload X1.here hx rfl (hb hby d6_14) rfl  k) ?_
  refine own_st (T' := T1) (F' := (mkF m 18 #[.val (.ref o), .val (.long ((((((((((0 : Int64) + y0) + y1) + y2) + y3) + y4) + y5) + y6) + y7) + y8)), .second, .val (.ref ev), .val (.int (20 : Int32)), .val (.int (9 : Int32)), .val (.long y8), .second] [(.int (20 : Int32)), (.int (9 : Int32))])) (fun _ k => XS.iload X1.here hx rfl (hb hby d6_16) rfl  k) ?_
  refine own_icmp X1 hx (pc' := 38) (pc2 := 21) (hb hby d6_18) (by decide) (by decide) rfl (fun (hc18_21 : ¬ ((9 : Int32) < (20 : Int32))) => ?_) (fun (hc18_21 : (9 : Int32) < (20 : Int32)) => ?_)
  · exact absurd hc18_21 (by decide)
  refine own_st (T' := T1) (F' := (mkF m 22 #[.val (.ref o), .val (.long ((((((((((0 : Int64) + y0) + y1) + y2) + y3) + y4) + y5) + y6) + y7) + y8)), .second, .val (.ref ev), .val (.int (20 : Int32)), .val (.int (9 : Int32)), .val (.long y8), .second] [(.ref ev)])) (fun _ k => XS.aloadN X1.here hx rfl (hb hby d6_21) rfl rfl k) ?_
  refine own_st (T' := T1) (F' := (mkF m 24 #[.val (.ref o), .val (.long ((((((((((0 : Int64) + y0) + y1) + y2) + y3) + y4) + y5) + y6) + y7) + y8)), .second, .val (.ref ev), .val (.int (20 : Int32)), .val (.int (9 : Int32)), .val (.long y8), .second] [(.int (9 : Int32)), (.ref ev)])) (fun _ k => XS.iload X1.here hx rfl (hb hby d6_22) rfl  k) ?_
  obtain ⟨y9, hy9⟩ := own_el V_e 9 (by decide)
  obtain ⟨cl22, Ar22, Aq22, As22, Am22, Ah22, Au22⟩ := id V_e
  have hin22 : ¬ ((9 : Int32) < 0 ∨ cl22.slots.size ≤ ((9 : Int32)).toNatClampNeg) := inb_of As22 ⟨by decide, by decide⟩
  have hat22 : cl22.slots[((9 : Int32)).toNatClampNeg]? = some (.long y9) := Ah22.at hin22 (hy9)
  refine own_st (T' := T1) (F' := (mkF m 25 #[.val (.ref o), .val (.long ((((((((((0 : Int64) + y0) + y1) + y2) + y3) + y4) + y5) + y6) + y7) + y8)), .second, .val (.ref ev), .val (.int (20 : Int32)), .val (.int (9 : Int32)), .val (.long y8), .second] [(.long y9)])) (fun _ k => X1.laload hx (j := (9 : Int32)) (v := (.long y9)) (by rw [e1]; exact Ar22.1) (State.isArrayOf_alike hZ.alike Ar22.2.1) Ar22.2.2 hin22 hat22 (g := (mkF m 24 #[.val (.ref o), .val (.long ((((((((((0 : Int64) + y0) + y1) + y2) + y3) + y4) + y5) + y6) + y7) + y8)), .second, .val (.ref ev), .val (.int (20 : Int32)), .val (.int (9 : Int32)), .val (.long y8), .second] [(.int (9 : Int32)), (.ref ev)])) rfl rfl (hb hby d6_24) _ k) ?_
  refine own_st (T' := T1) (F' := (mkF m 27 #[.val (.ref o), .val (.long ((((((((((0 : Int64) + y0) + y1) + y2) + y3) + y4) + y5) + y6) + y7) + y8)), .second, .val (.ref ev), .val (.int (20 : Int32)), .val (.int (9 : Int32)), .val (.long y9), .second] [])) (fun _ k => XS.lstore X1.here hx rfl (hb hby d6_25) rfl (l' := #[.val (.ref o), .val (.long ((((((((((0 : Int64) + y0) + y1) + y2) + y3) + y4) + y5) + y6) + y7) + y8)), .second, .val (.ref ev), .val (.int (20 : Int32)), .val (.int (9 : Int32)), .val (.long y9), .second]) rfl k) ?_
  refine own_st (T' := T1) (F' := (mkF m 28 #[.val (.ref o), .val (.long ((((((((((0 : Int64) + y0) + y1) + y2) + y3) + y4) + y5) + y6) + y7) + y8)), .second, .val (.ref ev), .val (.int (20 : Int32)), .val (.int (9 : Int32)), .val (.long y9), .second] [(.long ((((((((((0 : Int64) + y0) + y1) + y2) + y3) + y4) + y5) + y6) + y7) + y8))])) (fun _ k => XS.lloadN X1.here hx rfl (hb hby d6_27) rfl  k) ?_
  refine own_st (T' := T1) (F' := (mkF m 30 #[.val (.ref o), .val (.long ((((((((((0 : Int64) + y0) + y1) + y2) + y3) + y4) + y5) + y6) + y7) + y8)), .second, .val (.ref ev), .val (.int (20 : Int32)), .val (.int (9 : Int32)), .val (.long y9), .second] [(.long y9), (.long ((((((((((0 : Int64) + y0) + y1) + y2) + y3) + y4) + y5) + y6) + y7) + y8))])) (fun _ k => XS.lload X1.here hx rfl (hb hby d6_28) rfl  k) ?_
  refine own_st (T' := T1) (F' := (mkF m 31 #[.val (.ref o), .val (.long ((((((((((0 : Int64) + y0) + y1) + y2) + y3) + y4) + y5) + y6) + y7) + y8)), .second, .val (.ref ev), .val (.int (20 : Int32)), .val (.int (9 : Int32)), .val (.long y9), .second] [(.long (((((((((((0 : Int64) + y0) + y1) + y2) + y3) + y4) + y5) + y6) + y7) + y8) + y9))])) (fun _ k => XS.ladd X1.here hx rfl (hb hby d6_30) rfl k) ?_
  refine own_st (T' := T1) (F' := (mkF m 32 #[.val (.ref o), .val (.long (((((((((((0 : Int64) + y0) + y1) + y2) + y3) + y4) + y5) + y6) + y7) + y8) + y9)), .second, .val (.ref ev), .val (.int (20 : Int32)), .val (.int (9 : Int32)), .val (.long y9), .second] [])) (fun _ k => XS.lstoreN X1.here hx rfl (hb hby d6_31) rfl (l' := #[.val (.ref o), .val (.long (((((((((((0 : Int64) + y0) + y1) + y2) + y3) + y4) + y5) + y6) + y7) + y8) + y9)), .second, .val (.ref ev), .val (.int (20 : Int32)), .val (.int (9 : Int32)), .val (.long y9), .second]) rfl k) ?_
  refine own_st (T' := T1) (F' := (mkF m 35 #[.val (.ref o), .val (.long (((((((((((0 : Int64) + y0) + y1) + y2) + y3) + y4) + y5) + y6) + y7) + y8) + y9)), .second, .val (.ref ev), .val (.int (20 : Int32)), .val (.int (10 : Int32)), .val (.long y9), .second] [])) (fun _ k => XS.iinc X1.here hx rfl (hb hby d6_32) rfl (l' := #[.val (.ref o), .val (.long (((((((((((0 : Int64) + y0) + y1) + y2) + y3) + y4) + y5) + y6) + y7) + y8) + y9)), .second, .val (.ref ev), .val (.int (20 : Int32)), .val (.int (10 : Int32)), .val (.long y9), .second]) rfl k) ?_
  refine own_st (T' := T1) (F' := (mkF m 14 #[.val (.ref o), .val (.long (((((((((((0 : Int64) + y0) + y1) + y2) + y3) + y4) + y5) + y6) + y7) + y8) + y9)), .second, .val (.ref ev), .val (.int (20 : Int32)), .val (.int (10 : Int32)), .val (.long y9), .second] [])) (fun _ k => XS.goto X1.here hx rfl (pc0 := 35) (pc' := 14) rfl (hb hby d6_35) (by decide) (by decide) k) ?_
  refine own_st (T' := T1) (F' := (mkF m 16 #[.val (.ref o), .val (.long (((((((((((0 : Int64) + y0) + y1) + y2) + y3) + y4) + y5) + y6) + y7) + y8) + y9)), .second, .val (.ref ev), .val (.int (20 : Int32)), .val (.int (10 : Int32)), .val (.long y9), .second] [(.int (10 : Int32))])) (fun _ k => XS.iload X1.here hx rfl (hb hby d6_14) rfl  k) ?_
  refine own_st (T' := T1) (F' := (mkF m 18 #[.val (.ref o), .val (.long (((((((((((0 : Int64) + y0) + y1) + y2) + y3) + y4) + y5) + y6) + y7) + y8) + y9)), .second, .val (.ref ev), .val (.int (20 : Int32)), .val (.int (10 : Int32)), .val (.long y9), .second] [(.int (20 : Int32)), (.int (10 : Int32))])) (fun _ k => XS.iload X1.here hx rfl (hb hby d6_16) rfl  k) ?_
  refine own_icmp X1 hx (pc' := 38) (pc2 := 21) (hb hby d6_18) (by decide) (by decide) rfl (fun (hc18_23 : ¬ ((10 : Int32) < (20 : Int32))) => ?_) (fun (hc18_23 : (10 : Int32) < (20 : Int32)) => ?_)
  · exact absurd hc18_23 (by decide)
  refine own_st (T' := T1) (F' := (mkF m 22 #[.val (.ref o), .val (.long (((((((((((0 : Int64) + y0) + y1) + y2) + y3) + y4) + y5) + y6) + y7) + y8) + y9)), .second, .val (.ref ev), .val (.int (20 : Int32)), .val (.int (10 : Int32)), .val (.long y9), .second] [(.ref ev)])) (fun _ k => XS.aloadN X1.here hx rfl (hb hby d6_21) rfl rfl k) ?_
  refine own_st (T' := T1) (F' := (mkF m 24 #[.val (.ref o), .val (.long (((((((((((0 : Int64) + y0) + y1) + y2) + y3) + y4) + y5) + y6) + y7) + y8) + y9)), .second, .val (.ref ev), .val (.int (20 : Int32)), .val (.int (10 : Int32)), .val (.long y9), .second] [(.int (10 : Int32)), (.ref ev)])) (fun _ k => XS.iload X1.here hx rfl (hb hby d6_22) rfl  k) ?_
  obtain ⟨y10, hy10⟩ := own_el V_e 10 (by decide)
  obtain ⟨cl24, Ar24, Aq24, As24, Am24, Ah24, Au24⟩ := id V_e
  have hin24 : ¬ ((10 : Int32) < 0 ∨ cl24.slots.size ≤ ((10 : Int32)).toNatClampNeg) := inb_of As24 ⟨by decide, by decide⟩
  have hat24 : cl24.slots[((10 : Int32)).toNatClampNeg]? = some (.long y10) := Ah24.at hin24 (hy10)
  refine own_st (T' := T1) (F' := (mkF m 25 #[.val (.ref o), .val (.long (((((((((((0 : Int64) + y0) + y1) + y2) + y3) + y4) + y5) + y6) + y7) + y8) + y9)), .second, .val (.ref ev), .val (.int (20 : Int32)), .val (.int (10 : Int32)), .val (.long y9), .second] [(.long y10)])) (fun _ k => X1.laload hx (j := (10 : Int32)) (v := (.long y10)) (by rw [e1]; exact Ar24.1) (State.isArrayOf_alike hZ.alike Ar24.2.1) Ar24.2.2 hin24 hat24 (g := (mkF m 24 #[.val (.ref o), .val (.long (((((((((((0 : Int64) + y0) + y1) + y2) + y3) + y4) + y5) + y6) + y7) + y8) + y9)), .second, .val (.ref ev), .val (.int (20 : Int32)), .val (.int (10 : Int32)), .val (.long y9), .second] [(.int (10 : Int32)), (.ref ev)])) rfl rfl (hb hby d6_24) _ k) ?_
  refine own_st (T' := T1) (F' := (mkF m 27 #[.val (.ref o), .val (.long (((((((((((0 : Int64) + y0) + y1) + y2) + y3) + y4) + y5) + y6) + y7) + y8) + y9)), .second, .val (.ref ev), .val (.int (20 : Int32)), .val (.int (10 : Int32)), .val (.long y10), .second] [])) (fun _ k => XS.lstore X1.here hx rfl (hb hby d6_25) rfl (l' := #[.val (.ref o), .val (.long (((((((((((0 : Int64) + y0) + y1) + y2) + y3) + y4) + y5) + y6) + y7) + y8) + y9)), .second, .val (.ref ev), .val (.int (20 : Int32)), .val (.int (10 : Int32)), .val (.long y10), .second]) rfl k) ?_
  refine own_st (T' := T1) (F' := (mkF m 28 #[.val (.ref o), .val (.long (((((((((((0 : Int64) + y0) + y1) + y2) + y3) + y4) + y5) + y6) + y7) + y8) + y9)), .second, .val (.ref ev), .val (.int (20 : Int32)), .val (.int (10 : Int32)), .val (.long y10), .second] [(.long (((((((((((0 : Int64) + y0) + y1) + y2) + y3) + y4) + y5) + y6) + y7) + y8) + y9))])) (fun _ k => XS.lloadN X1.here hx rfl (hb hby d6_27) rfl  k) ?_
  refine own_st (T' := T1) (F' := (mkF m 30 #[.val (.ref o), .val (.long (((((((((((0 : Int64) + y0) + y1) + y2) + y3) + y4) + y5) + y6) + y7) + y8) + y9)), .second, .val (.ref ev), .val (.int (20 : Int32)), .val (.int (10 : Int32)), .val (.long y10), .second] [(.long y10), (.long (((((((((((0 : Int64) + y0) + y1) + y2) + y3) + y4) + y5) + y6) + y7) + y8) + y9))])) (fun _ k => XS.lload X1.here hx rfl (hb hby d6_28) rfl  k) ?_
  refine own_st (T' := T1) (F' := (mkF m 31 #[.val (.ref o), .val (.long (((((((((((0 : Int64) + y0) + y1) + y2) + y3) + y4) + y5) + y6) + y7) + y8) + y9)), .second, .val (.ref ev), .val (.int (20 : Int32)), .val (.int (10 : Int32)), .val (.long y10), .second] [(.long ((((((((((((0 : Int64) + y0) + y1) + y2) + y3) + y4) + y5) + y6) + y7) + y8) + y9) + y10))])) (fun _ k => XS.ladd X1.here hx rfl (hb hby d6_30) rfl k) ?_
  refine own_st (T' := T1) (F' := (mkF m 32 #[.val (.ref o), .val (.long ((((((((((((0 : Int64) + y0) + y1) + y2) + y3) + y4) + y5) + y6) + y7) + y8) + y9) + y10)), .second, .val (.ref ev), .val (.int (20 : Int32)), .val (.int (10 : Int32)), .val (.long y10), .second] [])) (fun _ k => XS.lstoreN X1.here hx rfl (hb hby d6_31) rfl (l' := #[.val (.ref o), .val (.long ((((((((((((0 : Int64) + y0) + y1) + y2) + y3) + y4) + y5) + y6) + y7) + y8) + y9) + y10)), .second, .val (.ref ev), .val (.int (20 : Int32)), .val (.int (10 : Int32)), .val (.long y10), .second]) rfl k) ?_
  refine own_st (T' := T1) (F' := (mkF m 35 #[.val (.ref o), .val (.long ((((((((((((0 : Int64) + y0) + y1) + y2) + y3) + y4) + y5) + y6) + y7) + y8) + y9) + y10)), .second, .val (.ref ev), .val (.int (20 : Int32)), .val (.int (11 : Int32)), .val (.long y10), .second] [])) (fun _ k => XS.iinc X1.here hx rfl (hb hby d6_32) rfl (l' := #[.val (.ref o), .val (.long ((((((((((((0 : Int64) + y0) + y1) + y2) + y3) + y4) + y5) + y6) + y7) + y8) + y9) + y10)), .second, .val (.ref ev), .val (.int (20 : Int32)), .val (.int (11 : Int32)), .val (.long y10), .second]) rfl k) ?_
  refine own_st (T' := T1) (F' := (mkF m 14 #[.val (.ref o), .val (.long ((((((((((((0 : Int64) + y0) + y1) + y2) + y3) + y4) + y5) + y6) + y7) + y8) + y9) + y10)), .second, .val (.ref ev), .val (.int (20 : Int32)), .val (.int (11 : Int32)), .val (.long y10), .second] [])) (fun _ k => XS.goto X1.here hx rfl (pc0 := 35) (pc' := 14) rfl (hb hby d6_35) (by decide) (by decide) k) ?_
  refine own_st (T' := T1) (F' := (mkF m 16 #[.val (.ref o), .val (.long ((((((((((((0 : Int64) + y0) + y1) + y2) + y3) + y4) + y5) + y6) + y7) + y8) + y9) + y10)), .second, .val (.ref ev), .val (.int (20 : Int32)), .val (.int (11 : Int32)), .val (.long y10), .second] [(.int (11 : Int32))])) (fun _ k => XS.iload X1.here hx rfl (hb hby d6_14) rfl  k) ?_
  refine own_st (T' := T1) (F' := (mkF m 18 #[.val (.ref o), .val (.long ((((((((((((0 : Int64) + y0) + y1) + y2) + y3) + y4) + y5) + y6) + y7) + y8) + y9) + y10)), .second, .val (.ref ev), .val (.int (20 : Int32)), .val (.int (11 : Int32)), .val (.long y10), .second] [(.int (20 : Int32)), (.int (11 : Int32))])) (fun _ k => XS.iload X1.here hx rfl (hb hby d6_16) rfl  k) ?_
  refine own_icmp X1 hx (pc' := 38) (pc2 := 21) (hb hby d6_18) (by decide) (by decide) rfl (fun (hc18_25 : ¬ ((11 : Int32) < (20 : Int32))) => ?_) (fun (hc18_25 : (11 : Int32) < (20 : Int32)) => ?_)
  · exact absurd hc18_25 (by decide)
  refine own_st (T' := T1) (F' := (mkF m 22 #[.val (.ref o), .val (.long ((((((((((((0 : Int64) + y0) + y1) + y2) + y3) + y4) + y5) + y6) + y7) + y8) + y9) + y10)), .second, .val (.ref ev), .val (.int (20 : Int32)), .val (.int (11 : Int32)), .val (.long y10), .second] [(.ref ev)])) (fun _ k => XS.aloadN X1.here hx rfl (hb hby d6_21) rfl rfl k) ?_
  refine own_st (T' := T1) (F' := (mkF m 24 #[.val (.ref o), .val (.long ((((((((((((0 : Int64) + y0) + y1) + y2) + y3) + y4) + y5) + y6) + y7) + y8) + y9) + y10)), .second, .val (.ref ev), .val (.int (20 : Int32)), .val (.int (11 : Int32)), .val (.long y10), .second] [(.int (11 : Int32)), (.ref ev)])) (fun _ k => XS.iload X1.here hx rfl (hb hby d6_22) rfl  k) ?_
  obtain ⟨y11, hy11⟩ := own_el V_e 11 (by decide)
  obtain ⟨cl26, Ar26, Aq26, As26, Am26, Ah26, Au26⟩ := id V_e
  have hin26 : ¬ ((11 : Int32) < 0 ∨ cl26.slots.size ≤ ((11 : Int32)).toNatClampNeg) := inb_of As26 ⟨by decide, by decide⟩
  have hat26 : cl26.slots[((11 : Int32)).toNatClampNeg]? = some (.long y11) := Ah26.at hin26 (hy11)
  refine own_st (T' := T1) (F' := (mkF m 25 #[.val (.ref o), .val (.long ((((((((((((0 : Int64) + y0) + y1) + y2) + y3) + y4) + y5) + y6) + y7) + y8) + y9) + y10)), .second, .val (.ref ev), .val (.int (20 : Int32)), .val (.int (11 : Int32)), .val (.long y10), .second] [(.long y11)])) (fun _ k => X1.laload hx (j := (11 : Int32)) (v := (.long y11)) (by rw [e1]; exact Ar26.1) (State.isArrayOf_alike hZ.alike Ar26.2.1) Ar26.2.2 hin26 hat26 (g := (mkF m 24 #[.val (.ref o), .val (.long ((((((((((((0 : Int64) + y0) + y1) + y2) + y3) + y4) + y5) + y6) + y7) + y8) + y9) + y10)), .second, .val (.ref ev), .val (.int (20 : Int32)), .val (.int (11 : Int32)), .val (.long y10), .second] [(.int (11 : Int32)), (.ref ev)])) rfl rfl (hb hby d6_24) _ k) ?_
  refine own_st (T' := T1) (F' := (mkF m 27 #[.val (.ref o), .val (.long ((((((((((((0 : Int64) + y0) + y1) + y2) + y3) + y4) + y5) + y6) + y7) + y8) + y9) + y10)), .second, .val (.ref ev), .val (.int (20 : Int32)), .val (.int (11 : Int32)), .val (.long y11), .second] [])) (fun _ k => XS.lstore X1.here hx rfl (hb hby d6_25) rfl (l' := #[.val (.ref o), .val (.long ((((((((((((0 : Int64) + y0) + y1) + y2) + y3) + y4) + y5) + y6) + y7) + y8) + y9) + y10)), .second, .val (.ref ev), .val (.int (20 : Int32)), .val (.int (11 : Int32)), .val (.long y11), .second]) rfl k) ?_
  refine own_st (T' := T1) (F' := (mkF m 28 #[.val (.ref o), .val (.long ((((((((((((0 : Int64) + y0) + y1) + y2) + y3) + y4) + y5) + y6) + y7) + y8) + y9) + y10)), .second, .val (.ref ev), .val (.int (20 : Int32)), .val (.int (11 : Int32)), .val (.long y11), .second] [(.long ((((((((((((0 : Int64) + y0) + y1) + y2) + y3) + y4) + y5) + y6) + y7) + y8) + y9) + y10))])) (fun _ k => XS.lloadN X1.here hx rfl (hb hby d6_27) rfl  k) ?_
  refine own_st (T' := T1) (F' := (mkF m 30 #[.val (.ref o), .val (.long ((((((((((((0 : Int64) + y0) + y1) + y2) + y3) + y4) + y5) + y6) + y7) + y8) + y9) + y10)), .second, .val (.ref ev), .val (.int (20 : Int32)), .val (.int (11 : Int32)), .val (.long y11), .second] [(.long y11), (.long ((((((((((((0 : Int64) + y0) + y1) + y2) + y3) + y4) + y5) + y6) + y7) + y8) + y9) + y10))])) (fun _ k => XS.lload X1.here hx rfl (hb hby d6_28) rfl  k) ?_
  refine own_st (T' := T1) (F' := (mkF m 31 #[.val (.ref o), .val (.long ((((((((((((0 : Int64) + y0) + y1) + y2) + y3) + y4) + y5) + y6) + y7) + y8) + y9) + y10)), .second, .val (.ref ev), .val (.int (20 : Int32)), .val (.int (11 : Int32)), .val (.long y11), .second] [(.long (((((((((((((0 : Int64) + y0) + y1) + y2) + y3) + y4) + y5) + y6) + y7) + y8) + y9) + y10) + y11))])) (fun _ k => XS.ladd X1.here hx rfl (hb hby d6_30) rfl k) ?_
  refine own_st (T' := T1) (F' := (mkF m 32 #[.val (.ref o), .val (.long (((((((((((((0 : Int64) + y0) + y1) + y2) + y3) + y4) + y5) + y6) + y7) + y8) + y9) + y10) + y11)), .second, .val (.ref ev), .val (.int (20 : Int32)), .val (.int (11 : Int32)), .val (.long y11), .second] [])) (fun _ k => XS.lstoreN X1.here hx rfl (hb hby d6_31) rfl (l' := #[.val (.ref o), .val (.long (((((((((((((0 : Int64) + y0) + y1) + y2) + y3) + y4) + y5) + y6) + y7) + y8) + y9) + y10) + y11)), .second, .val (.ref ev), .val (.int (20 : Int32)), .val (.int (11 : Int32)), .val (.long y11), .second]) rfl k) ?_
  refine own_st (T' := T1) (F' := (mkF m 35 #[.val (.ref o), .val (.long (((((((((((((0 : Int64) + y0) + y1) + y2) + y3) + y4) + y5) + y6) + y7) + y8) + y9) + y10) + y11)), .second, .val (.ref ev), .val (.int (20 : Int32)), .val (.int (12 : Int32)), .val (.long y11), .second] [])) (fun _ k => XS.iinc X1.here hx rfl (hb hby d6_32) rfl (l' := #[.val (.ref o), .val (.long (((((((((((((0 : Int64) + y0) + y1) + y2) + y3) + y4) + y5) + y6) + y7) + y8) + y9) + y10) + y11)), .second, .val (.ref ev), .val (.int (20 : Int32)), .val (.int (12 : Int32)), .val (.long y11), .second]) rfl k) ?_
  refine own_st (T' := T1) (F' := (mkF m 14 #[.val (.ref o), .val (.long (((((((((((((0 : Int64) + y0) + y1) + y2) + y3) + y4) + y5) + y6) + y7) + y8) + y9) + y10) + y11)), .second, .val (.ref ev), .val (.int (20 : Int32)), .val (.int (12 : Int32)), .val (.long y11), .second] [])) (fun _ k => XS.goto X1.here hx rfl (pc0 := 35) (pc' := 14) rfl (hb hby d6_35) (by decide) (by decide) k) ?_
  refine own_st (T' := T1) (F' := (mkF m 16 #[.val (.ref o), .val (.long (((((((((((((0 : Int64) + y0) + y1) + y2) + y3) + y4) + y5) + y6) + y7) + y8) + y9) + y10) + y11)), .second, .val (.ref ev), .val (.int (20 : Int32)), .val (.int (12 : Int32)), .val (.long y11), .second] [(.int (12 : Int32))])) (fun _ k => XS.iload X1.here hx rfl (hb hby d6_14) rfl  k) ?_
  refine own_st (T' := T1) (F' := (mkF m 18 #[.val (.ref o), .val (.long (((((((((((((0 : Int64) + y0) + y1) + y2) + y3) + y4) + y5) + y6) + y7) + y8) + y9) + y10) + y11)), .second, .val (.ref ev), .val (.int (20 : Int32)), .val (.int (12 : Int32)), .val (.long y11), .second] [(.int (20 : Int32)), (.int (12 : Int32))])) (fun _ k => XS.iload X1.here hx rfl (hb hby d6_16) rfl  k) ?_
  refine own_icmp X1 hx (pc' := 38) (pc2 := 21) (hb hby d6_18) (by decide) (by decide) rfl (fun (hc18_27 : ¬ ((12 : Int32) < (20 : Int32))) => ?_) (fun (hc18_27 : (12 : Int32) < (20 : Int32)) => ?_)
  · exact absurd hc18_27 (by decide)
  refine own_st (T' := T1) (F' := (mkF m 22 #[.val (.ref o), .val (.long (((((((((((((0 : Int64) + y0) + y1) + y2) + y3) + y4) + y5) + y6) + y7) + y8) + y9) + y10) + y11)), .second, .val (.ref ev), .val (.int (20 : Int32)), .val (.int (12 : Int32)), .val (.long y11), .second] [(.ref ev)])) (fun _ k => XS.aloadN X1.here hx rfl (hb hby d6_21) rfl rfl k) ?_
  refine own_st (T' := T1) (F' := (mkF m 24 #[.val (.ref o), .val (.long (((((((((((((0 : Int64) + y0) + y1) + y2) + y3) + y4) + y5) + y6) + y7) + y8) + y9) + y10) + y11)), .second, .val (.ref ev), .val (.int (20 : Int32)), .val (.int (12 : Int32)), .val (.long y11), .second] [(.int (12 : Int32)), (.ref ev)])) (fun _ k => XS.iload X1.here hx rfl (hb hby d6_22) rfl  k) ?_
  obtain ⟨y12, hy12⟩ := own_el V_e 12 (by decide)
  obtain ⟨cl28, Ar28, Aq28, As28, Am28, Ah28, Au28⟩ := id V_e
  have hin28 : ¬ ((12 : Int32) < 0 ∨ cl28.slots.size ≤ ((12 : Int32)).toNatClampNeg) := inb_of As28 ⟨by decide, by decide⟩
  have hat28 : cl28.slots[((12 : Int32)).toNatClampNeg]? = some (.long y12) := Ah28.at hin28 (hy12)
  refine own_st (T' := T1) (F' := (mkF m 25 #[.val (.ref o), .val (.long (((((((((((((0 : Int64) + y0) + y1) + y2) + y3) + y4) + y5) + y6) + y7) + y8) + y9) + y10) + y11)), .second, .val (.ref ev), .val (.int (20 : Int32)), .val (.int (12 : Int32)), .val (.long y11), .second] [(.long y12)])) (fun _ k => X1.laload hx (j := (12 : Int32)) (v := (.long y12)) (by rw [e1]; exact Ar28.1) (State.isArrayOf_alike hZ.alike Ar28.2.1) Ar28.2.2 hin28 hat28 (g := (mkF m 24 #[.val (.ref o), .val (.long (((((((((((((0 : Int64) + y0) + y1) + y2) + y3) + y4) + y5) + y6) + y7) + y8) + y9) + y10) + y11)), .second, .val (.ref ev), .val (.int (20 : Int32)), .val (.int (12 : Int32)), .val (.long y11), .second] [(.int (12 : Int32)), (.ref ev)])) rfl rfl (hb hby d6_24) _ k) ?_
  refine own_st (T' := T1) (F' := (mkF m 27 #[.val (.ref o), .val (.long (((((((((((((0 : Int64) + y0) + y1) + y2) + y3) + y4) + y5) + y6) + y7) + y8) + y9) + y10) + y11)), .second, .val (.ref ev), .val (.int (20 : Int32)), .val (.int (12 : Int32)), .val (.long y12), .second] [])) (fun _ k => XS.lstore X1.here hx rfl (hb hby d6_25) rfl (l' := #[.val (.ref o), .val (.long (((((((((((((0 : Int64) + y0) + y1) + y2) + y3) + y4) + y5) + y6) + y7) + y8) + y9) + y10) + y11)), .second, .val (.ref ev), .val (.int (20 : Int32)), .val (.int (12 : Int32)), .val (.long y12), .second]) rfl k) ?_
  refine own_st (T' := T1) (F' := (mkF m 28 #[.val (.ref o), .val (.long (((((((((((((0 : Int64) + y0) + y1) + y2) + y3) + y4) + y5) + y6) + y7) + y8) + y9) + y10) + y11)), .second, .val (.ref ev), .val (.int (20 : Int32)), .val (.int (12 : Int32)), .val (.long y12), .second] [(.long (((((((((((((0 : Int64) + y0) + y1) + y2) + y3) + y4) + y5) + y6) + y7) + y8) + y9) + y10) + y11))])) (fun _ k => XS.lloadN X1.here hx rfl (hb hby d6_27) rfl  k) ?_
  refine own_st (T' := T1) (F' := (mkF m 30 #[.val (.ref o), .val (.long (((((((((((((0 : Int64) + y0) + y1) + y2) + y3) + y4) + y5) + y6) + y7) + y8) + y9) + y10) + y11)), .second, .val (.ref ev), .val (.int (20 : Int32)), .val (.int (12 : Int32)), .val (.long y12), .second] [(.long y12), (.long (((((((((((((0 : Int64) + y0) + y1) + y2) + y3) + y4) + y5) + y6) + y7) + y8) + y9) + y10) + y11))])) (fun _ k => XS.lload X1.here hx rfl (hb hby d6_28) rfl  k) ?_
  refine own_st (T' := T1) (F' := (mkF m 31 #[.val (.ref o), .val (.long (((((((((((((0 : Int64) + y0) + y1) + y2) + y3) + y4) + y5) + y6) + y7) + y8) + y9) + y10) + y11)), .second, .val (.ref ev), .val (.int (20 : Int32)), .val (.int (12 : Int32)), .val (.long y12), .second] [(.long ((((((((((((((0 : Int64) + y0) + y1) + y2) + y3) + y4) + y5) + y6) + y7) + y8) + y9) + y10) + y11) + y12))])) (fun _ k => XS.ladd X1.here hx rfl (hb hby d6_30) rfl k) ?_
  refine own_st (T' := T1) (F' := (mkF m 32 #[.val (.ref o), .val (.long ((((((((((((((0 : Int64) + y0) + y1) + y2) + y3) + y4) + y5) + y6) + y7) + y8) + y9) + y10) + y11) + y12)), .second, .val (.ref ev), .val (.int (20 : Int32)), .val (.int (12 : Int32)), .val (.long y12), .second] [])) (fun _ k => XS.lstoreN X1.here hx rfl (hb hby d6_31) rfl (l' := #[.val (.ref o), .val (.long ((((((((((((((0 : Int64) + y0) + y1) + y2) + y3) + y4) + y5) + y6) + y7) + y8) + y9) + y10) + y11) + y12)), .second, .val (.ref ev), .val (.int (20 : Int32)), .val (.int (12 : Int32)), .val (.long y12), .second]) rfl k) ?_
  refine own_st (T' := T1) (F' := (mkF m 35 #[.val (.ref o), .val (.long ((((((((((((((0 : Int64) + y0) + y1) + y2) + y3) + y4) + y5) + y6) + y7) + y8) + y9) + y10) + y11) + y12)), .second, .val (.ref ev), .val (.int (20 : Int32)), .val (.int (13 : Int32)), .val (.long y12), .second] [])) (fun _ k => XS.iinc X1.here hx rfl (hb hby d6_32) rfl (l' := #[.val (.ref o), .val (.long ((((((((((((((0 : Int64) + y0) + y1) + y2) + y3) + y4) + y5) + y6) + y7) + y8) + y9) + y10) + y11) + y12)), .second, .val (.ref ev), .val (.int (20 : Int32)), .val (.int (13 : Int32)), .val (.long y12), .second]) rfl k) ?_
  refine own_st (T' := T1) (F' := (mkF m 14 #[.val (.ref o), .val (.long ((((((((((((((0 : Int64) + y0) + y1) + y2) + y3) + y4) + y5) + y6) + y7) + y8) + y9) + y10) + y11) + y12)), .second, .val (.ref ev), .val (.int (20 : Int32)), .val (.int (13 : Int32)), .val (.long y12), .second] [])) (fun _ k => XS.goto X1.here hx rfl (pc0 := 35) (pc' := 14) rfl (hb hby d6_35) (by decide) (by decide) k) ?_
  refine own_st (T' := T1) (F' := (mkF m 16 #[.val (.ref o), .val (.long ((((((((((((((0 : Int64) + y0) + y1) + y2) + y3) + y4) + y5) + y6) + y7) + y8) + y9) + y10) + y11) + y12)), .second, .val (.ref ev), .val (.int (20 : Int32)), .val (.int (13 : Int32)), .val (.long y12), .second] [(.int (13 : Int32))])) (fun _ k => XS.iload X1.here hx rfl (hb hby d6_14) rfl  k) ?_
  refine own_st (T' := T1) (F' := (mkF m 18 #[.val (.ref o), .val (.long ((((((((((((((0 : Int64) + y0) + y1) + y2) + y3) + y4) + y5) + y6) + y7) + y8) + y9) + y10) + y11) + y12)), .second, .val (.ref ev), .val (.int (20 : Int32)), .val (.int (13 : Int32)), .val (.long y12), .second] [(.int (20 : Int32)), (.int (13 : Int32))])) (fun _ k => XS.iload X1.here hx rfl (hb hby d6_16) rfl  k) ?_
  refine own_icmp X1 hx (pc' := 38) (pc2 := 21) (hb hby d6_18) (by decide) (by decide) rfl (fun (hc18_29 : ¬ ((13 : Int32) < (20 : Int32))) => ?_) (fun (hc18_29 : (13 : Int32) < (20 : Int32)) => ?_)
  · exact absurd hc18_29 (by decide)
  refine own_st (T' := T1) (F' := (mkF m 22 #[.val (.ref o), .val (.long ((((((((((((((0 : Int64) + y0) + y1) + y2) + y3) + y4) + y5) + y6) + y7) + y8) + y9) + y10) + y11) + y12)), .second, .val (.ref ev), .val (.int (20 : Int32)), .val (.int (13 : Int32)), .val (.long y12), .second] [(.ref ev)])) (fun _ k => XS.aloadN X1.here hx rfl (hb hby d6_21) rfl rfl k) ?_
  refine own_st (T' := T1) (F' := (mkF m 24 #[.val (.ref o), .val (.long ((((((((((((((0 : Int64) + y0) + y1) + y2) + y3) + y4) + y5) + y6) + y7) + y8) + y9) + y10) + y11) + y12)), .second, .val (.ref ev), .val (.int (20 : Int32)), .val (.int (13 : Int32)), .val (.long y12), .second] [(.int (13 : Int32)), (.ref ev)])) (fun _ k => XS.iload X1.here hx rfl (hb hby d6_22) rfl  k) ?_
  obtain ⟨y13, hy13⟩ := own_el V_e 13 (by decide)
  obtain ⟨cl30, Ar30, Aq30, As30, Am30, Ah30, Au30⟩ := id V_e
  have hin30 : ¬ ((13 : Int32) < 0 ∨ cl30.slots.size ≤ ((13 : Int32)).toNatClampNeg) := inb_of As30 ⟨by decide, by decide⟩
  have hat30 : cl30.slots[((13 : Int32)).toNatClampNeg]? = some (.long y13) := Ah30.at hin30 (hy13)
  refine own_st (T' := T1) (F' := (mkF m 25 #[.val (.ref o), .val (.long ((((((((((((((0 : Int64) + y0) + y1) + y2) + y3) + y4) + y5) + y6) + y7) + y8) + y9) + y10) + y11) + y12)), .second, .val (.ref ev), .val (.int (20 : Int32)), .val (.int (13 : Int32)), .val (.long y12), .second] [(.long y13)])) (fun _ k => X1.laload hx (j := (13 : Int32)) (v := (.long y13)) (by rw [e1]; exact Ar30.1) (State.isArrayOf_alike hZ.alike Ar30.2.1) Ar30.2.2 hin30 hat30 (g := (mkF m 24 #[.val (.ref o), .val (.long ((((((((((((((0 : Int64) + y0) + y1) + y2) + y3) + y4) + y5) + y6) + y7) + y8) + y9) + y10) + y11) + y12)), .second, .val (.ref ev), .val (.int (20 : Int32)), .val (.int (13 : Int32)), .val (.long y12), .second] [(.int (13 : Int32)), (.ref ev)])) rfl rfl (hb hby d6_24) _ k) ?_
  refine own_st (T' := T1) (F' := (mkF m 27 #[.val (.ref o), .val (.long ((((((((((((((0 : Int64) + y0) + y1) + y2) + y3) + y4) + y5) + y6) + y7) + y8) + y9) + y10) + y11) + y12)), .second, .val (.ref ev), .val (.int (20 : Int32)), .val (.int (13 : Int32)), .val (.long y13), .second] [])) (fun _ k => XS.lstore X1.here hx rfl (hb hby d6_25) rfl (l' := #[.val (.ref o), .val (.long ((((((((((((((0 : Int64) + y0) + y1) + y2) + y3) + y4) + y5) + y6) + y7) + y8) + y9) + y10) + y11) + y12)), .second, .val (.ref ev), .val (.int (20 : Int32)), .val (.int (13 : Int32)), .val (.long y13), .second]) rfl k) ?_
  refine own_st (T' := T1) (F' := (mkF m 28 #[.val (.ref o), .val (.long ((((((((((((((0 : Int64) + y0) + y1) + y2) + y3) + y4) + y5) + y6) + y7) + y8) + y9) + y10) + y11) + y12)), .second, .val (.ref ev), .val (.int (20 : Int32)), .val (.int (13 : Int32)), .val (.long y13), .second] [(.long ((((((((((((((0 : Int64) + y0) + y1) + y2) + y3) + y4) + y5) + y6) + y7) + y8) + y9) + y10) + y11) + y12))])) (fun _ k => XS.lloadN X1.here hx rfl (hb hby d6_27) rfl  k) ?_
  refine own_st (T' := T1) (F' := (mkF m 30 #[.val (.ref o), .val (.long ((((((((((((((0 : Int64) + y0) + y1) + y2) + y3) + y4) + y5) + y6) + y7) + y8) + y9) + y10) + y11) + y12)), .second, .val (.ref ev), .val (.int (20 : Int32)), .val (.int (13 : Int32)), .val (.long y13), .second] [(.long y13), (.long ((((((((((((((0 : Int64) + y0) + y1) + y2) + y3) + y4) + y5) + y6) + y7) + y8) + y9) + y10) + y11) + y12))])) (fun _ k => XS.lload X1.here hx rfl (hb hby d6_28) rfl  k) ?_
  refine own_st (T' := T1) (F' := (mkF m 31 #[.val (.ref o), .val (.long ((((((((((((((0 : Int64) + y0) + y1) + y2) + y3) + y4) + y5) + y6) + y7) + y8) + y9) + y10) + y11) + y12)), .second, .val (.ref ev), .val (.int (20 : Int32)), .val (.int (13 : Int32)), .val (.long y13), .second] [(.long (((((((((((((((0 : Int64) + y0) + y1) + y2) + y3) + y4) + y5) + y6) + y7) + y8) + y9) + y10) + y11) + y12) + y13))])) (fun _ k => XS.ladd X1.here hx rfl (hb hby d6_30) rfl k) ?_
  refine own_st (T' := T1) (F' := (mkF m 32 #[.val (.ref o), .val (.long (((((((((((((((0 : Int64) + y0) + y1) + y2) + y3) + y4) + y5) + y6) + y7) + y8) + y9) + y10) + y11) + y12) + y13)), .second, .val (.ref ev), .val (.int (20 : Int32)), .val (.int (13 : Int32)), .val (.long y13), .second] [])) (fun _ k => XS.lstoreN X1.here hx rfl (hb hby d6_31) rfl (l' := #[.val (.ref o), .val (.long (((((((((((((((0 : Int64) + y0) + y1) + y2) + y3) + y4) + y5) + y6) + y7) + y8) + y9) + y10) + y11) + y12) + y13)), .second, .val (.ref ev), .val (.int (20 : Int32)), .val (.int (13 : Int32)), .val (.long y13), .second]) rfl k) ?_
  refine own_st (T' := T1) (F' := (mkF m 35 #[.val (.ref o), .val (.long (((((((((((((((0 : Int64) + y0) + y1) + y2) + y3) + y4) + y5) + y6) + y7) + y8) + y9) + y10) + y11) + y12) + y13)), .second, .val (.ref ev), .val (.int (20 : Int32)), .val (.int (14 : Int32)), .val (.long y13), .second] [])) (fun _ k => XS.iinc X1.here hx rfl (hb hby d6_32) rfl (l' := #[.val (.ref o), .val (.long (((((((((((((((0 : Int64) + y0) + y1) + y2) + y3) + y4) + y5) + y6) + y7) + y8) + y9) + y10) + y11) + y12) + y13)), .second, .val (.ref ev), .val (.int (20 : Int32)), .val (.int (14 : Int32)), .val (.long y13), .second]) rfl k) ?_
  refine own_st (T' := T1) (F' := (mkF m 14 #[.val (.ref o), .val (.long (((((((((((((((0 : Int64) + y0) + y1) + y2) + y3) + y4) + y5) + y6) + y7) + y8) + y9) + y10) + y11) + y12) + y13)), .second, .val (.ref ev), .val (.int (20 : Int32)), .val (.int (14 : Int32)), .val (.long y13), .second] [])) (fun _ k => XS.goto X1.here hx rfl (pc0 := 35) (pc' := 14) rfl (hb hby d6_35) (by decide) (by decide) k) ?_
  refine own_st (T' := T1) (F' := (mkF m 16 #[.val (.ref o), .val (.long (((((((((((((((0 : Int64) + y0) + y1) + y2) + y3) + y4) + y5) + y6) + y7) + y8) + y9) + y10) + y11) + y12) + y13)), .second, .val (.ref ev), .val (.int (20 : Int32)), .val (.int (14 : Int32)), .val (.long y13), .second] [(.int (14 : Int32))])) (fun _ k => XS.iload X1.here hx rfl (hb hby d6_14) rfl  k) ?_
  refine own_st (T' := T1) (F' := (mkF m 18 #[.val (.ref o), .val (.long (((((((((((((((0 : Int64) + y0) + y1) + y2) + y3) + y4) + y5) + y6) + y7) + y8) + y9) + y10) + y11) + y12) + y13)), .second, .val (.ref ev), .val (.int (20 : Int32)), .val (.int (14 : Int32)), .val (.long y13), .second] [(.int (20 : Int32)), (.int (14 : Int32))])) (fun _ k => XS.iload X1.here hx rfl (hb hby d6_16) rfl  k) ?_
  refine own_icmp X1 hx (pc' := 38) (pc2 := 21) (hb hby d6_18) (by decide) (by decide) rfl (fun (hc18_31 : ¬ ((14 : Int32) < (20 : Int32))) => ?_) (fun (hc18_31 : (14 : Int32) < (20 : Int32)) => ?_)
  · exact absurd hc18_31 (by decide)
  refine own_st (T' := T1) (F' := (mkF m 22 #[.val (.ref o), .val (.long (((((((((((((((0 : Int64) + y0) + y1) + y2) + y3) + y4) + y5) + y6) + y7) + y8) + y9) + y10) + y11) + y12) + y13)), .second, .val (.ref ev), .val (.int (20 : Int32)), .val (.int (14 : Int32)), .val (.long y13), .second] [(.ref ev)])) (fun _ k => XS.aloadN X1.here hx rfl (hb hby d6_21) rfl rfl k) ?_
  refine own_st (T' := T1) (F' := (mkF m 24 #[.val (.ref o), .val (.long (((((((((((((((0 : Int64) + y0) + y1) + y2) + y3) + y4) + y5) + y6) + y7) + y8) + y9) + y10) + y11) + y12) + y13)), .second, .val (.ref ev), .val (.int (20 : Int32)), .val (.int (14 : Int32)), .val (.long y13), .second] [(.int (14 : Int32)), (.ref ev)])) (fun _ k => XS.iload X1.here hx rfl (hb hby d6_22) rfl  k) ?_
  obtain ⟨y14, hy14⟩ := own_el V_e 14 (by decide)
  obtain ⟨cl32, Ar32, Aq32, As32, Am32, Ah32, Au32⟩ := id V_e
  have hin32 : ¬ ((14 : Int32) < 0 ∨ cl32.slots.size ≤ ((14 : Int32)).toNatClampNeg) := inb_of As32 ⟨by decide, by decide⟩
  have hat32 : cl32.slots[((14 : Int32)).toNatClampNeg]? = some (.long y14) := Ah32.at hin32 (hy14)
  refine own_st (T' := T1) (F' := (mkF m 25 #[.val (.ref o), .val (.long (((((((((((((((0 : Int64) + y0) + y1) + y2) + y3) + y4) + y5) + y6) + y7) + y8) + y9) + y10) + y11) + y12) + y13)), .second, .val (.ref ev), .val (.int (20 : Int32)), .val (.int (14 : Int32)), .val (.long y13), .second] [(.long y14)])) (fun _ k => X1.laload hx (j := (14 : Int32)) (v := (.long y14)) (by rw [e1]; exact Ar32.1) (State.isArrayOf_alike hZ.alike Ar32.2.1) Ar32.2.2 hin32 hat32 (g := (mkF m 24 #[.val (.ref o), .val (.long (((((((((((((((0 : Int64) + y0) + y1) + y2) + y3) + y4) + y5) + y6) + y7) + y8) + y9) + y10) + y11) + y12) + y13)), .second, .val (.ref ev), .val (.int (20 : Int32)), .val (.int (14 : Int32)), .val (.long y13), .second] [(.int (14 : Int32)), (.ref ev)])) rfl rfl (hb hby d6_24) _ k) ?_
  refine own_st (T' := T1) (F' := (mkF m 27 #[.val (.ref o), .val (.long (((((((((((((((0 : Int64) + y0) + y1) + y2) + y3) + y4) + y5) + y6) + y7) + y8) + y9) + y10) + y11) + y12) + y13)), .second, .val (.ref ev), .val (.int (20 : Int32)), .val (.int (14 : Int32)), .val (.long y14), .second] [])) (fun _ k => XS.lstore X1.here hx rfl (hb hby d6_25) rfl (l' := #[.val (.ref o), .val (.long (((((((((((((((0 : Int64) + y0) + y1) + y2) + y3) + y4) + y5) + y6) + y7) + y8) + y9) + y10) + y11) + y12) + y13)), .second, .val (.ref ev), .val (.int (20 : Int32)), .val (.int (14 : Int32)), .val (.long y14), .second]) rfl k) ?_
  refine own_st (T' := T1) (F' := (mkF m 28 #[.val (.ref o), .val (.long (((((((((((((((0 : Int64) + y0) + y1) + y2) + y3) + y4) + y5) + y6) + y7) + y8) + y9) + y10) + y11) + y12) + y13)), .second, .val (.ref ev), .val (.int (20 : Int32)), .val (.int (14 : Int32)), .val (.long y14), .second] [(.long (((((((((((((((0 : Int64) + y0) + y1) + y2) + y3) + y4) + y5) + y6) + y7) + y8) + y9) + y10) + y11) + y12) + y13))])) (fun _ k => XS.lloadN X1.here hx rfl (hb hby d6_27) rfl  k) ?_
  refine own_st (T' := T1) (F' := (mkF m 30 #[.val (.ref o), .val (.long (((((((((((((((0 : Int64) + y0) + y1) + y2) + y3) + y4) + y5) + y6) + y7) + y8) + y9) + y10) + y11) + y12) + y13)), .second, .val (.ref ev), .val (.int (20 : Int32)), .val (.int (14 : Int32)), .val (.long y14), .second] [(.long y14), (.long (((((((((((((((0 : Int64) + y0) + y1) + y2) + y3) + y4) + y5) + y6) + y7) + y8) + y9) + y10) + y11) + y12) + y13))])) (fun _ k => XS.lload X1.here hx rfl (hb hby d6_28) rfl  k) ?_
  refine own_st (T' := T1) (F' := (mkF m 31 #[.val (.ref o), .val (.long (((((((((((((((0 : Int64) + y0) + y1) + y2) + y3) + y4) + y5) + y6) + y7) + y8) + y9) + y10) + y11) + y12) + y13)), .second, .val (.ref ev), .val (.int (20 : Int32)), .val (.int (14 : Int32)), .val (.long y14), .second] [(.long ((((((((((((((((0 : Int64) + y0) + y1) + y2) + y3) + y4) + y5) + y6) + y7) + y8) + y9) + y10) + y11) + y12) + y13) + y14))])) (fun _ k => XS.ladd X1.here hx rfl (hb hby d6_30) rfl k) ?_
  refine own_st (T' := T1) (F' := (mkF m 32 #[.val (.ref o), .val (.long ((((((((((((((((0 : Int64) + y0) + y1) + y2) + y3) + y4) + y5) + y6) + y7) + y8) + y9) + y10) + y11) + y12) + y13) + y14)), .second, .val (.ref ev), .val (.int (20 : Int32)), .val (.int (14 : Int32)), .val (.long y14), .second] [])) (fun _ k => XS.lstoreN X1.here hx rfl (hb hby d6_31) rfl (l' := #[.val (.ref o), .val (.long ((((((((((((((((0 : Int64) + y0) + y1) + y2) + y3) + y4) + y5) + y6) + y7) + y8) + y9) + y10) + y11) + y12) + y13) + y14)), .second, .val (.ref ev), .val (.int (20 : Int32)), .val (.int (14 : Int32)), .val (.long y14), .second]) rfl k) ?_
  refine own_st (T' := T1) (F' := (mkF m 35 #[.val (.ref o), .val (.long ((((((((((((((((0 : Int64) + y0) + y1) + y2) + y3) + y4) + y5) + y6) + y7) + y8) + y9) + y10) + y11) + y12) + y13) + y14)), .second, .val (.ref ev), .val (.int (20 : Int32)), .val (.int (15 : Int32)), .val (.long y14), .second] [])) (fun _ k => XS.iinc X1.here hx rfl (hb hby d6_32) rfl (l' := #[.val (.ref o), .val (.long ((((((((((((((((0 : Int64) + y0) + y1) + y2) + y3) + y4) + y5) + y6) + y7) + y8) + y9) + y10) + y11) + y12) + y13) + y14)), .second, .val (.ref ev), .val (.int (20 : Int32)), .val (.int (15 : Int32)), .val (.long y14), .second]) rfl k) ?_
  refine own_st (T' := T1) (F' := (mkF m 14 #[.val (.ref o), .val (.long ((((((((((((((((0 : Int64) + y0) + y1) + y2) + y3) + y4) + y5) + y6) + y7) + y8) + y9) + y10) + y11) + y12) + y13) + y14)), .second, .val (.ref ev), .val (.int (20 : Int32)), .val (.int (15 : Int32)), .val (.long y14), .second] [])) (fun _ k => XS.goto X1.here hx rfl (pc0 := 35) (pc' := 14) rfl (hb hby d6_35) (by decide) (by decide) k) ?_
  refine own_st (T' := T1) (F' := (mkF m 16 #[.val (.ref o), .val (.long ((((((((((((((((0 : Int64) + y0) + y1) + y2) + y3) + y4) + y5) + y6) + y7) + y8) + y9) + y10) + y11) + y12) + y13) + y14)), .second, .val (.ref ev), .val (.int (20 : Int32)), .val (.int (15 : Int32)), .val (.long y14), .second] [(.int (15 : Int32))])) (fun _ k => XS.iload X1.here hx rfl (hb hby d6_14) rfl  k) ?_
  refine own_st (T' := T1) (F' := (mkF m 18 #[.val (.ref o), .val (.long ((((((((((((((((0 : Int64) + y0) + y1) + y2) + y3) + y4) + y5) + y6) + y7) + y8) + y9) + y10) + y11) + y12) + y13) + y14)), .second, .val (.ref ev), .val (.int (20 : Int32)), .val (.int (15 : Int32)), .val (.long y14), .second] [(.int (20 : Int32)), (.int (15 : Int32))])) (fun _ k => XS.iload X1.here hx rfl (hb hby d6_16) rfl  k) ?_
  refine own_icmp X1 hx (pc' := 38) (pc2 := 21) (hb hby d6_18) (by decide) (by decide) rfl (fun (hc18_33 : ¬ ((15 : Int32) < (20 : Int32))) => ?_) (fun (hc18_33 : (15 : Int32) < (20 : Int32)) => ?_)
  · exact absurd hc18_33 (by decide)
  refine own_st (T' := T1) (F' := (mkF m 22 #[.val (.ref o), .val (.long ((((((((((((((((0 : Int64) + y0) + y1) + y2) + y3) + y4) + y5) + y6) + y7) + y8) + y9) + y10) + y11) + y12) + y13) + y14)), .second, .val (.ref ev), .val (.int (20 : Int32)), .val (.int (15 : Int32)), .val (.long y14), .second] [(.ref ev)])) (fun _ k => XS.aloadN X1.here hx rfl (hb hby d6_21) rfl rfl k) ?_
  refine own_st (T' := T1) (F' := (mkF m 24 #[.val (.ref o), .val (.long ((((((((((((((((0 : Int64) + y0) + y1) + y2) + y3) + y4) + y5) + y6) + y7) + y8) + y9) + y10) + y11) + y12) + y13) + y14)), .second, .val (.ref ev), .val (.int (20 : Int32)), .val (.int (15 : Int32)), .val (.long y14), .second] [(.int (15 : Int32)), (.ref ev)])) (fun _ k => XS.iload X1.here hx rfl (hb hby d6_22) rfl  k) ?_
  obtain ⟨y15, hy15⟩ := own_el V_e 15 (by decide)
  obtain ⟨cl34, Ar34, Aq34, As34, Am34, Ah34, Au34⟩ := id V_e
  have hin34 : ¬ ((15 : Int32) < 0 ∨ cl34.slots.size ≤ ((15 : Int32)).toNatClampNeg) := inb_of As34 ⟨by decide, by decide⟩
  have hat34 : cl34.slots[((15 : Int32)).toNatClampNeg]? = some (.long y15) := Ah34.at hin34 (hy15)
  refine own_st (T' := T1) (F' := (mkF m 25 #[.val (.ref o), .val (.long ((((((((((((((((0 : Int64) + y0) + y1) + y2) + y3) + y4) + y5) + y6) + y7) + y8) + y9) + y10) + y11) + y12) + y13) + y14)), .second, .val (.ref ev), .val (.int (20 : Int32)), .val (.int (15 : Int32)), .val (.long y14), .second] [(.long y15)])) (fun _ k => X1.laload hx (j := (15 : Int32)) (v := (.long y15)) (by rw [e1]; exact Ar34.1) (State.isArrayOf_alike hZ.alike Ar34.2.1) Ar34.2.2 hin34 hat34 (g := (mkF m 24 #[.val (.ref o), .val (.long ((((((((((((((((0 : Int64) + y0) + y1) + y2) + y3) + y4) + y5) + y6) + y7) + y8) + y9) + y10) + y11) + y12) + y13) + y14)), .second, .val (.ref ev), .val (.int (20 : Int32)), .val (.int (15 : Int32)), .val (.long y14), .second] [(.int (15 : Int32)), (.ref ev)])) rfl rfl (hb hby d6_24) _ k) ?_
  refine own_st (T' := T1) (F' := (mkF m 27 #[.val (.ref o), .val (.long ((((((((((((((((0 : Int64) + y0) + y1) + y2) + y3) + y4) + y5) + y6) + y7) + y8) + y9) + y10) + y11) + y12) + y13) + y14)), .second, .val (.ref ev), .val (.int (20 : Int32)), .val (.int (15 : Int32)), .val (.long y15), .second] [])) (fun _ k => XS.lstore X1.here hx rfl (hb hby d6_25) rfl (l' := #[.val (.ref o), .val (.long ((((((((((((((((0 : Int64) + y0) + y1) + y2) + y3) + y4) + y5) + y6) + y7) + y8) + y9) + y10) + y11) + y12) + y13) + y14)), .second, .val (.ref ev), .val (.int (20 : Int32)), .val (.int (15 : Int32)), .val (.long y15), .second]) rfl k) ?_
  refine own_st (T' := T1) (F' := (mkF m 28 #[.val (.ref o), .val (.long ((((((((((((((((0 : Int64) + y0) + y1) + y2) + y3) + y4) + y5) + y6) + y7) + y8) + y9) + y10) + y11) + y12) + y13) + y14)), .second, .val (.ref ev), .val (.int (20 : Int32)), .val (.int (15 : Int32)), .val (.long y15), .second] [(.long ((((((((((((((((0 : Int64) + y0) + y1) + y2) + y3) + y4) + y5) + y6) + y7) + y8) + y9) + y10) + y11) + y12) + y13) + y14))])) (fun _ k => XS.lloadN X1.here hx rfl (hb hby d6_27) rfl  k) ?_
  refine own_st (T' := T1) (F' := (mkF m 30 #[.val (.ref o), .val (.long ((((((((((((((((0 : Int64) + y0) + y1) + y2) + y3) + y4) + y5) + y6) + y7) + y8) + y9) + y10) + y11) + y12) + y13) + y14)), .second, .val (.ref ev), .val (.int (20 : Int32)), .val (.int (15 : Int32)), .val (.long y15), .second] [(.long y15), (.long ((((((((((((((((0 : Int64) + y0) + y1) + y2) + y3) + y4) + y5) + y6) + y7) + y8) + y9) + y10) + y11) + y12) + y13) + y14))])) (fun _ k => XS.lload X1.here hx rfl (hb hby d6_28) rfl  k) ?_
  refine own_st (T' := T1) (F' := (mkF m 31 #[.val (.ref o), .val (.long ((((((((((((((((0 : Int64) + y0) + y1) + y2) + y3) + y4) + y5) + y6) + y7) + y8) + y9) + y10) + y11) + y12) + y13) + y14)), .second, .val (.ref ev), .val (.int (20 : Int32)), .val (.int (15 : Int32)), .val (.long y15), .second] [(.long (((((((((((((((((0 : Int64) + y0) + y1) + y2) + y3) + y4) + y5) + y6) + y7) + y8) + y9) + y10) + y11) + y12) + y13) + y14) + y15))])) (fun _ k => XS.ladd X1.here hx rfl (hb hby d6_30) rfl k) ?_
  refine own_st (T' := T1) (F' := (mkF m 32 #[.val (.ref o), .val (.long (((((((((((((((((0 : Int64) + y0) + y1) + y2) + y3) + y4) + y5) + y6) + y7) + y8) + y9) + y10) + y11) + y12) + y13) + y14) + y15)), .second, .val (.ref ev), .val (.int (20 : Int32)), .val (.int (15 : Int32)), .val (.long y15), .second] [])) (fun _ k => XS.lstoreN X1.here hx rfl (hb hby d6_31) rfl (l' := #[.val (.ref o), .val (.long (((((((((((((((((0 : Int64) + y0) + y1) + y2) + y3) + y4) + y5) + y6) + y7) + y8) + y9) + y10) + y11) + y12) + y13) + y14) + y15)), .second, .val (.ref ev), .val (.int (20 : Int32)), .val (.int (15 : Int32)), .val (.long y15), .second]) rfl k) ?_
  refine own_st (T' := T1) (F' := (mkF m 35 #[.val (.ref o), .val (.long (((((((((((((((((0 : Int64) + y0) + y1) + y2) + y3) + y4) + y5) + y6) + y7) + y8) + y9) + y10) + y11) + y12) + y13) + y14) + y15)), .second, .val (.ref ev), .val (.int (20 : Int32)), .val (.int (16 : Int32)), .val (.long y15), .second] [])) (fun _ k => XS.iinc X1.here hx rfl (hb hby d6_32) rfl (l' := #[.val (.ref o), .val (.long (((((((((((((((((0 : Int64) + y0) + y1) + y2) + y3) + y4) + y5) + y6) + y7) + y8) + y9) + y10) + y11) + y12) + y13) + y14) + y15)), .second, .val (.ref ev), .val (.int (20 : Int32)), .val (.int (16 : Int32)), .val (.long y15), .second]) rfl k) ?_
  refine own_st (T' := T1) (F' := (mkF m 14 #[.val (.ref o), .val (.long (((((((((((((((((0 : Int64) + y0) + y1) + y2) + y3) + y4) + y5) + y6) + y7) + y8) + y9) + y10) + y11) + y12) + y13) + y14) + y15)), .second, .val (.ref ev), .val (.int (20 : Int32)), .val (.int (16 : Int32)), .val (.long y15), .second] [])) (fun _ k => XS.goto X1.here hx rfl (pc0 := 35) (pc' := 14) rfl (hb hby d6_35) (by decide) (by decide) k) ?_
  refine own_st (T' := T1) (F' := (mkF m 16 #[.val (.ref o), .val (.long (((((((((((((((((0 : Int64) + y0) + y1) + y2) + y3) + y4) + y5) + y6) + y7) + y8) + y9) + y10) + y11) + y12) + y13) + y14) + y15)), .second, .val (.ref ev), .val (.int (20 : Int32)), .val (.int (16 : Int32)), .val (.long y15), .second] [(.int (16 : Int32))])) (fun _ k => XS.iload X1.here hx rfl (hb hby d6_14) rfl  k) ?_
  refine own_st (T' := T1) (F' := (mkF m 18 #[.val (.ref o), .val (.long (((((((((((((((((0 : Int64) + y0) + y1) + y2) + y3) + y4) + y5) + y6) + y7) + y8) + y9) + y10) + y11) + y12) + y13) + y14) + y15)), .second, .val (.ref ev), .val (.int (20 : Int32)), .val (.int (16 : Int32)), .val (.long y15), .second] [(.int (20 : Int32)), (.int (16 : Int32))])) (fun _ k => XS.iload X1.here hx rfl (hb hby d6_16) rfl  k) ?_
  refine own_icmp X1 hx (pc' := 38) (pc2 := 21) (hb hby d6_18) (by decide) (by decide) rfl (fun (hc18_35 : ¬ ((16 : Int32) < (20 : Int32))) => ?_) (fun (hc18_35 : (16 : Int32) < (20 : Int32)) => ?_)
  · exact absurd hc18_35 (by decide)
  refine own_st (T' := T1) (F' := (mkF m 22 #[.val (.ref o), .val (.long (((((((((((((((((0 : Int64) + y0) + y1) + y2) + y3) + y4) + y5) + y6) + y7) + y8) + y9) + y10) + y11) + y12) + y13) + y14) + y15)), .second, .val (.ref ev), .val (.int (20 : Int32)), .val (.int (16 : Int32)), .val (.long y15), .second] [(.ref ev)])) (fun _ k => XS.aloadN X1.here hx rfl (hb hby d6_21) rfl rfl k) ?_
  refine own_st (T' := T1) (F' := (mkF m 24 #[.val (.ref o), .val (.long (((((((((((((((((0 : Int64) + y0) + y1) + y2) + y3) + y4) + y5) + y6) + y7) + y8) + y9) + y10) + y11) + y12) + y13) + y14) + y15)), .second, .val (.ref ev), .val (.int (20 : Int32)), .val (.int (16 : Int32)), .val (.long y15), .second] [(.int (16 : Int32)), (.ref ev)])) (fun _ k => XS.iload X1.here hx rfl (hb hby d6_22) rfl  k) ?_
  obtain ⟨y16, hy16⟩ := own_el V_e 16 (by decide)
  obtain ⟨cl36, Ar36, Aq36, As36, Am36, Ah36, Au36⟩ := id V_e
  have hin36 : ¬ ((16 : Int32) < 0 ∨ cl36.slots.size ≤ ((16 : Int32)).toNatClampNeg) := inb_of As36 ⟨by decide, by decide⟩
  have hat36 : cl36.slots[((16 : Int32)).toNatClampNeg]? = some (.long y16) := Ah36.at hin36 (hy16)
  refine own_st (T' := T1) (F' := (mkF m 25 #[.val (.ref o), .val (.long (((((((((((((((((0 : Int64) + y0) + y1) + y2) + y3) + y4) + y5) + y6) + y7) + y8) + y9) + y10) + y11) + y12) + y13) + y14) + y15)), .second, .val (.ref ev), .val (.int (20 : Int32)), .val (.int (16 : Int32)), .val (.long y15), .second] [(.long y16)])) (fun _ k => X1.laload hx (j := (16 : Int32)) (v := (.long y16)) (by rw [e1]; exact Ar36.1) (State.isArrayOf_alike hZ.alike Ar36.2.1) Ar36.2.2 hin36 hat36 (g := (mkF m 24 #[.val (.ref o), .val (.long (((((((((((((((((0 : Int64) + y0) + y1) + y2) + y3) + y4) + y5) + y6) + y7) + y8) + y9) + y10) + y11) + y12) + y13) + y14) + y15)), .second, .val (.ref ev), .val (.int (20 : Int32)), .val (.int (16 : Int32)), .val (.long y15), .second] [(.int (16 : Int32)), (.ref ev)])) rfl rfl (hb hby d6_24) _ k) ?_
  refine own_st (T' := T1) (F' := (mkF m 27 #[.val (.ref o), .val (.long (((((((((((((((((0 : Int64) + y0) + y1) + y2) + y3) + y4) + y5) + y6) + y7) + y8) + y9) + y10) + y11) + y12) + y13) + y14) + y15)), .second, .val (.ref ev), .val (.int (20 : Int32)), .val (.int (16 : Int32)), .val (.long y16), .second] [])) (fun _ k => XS.lstore X1.here hx rfl (hb hby d6_25) rfl (l' := #[.val (.ref o), .val (.long (((((((((((((((((0 : Int64) + y0) + y1) + y2) + y3) + y4) + y5) + y6) + y7) + y8) + y9) + y10) + y11) + y12) + y13) + y14) + y15)), .second, .val (.ref ev), .val (.int (20 : Int32)), .val (.int (16 : Int32)), .val (.long y16), .second]) rfl k) ?_
  refine own_st (T' := T1) (F' := (mkF m 28 #[.val (.ref o), .val (.long (((((((((((((((((0 : Int64) + y0) + y1) + y2) + y3) + y4) + y5) + y6) + y7) + y8) + y9) + y10) + y11) + y12) + y13) + y14) + y15)), .second, .val (.ref ev), .val (.int (20 : Int32)), .val (.int (16 : Int32)), .val (.long y16), .second] [(.long (((((((((((((((((0 : Int64) + y0) + y1) + y2) + y3) + y4) + y5) + y6) + y7) + y8) + y9) + y10) + y11) + y12) + y13) + y14) + y15))])) (fun _ k => XS.lloadN X1.here hx rfl (hb hby d6_27) rfl  k) ?_
  refine own_st (T' := T1) (F' := (mkF m 30 #[.val (.ref o), .val (.long (((((((((((((((((0 : Int64) + y0) + y1) + y2) + y3) + y4) + y5) + y6) + y7) + y8) + y9) + y10) + y11) + y12) + y13) + y14) + y15)), .second, .val (.ref ev), .val (.int (20 : Int32)), .val (.int (16 : Int32)), .val (.long y16), .second] [(.long y16), (.long (((((((((((((((((0 : Int64) + y0) + y1) + y2) + y3) + y4) + y5) + y6) + y7) + y8) + y9) + y10) + y11) + y12) + y13) + y14) + y15))])) (fun _ k => XS.lload X1.here hx rfl (hb hby d6_28) rfl  k) ?_
  refine own_st (T' := T1) (F' := (mkF m 31 #[.val (.ref o), .val (.long (((((((((((((((((0 : Int64) + y0) + y1) + y2) + y3) + y4) + y5) + y6) + y7) + y8) + y9) + y10) + y11) + y12) + y13) + y14) + y15)), .second, .val (.ref ev), .val (.int (20 : Int32)), .val (.int (16 : Int32)), .val (.long y16), .second] [(.long ((((((((((((((((((0 : Int64) + y0) + y1) + y2) + y3) + y4) + y5) + y6) + y7) + y8) + y9) + y10) + y11) + y12) + y13) + y14) + y15) + y16))])) (fun _ k => XS.ladd X1.here hx rfl (hb hby d6_30) rfl k) ?_
  refine own_st (T' := T1) (F' := (mkF m 32 #[.val (.ref o), .val (.long ((((((((((((((((((0 : Int64) + y0) + y1) + y2) + y3) + y4) + y5) + y6) + y7) + y8) + y9) + y10) + y11) + y12) + y13) + y14) + y15) + y16)), .second, .val (.ref ev), .val (.int (20 : Int32)), .val (.int (16 : Int32)), .val (.long y16), .second] [])) (fun _ k => XS.lstoreN X1.here hx rfl (hb hby d6_31) rfl (l' := #[.val (.ref o), .val (.long ((((((((((((((((((0 : Int64) + y0) + y1) + y2) + y3) + y4) + y5) + y6) + y7) + y8) + y9) + y10) + y11) + y12) + y13) + y14) + y15) + y16)), .second, .val (.ref ev), .val (.int (20 : Int32)), .val (.int (16 : Int32)), .val (.long y16), .second]) rfl k) ?_
  refine own_st (T' := T1) (F' := (mkF m 35 #[.val (.ref o), .val (.long ((((((((((((((((((0 : Int64) + y0) + y1) + y2) + y3) + y4) + y5) + y6) + y7) + y8) + y9) + y10) + y11) + y12) + y13) + y14) + y15) + y16)), .second, .val (.ref ev), .val (.int (20 : Int32)), .val (.int (17 : Int32)), .val (.long y16), .second] [])) (fun _ k => XS.iinc X1.here hx rfl (hb hby d6_32) rfl (l' := #[.val (.ref o), .val (.long ((((((((((((((((((0 : Int64) + y0) + y1) + y2) + y3) + y4) + y5) + y6) + y7) + y8) + y9) + y10) + y11) + y12) + y13) + y14) + y15) + y16)), .second, .val (.ref ev), .val (.int (20 : Int32)), .val (.int (17 : Int32)), .val (.long y16), .second]) rfl k) ?_
  refine own_st (T' := T1) (F' := (mkF m 14 #[.val (.ref o), .val (.long ((((((((((((((((((0 : Int64) + y0) + y1) + y2) + y3) + y4) + y5) + y6) + y7) + y8) + y9) + y10) + y11) + y12) + y13) + y14) + y15) + y16)), .second, .val (.ref ev), .val (.int (20 : Int32)), .val (.int (17 : Int32)), .val (.long y16), .second] [])) (fun _ k => XS.goto X1.here hx rfl (pc0 := 35) (pc' := 14) rfl (hb hby d6_35) (by decide) (by decide) k) ?_
  refine own_st (T' := T1) (F' := (mkF m 16 #[.val (.ref o), .val (.long ((((((((((((((((((0 : Int64) + y0) + y1) + y2) + y3) + y4) + y5) + y6) + y7) + y8) + y9) + y10) + y11) + y12) + y13) + y14) + y15) + y16)), .second, .val (.ref ev), .val (.int (20 : Int32)), .val (.int (17 : Int32)), .val (.long y16), .second] [(.int (17 : Int32))])) (fun _ k => XS.iload X1.here hx rfl (hb hby d6_14) rfl  k) ?_
  refine own_st (T' := T1) (F' := (mkF m 18 #[.val (.ref o), .val (.long ((((((((((((((((((0 : Int64) + y0) + y1) + y2) + y3) + y4) + y5) + y6) + y7) + y8) + y9) + y10) + y11) + y12) + y13) + y14) + y15) + y16)), .second, .val (.ref ev), .val (.int (20 : Int32)), .val (.int (17 : Int32)), .val (.long y16), .second] [(.int (20 : Int32)), (.int (17 : Int32))])) (fun _ k => XS.iload X1.here hx rfl (hb hby d6_16) rfl  k) ?_
  refine own_icmp X1 hx (pc' := 38) (pc2 := 21) (hb hby d6_18) (by decide) (by decide) rfl (fun (hc18_37 : ¬ ((17 : Int32) < (20 : Int32))) => ?_) (fun (hc18_37 : (17 : Int32) < (20 : Int32)) => ?_)
  · exact absurd hc18_37 (by decide)
  refine own_st (T' := T1) (F' := (mkF m 22 #[.val (.ref o), .val (.long ((((((((((((((((((0 : Int64) + y0) + y1) + y2) + y3) + y4) + y5) + y6) + y7) + y8) + y9) + y10) + y11) + y12) + y13) + y14) + y15) + y16)), .second, .val (.ref ev), .val (.int (20 : Int32)), .val (.int (17 : Int32)), .val (.long y16), .second] [(.ref ev)])) (fun _ k => XS.aloadN X1.here hx rfl (hb hby d6_21) rfl rfl k) ?_
  refine own_st (T' := T1) (F' := (mkF m 24 #[.val (.ref o), .val (.long ((((((((((((((((((0 : Int64) + y0) + y1) + y2) + y3) + y4) + y5) + y6) + y7) + y8) + y9) + y10) + y11) + y12) + y13) + y14) + y15) + y16)), .second, .val (.ref ev), .val (.int (20 : Int32)), .val (.int (17 : Int32)), .val (.long y16), .second] [(.int (17 : Int32)), (.ref ev)])) (fun _ k => XS.iload X1.here hx rfl (hb hby d6_22) rfl  k) ?_
  obtain ⟨y17, hy17⟩ := own_el V_e 17 (by decide)
  obtain ⟨cl38, Ar38, Aq38, As38, Am38, Ah38, Au38⟩ := id V_e
  have hin38 : ¬ ((17 : Int32) < 0 ∨ cl38.slots.size ≤ ((17 : Int32)).toNatClampNeg) := inb_of As38 ⟨by decide, by decide⟩
  have hat38 : cl38.slots[((17 : Int32)).toNatClampNeg]? = some (.long y17) := Ah38.at hin38 (hy17)
  refine own_st (T' := T1) (F' := (mkF m 25 #[.val (.ref o), .val (.long ((((((((((((((((((0 : Int64) + y0) + y1) + y2) + y3) + y4) + y5) + y6) + y7) + y8) + y9) + y10) + y11) + y12) + y13) + y14) + y15) + y16)), .second, .val (.ref ev), .val (.int (20 : Int32)), .val (.int (17 : Int32)), .val (.long y16), .second] [(.long y17)])) (fun _ k => X1.laload hx (j := (17 : Int32)) (v := (.long y17)) (by rw [e1]; exact Ar38.1) (State.isArrayOf_alike hZ.alike Ar38.2.1) Ar38.2.2 hin38 hat38 (g := (mkF m 24 #[.val (.ref o), .val (.long ((((((((((((((((((0 : Int64) + y0) + y1) + y2) + y3) + y4) + y5) + y6) + y7) + y8) + y9) + y10) + y11) + y12) + y13) + y14) + y15) + y16)), .second, .val (.ref ev), .val (.int (20 : Int32)), .val (.int (17 : Int32)), .val (.long y16), .second] [(.int (17 : Int32)), (.ref ev)])) rfl rfl (hb hby d6_24) _ k) ?_
  refine own_st (T' := T1) (F' := (mkF m 27 #[.val (.ref o), .val (.long ((((((((((((((((((0 : Int64) + y0) + y1) + y2) + y3) + y4) + y5) + y6) + y7) + y8) + y9) + y10) + y11) + y12) + y13) + y14) + y15) + y16)), .second, .val (.ref ev), .val (.int (20 : Int32)), .val (.int (17 : Int32)), .val (.long y17), .second] [])) (fun _ k => XS.lstore X1.here hx rfl (hb hby d6_25) rfl (l' := #[.val (.ref o), .val (.long ((((((((((((((((((0 : Int64) + y0) + y1) + y2) + y3) + y4) + y5) + y6) + y7) + y8) + y9) + y10) + y11) + y12) + y13) + y14) + y15) + y16)), .second, .val (.ref ev), .val (.int (20 : Int32)), .val (.int (17 : Int32)), .val (.long y17), .second]) rfl k) ?_
  refine own_st (T' := T1) (F' := (mkF m 28 #[.val (.ref o), .val (.long ((((((((((((((((((0 : Int64) + y0) + y1) + y2) + y3) + y4) + y5) + y6) + y7) + y8) + y9) + y10) + y11) + y12) + y13) + y14) + y15) + y16)), .second, .val (.ref ev), .val (.int (20 : Int32)), .val (.int (17 : Int32)), .val (.long y17), .second] [(.long ((((((((((((((((((0 : Int64) + y0) + y1) + y2) + y3) + y4) + y5) + y6) + y7) + y8) + y9) + y10) + y11) + y12) + y13) + y14) + y15) + y16))])) (fun _ k => XS.lloadN X1.here hx rfl (hb hby d6_27) rfl  k) ?_
  refine own_st (T' := T1) (F' := (mkF m 30 #[.val (.ref o), .val (.long ((((((((((((((((((0 : Int64) + y0) + y1) + y2) + y3) + y4) + y5) + y6) + y7) + y8) + y9) + y10) + y11) + y12) + y13) + y14) + y15) + y16)), .second, .val (.ref ev), .val (.int (20 : Int32)), .val (.int (17 : Int32)), .val (.long y17), .second] [(.long y17), (.long ((((((((((((((((((0 : Int64) + y0) + y1) + y2) + y3) + y4) + y5) + y6) + y7) + y8) + y9) + y10) + y11) + y12) + y13) + y14) + y15) + y16))])) (fun _ k => XS.lload X1.here hx rfl (hb hby d6_28) rfl  k) ?_
  refine own_st (T' := T1) (F' := (mkF m 31 #[.val (.ref o), .val (.long ((((((((((((((((((0 : Int64) + y0) + y1) + y2) + y3) + y4) + y5) + y6) + y7) + y8) + y9) + y10) + y11) + y12) + y13) + y14) + y15) + y16)), .second, .val (.ref ev), .val (.int (20 : Int32)), .val (.int (17 : Int32)), .val (.long y17), .second] [(.long (((((((((((((((((((0 : Int64) + y0) + y1) + y2) + y3) + y4) + y5) + y6) + y7) + y8) + y9) + y10) + y11) + y12) + y13) + y14) + y15) + y16) + y17))])) (fun _ k => XS.ladd X1.here hx rfl (hb hby d6_30) rfl k) ?_
  refine own_st (T' := T1) (F' := (mkF m 32 #[.val (.ref o), .val (.long (((((((((((((((((((0 : Int64) + y0) + y1) + y2) + y3) + y4) + y5) + y6) + y7) + y8) + y9) + y10) + y11) + y12) + y13) + y14) + y15) + y16) + y17)), .second, .val (.ref ev), .val (.int (20 : Int32)), .val (.int (17 : Int32)), .val (.long y17), .second] [])) (fun _ k => XS.lstoreN X1.here hx rfl (hb hby d6_31) rfl (l' := #[.val (.ref o), .val (.long (((((((((((((((((((0 : Int64) + y0) + y1) + y2) + y3) + y4) + y5) + y6) + y7) + y8) + y9) + y10) + y11) + y12) + y13) + y14) + y15) + y16) + y17)), .second, .val (.ref ev), .val (.int (20 : Int32)), .val (.int (17 : Int32)), .val (.long y17), .second]) rfl k) ?_
  refine own_st (T' := T1) (F' := (mkF m 35 #[.val (.ref o), .val (.long (((((((((((((((((((0 : Int64) + y0) + y1) + y2) + y3) + y4) + y5) + y6) + y7) + y8) + y9) + y10) + y11) + y12) + y13) + y14) + y15) + y16) + y17)), .second, .val (.ref ev), .val (.int (20 : Int32)), .val (.int (18 : Int32)), .val (.long y17), .second] [])) (fun _ k => XS.iinc X1.here hx rfl (hb hby d6_32) rfl (l' := #[.val (.ref o), .val (.long (((((((((((((((((((0 : Int64) + y0) + y1) + y2) + y3) + y4) + y5) + y6) + y7) + y8) + y9) + y10) + y11) + y12) + y13) + y14) + y15) + y16) + y17)), .second, .val (.ref ev), .val (.int (20 : Int32)), .val (.int (18 : Int32)), .val (.long y17), .second]) rfl k) ?_
  refine own_st (T' := T1) (F' := (mkF m 14 #[.val (.ref o), .val (.long (((((((((((((((((((0 : Int64) + y0) + y1) + y2) + y3) + y4) + y5) + y6) + y7) + y8) + y9) + y10) + y11) + y12) + y13) + y14) + y15) + y16) + y17)), .second, .val (.ref ev), .val (.int (20 : Int32)), .val (.int (18 : Int32)), .val (.long y17), .second] [])) (fun _ k => XS.goto X1.here hx rfl (pc0 := 35) (pc' := 14) rfl (hb hby d6_35) (by decide) (by decide) k) ?_
  refine own_st (T' := T1) (F' := (mkF m 16 #[.val (.ref o), .val (.long (((((((((((((((((((0 : Int64) + y0) + y1) + y2) + y3) + y4) + y5) + y6) + y7) + y8) + y9) + y10) + y11) + y12) + y13) + y14) + y15) + y16) + y17)), .second, .val (.ref ev), .val (.int (20 : Int32)), .val (.int (18 : Int32)), .val (.long y17), .second] [(.int (18 : Int32))])) (fun _ k => XS.iload X1.here hx rfl (hb hby d6_14) rfl  k) ?_
  refine own_st (T' := T1) (F' := (mkF m 18 #[.val (.ref o), .val (.long (((((((((((((((((((0 : Int64) + y0) + y1) + y2) + y3) + y4) + y5) + y6) + y7) + y8) + y9) + y10) + y11) + y12) + y13) + y14) + y15) + y16) + y17)), .second, .val (.ref ev), .val (.int (20 : Int32)), .val (.int (18 : Int32)), .val (.long y17), .second] [(.int (20 : Int32)), (.int (18 : Int32))])) (fun _ k => XS.iload X1.here hx rfl (hb hby d6_16) rfl  k) ?_
  refine own_icmp X1 hx (pc' := 38) (pc2 := 21) (hb hby d6_18) (by decide) (by decide) rfl (fun (hc18_39 : ¬ ((18 : Int32) < (20 : Int32))) => ?_) (fun (hc18_39 : (18 : Int32) < (20 : Int32)) => ?_)
  · exact absurd hc18_39 (by decide)
  refine own_st (T' := T1) (F' := (mkF m 22 #[.val (.ref o), .val (.long (((((((((((((((((((0 : Int64) + y0) + y1) + y2) + y3) + y4) + y5) + y6) + y7) + y8) + y9) + y10) + y11) + y12) + y13) + y14) + y15) + y16) + y17)), .second, .val (.ref ev), .val (.int (20 : Int32)), .val (.int (18 : Int32)), .val (.long y17), .second] [(.ref ev)])) (fun _ k => XS.aloadN X1.here hx rfl (hb hby d6_21) rfl rfl k) ?_
  refine own_st (T' := T1) (F' := (mkF m 24 #[.val (.ref o), .val (.long (((((((((((((((((((0 : Int64) + y0) + y1) + y2) + y3) + y4) + y5) + y6) + y7) + y8) + y9) + y10) + y11) + y12) + y13) + y14) + y15) + y16) + y17)), .second, .val (.ref ev), .val (.int (20 : Int32)), .val (.int (18 : Int32)), .val (.long y17), .second] [(.int (18 : Int32)), (.ref ev)])) (fun _ k => XS.iload X1.here hx rfl (hb hby d6_22) rfl  k) ?_
  obtain ⟨y18, hy18⟩ := own_el V_e 18 (by decide)
  obtain ⟨cl40, Ar40, Aq40, As40, Am40, Ah40, Au40⟩ := id V_e
  have hin40 : ¬ ((18 : Int32) < 0 ∨ cl40.slots.size ≤ ((18 : Int32)).toNatClampNeg) := inb_of As40 ⟨by decide, by decide⟩
  have hat40 : cl40.slots[((18 : Int32)).toNatClampNeg]? = some (.long y18) := Ah40.at hin40 (hy18)
  refine own_st (T' := T1) (F' := (mkF m 25 #[.val (.ref o), .val (.long (((((((((((((((((((0 : Int64) + y0) + y1) + y2) + y3) + y4) + y5) + y6) + y7) + y8) + y9) + y10) + y11) + y12) + y13) + y14) + y15) + y16) + y17)), .second, .val (.ref ev), .val (.int (20 : Int32)), .val (.int (18 : Int32)), .val (.long y17), .second] [(.long y18)])) (fun _ k => X1.laload hx (j := (18 : Int32)) (v := (.long y18)) (by rw [e1]; exact Ar40.1) (State.isArrayOf_alike hZ.alike Ar40.2.1) Ar40.2.2 hin40 hat40 (g := (mkF m 24 #[.val (.ref o), .val (.long (((((((((((((((((((0 : Int64) + y0) + y1) + y2) + y3) + y4) + y5) + y6) + y7) + y8) + y9) + y10) + y11) + y12) + y13) + y14) + y15) + y16) + y17)), .second, .val (.ref ev), .val (.int (20 : Int32)), .val (.int (18 : Int32)), .val (.long y17), .second] [(.int (18 : Int32)), (.ref ev)])) rfl rfl (hb hby d6_24) _ k) ?_
  refine own_st (T' := T1) (F' := (mkF m 27 #[.val (.ref o), .val (.long (((((((((((((((((((0 : Int64) + y0) + y1) + y2) + y3) + y4) + y5) + y6) + y7) + y8) + y9) + y10) + y11) + y12) + y13) + y14) + y15) + y16) + y17)), .second, .val (.ref ev), .val (.int (20 : Int32)), .val (.int (18 : Int32)), .val (.long y18), .second] [])) (fun _ k => XS.lstore X1.here hx rfl (hb hby d6_25) rfl (l' := #[.val (.ref o), .val (.long (((((((((((((((((((0 : Int64) + y0) + y1) + y2) + y3) + y4) + y5) + y6) + y7) + y8) + y9) + y10) + y11) + y12) + y13) + y14) + y15) + y16) + y17)), .second, .val (.ref ev), .val (.int (20 : Int32)), .val (.int (18 : Int32)), .val (.long y18), .second]) rfl k) ?_
  refine own_st (T' := T1) (F' := (mkF m 28 #[.val (.ref o), .val (.long (((((((((((((((((((0 : Int64) + y0) + y1) + y2) + y3) + y4) + y5) + y6) + y7) + y8) + y9) + y10) + y11) + y12) + y13) + y14) + y15) + y16) + y17)), .second, .val (.ref ev), .val (.int (20 : Int32)), .val (.int (18 : Int32)), .val (.long y18), .second] [(.long (((((((((((((((((((0 : Int64) + y0) + y1) + y2) + y3) + y4) + y5) + y6) + y7) + y8) + y9) + y10) + y11) + y12) + y13) + y14) + y15) + y16) + y17))])) (fun _ k => XS.lloadN X1.here hx rfl (hb hby d6_27) rfl  k) ?_
  refine own_st (T' := T1) (F' := (mkF m 30 #[.val (.ref o), .val (.long (((((((((((((((((((0 : Int64) + y0) + y1) + y2) + y3) + y4) + y5) + y6) + y7) + y8) + y9) + y10) + y11) + y12) + y13) + y14) + y15) + y16) + y17)), .second, .val (.ref ev), .val (.int (20 : Int32)), .val (.int (18 : Int32)), .val (.long y18), .second] [(.long y18), (.long (((((((((((((((((((0 : Int64) + y0) + y1) + y2) + y3) + y4) + y5) + y6) + y7) + y8) + y9) + y10) + y11) + y12) + y13) + y14) + y15) + y16) + y17))])) (fun _ k => XS.lload X1.here hx rfl (hb hby d6_28) rfl  k) ?_
  refine own_st (T' := T1) (F' := (mkF m 31 #[.val (.ref o), .val (.long (((((((((((((((((((0 : Int64) + y0) + y1) + y2) + y3) + y4) + y5) + y6) + y7) + y8) + y9) + y10) + y11) + y12) + y13) + y14) + y15) + y16) + y17)), .second, .val (.ref ev), .val (.int (20 : Int32)), .val (.int (18 : Int32)), .val (.long y18), .second] [(.long ((((((((((((((((((((0 : Int64) + y0) + y1) + y2) + y3) + y4) + y5) + y6) + y7) + y8) + y9) + y10) + y11) + y12) + y13) + y14) + y15) + y16) + y17) + y18))])) (fun _ k => XS.ladd X1.here hx rfl (hb hby d6_30) rfl k) ?_
  refine own_st (T' := T1) (F' := (mkF m 32 #[.val (.ref o), .val (.long ((((((((((((((((((((0 : Int64) + y0) + y1) + y2) + y3) + y4) + y5) + y6) + y7) + y8) + y9) + y10) + y11) + y12) + y13) + y14) + y15) + y16) + y17) + y18)), .second, .val (.ref ev), .val (.int (20 : Int32)), .val (.int (18 : Int32)), .val (.long y18), .second] [])) (fun _ k => XS.lstoreN X1.here hx rfl (hb hby d6_31) rfl (l' := #[.val (.ref o), .val (.long ((((((((((((((((((((0 : Int64) + y0) + y1) + y2) + y3) + y4) + y5) + y6) + y7) + y8) + y9) + y10) + y11) + y12) + y13) + y14) + y15) + y16) + y17) + y18)), .second, .val (.ref ev), .val (.int (20 : Int32)), .val (.int (18 : Int32)), .val (.long y18), .second]) rfl k) ?_
  refine own_st (T' := T1) (F' := (mkF m 35 #[.val (.ref o), .val (.long ((((((((((((((((((((0 : Int64) + y0) + y1) + y2) + y3) + y4) + y5) + y6) + y7) + y8) + y9) + y10) + y11) + y12) + y13) + y14) + y15) + y16) + y17) + y18)), .second, .val (.ref ev), .val (.int (20 : Int32)), .val (.int (19 : Int32)), .val (.long y18), .second] [])) (fun _ k => XS.iinc X1.here hx rfl (hb hby d6_32) rfl (l' := #[.val (.ref o), .val (.long ((((((((((((((((((((0 : Int64) + y0) + y1) + y2) + y3) + y4) + y5) + y6) + y7) + y8) + y9) + y10) + y11) + y12) + y13) + y14) + y15) + y16) + y17) + y18)), .second, .val (.ref ev), .val (.int (20 : Int32)), .val (.int (19 : Int32)), .val (.long y18), .second]) rfl k) ?_
  refine own_st (T' := T1) (F' := (mkF m 14 #[.val (.ref o), .val (.long ((((((((((((((((((((0 : Int64) + y0) + y1) + y2) + y3) + y4) + y5) + y6) + y7) + y8) + y9) + y10) + y11) + y12) + y13) + y14) + y15) + y16) + y17) + y18)), .second, .val (.ref ev), .val (.int (20 : Int32)), .val (.int (19 : Int32)), .val (.long y18), .second] [])) (fun _ k => XS.goto X1.here hx rfl (pc0 := 35) (pc' := 14) rfl (hb hby d6_35) (by decide) (by decide) k) ?_
  refine own_st (T' := T1) (F' := (mkF m 16 #[.val (.ref o), .val (.long ((((((((((((((((((((0 : Int64) + y0) + y1) + y2) + y3) + y4) + y5) + y6) + y7) + y8) + y9) + y10) + y11) + y12) + y13) + y14) + y15) + y16) + y17) + y18)), .second, .val (.ref ev), .val (.int (20 : Int32)), .val (.int (19 : Int32)), .val (.long y18), .second] [(.int (19 : Int32))])) (fun _ k => XS.iload X1.here hx rfl (hb hby d6_14) rfl  k) ?_
  refine own_st (T' := T1) (F' := (mkF m 18 #[.val (.ref o), .val (.long ((((((((((((((((((((0 : Int64) + y0) + y1) + y2) + y3) + y4) + y5) + y6) + y7) + y8) + y9) + y10) + y11) + y12) + y13) + y14) + y15) + y16) + y17) + y18)), .second, .val (.ref ev), .val (.int (20 : Int32)), .val (.int (19 : Int32)), .val (.long y18), .second] [(.int (20 : Int32)), (.int (19 : Int32))])) (fun _ k => XS.iload X1.here hx rfl (hb hby d6_16) rfl  k) ?_
  refine own_icmp X1 hx (pc' := 38) (pc2 := 21) (hb hby d6_18) (by decide) (by decide) rfl (fun (hc18_41 : ¬ ((19 : Int32) < (20 : Int32))) => ?_) (fun (hc18_41 : (19 : Int32) < (20 : Int32)) => ?_)
  · exact absurd hc18_41 (by decide)
  refine own_st (T' := T1) (F' := (mkF m 22 #[.val (.ref o), .val (.long ((((((((((((((((((((0 : Int64) + y0) + y1) + y2) + y3) + y4) + y5) + y6) + y7) + y8) + y9) + y10) + y11) + y12) + y13) + y14) + y15) + y16) + y17) + y18)), .second, .val (.ref ev), .val (.int (20 : Int32)), .val (.int (19 : Int32)), .val (.long y18), .second] [(.ref ev)])) (fun _ k => XS.aloadN X1.here hx rfl (hb hby d6_21) rfl rfl k) ?_
  refine own_st (T' := T1) (F' := (mkF m 24 #[.val (.ref o), .val (.long ((((((((((((((((((((0 : Int64) + y0) + y1) + y2) + y3) + y4) + y5) + y6) + y7) + y8) + y9) + y10) + y11) + y12) + y13) + y14) + y15) + y16) + y17) + y18)), .second, .val (.ref ev), .val (.int (20 : Int32)), .val (.int (19 : Int32)), .val (.long y18), .second] [(.int (19 : Int32)), (.ref ev)])) (fun _ k => XS.iload X1.here hx rfl (hb hby d6_22) rfl  k) ?_
  obtain ⟨y19, hy19⟩ := own_el V_e 19 (by decide)
  obtain ⟨cl42, Ar42, Aq42, As42, Am42, Ah42, Au42⟩ := id V_e
  have hin42 : ¬ ((19 : Int32) < 0 ∨ cl42.slots.size ≤ ((19 : Int32)).toNatClampNeg) := inb_of As42 ⟨by decide, by decide⟩
  have hat42 : cl42.slots[((19 : Int32)).toNatClampNeg]? = some (.long y19) := Ah42.at hin42 (hy19)
  refine own_st (T' := T1) (F' := (mkF m 25 #[.val (.ref o), .val (.long ((((((((((((((((((((0 : Int64) + y0) + y1) + y2) + y3) + y4) + y5) + y6) + y7) + y8) + y9) + y10) + y11) + y12) + y13) + y14) + y15) + y16) + y17) + y18)), .second, .val (.ref ev), .val (.int (20 : Int32)), .val (.int (19 : Int32)), .val (.long y18), .second] [(.long y19)])) (fun _ k => X1.laload hx (j := (19 : Int32)) (v := (.long y19)) (by rw [e1]; exact Ar42.1) (State.isArrayOf_alike hZ.alike Ar42.2.1) Ar42.2.2 hin42 hat42 (g := (mkF m 24 #[.val (.ref o), .val (.long ((((((((((((((((((((0 : Int64) + y0) + y1) + y2) + y3) + y4) + y5) + y6) + y7) + y8) + y9) + y10) + y11) + y12) + y13) + y14) + y15) + y16) + y17) + y18)), .second, .val (.ref ev), .val (.int (20 : Int32)), .val (.int (19 : Int32)), .val (.long y18), .second] [(.int (19 : Int32)), (.ref ev)])) rfl rfl (hb hby d6_24) _ k) ?_
  refine own_st (T' := T1) (F' := (mkF m 27 #[.val (.ref o), .val (.long ((((((((((((((((((((0 : Int64) + y0) + y1) + y2) + y3) + y4) + y5) + y6) + y7) + y8) + y9) + y10) + y11) + y12) + y13) + y14) + y15) + y16) + y17) + y18)), .second, .val (.ref ev), .val (.int (20 : Int32)), .val (.int (19 : Int32)), .val (.long y19), .second] [])) (fun _ k => XS.lstore X1.here hx rfl (hb hby d6_25) rfl (l' := #[.val (.ref o), .val (.long ((((((((((((((((((((0 : Int64) + y0) + y1) + y2) + y3) + y4) + y5) + y6) + y7) + y8) + y9) + y10) + y11) + y12) + y13) + y14) + y15) + y16) + y17) + y18)), .second, .val (.ref ev), .val (.int (20 : Int32)), .val (.int (19 : Int32)), .val (.long y19), .second]) rfl k) ?_
  refine own_st (T' := T1) (F' := (mkF m 28 #[.val (.ref o), .val (.long ((((((((((((((((((((0 : Int64) + y0) + y1) + y2) + y3) + y4) + y5) + y6) + y7) + y8) + y9) + y10) + y11) + y12) + y13) + y14) + y15) + y16) + y17) + y18)), .second, .val (.ref ev), .val (.int (20 : Int32)), .val (.int (19 : Int32)), .val (.long y19), .second] [(.long ((((((((((((((((((((0 : Int64) + y0) + y1) + y2) + y3) + y4) + y5) + y6) + y7) + y8) + y9) + y10) + y11) + y12) + y13) + y14) + y15) + y16) + y17) + y18))])) (fun _ k => XS.lloadN X1.here hx rfl (hb hby d6_27) rfl  k) ?_
  refine own_st (T' := T1) (F' := (mkF m 30 #[.val (.ref o), .val (.long ((((((((((((((((((((0 : Int64) + y0) + y1) + y2) + y3) + y4) + y5) + y6) + y7) + y8) + y9) + y10) + y11) + y12) + y13) + y14) + y15) + y16) + y17) + y18)), .second, .val (.ref ev), .val (.int (20 : Int32)), .val (.int (19 : Int32)), .val (.long y19), .second] [(.long y19), (.long ((((((((((((((((((((0 : Int64) + y0) + y1) + y2) + y3) + y4) + y5) + y6) + y7) + y8) + y9) + y10) + y11) + y12) + y13) + y14) + y15) + y16) + y17) + y18))])) (fun _ k => XS.lload X1.here hx rfl (hb hby d6_28) rfl  k) ?_
  refine own_st (T' := T1) (F' := (mkF m 31 #[.val (.ref o), .val (.long ((((((((((((((((((((0 : Int64) + y0) + y1) + y2) + y3) + y4) + y5) + y6) + y7) + y8) + y9) + y10) + y11) + y12) + y13) + y14) + y15) + y16) + y17) + y18)), .second, .val (.ref ev), .val (.int (20 : Int32)), .val (.int (19 : Int32)), .val (.long y19), .second] [(.long (((((((((((((((((((((0 : Int64) + y0) + y1) + y2) + y3) + y4) + y5) + y6) + y7) + y8) + y9) + y10) + y11) + y12) + y13) + y14) + y15) + y16) + y17) + y18) + y19))])) (fun _ k => XS.ladd X1.here hx rfl (hb hby d6_30) rfl k) ?_
  refine own_st (T' := T1) (F' := (mkF m 32 #[.val (.ref o), .val (.long (((((((((((((((((((((0 : Int64) + y0) + y1) + y2) + y3) + y4) + y5) + y6) + y7) + y8) + y9) + y10) + y11) + y12) + y13) + y14) + y15) + y16) + y17) + y18) + y19)), .second, .val (.ref ev), .val (.int (20 : Int32)), .val (.int (19 : Int32)), .val (.long y19), .second] [])) (fun _ k => XS.lstoreN X1.here hx rfl (hb hby d6_31) rfl (l' := #[.val (.ref o), .val (.long (((((((((((((((((((((0 : Int64) + y0) + y1) + y2) + y3) + y4) + y5) + y6) + y7) + y8) + y9) + y10) + y11) + y12) + y13) + y14) + y15) + y16) + y17) + y18) + y19)), .second, .val (.ref ev), .val (.int (20 : Int32)), .val (.int (19 : Int32)), .val (.long y19), .second]) rfl k) ?_
  refine own_st (T' := T1) (F' := (mkF m 35 #[.val (.ref o), .val (.long (((((((((((((((((((((0 : Int64) + y0) + y1) + y2) + y3) + y4) + y5) + y6) + y7) + y8) + y9) + y10) + y11) + y12) + y13) + y14) + y15) + y16) + y17) + y18) + y19)), .second, .val (.ref ev), .val (.int (20 : Int32)), .val (.int (20 : Int32)), .val (.long y19), .second] [])) (fun _ k => XS.iinc X1.here hx rfl (hb hby d6_32) rfl (l' := #[.val (.ref o), .val (.long (((((((((((((((((((((0 : Int64) + y0) + y1) + y2) + y3) + y4) + y5) + y6) + y7) + y8) + y9) + y10) + y11) + y12) + y13) + y14) + y15) + y16) + y17) + y18) + y19)), .second, .val (.ref ev), .val (.int (20 : Int32)), .val (.int (20 : Int32)), .val (.long y19), .second]) rfl k) ?_
  refine own_st (T' := T1) (F' := (mkF m 14 #[.val (.ref o), .val (.long (((((((((((((((((((((0 : Int64) + y0) + y1) + y2) + y3) + y4) + y5) + y6) + y7) + y8) + y9) + y10) + y11) + y12) + y13) + y14) + y15) + y16) + y17) + y18) + y19)), .second, .val (.ref ev), .val (.int (20 : Int32)), .val (.int (20 : Int32)), .val (.long y19), .second] [])) (fun _ k => XS.goto X1.here hx rfl (pc0 := 35) (pc' := 14) rfl (hb hby d6_35) (by decide) (by decide) k) ?_
  refine own_st (T' := T1) (F' := (mkF m 16 #[.val (.ref o), .val (.long (((((((((((((((((((((0 : Int64) + y0) + y1) + y2) + y3) + y4) + y5) + y6) + y7) + y8) + y9) + y10) + y11) + y12) + y13) + y14) + y15) + y16) + y17) + y18) + y19)), .second, .val (.ref ev), .val (.int (20 : Int32)), .val (.int (20 : Int32)), .val (.long y19), .second] [(.int (20 : Int32))])) (fun _ k => XS.iload X1.here hx rfl (hb hby d6_14) rfl  k) ?_
  refine own_st (T' := T1) (F' := (mkF m 18 #[.val (.ref o), .val (.long (((((((((((((((((((((0 : Int64) + y0) + y1) + y2) + y3) + y4) + y5) + y6) + y7) + y8) + y9) + y10) + y11) + y12) + y13) + y14) + y15) + y16) + y17) + y18) + y19)), .second, .val (.ref ev), .val (.int (20 : Int32)), .val (.int (20 : Int32)), .val (.long y19), .second] [(.int (20 : Int32)), (.int (20 : Int32))])) (fun _ k => XS.iload X1.here hx rfl (hb hby d6_16) rfl  k) ?_
  refine own_icmp X1 hx (pc' := 38) (pc2 := 21) (hb hby d6_18) (by decide) (by decide) rfl (fun (hc18_43 : ¬ ((20 : Int32) < (20 : Int32))) => ?_) (fun (hc18_43 : (20 : Int32) < (20 : Int32)) => ?_)
  rotate_left
  · exact absurd hc18_43 (by decide)
  refine own_st (T' := T1) (F' := (mkF m 39 #[.val (.ref o), .val (.long (((((((((((((((((((((0 : Int64) + y0) + y1) + y2) + y3) + y4) + y5) + y6) + y7) + y8) + y9) + y10) + y11) + y12) + y13) + y14) + y15) + y16) + y17) + y18) + y19)), .second, .val (.ref ev), .val (.int (20 : Int32)), .val (.int (20 : Int32)), .val (.long y19), .second] [(.long (((((((((((((((((((((0 : Int64) + y0) + y1) + y2) + y3) + y4) + y5) + y6) + y7) + y8) + y9) + y10) + y11) + y12) + y13) + y14) + y15) + y16) + y17) + y18) + y19))])) (fun _ k => XS.lloadN X1.here hx rfl (hb hby d6_38) rfl  k) ?_
  refine own_retJ X1 hx hlk Bd.returns (hb hby d6_39) ?_ (by decide) (by decide)
  rw [e1]
  refine ⟨⟨_, rfl, ?_⟩, N0, rfl⟩
  exact own_sum20 hlen hy0 hy1 hy2 hy3 hy4 hy5 hy6 hy7 hy8 hy9 hy10 hy11 hy12 hy13 hy14 hy15 hy16 hy17 hy18 hy19
theorem d7_0 : decode prog_1_method_3_code 0 = .ok (.aload_n 0, 1) := by decide +kernel
theorem d7_1 : decode prog_1_method_3_code 1 = .ok (.getfield 34, 3) := by decide +kernel
theorem d7_4 : decode prog_1_method_3_code 4 = .ok (.lreturn, 1) := by decide +kernel
theorem own_pn7 : plainName "com/example/slotter/slotter/analysis/BatchMeans" = true := by first | (simp [plainName, overriddenIn]; done) | decide +kernel
theorem own_ef7 (m : MethodId) (o : Addr) : entryFrame m #[(.ref o)] 1 = (mkF m 0 #[.val (.ref o)] []) := by first | (simp [entryFrame, mkF, argsToLocals, Value.category]; done) | rfl
def Q7 (Z : State) (o : Addr) (ob : Int64) (h0 : Heap) (n0 : Nat) (v : Option Value) (h : Heap) (L : List Loc) : Prop := (∃ z : Int64, v = some (.long z) ∧ (z = ob)) ∧ Fr n0 L ∧ h = h0
set_option maxRecDepth 65536 in
set_option maxHeartbeats 40000000 in
theorem rm7 (l : Launch) (Z : State) (a0 : Array Value) (hw : ∀ d ∈ tables_1, d.before a0 Z = true) (ws : List Jvm.Cond) (o : Addr) (ob : Int64) (h0 : Heap) (n0 : Nat) (Z0 : n0 ≤ h0.size) (hF0 : Fld Z h0 o "com/example/slotter/slotter/analysis/BatchMeans" "observed" "J" (.long ob)) :
    MetFree l (⟨"com/example/slotter/slotter/analysis/BatchMeans", "observed", "()J"⟩ : MethodName) (head1 (Jvm.Cond.code (⟨"com/example/slotter/slotter/analysis/BatchMeans", "observed", "()J"⟩ : MethodName) prog_1_method_3_code 1 (some .long) :: ws) ({ frames := 0, cells := 0, slots := 0, locals := 0 } : Room)) (fun a U => a = #[(.ref o)] ∧ Z.Warmed39 U.vm ∧ U.heap = h0) (fun _ _ _ _ _ => True) (fun _ U oc U' => ∃ v L, oc = .returned v ∧ Q7 Z o ob h0 n0 v U'.heap L ∧ FrameEnd U oc U' L ({ frames := 0, cells := 0, slots := 0, locals := 0 } : Room).cells ({ frames := 0, cells := 0, slots := 0, locals := 0 } : Room).slots) := by
  refine MetFree.of_bodySF (plainFor_of_name own_pn7) hisR ?_
  intro p e s m args below meth c s₁ Bd hml0 hP hK
  obtain ⟨rfl, hZ, hh⟩ := hP
  have hx := Bd.exec
  have hby := Bd.bytes
  have hlk : meth.locks = false := BodyLoose.notSynchronized Bd
  have hml : c.maxLocals = 1 := hml0
  have hown : s.vm.findClass "com/example/slotter/slotter/analysis/BatchMeans" = some m.cls := findClass_of_methodNamed Bd.named
  have hnm := (name_of_methodNamed Bd.named Bd.method).1
  have X0 : Stand p l e ({ frames := 0, cells := 0, slots := 0, locals := 0 } : Room) s m #[(.ref o)] below meth c s₁ [] 0 0 := Stand.of_body Bd
  have e0 : s₁.heap = h0 := by rw [← hh, Bd.state]; rfl
  have N0 := Fr.nil n0
  refine own_enter (own_ef7 m o) ?_
  show own_Go p e below s (Q7 Z o ob h0 n0) ({ frames := 0, cells := 0, slots := 0, locals := 0 } : Room).cells ({ frames := 0, cells := 0, slots := 0, locals := 0 } : Room).slots s₁ (mkF m 0 #[.val (.ref o)] [])
  refine own_st (T' := s₁) (F' := (mkF m 1 #[.val (.ref o)] [(.ref o)])) (fun _ k => XS.aloadN X0.here hx rfl (hb hby d7_0) rfl rfl k) ?_
  obtain ⟨T1, X1, e1, st1⟩ := getF X0 hx hZ hown (host := "") (Or.inl (hw _ (List.mem_of_getElem? (i := 31) rfl))) Via.refl e0 hF0 (g := (mkF m 1 #[.val (.ref o)] [(.ref o)])) rfl rfl (hb hby d7_1)
  refine own_st (T' := T1) (F' := (mkF m 4 #[.val (.ref o)] [(.long ob)])) (fun _ k => st1 _ k) ?_
  refine own_retJ X1 hx hlk Bd.returns (hb hby d7_4) ?_ (by decide) (by decide)
  rw [e1]
  refine ⟨⟨_, rfl, ?_⟩, N0, rfl⟩
  rfl
theorem own_pd1 : parseMethodDescriptor "(J)V" = some ⟨[.long], none⟩ := by decide +kernel
theorem own_pd2 : parseMethodDescriptor "(II)I" = some ⟨[.int, .int], some .int⟩ := by decide +kernel
theorem own_pd3 : parseMethodDescriptor "(Z)V" = some ⟨[.boolean], none⟩ := by decide +kernel
theorem own_pd4 : parseMethodDescriptor "()J" = some ⟨[], some .long⟩ := by decide +kernel
theorem own_pn0 : plainName "com/example/slotter/slotter/analysis/BatchMeansEventsPinLaw" = true := by first | (simp [plainName, overriddenIn]; done) | decide +kernel
theorem own_ef0 (m : MethodId) (x0 : Int32) (x1 : Int32) (x2 : Int32) : entryFrame m #[(.int x0), (.int x1), (.int x2)] maxLocals = (mkF m 0 #[.val (.int x0), .val (.int x1), .val (.int x2), .unset, .unset, .unset, .unset, .unset, .unset] []) := by first | (simp [entryFrame, mkF, argsToLocals, Value.category, maxLocals]; done) | rfl
def Q0 (Z : State) (x0 : Int32) (x1 : Int32) (x2 : Int32)  (h0 : Heap) (n0 : Nat) (v : Option Value) (h : Heap) (L : List Loc) : Prop := (∃ z : Int32, v = some (.int z) ∧ (z = 1)) ∧ Fr n0 L
set_option maxRecDepth 65536 in
set_option maxHeartbeats 40000000 in
theorem rm0 (l : Launch) (Z : State) (a0 : Array Value) (hw : ∀ d ∈ tables_1, d.before a0 Z = true) (ws : List Jvm.Cond) (x0 : Int32) (x1 : Int32) (x2 : Int32)  (h0 : Heap) (n0 : Nat) (Z0 : n0 ≤ h0.size)  :
    MetFree l x (head1 (Jvm.Cond.code x code maxLocals ret :: ws) room_1) (fun a U => a = #[(.int x0), (.int x1), (.int x2)] ∧ Z.Warmed39 U.vm ∧ U.heap = h0) (fun _ _ _ _ _ => True) (fun _ U oc U' => ∃ v L, oc = .returned v ∧ Q0 Z x0 x1 x2  h0 n0 v U'.heap L ∧ FrameEnd U oc U' L room_1.cells room_1.slots) := by
  refine MetFree.of_bodySF (plainFor_of_name own_pn0) hisR ?_
  intro p e s m args below meth c s₁ Bd hml0 hP hK
  obtain ⟨rfl, hZ, hh⟩ := hP
  have hx := Bd.exec
  have hby := Bd.bytes
  have hlk : meth.locks = false := BodyLoose.notSynchronized Bd
  have hml : c.maxLocals = 9 := hml0
  have hown : s.vm.findClass "com/example/slotter/slotter/analysis/BatchMeansEventsPinLaw" = some m.cls := findClass_of_methodNamed Bd.named
  have hnm := (name_of_methodNamed Bd.named Bd.method).1
  have X0 : Stand p l e room_1 s m #[(.int x0), (.int x1), (.int x2)] below meth c s₁ [] 0 0 := Stand.of_body Bd
  have e0 : s₁.heap = h0 := by rw [← hh, Bd.state]; rfl
  have N0 := Fr.nil n0
  refine own_enter (own_ef0 m x0 x1 x2) ?_
  show own_Go p e below s (Q0 Z x0 x1 x2  h0 n0) room_1.cells room_1.slots s₁ (mkF m 0 #[.val (.int x0), .val (.int x1), .val (.int x2), .unset, .unset, .unset, .unset, .unset, .unset] [])
  refine own_st (T' := s₁) (F' := (mkF m 3 #[.val (.int x0), .val (.int x1), .val (.int x2), .unset, .unset, .unset, .unset, .unset, .unset] [(.long (20 : Int64))])) (fun _ k => X0.ldc2Long hx hown (mvT hZ (hw _ (List.mem_of_getElem? (i := 0) rfl))) (g := (mkF m 0 #[.val (.int x0), .val (.int x1), .val (.int x2), .unset, .unset, .unset, .unset, .unset, .unset] [])) rfl (hb hby at_0) _ k) ?_
  refine own_st (T' := s₁) (F' := (mkF m 4 #[.val (.int x0), .val (.int x1), .val (.int x2), .unset, .unset, .unset, .unset, .unset, .unset] [(.int x0), (.long (20 : Int64))])) (fun _ k => XS.iloadN X0.here hx rfl (hb hby at_3) rfl  k) ?_
  refine own_st (T' := s₁) (F' := (mkF m 6 #[.val (.int x0), .val (.int x1), .val (.int x2), .unset, .unset, .unset, .unset, .unset, .unset] [(.int (15 : Int32)), (.int x0), (.long (20 : Int64))])) (fun _ k => XS.bipush X0.here hx rfl (hb hby at_4) k) ?_
  refine own_st (T' := s₁) (F' := (mkF m 7 #[.val (.int x0), .val (.int x1), .val (.int x2), .unset, .unset, .unset, .unset, .unset, .unset] [(.int (x0 &&& (15 : Int32))), (.long (20 : Int64))])) (fun _ k => XS.iand X0.here hx rfl (hb hby at_6) rfl k) ?_
  refine own_st (T' := s₁) (F' := (mkF m 8 #[.val (.int x0), .val (.int x1), .val (.int x2), .unset, .unset, .unset, .unset, .unset, .unset] [(.long ((x0 &&& (15 : Int32)).toInt64)), (.long (20 : Int64))])) (fun _ k => XS.i2l X0.here hx rfl (hb hby at_7) rfl k) ?_
  refine own_st (T' := s₁) (F' := (mkF m 9 #[.val (.int x0), .val (.int x1), .val (.int x2), .unset, .unset, .unset, .unset, .unset, .unset] [(.long ((20 : Int64) + ((x0 &&& (15 : Int32)).toInt64)))])) (fun _ k => XS.ladd X0.here hx rfl (hb hby at_8) rfl k) ?_
  refine own_st (T' := s₁) (F' := (mkF m 10 #[.val (.int x0), .val (.int x1), .val (.int x2), .val (.long ((20 : Int64) + ((x0 &&& (15 : Int32)).toInt64))), .second, .unset, .unset, .unset, .unset] [])) (fun _ k => XS.lstoreN X0.here hx rfl (hb hby at_9) rfl (l' := #[.val (.int x0), .val (.int x1), .val (.int x2), .val (.long ((20 : Int64) + ((x0 &&& (15 : Int32)).toInt64))), .second, .unset, .unset, .unset, .unset]) rfl k) ?_
  refine own_st (T' := s₁) (F' := (mkF m 11 #[.val (.int x0), .val (.int x1), .val (.int x2), .val (.long ((20 : Int64) + ((x0 &&& (15 : Int32)).toInt64))), .second, .unset, .unset, .unset, .unset] [(.int x1)])) (fun _ k => XS.iloadN X0.here hx rfl (hb hby at_10) rfl  k) ?_
  refine own_st (T' := s₁) (F' := (mkF m 13 #[.val (.int x0), .val (.int x1), .val (.int x2), .val (.long ((20 : Int64) + ((x0 &&& (15 : Int32)).toInt64))), .second, .unset, .unset, .unset, .unset] [(.int (15 : Int32)), (.int x1)])) (fun _ k => XS.bipush X0.here hx rfl (hb hby at_11) k) ?_
  refine own_st (T' := s₁) (F' := (mkF m 14 #[.val (.int x0), .val (.int x1), .val (.int x2), .val (.long ((20 : Int64) + ((x0 &&& (15 : Int32)).toInt64))), .second, .unset, .unset, .unset, .unset] [(.int (x1 &&& (15 : Int32)))])) (fun _ k => XS.iand X0.here hx rfl (hb hby at_13) rfl k) ?_
  refine own_st (T' := s₁) (F' := (mkF m 16 #[.val (.int x0), .val (.int x1), .val (.int x2), .val (.long ((20 : Int64) + ((x0 &&& (15 : Int32)).toInt64))), .second, .unset, .unset, .unset, .unset] [(.int (9 : Int32)), (.int (x1 &&& (15 : Int32)))])) (fun _ k => XS.bipush X0.here hx rfl (hb hby at_14) k) ?_
  refine own_st (T' := s₁) (F' := (mkF m 17 #[.val (.int x0), .val (.int x1), .val (.int x2), .val (.long ((20 : Int64) + ((x0 &&& (15 : Int32)).toInt64))), .second, .unset, .unset, .unset, .unset] [(.int ((x1 &&& (15 : Int32)) % (9 : Int32)))])) (fun _ k => iremM X0 hx rfl (hb hby at_16) rfl (by decide) k) ?_
  refine own_st (T' := s₁) (F' := (mkF m 19 #[.val (.int x0), .val (.int x1), .val (.int x2), .val (.long ((20 : Int64) + ((x0 &&& (15 : Int32)).toInt64))), .second, .val (.int ((x1 &&& (15 : Int32)) % (9 : Int32))), .unset, .unset, .unset] [])) (fun _ k => XS.istore X0.here hx rfl (hb hby at_17) rfl (l' := #[.val (.int x0), .val (.int x1), .val (.int x2), .val (.long ((20 : Int64) + ((x0 &&& (15 : Int32)).toInt64))), .second, .val (.int ((x1 &&& (15 : Int32)) % (9 : Int32))), .unset, .unset, .unset]) rfl k) ?_
  obtain ⟨T1, h1, X1, e1, E1, A1, D1, -, st1⟩ := newO X0 hx hZ hown (hw _ (List.mem_of_getElem? (i := 1) rfl)) (hw _ (List.mem_of_getElem? (i := 2) rfl)) (hw _ (List.mem_of_getElem? (i := 3) rfl)) e0 (g := (mkF m 19 #[.val (.int x0), .val (.int x1), .val (.int x2), .val (.long ((20 : Int64) + ((x0 &&& (15 : Int32)).toInt64))), .second, .val (.int ((x1 &&& (15 : Int32)) % (9 : Int32))), .unset, .unset, .unset] [])) rfl (hb hby at_19) (by decide) (by decide)
  obtain ⟨b1, g1⟩ : ∃ z, z = h0.size := ⟨_, rfl⟩
  rw [← g1] at A1 D1 st1
  have ge1 : n0 ≤ b1 := by rw [g1]; exact Z0
  have hge1 : h0.size ≤ b1 := by rw [g1]; exact (Keep.refl h0 []).1
  have K1 : Keep h0 h1 [] := (Keep.refl h0 []).ext E1
  have Zs1 : n0 ≤ h1.size := Nat.le_trans Z0 K1.1
  have f2 : Fld Z h1 b1 "com/example/slotter/slotter/analysis/BatchMeans" "events" "[J" .null := D1 (Or.inr (hw _ (List.mem_of_getElem? (i := 12) rfl))) (ty := (.array .long)) (by decide)
  have f3 : Fld Z h1 b1 "com/example/slotter/slotter/analysis/BatchMeans" "total" "J" (.long (0 : Int64)) := D1 (Or.inr (hw _ (List.mem_of_getElem? (i := 15) rfl))) (ty := .long) (by decide)
  have f4 : Fld Z h1 b1 "com/example/slotter/slotter/analysis/BatchMeans" "batchEnd" "J" (.long (0 : Int64)) := D1 (Or.inl (hw _ (List.mem_of_getElem? (i := 21) rfl))) (ty := .long) (by decide)
  have f5 : Fld Z h1 b1 "com/example/slotter/slotter/analysis/BatchMeans" "observed" "J" (.long (0 : Int64)) := D1 (Or.inl (hw _ (List.mem_of_getElem? (i := 32) rfl))) (ty := .long) (by decide)
  have f6 : Fld Z h1 b1 "com/example/slotter/slotter/analysis/BatchMeans" "batch" "I" (.int (0 : Int32)) := D1 (Or.inl (hw _ (List.mem_of_getElem? (i := 34) rfl))) (ty := .int) (by decide)
  refine own_st (T' := T1) (F' := (mkF m 22 #[.val (.int x0), .val (.int x1), .val (.int x2), .val (.long ((20 : Int64) + ((x0 &&& (15 : Int32)).toInt64))), .second, .val (.int ((x1 &&& (15 : Int32)) % (9 : Int32))), .unset, .unset, .unset] [(.ref b1)])) (fun _ k => st1 _ k) ?_
  refine own_st (T' := T1) (F' := (mkF m 23 #[.val (.int x0), .val (.int x1), .val (.int x2), .val (.long ((20 : Int64) + ((x0 &&& (15 : Int32)).toInt64))), .second, .val (.int ((x1 &&& (15 : Int32)) % (9 : Int32))), .unset, .unset, .unset] [(.ref b1), (.ref b1)])) (fun _ k => XS.dup X1.here hx rfl (hb hby at_22) rfl rfl k) ?_
  refine own_st (T' := T1) (F' := (mkF m 24 #[.val (.int x0), .val (.int x1), .val (.int x2), .val (.long ((20 : Int64) + ((x0 &&& (15 : Int32)).toInt64))), .second, .val (.int ((x1 &&& (15 : Int32)) % (9 : Int32))), .unset, .unset, .unset] [(.long ((20 : Int64) + ((x0 &&& (15 : Int32)).toInt64))), (.ref b1), (.ref b1)])) (fun _ k => XS.lloadN X1.here hx rfl (hb hby at_23) rfl  k) ?_
  obtain ⟨_, _, ⟨T7, L7, k7, n7⟩, -, X7, ⟨Lc7, hQ7, l7, y7, z7⟩, st7⟩ := X1.specialBack hx (y := (⟨"com/example/slotter/slotter/analysis/BatchMeans", "<init>", "(J)V"⟩ : MethodName)) rfl hown (mvT hZ (hw _ (List.mem_of_getElem? (i := 4) rfl))) (mvT hZ (hw _ (List.mem_of_getElem? (i := 5) rfl))) (mvT hZ (hw _ (List.mem_of_getElem? (i := 6) rfl))) (by decide) (backOf (W := 1) (rm1 l Z a0 hw [] b1 ((20 : Int64) + ((x0 &&& (15 : Int32)).toInt64)) (.null) (.long (0 : Int64)) (.long (0 : Int64)) h1 n0 Zs1 ge1 A1 f2 f3 f4 f5 f6 (own_t20 x0)) hZ (hw _ (List.mem_of_getElem? (i := 6) rfl)) (hw _ (List.mem_of_getElem? (i := 3) rfl)) (by decide) (by decide)) (g := (mkF m 24 #[.val (.int x0), .val (.int x1), .val (.int x2), .val (.long ((20 : Int64) + ((x0 &&& (15 : Int32)).toInt64))), .second, .val (.int ((x1 &&& (15 : Int32)) % (9 : Int32))), .unset, .unset, .unset] [(.long ((20 : Int64) + ((x0 &&& (15 : Int32)).toInt64))), (.ref b1), (.ref b1)])) rfl (by rw [hml]; rfl) (Steps.refl _) (a := b1) (argsL := [(.long ((20 : Int64) + ((x0 &&& (15 : Int32)).toInt64)))]) (rest := [(.ref b1)]) (lenOf own_pd1 rfl) rfl (by show 2 * 0 + _ ≤ _; exact Nat.le_of_eq rfl) (hb hby at_24) (fun _ _ => ⟨rfl, e1, (by decide : 1 + 1 ≤ _), (by decide : 5 + 20 ≤ _)⟩)
  dsimp only [Pt.U, Pt.locs, Pt.cells, Pt.slots] at X7 l7 y7 z7 st7 hQ7
  subst l7 y7 z7
  obtain ⟨rfl, Nq7, g7_0, g7_1, g7_2⟩ := hQ7
  have N7 := Fr.app N0 Nq7
  have K7 : Keep h0 T7.heap [] := K1.trans g7_0 (allS (Or.inr hge1) all0)
  have Zs7 : n0 ≤ T7.heap.size := Nat.le_trans Z0 K7.1
  obtain ⟨ev, k7k, be7, gev, fE7, fT7, fB7, fO7, fA7, vE7⟩ := g7_2
  have ge_ev : n0 ≤ ev := Nat.le_trans Zs1 gev
  have hge_ev : h0.size ≤ ev := Nat.le_trans K1.1 gev
  have ne_ev : ev ≠ b1 := (Nat.ne_of_lt (Nat.lt_of_lt_of_le A1.lt gev)).symm
  refine own_tr (T' := T7) (F' := (mkF m 27 #[.val (.int x0), .val (.int x1), .val (.int x2), .val (.long ((20 : Int64) + ((x0 &&& (15 : Int32)).toInt64))), .second, .val (.int ((x1 &&& (15 : Int32)) % (9 : Int32))), .unset, .unset, .unset] [(.ref b1)])) st7 ?_
  refine own_st (T' := T7) (F' := (mkF m 29 #[.val (.int x0), .val (.int x1), .val (.int x2), .val (.long ((20 : Int64) + ((x0 &&& (15 : Int32)).toInt64))), .second, .val (.int ((x1 &&& (15 : Int32)) % (9 : Int32))), .val (.ref b1), .unset, .unset] [])) (fun _ k => XS.astore X7.here hx rfl (hb hby at_27) rfl rfl (l' := #[.val (.int x0), .val (.int x1), .val (.int x2), .val (.long ((20 : Int64) + ((x0 &&& (15 : Int32)).toInt64))), .second, .val (.int ((x1 &&& (15 : Int32)) % (9 : Int32))), .val (.ref b1), .unset, .unset]) rfl k) ?_
  refine own_st (T' := T7) (F' := (mkF m 30 #[.val (.int x0), .val (.int x1), .val (.int x2), .val (.long ((20 : Int64) + ((x0 &&& (15 : Int32)).toInt64))), .second, .val (.int ((x1 &&& (15 : Int32)) % (9 : Int32))), .val (.ref b1), .unset, .unset] [(.long (0 : Int64))])) (fun _ k => XS.lconst X7.here hx rfl (hb hby at_29) k) ?_
  refine own_st (T' := T7) (F' := (mkF m 32 #[.val (.int x0), .val (.int x1), .val (.int x2), .val (.long ((20 : Int64) + ((x0 &&& (15 : Int32)).toInt64))), .second, .val (.int ((x1 &&& (15 : Int32)) % (9 : Int32))), .val (.ref b1), .val (.long (0 : Int64)), .second] [])) (fun _ k => XS.lstore X7.here hx rfl (hb hby at_30) rfl (l' := #[.val (.int x0), .val (.int x1), .val (.int x2), .val (.long ((20 : Int64) + ((x0 &&& (15 : Int32)).toInt64))), .second, .val (.int ((x1 &&& (15 : Int32)) % (9 : Int32))), .val (.ref b1), .val (.long (0 : Int64)), .second]) rfl k) ?_
  have hI0 : own_I 0 ((x1 &&& (15 : Int32)) % (9 : Int32)) (0 : Int64) (0 : Int32) (List.replicate 20 (.long (0 : Int64))) (0 : Int64) := ⟨Or.inl ⟨rfl, (own_n x1).1⟩, by decide, by decide, rfl, rfl⟩
  refine own_st (T' := T7) (F' := (mkF m 34 #[.val (.int x0), .val (.int x1), .val (.int x2), .val (.long ((20 : Int64) + ((x0 &&& (15 : Int32)).toInt64))), .second, .val (.int ((x1 &&& (15 : Int32)) % (9 : Int32))), .val (.ref b1), .val (.long (0 : Int64)), .second] [(.int ((x1 &&& (15 : Int32)) % (9 : Int32)))])) (fun _ k => XS.iload X7.here hx rfl (hb hby at_32) rfl  k) ?_
  have J66_8 : ∀ (j66_1 : Int64) (j66_103 : Int64) (j66_104 : Int64) (j66_105 : Int32) (j66_1600 : List Value) (TJ8 : State) (LJ8 : List Loc) (XJ8 : Stand p l e room_1 s m #[(.int x0), (.int x1), (.int x2)] below meth c TJ8 LJ8 2 25) (NJ8 : Fr n0 LJ8) (hJ8 : Heap) (eJ8 : TJ8.heap = hJ8) (zJ8 : n0 ≤ hJ8.size) (kJ8 : Keep h0 hJ8 []) (fJ8_0 : Exa Z hJ8 b1 "com/example/slotter/slotter/analysis/BatchMeans") (fJ8_1 : Fld Z hJ8 b1 "com/example/slotter/slotter/analysis/BatchMeans" "events" "[J" (.ref ev)) (fJ8_2 : Fld Z hJ8 b1 "com/example/slotter/slotter/analysis/BatchMeans" "total" "J" (.long ((20 : Int64) + ((x0 &&& (15 : Int32)).toInt64)))) (fJ8_3 : Fld Z hJ8 b1 "com/example/slotter/slotter/analysis/BatchMeans" "batchEnd" "J" (.long j66_103)) (fJ8_4 : Fld Z hJ8 b1 "com/example/slotter/slotter/analysis/BatchMeans" "observed" "J" (.long j66_104)) (fJ8_5 : Fld Z hJ8 b1 "com/example/slotter/slotter/analysis/BatchMeans" "batch" "I" (.int j66_105)) (fJ8_6 : Arv Z hJ8 ev k7k .long (20 : Int32) j66_1600 (.long (0 : Int64))), (own_I 1 ((x1 &&& (15 : Int32)) % (9 : Int32)) j66_104 j66_105 j66_1600 j66_1) → own_Go p e below s (Q0 Z x0 x1 x2  h0 n0) room_1.cells room_1.slots TJ8 (mkF m 66 #[.val (.int x0), .val (.int x1), .val (.int x2), .val (.long ((20 : Int64) + ((x0 &&& (15 : Int32)).toInt64))), .second, .val (.int ((x1 &&& (15 : Int32)) % (9 : Int32))), .val (.ref b1), .val (.long j66_1), .second] []) := by
    intro j66_1 j66_103 j66_104 j66_105 j66_1600 TJ8 LJ8 XJ8 NJ8 hJ8 eJ8 zJ8 kJ8 fJ8_0 fJ8_1 fJ8_2 fJ8_3 fJ8_4 fJ8_5 fJ8_6 hJ66_8
    refine own_st (T' := TJ8) (F' := (mkF m 68 #[.val (.int x0), .val (.int x1), .val (.int x2), .val (.long ((20 : Int64) + ((x0 &&& (15 : Int32)).toInt64))), .second, .val (.int ((x1 &&& (15 : Int32)) % (9 : Int32))), .val (.ref b1), .val (.long j66_1), .second] [(.int ((x1 &&& (15 : Int32)) % (9 : Int32)))])) (fun _ k => XS.iload XJ8.here hx rfl (hb hby at_66) rfl  k) ?_
    refine own_st (T' := TJ8) (F' := (mkF m 69 #[.val (.int x0), .val (.int x1), .val (.int x2), .val (.long ((20 : Int64) + ((x0 &&& (15 : Int32)).toInt64))), .second, .val (.int ((x1 &&& (15 : Int32)) % (9 : Int32))), .val (.ref b1), .val (.long j66_1), .second] [(.int (1 : Int32)), (.int ((x1 &&& (15 : Int32)) % (9 : Int32)))])) (fun _ k => XS.iconst XJ8.here hx rfl (hb hby at_68) k) ?_
    have J101_9 : ∀ (j101_1 : Int64) (j101_103 : Int64) (j101_104 : Int64) (j101_105 : Int32) (j101_1600 : List Value) (TJ9 : State) (LJ9 : List Loc) (XJ9 : Stand p l e room_1 s m #[(.int x0), (.int x1), (.int x2)] below meth c TJ9 LJ9 2 25) (NJ9 : Fr n0 LJ9) (hJ9 : Heap) (eJ9 : TJ9.heap = hJ9) (zJ9 : n0 ≤ hJ9.size) (kJ9 : Keep h0 hJ9 []) (fJ9_0 : Exa Z hJ9 b1 "com/example/slotter/slotter/analysis/BatchMeans") (fJ9_1 : Fld Z hJ9 b1 "com/example/slotter/slotter/analysis/BatchMeans" "events" "[J" (.ref ev)) (fJ9_2 : Fld Z hJ9 b1 "com/example/slotter/slotter/analysis/BatchMeans" "total" "J" (.long ((20 : Int64) + ((x0 &&& (15 : Int32)).toInt64)))) (fJ9_3 : Fld Z hJ9 b1 "com/example/slotter/slotter/analysis/BatchMeans" "batchEnd" "J" (.long j101_103)) (fJ9_4 : Fld Z hJ9 b1 "com/example/slotter/slotter/analysis/BatchMeans" "observed" "J" (.long j101_104)) (fJ9_5 : Fld Z hJ9 b1 "com/example/slotter/slotter/analysis/BatchMeans" "batch" "I" (.int j101_105)) (fJ9_6 : Arv Z hJ9 ev k7k .long (20 : Int32) j101_1600 (.long (0 : Int64))), (own_I 2 ((x1 &&& (15 : Int32)) % (9 : Int32)) j101_104 j101_105 j101_1600 j101_1) → own_Go p e below s (Q0 Z x0 x1 x2  h0 n0) room_1.cells room_1.slots TJ9 (mkF m 101 #[.val (.int x0), .val (.int x1), .val (.int x2), .val (.long ((20 : Int64) + ((x0 &&& (15 : Int32)).toInt64))), .second, .val (.int ((x1 &&& (15 : Int32)) % (9 : Int32))), .val (.ref b1), .val (.long j101_1), .second] []) := by
      intro j101_1 j101_103 j101_104 j101_105 j101_1600 TJ9 LJ9 XJ9 NJ9 hJ9 eJ9 zJ9 kJ9 fJ9_0 fJ9_1 fJ9_2 fJ9_3 fJ9_4 fJ9_5 fJ9_6 hJ101_9
      refine own_st (T' := TJ9) (F' := (mkF m 103 #[.val (.int x0), .val (.int x1), .val (.int x2), .val (.long ((20 : Int64) + ((x0 &&& (15 : Int32)).toInt64))), .second, .val (.int ((x1 &&& (15 : Int32)) % (9 : Int32))), .val (.ref b1), .val (.long j101_1), .second] [(.int ((x1 &&& (15 : Int32)) % (9 : Int32)))])) (fun _ k => XS.iload XJ9.here hx rfl (hb hby at_101) rfl  k) ?_
      refine own_st (T' := TJ9) (F' := (mkF m 104 #[.val (.int x0), .val (.int x1), .val (.int x2), .val (.long ((20 : Int64) + ((x0 &&& (15 : Int32)).toInt64))), .second, .val (.int ((x1 &&& (15 : Int32)) % (9 : Int32))), .val (.ref b1), .val (.long j101_1), .second] [(.int (2 : Int32)), (.int ((x1 &&& (15 : Int32)) % (9 : Int32)))])) (fun _ k => XS.iconst XJ9.here hx rfl (hb hby at_103) k) ?_
      have J136_10 : ∀ (j136_1 : Int64) (j136_103 : Int64) (j136_104 : Int64) (j136_105 : Int32) (j136_1600 : List Value) (TJ10 : State) (LJ10 : List Loc) (XJ10 : Stand p l e room_1 s m #[(.int x0), (.int x1), (.int x2)] below meth c TJ10 LJ10 2 25) (NJ10 : Fr n0 LJ10) (hJ10 : Heap) (eJ10 : TJ10.heap = hJ10) (zJ10 : n0 ≤ hJ10.size) (kJ10 : Keep h0 hJ10 []) (fJ10_0 : Exa Z hJ10 b1 "com/example/slotter/slotter/analysis/BatchMeans") (fJ10_1 : Fld Z hJ10 b1 "com/example/slotter/slotter/analysis/BatchMeans" "events" "[J" (.ref ev)) (fJ10_2 : Fld Z hJ10 b1 "com/example/slotter/slotter/analysis/BatchMeans" "total" "J" (.long ((20 : Int64) + ((x0 &&& (15 : Int32)).toInt64)))) (fJ10_3 : Fld Z hJ10 b1 "com/example/slotter/slotter/analysis/BatchMeans" "batchEnd" "J" (.long j136_103)) (fJ10_4 : Fld Z hJ10 b1 "com/example/slotter/slotter/analysis/BatchMeans" "observed" "J" (.long j136_104)) (fJ10_5 : Fld Z hJ10 b1 "com/example/slotter/slotter/analysis/BatchMeans" "batch" "I" (.int j136_105)) (fJ10_6 : Arv Z hJ10 ev k7k .long (20 : Int32) j136_1600 (.long (0 : Int64))), (own_I 3 ((x1 &&& (15 : Int32)) % (9 : Int32)) j136_104 j136_105 j136_1600 j136_1) → own_Go p e below s (Q0 Z x0 x1 x2  h0 n0) room_1.cells room_1.slots TJ10 (mkF m 136 #[.val (.int x0), .val (.int x1), .val (.int x2), .val (.long ((20 : Int64) + ((x0 &&& (15 : Int32)).toInt64))), .second, .val (.int ((x1 &&& (15 : Int32)) % (9 : Int32))), .val (.ref b1), .val (.long j136_1), .second] []) := by
        intro j136_1 j136_103 j136_104 j136_105 j136_1600 TJ10 LJ10 XJ10 NJ10 hJ10 eJ10 zJ10 kJ10 fJ10_0 fJ10_1 fJ10_2 fJ10_3 fJ10_4 fJ10_5 fJ10_6 hJ136_10
        refine own_st (T' := TJ10) (F' := (mkF m 138 #[.val (.int x0), .val (.int x1), .val (.int x2), .val (.long ((20 : Int64) + ((x0 &&& (15 : Int32)).toInt64))), .second, .val (.int ((x1 &&& (15 : Int32)) % (9 : Int32))), .val (.ref b1), .val (.long j136_1), .second] [(.int ((x1 &&& (15 : Int32)) % (9 : Int32)))])) (fun _ k => XS.iload XJ10.here hx rfl (hb hby at_136) rfl  k) ?_
        refine own_st (T' := TJ10) (F' := (mkF m 139 #[.val (.int x0), .val (.int x1), .val (.int x2), .val (.long ((20 : Int64) + ((x0 &&& (15 : Int32)).toInt64))), .second, .val (.int ((x1 &&& (15 : Int32)) % (9 : Int32))), .val (.ref b1), .val (.long j136_1), .second] [(.int (3 : Int32)), (.int ((x1 &&& (15 : Int32)) % (9 : Int32)))])) (fun _ k => XS.iconst XJ10.here hx rfl (hb hby at_138) k) ?_
        have J171_11 : ∀ (j171_1 : Int64) (j171_103 : Int64) (j171_104 : Int64) (j171_105 : Int32) (j171_1600 : List Value) (TJ11 : State) (LJ11 : List Loc) (XJ11 : Stand p l e room_1 s m #[(.int x0), (.int x1), (.int x2)] below meth c TJ11 LJ11 2 25) (NJ11 : Fr n0 LJ11) (hJ11 : Heap) (eJ11 : TJ11.heap = hJ11) (zJ11 : n0 ≤ hJ11.size) (kJ11 : Keep h0 hJ11 []) (fJ11_0 : Exa Z hJ11 b1 "com/example/slotter/slotter/analysis/BatchMeans") (fJ11_1 : Fld Z hJ11 b1 "com/example/slotter/slotter/analysis/BatchMeans" "events" "[J" (.ref ev)) (fJ11_2 : Fld Z hJ11 b1 "com/example/slotter/slotter/analysis/BatchMeans" "total" "J" (.long ((20 : Int64) + ((x0 &&& (15 : Int32)).toInt64)))) (fJ11_3 : Fld Z hJ11 b1 "com/example/slotter/slotter/analysis/BatchMeans" "batchEnd" "J" (.long j171_103)) (fJ11_4 : Fld Z hJ11 b1 "com/example/slotter/slotter/analysis/BatchMeans" "observed" "J" (.long j171_104)) (fJ11_5 : Fld Z hJ11 b1 "com/example/slotter/slotter/analysis/BatchMeans" "batch" "I" (.int j171_105)) (fJ11_6 : Arv Z hJ11 ev k7k .long (20 : Int32) j171_1600 (.long (0 : Int64))), (own_I 4 ((x1 &&& (15 : Int32)) % (9 : Int32)) j171_104 j171_105 j171_1600 j171_1) → own_Go p e below s (Q0 Z x0 x1 x2  h0 n0) room_1.cells room_1.slots TJ11 (mkF m 171 #[.val (.int x0), .val (.int x1), .val (.int x2), .val (.long ((20 : Int64) + ((x0 &&& (15 : Int32)).toInt64))), .second, .val (.int ((x1 &&& (15 : Int32)) % (9 : Int32))), .val (.ref b1), .val (.long j171_1), .second] []) := by
          intro j171_1 j171_103 j171_104 j171_105 j171_1600 TJ11 LJ11 XJ11 NJ11 hJ11 eJ11 zJ11 kJ11 fJ11_0 fJ11_1 fJ11_2 fJ11_3 fJ11_4 fJ11_5 fJ11_6 hJ171_11
          refine own_st (T' := TJ11) (F' := (mkF m 173 #[.val (.int x0), .val (.int x1), .val (.int x2), .val (.long ((20 : Int64) + ((x0 &&& (15 : Int32)).toInt64))), .second, .val (.int ((x1 &&& (15 : Int32)) % (9 : Int32))), .val (.ref b1), .val (.long j171_1), .second] [(.int ((x1 &&& (15 : Int32)) % (9 : Int32)))])) (fun _ k => XS.iload XJ11.here hx rfl (hb hby at_171) rfl  k) ?_
          refine own_st (T' := TJ11) (F' := (mkF m 174 #[.val (.int x0), .val (.int x1), .val (.int x2), .val (.long ((20 : Int64) + ((x0 &&& (15 : Int32)).toInt64))), .second, .val (.int ((x1 &&& (15 : Int32)) % (9 : Int32))), .val (.ref b1), .val (.long j171_1), .second] [(.int (4 : Int32)), (.int ((x1 &&& (15 : Int32)) % (9 : Int32)))])) (fun _ k => XS.iconst XJ11.here hx rfl (hb hby at_173) k) ?_
          have J206_12 : ∀ (j206_1 : Int64) (j206_103 : Int64) (j206_104 : Int64) (j206_105 : Int32) (j206_1600 : List Value) (TJ12 : State) (LJ12 : List Loc) (XJ12 : Stand p l e room_1 s m #[(.int x0), (.int x1), (.int x2)] below meth c TJ12 LJ12 2 25) (NJ12 : Fr n0 LJ12) (hJ12 : Heap) (eJ12 : TJ12.heap = hJ12) (zJ12 : n0 ≤ hJ12.size) (kJ12 : Keep h0 hJ12 []) (fJ12_0 : Exa Z hJ12 b1 "com/example/slotter/slotter/analysis/BatchMeans") (fJ12_1 : Fld Z hJ12 b1 "com/example/slotter/slotter/analysis/BatchMeans" "events" "[J" (.ref ev)) (fJ12_2 : Fld Z hJ12 b1 "com/example/slotter/slotter/analysis/BatchMeans" "total" "J" (.long ((20 : Int64) + ((x0 &&& (15 : Int32)).toInt64)))) (fJ12_3 : Fld Z hJ12 b1 "com/example/slotter/slotter/analysis/BatchMeans" "batchEnd" "J" (.long j206_103)) (fJ12_4 : Fld Z hJ12 b1 "com/example/slotter/slotter/analysis/BatchMeans" "observed" "J" (.long j206_104)) (fJ12_5 : Fld Z hJ12 b1 "com/example/slotter/slotter/analysis/BatchMeans" "batch" "I" (.int j206_105)) (fJ12_6 : Arv Z hJ12 ev k7k .long (20 : Int32) j206_1600 (.long (0 : Int64))), (own_I 5 ((x1 &&& (15 : Int32)) % (9 : Int32)) j206_104 j206_105 j206_1600 j206_1) → own_Go p e below s (Q0 Z x0 x1 x2  h0 n0) room_1.cells room_1.slots TJ12 (mkF m 206 #[.val (.int x0), .val (.int x1), .val (.int x2), .val (.long ((20 : Int64) + ((x0 &&& (15 : Int32)).toInt64))), .second, .val (.int ((x1 &&& (15 : Int32)) % (9 : Int32))), .val (.ref b1), .val (.long j206_1), .second] []) := by
            intro j206_1 j206_103 j206_104 j206_105 j206_1600 TJ12 LJ12 XJ12 NJ12 hJ12 eJ12 zJ12 kJ12 fJ12_0 fJ12_1 fJ12_2 fJ12_3 fJ12_4 fJ12_5 fJ12_6 hJ206_12
            refine own_st (T' := TJ12) (F' := (mkF m 208 #[.val (.int x0), .val (.int x1), .val (.int x2), .val (.long ((20 : Int64) + ((x0 &&& (15 : Int32)).toInt64))), .second, .val (.int ((x1 &&& (15 : Int32)) % (9 : Int32))), .val (.ref b1), .val (.long j206_1), .second] [(.int ((x1 &&& (15 : Int32)) % (9 : Int32)))])) (fun _ k => XS.iload XJ12.here hx rfl (hb hby at_206) rfl  k) ?_
            refine own_st (T' := TJ12) (F' := (mkF m 209 #[.val (.int x0), .val (.int x1), .val (.int x2), .val (.long ((20 : Int64) + ((x0 &&& (15 : Int32)).toInt64))), .second, .val (.int ((x1 &&& (15 : Int32)) % (9 : Int32))), .val (.ref b1), .val (.long j206_1), .second] [(.int (5 : Int32)), (.int ((x1 &&& (15 : Int32)) % (9 : Int32)))])) (fun _ k => XS.iconst XJ12.here hx rfl (hb hby at_208) k) ?_
            have J241_13 : ∀ (j241_1 : Int64) (j241_103 : Int64) (j241_104 : Int64) (j241_105 : Int32) (j241_1600 : List Value) (TJ13 : State) (LJ13 : List Loc) (XJ13 : Stand p l e room_1 s m #[(.int x0), (.int x1), (.int x2)] below meth c TJ13 LJ13 2 25) (NJ13 : Fr n0 LJ13) (hJ13 : Heap) (eJ13 : TJ13.heap = hJ13) (zJ13 : n0 ≤ hJ13.size) (kJ13 : Keep h0 hJ13 []) (fJ13_0 : Exa Z hJ13 b1 "com/example/slotter/slotter/analysis/BatchMeans") (fJ13_1 : Fld Z hJ13 b1 "com/example/slotter/slotter/analysis/BatchMeans" "events" "[J" (.ref ev)) (fJ13_2 : Fld Z hJ13 b1 "com/example/slotter/slotter/analysis/BatchMeans" "total" "J" (.long ((20 : Int64) + ((x0 &&& (15 : Int32)).toInt64)))) (fJ13_3 : Fld Z hJ13 b1 "com/example/slotter/slotter/analysis/BatchMeans" "batchEnd" "J" (.long j241_103)) (fJ13_4 : Fld Z hJ13 b1 "com/example/slotter/slotter/analysis/BatchMeans" "observed" "J" (.long j241_104)) (fJ13_5 : Fld Z hJ13 b1 "com/example/slotter/slotter/analysis/BatchMeans" "batch" "I" (.int j241_105)) (fJ13_6 : Arv Z hJ13 ev k7k .long (20 : Int32) j241_1600 (.long (0 : Int64))), (own_I 6 ((x1 &&& (15 : Int32)) % (9 : Int32)) j241_104 j241_105 j241_1600 j241_1) → own_Go p e below s (Q0 Z x0 x1 x2  h0 n0) room_1.cells room_1.slots TJ13 (mkF m 241 #[.val (.int x0), .val (.int x1), .val (.int x2), .val (.long ((20 : Int64) + ((x0 &&& (15 : Int32)).toInt64))), .second, .val (.int ((x1 &&& (15 : Int32)) % (9 : Int32))), .val (.ref b1), .val (.long j241_1), .second] []) := by
              intro j241_1 j241_103 j241_104 j241_105 j241_1600 TJ13 LJ13 XJ13 NJ13 hJ13 eJ13 zJ13 kJ13 fJ13_0 fJ13_1 fJ13_2 fJ13_3 fJ13_4 fJ13_5 fJ13_6 hJ241_13
              refine own_st (T' := TJ13) (F' := (mkF m 243 #[.val (.int x0), .val (.int x1), .val (.int x2), .val (.long ((20 : Int64) + ((x0 &&& (15 : Int32)).toInt64))), .second, .val (.int ((x1 &&& (15 : Int32)) % (9 : Int32))), .val (.ref b1), .val (.long j241_1), .second] [(.int ((x1 &&& (15 : Int32)) % (9 : Int32)))])) (fun _ k => XS.iload XJ13.here hx rfl (hb hby at_241) rfl  k) ?_
              refine own_st (T' := TJ13) (F' := (mkF m 245 #[.val (.int x0), .val (.int x1), .val (.int x2), .val (.long ((20 : Int64) + ((x0 &&& (15 : Int32)).toInt64))), .second, .val (.int ((x1 &&& (15 : Int32)) % (9 : Int32))), .val (.ref b1), .val (.long j241_1), .second] [(.int (6 : Int32)), (.int ((x1 &&& (15 : Int32)) % (9 : Int32)))])) (fun _ k => XS.bipush XJ13.here hx rfl (hb hby at_243) k) ?_
              have J279_14 : ∀ (j279_1 : Int64) (j279_103 : Int64) (j279_104 : Int64) (j279_105 : Int32) (j279_1600 : List Value) (TJ14 : State) (LJ14 : List Loc) (XJ14 : Stand p l e room_1 s m #[(.int x0), (.int x1), (.int x2)] below meth c TJ14 LJ14 2 25) (NJ14 : Fr n0 LJ14) (hJ14 : Heap) (eJ14 : TJ14.heap = hJ14) (zJ14 : n0 ≤ hJ14.size) (kJ14 : Keep h0 hJ14 []) (fJ14_0 : Exa Z hJ14 b1 "com/example/slotter/slotter/analysis/BatchMeans") (fJ14_1 : Fld Z hJ14 b1 "com/example/slotter/slotter/analysis/BatchMeans" "events" "[J" (.ref ev)) (fJ14_2 : Fld Z hJ14 b1 "com/example/slotter/slotter/analysis/BatchMeans" "total" "J" (.long ((20 : Int64) + ((x0 &&& (15 : Int32)).toInt64)))) (fJ14_3 : Fld Z hJ14 b1 "com/example/slotter/slotter/analysis/BatchMeans" "batchEnd" "J" (.long j279_103)) (fJ14_4 : Fld Z hJ14 b1 "com/example/slotter/slotter/analysis/BatchMeans" "observed" "J" (.long j279_104)) (fJ14_5 : Fld Z hJ14 b1 "com/example/slotter/slotter/analysis/BatchMeans" "batch" "I" (.int j279_105)) (fJ14_6 : Arv Z hJ14 ev k7k .long (20 : Int32) j279_1600 (.long (0 : Int64))), (own_I 7 ((x1 &&& (15 : Int32)) % (9 : Int32)) j279_104 j279_105 j279_1600 j279_1) → own_Go p e below s (Q0 Z x0 x1 x2  h0 n0) room_1.cells room_1.slots TJ14 (mkF m 279 #[.val (.int x0), .val (.int x1), .val (.int x2), .val (.long ((20 : Int64) + ((x0 &&& (15 : Int32)).toInt64))), .second, .val (.int ((x1 &&& (15 : Int32)) % (9 : Int32))), .val (.ref b1), .val (.long j279_1), .second] []) := by
                intro j279_1 j279_103 j279_104 j279_105 j279_1600 TJ14 LJ14 XJ14 NJ14 hJ14 eJ14 zJ14 kJ14 fJ14_0 fJ14_1 fJ14_2 fJ14_3 fJ14_4 fJ14_5 fJ14_6 hJ279_14
                refine own_st (T' := TJ14) (F' := (mkF m 281 #[.val (.int x0), .val (.int x1), .val (.int x2), .val (.long ((20 : Int64) + ((x0 &&& (15 : Int32)).toInt64))), .second, .val (.int ((x1 &&& (15 : Int32)) % (9 : Int32))), .val (.ref b1), .val (.long j279_1), .second] [(.int ((x1 &&& (15 : Int32)) % (9 : Int32)))])) (fun _ k => XS.iload XJ14.here hx rfl (hb hby at_279) rfl  k) ?_
                refine own_st (T' := TJ14) (F' := (mkF m 283 #[.val (.int x0), .val (.int x1), .val (.int x2), .val (.long ((20 : Int64) + ((x0 &&& (15 : Int32)).toInt64))), .second, .val (.int ((x1 &&& (15 : Int32)) % (9 : Int32))), .val (.ref b1), .val (.long j279_1), .second] [(.int (7 : Int32)), (.int ((x1 &&& (15 : Int32)) % (9 : Int32)))])) (fun _ k => XS.bipush XJ14.here hx rfl (hb hby at_281) k) ?_
                have J317_15 : ∀ (j317_1 : Int64) (j317_103 : Int64) (j317_104 : Int64) (j317_105 : Int32) (j317_1600 : List Value) (TJ15 : State) (LJ15 : List Loc) (XJ15 : Stand p l e room_1 s m #[(.int x0), (.int x1), (.int x2)] below meth c TJ15 LJ15 2 25) (NJ15 : Fr n0 LJ15) (hJ15 : Heap) (eJ15 : TJ15.heap = hJ15) (zJ15 : n0 ≤ hJ15.size) (kJ15 : Keep h0 hJ15 []) (fJ15_0 : Exa Z hJ15 b1 "com/example/slotter/slotter/analysis/BatchMeans") (fJ15_1 : Fld Z hJ15 b1 "com/example/slotter/slotter/analysis/BatchMeans" "events" "[J" (.ref ev)) (fJ15_2 : Fld Z hJ15 b1 "com/example/slotter/slotter/analysis/BatchMeans" "total" "J" (.long ((20 : Int64) + ((x0 &&& (15 : Int32)).toInt64)))) (fJ15_3 : Fld Z hJ15 b1 "com/example/slotter/slotter/analysis/BatchMeans" "batchEnd" "J" (.long j317_103)) (fJ15_4 : Fld Z hJ15 b1 "com/example/slotter/slotter/analysis/BatchMeans" "observed" "J" (.long j317_104)) (fJ15_5 : Fld Z hJ15 b1 "com/example/slotter/slotter/analysis/BatchMeans" "batch" "I" (.int j317_105)) (fJ15_6 : Arv Z hJ15 ev k7k .long (20 : Int32) j317_1600 (.long (0 : Int64))), (own_I 8 ((x1 &&& (15 : Int32)) % (9 : Int32)) j317_104 j317_105 j317_1600 j317_1) → own_Go p e below s (Q0 Z x0 x1 x2  h0 n0) room_1.cells room_1.slots TJ15 (mkF m 317 #[.val (.int x0), .val (.int x1), .val (.int x2), .val (.long ((20 : Int64) + ((x0 &&& (15 : Int32)).toInt64))), .second, .val (.int ((x1 &&& (15 : Int32)) % (9 : Int32))), .val (.ref b1), .val (.long j317_1), .second] []) := by
                  intro j317_1 j317_103 j317_104 j317_105 j317_1600 TJ15 LJ15 XJ15 NJ15 hJ15 eJ15 zJ15 kJ15 fJ15_0 fJ15_1 fJ15_2 fJ15_3 fJ15_4 fJ15_5 fJ15_6 hJ317_15
                  refine own_st (T' := TJ15) (F' := (mkF m 319 #[.val (.int x0), .val (.int x1), .val (.int x2), .val (.long ((20 : Int64) + ((x0 &&& (15 : Int32)).toInt64))), .second, .val (.int ((x1 &&& (15 : Int32)) % (9 : Int32))), .val (.ref b1), .val (.long j317_1), .second] [(.ref b1)])) (fun _ k => XS.aload XJ15.here hx rfl (hb hby at_317) rfl rfl k) ?_
                  obtain ⟨cq16, kq16, q16a, q16b, q16c⟩ := isOf hZ eJ15 fJ15_0
                  obtain ⟨_, _, ⟨T16, L16, k16, n16⟩, -, X16, ⟨Lc16, hQ16, l16, y16, z16⟩, st16⟩ := XJ15.virtualBack hx (y := (⟨"com/example/slotter/slotter/analysis/BatchMeans", "events", "()J"⟩ : MethodName)) (z := (⟨"com/example/slotter/slotter/analysis/BatchMeans", "events", "()J"⟩ : MethodName)) hown (mvT hZ (hw _ (List.mem_of_getElem? (i := 35) rfl))) (mvT hZ (hw _ (List.mem_of_getElem? (i := 36) rfl))) (notFace_of_selects (args := #[]) (mvT hZ (hw _ (List.mem_of_getElem? (i := 38) rfl)))) (mvT hZ (hw _ (List.mem_of_getElem? (i := 38) rfl))) (mvT hZ (hw _ (List.mem_of_getElem? (i := 37) rfl))) (by decide) (backOf (W := 0) (rm6 l Z a0 hw [] b1 ev k7k j317_1600 hJ15 n0 zJ15 fJ15_1 fJ15_6 hJ317_15.2.2.2.1) hZ (hw _ (List.mem_of_getElem? (i := 39) rfl)) (hw _ (List.mem_of_getElem? (i := 3) rfl)) (by decide) (by decide)) q16a q16c (g := (mkF m 319 #[.val (.int x0), .val (.int x1), .val (.int x2), .val (.long ((20 : Int64) + ((x0 &&& (15 : Int32)).toInt64))), .second, .val (.int ((x1 &&& (15 : Int32)) % (9 : Int32))), .val (.ref b1), .val (.long j317_1), .second] [(.ref b1)])) rfl (by rw [hml]; rfl) (Steps.refl _) (argsL := []) (rest := []) (lenOf own_pd4 rfl) rfl (by show 2 * 0 + _ ≤ _; exact Nat.le_of_eq rfl) (hb hby at_319) (fun _ _ => ⟨rfl, eJ15, (by decide : 2 + 0 ≤ _), (by decide : 25 + 0 ≤ _)⟩)
                  dsimp only [Pt.U, Pt.locs, Pt.cells, Pt.slots] at X16 l16 y16 z16 st16 hQ16
                  subst l16 y16 z16
                  obtain ⟨⟨r16, rfl, hr16⟩, Nq16, eq16⟩ := hQ16
                  have N16 := Fr.app NJ15 Nq16
                  refine own_tr (T' := T16) (F' := (mkF m 322 #[.val (.int x0), .val (.int x1), .val (.int x2), .val (.long ((20 : Int64) + ((x0 &&& (15 : Int32)).toInt64))), .second, .val (.int ((x1 &&& (15 : Int32)) % (9 : Int32))), .val (.ref b1), .val (.long j317_1), .second] [(.long r16)])) st16 ?_
                  refine own_st (T' := T16) (F' := (mkF m 324 #[.val (.int x0), .val (.int x1), .val (.int x2), .val (.long ((20 : Int64) + ((x0 &&& (15 : Int32)).toInt64))), .second, .val (.int ((x1 &&& (15 : Int32)) % (9 : Int32))), .val (.ref b1), .val (.long j317_1), .second] [(.long j317_1), (.long r16)])) (fun _ k => XS.lload X16.here hx rfl (hb hby at_322) rfl  k) ?_
                  refine own_st (T' := T16) (F' := (mkF m 325 #[.val (.int x0), .val (.int x1), .val (.int x2), .val (.long ((20 : Int64) + ((x0 &&& (15 : Int32)).toInt64))), .second, .val (.int ((x1 &&& (15 : Int32)) % (9 : Int32))), .val (.ref b1), .val (.long j317_1), .second] [(.int (lcmpW r16 j317_1))])) (fun _ k => XS.lcmp X16.here hx rfl (hb hby at_324) rfl k) ?_
                  have J345_17 : ∀ (j345_1 : Int32) (TJ17 : State) (LJ17 : List Loc) (XJ17 : Stand p l e room_1 s m #[(.int x0), (.int x1), (.int x2)] below meth c TJ17 LJ17 2 25) (NJ17 : Fr n0 LJ17) (eJ17 : TJ17.heap = hJ15), (((¬ (r16 = j317_1)) ∧ j345_1 = (0 : Int32)) ∨ ((r16 = j317_1) ∧ ∃ r17 : Int64, (r17 = j317_104) ∧ (¬ (r17 = (((x1 &&& (15 : Int32)) % (9 : Int32)).toInt64))) ∧ j345_1 = (0 : Int32)) ∨ ((r16 = j317_1) ∧ ∃ r17 : Int64, (r17 = j317_104) ∧ (r17 = (((x1 &&& (15 : Int32)) % (9 : Int32)).toInt64)) ∧ j345_1 = (1 : Int32))) → own_Go p e below s (Q0 Z x0 x1 x2  h0 n0) room_1.cells room_1.slots TJ17 (mkF m 345 #[.val (.int x0), .val (.int x1), .val (.int x2), .val (.long ((20 : Int64) + ((x0 &&& (15 : Int32)).toInt64))), .second, .val (.int ((x1 &&& (15 : Int32)) % (9 : Int32))), .val (.ref b1), .val (.long j317_1), .second] [(.int j345_1)]) := by
                    intro j345_1 TJ17 LJ17 XJ17 NJ17 eJ17 hJ345_17
                    refine own_retN XJ17 hx hlk (t := .boolean) Bd.returns (by simp) (hb hby at_345) ?_ (by decide) (by decide)
                    rw [eJ17]
                    refine ⟨⟨_, rfl, ?_⟩, NJ17⟩
                    have eN : ((x1 &&& (15 : Int32)) % (9 : Int32)).toInt = j317_104.toInt := by
                      have q := hJ317_15.1
                      have n8 := own_n x1
                      omega
                    rcases hJ345_17 with ⟨q, _⟩ | ⟨q, r, hr, hq, _⟩ | ⟨q, r, hr, hq, rfl⟩
                    · exact absurd (hr16.trans hJ317_15.2.2.2.2) q
                    · exact absurd (hr.trans (Int64.toInt_inj.mp (by rw [c_i2l]; exact eN.symm))) hq
                    · rfl
                  refine own_iflc X16 hx (pc' := 344) (pc2 := 328) (hb hby at_325) (by decide) (by decide) rfl (fun (hc325 : ¬ (r16 = j317_1)) => ?_) (fun (hc325 : r16 = j317_1) => ?_)
                  ·
                    refine own_st (T' := T16) (F' := (mkF m 345 #[.val (.int x0), .val (.int x1), .val (.int x2), .val (.long ((20 : Int64) + ((x0 &&& (15 : Int32)).toInt64))), .second, .val (.int ((x1 &&& (15 : Int32)) % (9 : Int32))), .val (.ref b1), .val (.long j317_1), .second] [(.int (0 : Int32))])) (fun _ k => XS.iconst X16.here hx rfl (hb hby at_344) k) ?_
                    exact J345_17 (0 : Int32) T16 _ X16 N16 eq16 (Or.inl (⟨hc325, rfl⟩))
                  ·
                    refine own_st (T' := T16) (F' := (mkF m 330 #[.val (.int x0), .val (.int x1), .val (.int x2), .val (.long ((20 : Int64) + ((x0 &&& (15 : Int32)).toInt64))), .second, .val (.int ((x1 &&& (15 : Int32)) % (9 : Int32))), .val (.ref b1), .val (.long j317_1), .second] [(.ref b1)])) (fun _ k => XS.aload X16.here hx rfl (hb hby at_328) rfl rfl k) ?_
                    obtain ⟨cq18, kq18, q18a, q18b, q18c⟩ := isOf hZ eq16 fJ15_0
                    obtain ⟨_, _, ⟨T18, L18, k18, n18⟩, -, X18, ⟨Lc18, hQ18, l18, y18, z18⟩, st18⟩ := X16.virtualBack hx (y := (⟨"com/example/slotter/slotter/analysis/BatchMeans", "observed", "()J"⟩ : MethodName)) (z := (⟨"com/example/slotter/slotter/analysis/BatchMeans", "observed", "()J"⟩ : MethodName)) hown (mvT hZ (hw _ (List.mem_of_getElem? (i := 40) rfl))) (mvT hZ (hw _ (List.mem_of_getElem? (i := 41) rfl))) (notFace_of_selects (args := #[]) (mvT hZ (hw _ (List.mem_of_getElem? (i := 43) rfl)))) (mvT hZ (hw _ (List.mem_of_getElem? (i := 43) rfl))) (mvT hZ (hw _ (List.mem_of_getElem? (i := 42) rfl))) (by decide) (backOf (W := 0) (rm7 l Z a0 hw [] b1 j317_104 hJ15 n0 zJ15 fJ15_4) hZ (hw _ (List.mem_of_getElem? (i := 44) rfl)) (hw _ (List.mem_of_getElem? (i := 3) rfl)) (by decide) (by decide)) q18a q18c (g := (mkF m 330 #[.val (.int x0), .val (.int x1), .val (.int x2), .val (.long ((20 : Int64) + ((x0 &&& (15 : Int32)).toInt64))), .second, .val (.int ((x1 &&& (15 : Int32)) % (9 : Int32))), .val (.ref b1), .val (.long j317_1), .second] [(.ref b1)])) rfl (by rw [hml]; rfl) (Steps.refl _) (argsL := []) (rest := []) (lenOf own_pd4 rfl) rfl (by show 2 * 0 + _ ≤ _; exact Nat.le_of_eq rfl) (hb hby at_330) (fun _ _ => ⟨rfl, eq16, (by decide : 2 + 0 ≤ _), (by decide : 25 + 0 ≤ _)⟩)
                    dsimp only [Pt.U, Pt.locs, Pt.cells, Pt.slots] at X18 l18 y18 z18 st18 hQ18
                    subst l18 y18 z18
                    obtain ⟨⟨r18, rfl, hr18⟩, Nq18, eq18⟩ := hQ18
                    have N18 := Fr.app N16 Nq18
                    refine own_tr (T' := T18) (F' := (mkF m 333 #[.val (.int x0), .val (.int x1), .val (.int x2), .val (.long ((20 : Int64) + ((x0 &&& (15 : Int32)).toInt64))), .second, .val (.int ((x1 &&& (15 : Int32)) % (9 : Int32))), .val (.ref b1), .val (.long j317_1), .second] [(.long r18)])) st18 ?_
                    refine own_st (T' := T18) (F' := (mkF m 335 #[.val (.int x0), .val (.int x1), .val (.int x2), .val (.long ((20 : Int64) + ((x0 &&& (15 : Int32)).toInt64))), .second, .val (.int ((x1 &&& (15 : Int32)) % (9 : Int32))), .val (.ref b1), .val (.long j317_1), .second] [(.int ((x1 &&& (15 : Int32)) % (9 : Int32))), (.long r18)])) (fun _ k => XS.iload X18.here hx rfl (hb hby at_333) rfl  k) ?_
                    refine own_st (T' := T18) (F' := (mkF m 336 #[.val (.int x0), .val (.int x1), .val (.int x2), .val (.long ((20 : Int64) + ((x0 &&& (15 : Int32)).toInt64))), .second, .val (.int ((x1 &&& (15 : Int32)) % (9 : Int32))), .val (.ref b1), .val (.long j317_1), .second] [(.long (((x1 &&& (15 : Int32)) % (9 : Int32)).toInt64)), (.long r18)])) (fun _ k => XS.i2l X18.here hx rfl (hb hby at_335) rfl k) ?_
                    refine own_st (T' := T18) (F' := (mkF m 337 #[.val (.int x0), .val (.int x1), .val (.int x2), .val (.long ((20 : Int64) + ((x0 &&& (15 : Int32)).toInt64))), .second, .val (.int ((x1 &&& (15 : Int32)) % (9 : Int32))), .val (.ref b1), .val (.long j317_1), .second] [(.int (lcmpW r18 (((x1 &&& (15 : Int32)) % (9 : Int32)).toInt64)))])) (fun _ k => XS.lcmp X18.here hx rfl (hb hby at_336) rfl k) ?_
                    refine own_iflc X18 hx (pc' := 344) (pc2 := 340) (hb hby at_337) (by decide) (by decide) rfl (fun (hc337 : ¬ (r18 = (((x1 &&& (15 : Int32)) % (9 : Int32)).toInt64))) => ?_) (fun (hc337 : r18 = (((x1 &&& (15 : Int32)) % (9 : Int32)).toInt64)) => ?_)
                    ·
                      refine own_st (T' := T18) (F' := (mkF m 345 #[.val (.int x0), .val (.int x1), .val (.int x2), .val (.long ((20 : Int64) + ((x0 &&& (15 : Int32)).toInt64))), .second, .val (.int ((x1 &&& (15 : Int32)) % (9 : Int32))), .val (.ref b1), .val (.long j317_1), .second] [(.int (0 : Int32))])) (fun _ k => XS.iconst X18.here hx rfl (hb hby at_344) k) ?_
                      exact J345_17 (0 : Int32) T18 _ X18 N18 eq18 (Or.inr (Or.inl (⟨hc325, r18, hr18, hc337, rfl⟩)))
                    ·
                      refine own_st (T' := T18) (F' := (mkF m 341 #[.val (.int x0), .val (.int x1), .val (.int x2), .val (.long ((20 : Int64) + ((x0 &&& (15 : Int32)).toInt64))), .second, .val (.int ((x1 &&& (15 : Int32)) % (9 : Int32))), .val (.ref b1), .val (.long j317_1), .second] [(.int (1 : Int32))])) (fun _ k => XS.iconst X18.here hx rfl (hb hby at_340) k) ?_
                      refine own_st (T' := T18) (F' := (mkF m 345 #[.val (.int x0), .val (.int x1), .val (.int x2), .val (.long ((20 : Int64) + ((x0 &&& (15 : Int32)).toInt64))), .second, .val (.int ((x1 &&& (15 : Int32)) % (9 : Int32))), .val (.ref b1), .val (.long j317_1), .second] [(.int (1 : Int32))])) (fun _ k => XS.goto X18.here hx rfl (pc0 := 341) (pc' := 345) rfl (hb hby at_341) (by decide) (by decide) k) ?_
                      exact J345_17 (1 : Int32) T18 _ X18 N18 eq18 (Or.inr (Or.inr (⟨hc325, r18, hr18, hc337, rfl⟩)))
                refine own_icmp XJ14 hx (pc' := 317) (pc2 := 286) (hb hby at_283) (by decide) (by decide) rfl (fun (hc283 : ¬ ((7 : Int32) < ((x1 &&& (15 : Int32)) % (9 : Int32)))) => ?_) (fun (hc283 : (7 : Int32) < ((x1 &&& (15 : Int32)) % (9 : Int32))) => ?_)
                ·
                  exact J317_15 j279_1 j279_103 j279_104 j279_105 j279_1600 TJ14 _ XJ14 NJ14 hJ14 eJ14 zJ14 kJ14 fJ14_0 fJ14_1 fJ14_2 fJ14_3 fJ14_4 fJ14_5 fJ14_6 (own_I_skip hJ279_14 rfl rfl hc283)
                ·
                  refine own_st (T' := TJ14) (F' := (mkF m 288 #[.val (.int x0), .val (.int x1), .val (.int x2), .val (.long ((20 : Int64) + ((x0 &&& (15 : Int32)).toInt64))), .second, .val (.int ((x1 &&& (15 : Int32)) % (9 : Int32))), .val (.ref b1), .val (.long j279_1), .second] [(.ref b1)])) (fun _ k => XS.aload XJ14.here hx rfl (hb hby at_286) rfl rfl k) ?_
                  refine own_st (T' := TJ14) (F' := (mkF m 289 #[.val (.int x0), .val (.int x1), .val (.int x2), .val (.long ((20 : Int64) + ((x0 &&& (15 : Int32)).toInt64))), .second, .val (.int ((x1 &&& (15 : Int32)) % (9 : Int32))), .val (.ref b1), .val (.long j279_1), .second] [(.int x2), (.ref b1)])) (fun _ k => XS.iloadN XJ14.here hx rfl (hb hby at_288) rfl  k) ?_
                  refine own_st (T' := TJ14) (F' := (mkF m 291 #[.val (.int x0), .val (.int x1), .val (.int x2), .val (.long ((20 : Int64) + ((x0 &&& (15 : Int32)).toInt64))), .second, .val (.int ((x1 &&& (15 : Int32)) % (9 : Int32))), .val (.ref b1), .val (.long j279_1), .second] [(.int (7 : Int32)), (.int x2), (.ref b1)])) (fun _ k => XS.bipush XJ14.here hx rfl (hb hby at_289) k) ?_
                  obtain ⟨_, _, ⟨T19, L19, k19, n19⟩, -, X19, ⟨Lc19, hQ19, l19, y19, z19⟩, st19⟩ := Jvm.LawKit.callS XJ14 hx (y := (⟨"com/example/slotter/slotter/analysis/BatchMeansEventsPinLaw", "bit", "(II)I"⟩ : MethodName)) hown (mvT hZ (hw _ (List.mem_of_getElem? (i := 22) rfl))) (mvT hZ (hw _ (List.mem_of_getElem? (i := 23) rfl))) (mvT hZ (hw _ (List.mem_of_getElem? (i := 24) rfl))) (mvT hZ (hw _ (List.mem_of_getElem? (i := 25) rfl))) (by decide) (backOf (W := 1) (rm4 l Z a0 hw [] x2 (7 : Int32)  hJ14 n0 zJ14 ) hZ (hw _ (List.mem_of_getElem? (i := 25) rfl)) (hw _ (List.mem_of_getElem? (i := 24) rfl)) (by decide) (by decide)) (g := (mkF m 291 #[.val (.int x0), .val (.int x1), .val (.int x2), .val (.long ((20 : Int64) + ((x0 &&& (15 : Int32)).toInt64))), .second, .val (.int ((x1 &&& (15 : Int32)) % (9 : Int32))), .val (.ref b1), .val (.long j279_1), .second] [(.int (7 : Int32)), (.int x2), (.ref b1)])) rfl (by rw [hml]; rfl) (argsL := [(.int x2), (.int (7 : Int32))]) (rest := [(.ref b1)]) (lenOf own_pd2 rfl) rfl (by show 2 * 0 + _ ≤ _; exact Nat.le_of_eq rfl) (hb hby at_291) (fun _ _ => ⟨rfl, eJ14, (by decide : 2 + 0 ≤ _), (by decide : 25 + 0 ≤ _)⟩)
                  dsimp only [Pt.U, Pt.locs, Pt.cells, Pt.slots] at X19 l19 y19 z19 st19 hQ19
                  subst l19 y19 z19
                  obtain ⟨⟨r19, rfl, hr19⟩, Nq19, eq19⟩ := hQ19
                  have N19 := Fr.app NJ14 Nq19
                  refine own_st (T' := T19) (F' := (mkF m 294 #[.val (.int x0), .val (.int x1), .val (.int x2), .val (.long ((20 : Int64) + ((x0 &&& (15 : Int32)).toInt64))), .second, .val (.int ((x1 &&& (15 : Int32)) % (9 : Int32))), .val (.ref b1), .val (.long j279_1), .second] [(.int r19), (.ref b1)])) (fun _ k => st19 _ k) ?_
                  have J302_20 : ∀ (j302_1 : Int32), (((r19 = (0 : Int32)) ∧ j302_1 = (0 : Int32)) ∨ ((¬ (r19 = (0 : Int32))) ∧ j302_1 = (1 : Int32))) → own_Go p e below s (Q0 Z x0 x1 x2  h0 n0) room_1.cells room_1.slots T19 (mkF m 302 #[.val (.int x0), .val (.int x1), .val (.int x2), .val (.long ((20 : Int64) + ((x0 &&& (15 : Int32)).toInt64))), .second, .val (.int ((x1 &&& (15 : Int32)) % (9 : Int32))), .val (.ref b1), .val (.long j279_1), .second] [(.int j302_1), (.ref b1)]) := by
                    intro j302_1 hJ302_20
                    obtain ⟨cq21, kq21, q21a, q21b, q21c⟩ := isOf hZ eq19 fJ14_0
                    obtain ⟨_, _, ⟨T21, L21, k21, n21⟩, -, X21, ⟨Lc21, hQ21, l21, y21, z21⟩, st21⟩ := X19.virtualBack hx (y := (⟨"com/example/slotter/slotter/analysis/BatchMeans", "observe", "(Z)V"⟩ : MethodName)) (z := (⟨"com/example/slotter/slotter/analysis/BatchMeans", "observe", "(Z)V"⟩ : MethodName)) hown (mvT hZ (hw _ (List.mem_of_getElem? (i := 26) rfl))) (mvT hZ (hw _ (List.mem_of_getElem? (i := 27) rfl))) (notFace_of_selects (args := #[]) (mvT hZ (hw _ (List.mem_of_getElem? (i := 29) rfl)))) (mvT hZ (hw _ (List.mem_of_getElem? (i := 29) rfl))) (mvT hZ (hw _ (List.mem_of_getElem? (i := 28) rfl))) (by decide) (backOf (W := 0) (rm5 l Z a0 hw [] b1 j302_1 ev ((20 : Int64) + ((x0 &&& (15 : Int32)).toInt64)) j279_103 j279_104 j279_105 k7k j279_1600 hJ14 n0 zJ14 ge1 fJ14_0 fJ14_1 ge_ev fJ14_2 fJ14_3 fJ14_4 fJ14_5 fJ14_6 ne_ev (own_I_ob hJ279_14 (by decide) (own_t x0)) (own_I_ba hJ279_14 (by decide)) hJ279_14.2.2.2.1 (by rcases hJ302_20 with ⟨_, q⟩ | ⟨_, q⟩; exact Or.inl q; exact Or.inr q)) hZ (hw _ (List.mem_of_getElem? (i := 30) rfl)) (hw _ (List.mem_of_getElem? (i := 3) rfl)) (by decide) (by decide)) q21a q21c (g := (mkF m 302 #[.val (.int x0), .val (.int x1), .val (.int x2), .val (.long ((20 : Int64) + ((x0 &&& (15 : Int32)).toInt64))), .second, .val (.int ((x1 &&& (15 : Int32)) % (9 : Int32))), .val (.ref b1), .val (.long j279_1), .second] [(.int j302_1), (.ref b1)])) rfl (by rw [hml]; rfl) (Steps.refl _) (argsL := [(.int j302_1)]) (rest := []) (lenOf own_pd3 rfl) rfl (by show 2 * 0 + _ ≤ _; exact Nat.le_of_eq rfl) (hb hby at_302) (fun _ _ => ⟨rfl, eq19, (by decide : 2 + 0 ≤ _), (by decide : 25 + 0 ≤ _)⟩)
                    dsimp only [Pt.U, Pt.locs, Pt.cells, Pt.slots] at X21 l21 y21 z21 st21 hQ21
                    subst l21 y21 z21
                    obtain ⟨rfl, Nq21, g21_0, g21_1, g21_2, g21_3, g21_4, g21_5⟩ := hQ21
                    have N21 := Fr.app N19 Nq21
                    have K21 : Keep h0 T21.heap [] := kJ14.trans g21_0 (allS (Or.inr hge1) (allS (Or.inr hge_ev) all0))
                    have Zs21 : n0 ≤ T21.heap.size := Nat.le_trans Z0 K21.1
                    obtain ⟨ba21, be21, vs21, fA21, fB21, vE21, hb21, hl21, hsu21⟩ := g21_5
                    refine own_tr (T' := T21) (F' := (mkF m 305 #[.val (.int x0), .val (.int x1), .val (.int x2), .val (.long ((20 : Int64) + ((x0 &&& (15 : Int32)).toInt64))), .second, .val (.int ((x1 &&& (15 : Int32)) % (9 : Int32))), .val (.ref b1), .val (.long j279_1), .second] [])) st21 ?_
                    refine own_st (T' := T21) (F' := (mkF m 307 #[.val (.int x0), .val (.int x1), .val (.int x2), .val (.long ((20 : Int64) + ((x0 &&& (15 : Int32)).toInt64))), .second, .val (.int ((x1 &&& (15 : Int32)) % (9 : Int32))), .val (.ref b1), .val (.long j279_1), .second] [(.long j279_1)])) (fun _ k => XS.lload X21.here hx rfl (hb hby at_305) rfl  k) ?_
                    refine own_st (T' := T21) (F' := (mkF m 308 #[.val (.int x0), .val (.int x1), .val (.int x2), .val (.long ((20 : Int64) + ((x0 &&& (15 : Int32)).toInt64))), .second, .val (.int ((x1 &&& (15 : Int32)) % (9 : Int32))), .val (.ref b1), .val (.long j279_1), .second] [(.int x2), (.long j279_1)])) (fun _ k => XS.iloadN X21.here hx rfl (hb hby at_307) rfl  k) ?_
                    refine own_st (T' := T21) (F' := (mkF m 310 #[.val (.int x0), .val (.int x1), .val (.int x2), .val (.long ((20 : Int64) + ((x0 &&& (15 : Int32)).toInt64))), .second, .val (.int ((x1 &&& (15 : Int32)) % (9 : Int32))), .val (.ref b1), .val (.long j279_1), .second] [(.int (7 : Int32)), (.int x2), (.long j279_1)])) (fun _ k => XS.bipush X21.here hx rfl (hb hby at_308) k) ?_
                    obtain ⟨_, _, ⟨T22, L22, k22, n22⟩, -, X22, ⟨Lc22, hQ22, l22, y22, z22⟩, st22⟩ := Jvm.LawKit.callS X21 hx (y := (⟨"com/example/slotter/slotter/analysis/BatchMeansEventsPinLaw", "bit", "(II)I"⟩ : MethodName)) hown (mvT hZ (hw _ (List.mem_of_getElem? (i := 22) rfl))) (mvT hZ (hw _ (List.mem_of_getElem? (i := 23) rfl))) (mvT hZ (hw _ (List.mem_of_getElem? (i := 24) rfl))) (mvT hZ (hw _ (List.mem_of_getElem? (i := 25) rfl))) (by decide) (backOf (W := 2) (rm4 l Z a0 hw [] x2 (7 : Int32)  T21.heap n0 Zs21 ) hZ (hw _ (List.mem_of_getElem? (i := 25) rfl)) (hw _ (List.mem_of_getElem? (i := 24) rfl)) (by decide) (by decide)) (g := (mkF m 310 #[.val (.int x0), .val (.int x1), .val (.int x2), .val (.long ((20 : Int64) + ((x0 &&& (15 : Int32)).toInt64))), .second, .val (.int ((x1 &&& (15 : Int32)) % (9 : Int32))), .val (.ref b1), .val (.long j279_1), .second] [(.int (7 : Int32)), (.int x2), (.long j279_1)])) rfl (by rw [hml]; rfl) (argsL := [(.int x2), (.int (7 : Int32))]) (rest := [(.long j279_1)]) (lenOf own_pd2 rfl) rfl (by show 2 * 0 + _ ≤ _; exact Nat.le_of_eq rfl) (hb hby at_310) (fun _ _ => ⟨rfl, rfl, (by decide : 2 + 0 ≤ _), (by decide : 25 + 0 ≤ _)⟩)
                    dsimp only [Pt.U, Pt.locs, Pt.cells, Pt.slots] at X22 l22 y22 z22 st22 hQ22
                    subst l22 y22 z22
                    obtain ⟨⟨r22, rfl, hr22⟩, Nq22, eq22⟩ := hQ22
                    have N22 := Fr.app N21 Nq22
                    refine own_st (T' := T22) (F' := (mkF m 313 #[.val (.int x0), .val (.int x1), .val (.int x2), .val (.long ((20 : Int64) + ((x0 &&& (15 : Int32)).toInt64))), .second, .val (.int ((x1 &&& (15 : Int32)) % (9 : Int32))), .val (.ref b1), .val (.long j279_1), .second] [(.int r22), (.long j279_1)])) (fun _ k => st22 _ k) ?_
                    refine own_st (T' := T22) (F' := (mkF m 314 #[.val (.int x0), .val (.int x1), .val (.int x2), .val (.long ((20 : Int64) + ((x0 &&& (15 : Int32)).toInt64))), .second, .val (.int ((x1 &&& (15 : Int32)) % (9 : Int32))), .val (.ref b1), .val (.long j279_1), .second] [(.long (r22.toInt64)), (.long j279_1)])) (fun _ k => XS.i2l X22.here hx rfl (hb hby at_313) rfl k) ?_
                    refine own_st (T' := T22) (F' := (mkF m 315 #[.val (.int x0), .val (.int x1), .val (.int x2), .val (.long ((20 : Int64) + ((x0 &&& (15 : Int32)).toInt64))), .second, .val (.int ((x1 &&& (15 : Int32)) % (9 : Int32))), .val (.ref b1), .val (.long j279_1), .second] [(.long (j279_1 + (r22.toInt64)))])) (fun _ k => XS.ladd X22.here hx rfl (hb hby at_314) rfl k) ?_
                    refine own_st (T' := T22) (F' := (mkF m 317 #[.val (.int x0), .val (.int x1), .val (.int x2), .val (.long ((20 : Int64) + ((x0 &&& (15 : Int32)).toInt64))), .second, .val (.int ((x1 &&& (15 : Int32)) % (9 : Int32))), .val (.ref b1), .val (.long (j279_1 + (r22.toInt64))), .second] [])) (fun _ k => XS.lstore X22.here hx rfl (hb hby at_315) rfl (l' := #[.val (.int x0), .val (.int x1), .val (.int x2), .val (.long ((20 : Int64) + ((x0 &&& (15 : Int32)).toInt64))), .second, .val (.int ((x1 &&& (15 : Int32)) % (9 : Int32))), .val (.ref b1), .val (.long (j279_1 + (r22.toInt64))), .second]) rfl k) ?_
                    exact J317_15 (j279_1 + (r22.toInt64)) be21 (j279_104 + 1) ba21 vs21 T22 _ X22 N22 T21.heap eq22 Zs21 K21 g21_1 g21_2 g21_3 fB21 g21_4 fA21 vE21 (own_I_step hJ279_14 rfl rfl (by decide) hc283 hb21 hl21 hsu21 (by rw [hr22]; rw [hr19] at hJ302_20; rcases hJ302_20 with ⟨a, q⟩ | ⟨a, q⟩; rw [q, a]; rcases own_bit01 _ _ with b | b; exact absurd b a; rw [q, b]))
                  refine own_ifc X19 hx (pc' := 301) (pc2 := 297) (hb hby at_294) (by decide) (by decide) rfl (fun (hc294 : r19 = (0 : Int32)) => ?_) (fun (hc294 : ¬ (r19 = (0 : Int32))) => ?_)
                  ·
                    refine own_st (T' := T19) (F' := (mkF m 302 #[.val (.int x0), .val (.int x1), .val (.int x2), .val (.long ((20 : Int64) + ((x0 &&& (15 : Int32)).toInt64))), .second, .val (.int ((x1 &&& (15 : Int32)) % (9 : Int32))), .val (.ref b1), .val (.long j279_1), .second] [(.int (0 : Int32)), (.ref b1)])) (fun _ k => XS.iconst X19.here hx rfl (hb hby at_301) k) ?_
                    exact J302_20 (0 : Int32) (Or.inl (⟨hc294, rfl⟩))
                  ·
                    refine own_st (T' := T19) (F' := (mkF m 298 #[.val (.int x0), .val (.int x1), .val (.int x2), .val (.long ((20 : Int64) + ((x0 &&& (15 : Int32)).toInt64))), .second, .val (.int ((x1 &&& (15 : Int32)) % (9 : Int32))), .val (.ref b1), .val (.long j279_1), .second] [(.int (1 : Int32)), (.ref b1)])) (fun _ k => XS.iconst X19.here hx rfl (hb hby at_297) k) ?_
                    refine own_st (T' := T19) (F' := (mkF m 302 #[.val (.int x0), .val (.int x1), .val (.int x2), .val (.long ((20 : Int64) + ((x0 &&& (15 : Int32)).toInt64))), .second, .val (.int ((x1 &&& (15 : Int32)) % (9 : Int32))), .val (.ref b1), .val (.long j279_1), .second] [(.int (1 : Int32)), (.ref b1)])) (fun _ k => XS.goto X19.here hx rfl (pc0 := 298) (pc' := 302) rfl (hb hby at_298) (by decide) (by decide) k) ?_
                    exact J302_20 (1 : Int32) (Or.inr (⟨hc294, rfl⟩))
              refine own_icmp XJ13 hx (pc' := 279) (pc2 := 248) (hb hby at_245) (by decide) (by decide) rfl (fun (hc245 : ¬ ((6 : Int32) < ((x1 &&& (15 : Int32)) % (9 : Int32)))) => ?_) (fun (hc245 : (6 : Int32) < ((x1 &&& (15 : Int32)) % (9 : Int32))) => ?_)
              ·
                exact J279_14 j241_1 j241_103 j241_104 j241_105 j241_1600 TJ13 _ XJ13 NJ13 hJ13 eJ13 zJ13 kJ13 fJ13_0 fJ13_1 fJ13_2 fJ13_3 fJ13_4 fJ13_5 fJ13_6 (own_I_skip hJ241_13 rfl rfl hc245)
              ·
                refine own_st (T' := TJ13) (F' := (mkF m 250 #[.val (.int x0), .val (.int x1), .val (.int x2), .val (.long ((20 : Int64) + ((x0 &&& (15 : Int32)).toInt64))), .second, .val (.int ((x1 &&& (15 : Int32)) % (9 : Int32))), .val (.ref b1), .val (.long j241_1), .second] [(.ref b1)])) (fun _ k => XS.aload XJ13.here hx rfl (hb hby at_248) rfl rfl k) ?_
                refine own_st (T' := TJ13) (F' := (mkF m 251 #[.val (.int x0), .val (.int x1), .val (.int x2), .val (.long ((20 : Int64) + ((x0 &&& (15 : Int32)).toInt64))), .second, .val (.int ((x1 &&& (15 : Int32)) % (9 : Int32))), .val (.ref b1), .val (.long j241_1), .second] [(.int x2), (.ref b1)])) (fun _ k => XS.iloadN XJ13.here hx rfl (hb hby at_250) rfl  k) ?_
                refine own_st (T' := TJ13) (F' := (mkF m 253 #[.val (.int x0), .val (.int x1), .val (.int x2), .val (.long ((20 : Int64) + ((x0 &&& (15 : Int32)).toInt64))), .second, .val (.int ((x1 &&& (15 : Int32)) % (9 : Int32))), .val (.ref b1), .val (.long j241_1), .second] [(.int (6 : Int32)), (.int x2), (.ref b1)])) (fun _ k => XS.bipush XJ13.here hx rfl (hb hby at_251) k) ?_
                obtain ⟨_, _, ⟨T23, L23, k23, n23⟩, -, X23, ⟨Lc23, hQ23, l23, y23, z23⟩, st23⟩ := Jvm.LawKit.callS XJ13 hx (y := (⟨"com/example/slotter/slotter/analysis/BatchMeansEventsPinLaw", "bit", "(II)I"⟩ : MethodName)) hown (mvT hZ (hw _ (List.mem_of_getElem? (i := 22) rfl))) (mvT hZ (hw _ (List.mem_of_getElem? (i := 23) rfl))) (mvT hZ (hw _ (List.mem_of_getElem? (i := 24) rfl))) (mvT hZ (hw _ (List.mem_of_getElem? (i := 25) rfl))) (by decide) (backOf (W := 1) (rm4 l Z a0 hw [] x2 (6 : Int32)  hJ13 n0 zJ13 ) hZ (hw _ (List.mem_of_getElem? (i := 25) rfl)) (hw _ (List.mem_of_getElem? (i := 24) rfl)) (by decide) (by decide)) (g := (mkF m 253 #[.val (.int x0), .val (.int x1), .val (.int x2), .val (.long ((20 : Int64) + ((x0 &&& (15 : Int32)).toInt64))), .second, .val (.int ((x1 &&& (15 : Int32)) % (9 : Int32))), .val (.ref b1), .val (.long j241_1), .second] [(.int (6 : Int32)), (.int x2), (.ref b1)])) rfl (by rw [hml]; rfl) (argsL := [(.int x2), (.int (6 : Int32))]) (rest := [(.ref b1)]) (lenOf own_pd2 rfl) rfl (by show 2 * 0 + _ ≤ _; exact Nat.le_of_eq rfl) (hb hby at_253) (fun _ _ => ⟨rfl, eJ13, (by decide : 2 + 0 ≤ _), (by decide : 25 + 0 ≤ _)⟩)
                dsimp only [Pt.U, Pt.locs, Pt.cells, Pt.slots] at X23 l23 y23 z23 st23 hQ23
                subst l23 y23 z23
                obtain ⟨⟨r23, rfl, hr23⟩, Nq23, eq23⟩ := hQ23
                have N23 := Fr.app NJ13 Nq23
                refine own_st (T' := T23) (F' := (mkF m 256 #[.val (.int x0), .val (.int x1), .val (.int x2), .val (.long ((20 : Int64) + ((x0 &&& (15 : Int32)).toInt64))), .second, .val (.int ((x1 &&& (15 : Int32)) % (9 : Int32))), .val (.ref b1), .val (.long j241_1), .second] [(.int r23), (.ref b1)])) (fun _ k => st23 _ k) ?_
                have J264_24 : ∀ (j264_1 : Int32), (((r23 = (0 : Int32)) ∧ j264_1 = (0 : Int32)) ∨ ((¬ (r23 = (0 : Int32))) ∧ j264_1 = (1 : Int32))) → own_Go p e below s (Q0 Z x0 x1 x2  h0 n0) room_1.cells room_1.slots T23 (mkF m 264 #[.val (.int x0), .val (.int x1), .val (.int x2), .val (.long ((20 : Int64) + ((x0 &&& (15 : Int32)).toInt64))), .second, .val (.int ((x1 &&& (15 : Int32)) % (9 : Int32))), .val (.ref b1), .val (.long j241_1), .second] [(.int j264_1), (.ref b1)]) := by
                  intro j264_1 hJ264_24
                  obtain ⟨cq25, kq25, q25a, q25b, q25c⟩ := isOf hZ eq23 fJ13_0
                  obtain ⟨_, _, ⟨T25, L25, k25, n25⟩, -, X25, ⟨Lc25, hQ25, l25, y25, z25⟩, st25⟩ := X23.virtualBack hx (y := (⟨"com/example/slotter/slotter/analysis/BatchMeans", "observe", "(Z)V"⟩ : MethodName)) (z := (⟨"com/example/slotter/slotter/analysis/BatchMeans", "observe", "(Z)V"⟩ : MethodName)) hown (mvT hZ (hw _ (List.mem_of_getElem? (i := 26) rfl))) (mvT hZ (hw _ (List.mem_of_getElem? (i := 27) rfl))) (notFace_of_selects (args := #[]) (mvT hZ (hw _ (List.mem_of_getElem? (i := 29) rfl)))) (mvT hZ (hw _ (List.mem_of_getElem? (i := 29) rfl))) (mvT hZ (hw _ (List.mem_of_getElem? (i := 28) rfl))) (by decide) (backOf (W := 0) (rm5 l Z a0 hw [] b1 j264_1 ev ((20 : Int64) + ((x0 &&& (15 : Int32)).toInt64)) j241_103 j241_104 j241_105 k7k j241_1600 hJ13 n0 zJ13 ge1 fJ13_0 fJ13_1 ge_ev fJ13_2 fJ13_3 fJ13_4 fJ13_5 fJ13_6 ne_ev (own_I_ob hJ241_13 (by decide) (own_t x0)) (own_I_ba hJ241_13 (by decide)) hJ241_13.2.2.2.1 (by rcases hJ264_24 with ⟨_, q⟩ | ⟨_, q⟩; exact Or.inl q; exact Or.inr q)) hZ (hw _ (List.mem_of_getElem? (i := 30) rfl)) (hw _ (List.mem_of_getElem? (i := 3) rfl)) (by decide) (by decide)) q25a q25c (g := (mkF m 264 #[.val (.int x0), .val (.int x1), .val (.int x2), .val (.long ((20 : Int64) + ((x0 &&& (15 : Int32)).toInt64))), .second, .val (.int ((x1 &&& (15 : Int32)) % (9 : Int32))), .val (.ref b1), .val (.long j241_1), .second] [(.int j264_1), (.ref b1)])) rfl (by rw [hml]; rfl) (Steps.refl _) (argsL := [(.int j264_1)]) (rest := []) (lenOf own_pd3 rfl) rfl (by show 2 * 0 + _ ≤ _; exact Nat.le_of_eq rfl) (hb hby at_264) (fun _ _ => ⟨rfl, eq23, (by decide : 2 + 0 ≤ _), (by decide : 25 + 0 ≤ _)⟩)
                  dsimp only [Pt.U, Pt.locs, Pt.cells, Pt.slots] at X25 l25 y25 z25 st25 hQ25
                  subst l25 y25 z25
                  obtain ⟨rfl, Nq25, g25_0, g25_1, g25_2, g25_3, g25_4, g25_5⟩ := hQ25
                  have N25 := Fr.app N23 Nq25
                  have K25 : Keep h0 T25.heap [] := kJ13.trans g25_0 (allS (Or.inr hge1) (allS (Or.inr hge_ev) all0))
                  have Zs25 : n0 ≤ T25.heap.size := Nat.le_trans Z0 K25.1
                  obtain ⟨ba25, be25, vs25, fA25, fB25, vE25, hb25, hl25, hsu25⟩ := g25_5
                  refine own_tr (T' := T25) (F' := (mkF m 267 #[.val (.int x0), .val (.int x1), .val (.int x2), .val (.long ((20 : Int64) + ((x0 &&& (15 : Int32)).toInt64))), .second, .val (.int ((x1 &&& (15 : Int32)) % (9 : Int32))), .val (.ref b1), .val (.long j241_1), .second] [])) st25 ?_
                  refine own_st (T' := T25) (F' := (mkF m 269 #[.val (.int x0), .val (.int x1), .val (.int x2), .val (.long ((20 : Int64) + ((x0 &&& (15 : Int32)).toInt64))), .second, .val (.int ((x1 &&& (15 : Int32)) % (9 : Int32))), .val (.ref b1), .val (.long j241_1), .second] [(.long j241_1)])) (fun _ k => XS.lload X25.here hx rfl (hb hby at_267) rfl  k) ?_
                  refine own_st (T' := T25) (F' := (mkF m 270 #[.val (.int x0), .val (.int x1), .val (.int x2), .val (.long ((20 : Int64) + ((x0 &&& (15 : Int32)).toInt64))), .second, .val (.int ((x1 &&& (15 : Int32)) % (9 : Int32))), .val (.ref b1), .val (.long j241_1), .second] [(.int x2), (.long j241_1)])) (fun _ k => XS.iloadN X25.here hx rfl (hb hby at_269) rfl  k) ?_
                  refine own_st (T' := T25) (F' := (mkF m 272 #[.val (.int x0), .val (.int x1), .val (.int x2), .val (.long ((20 : Int64) + ((x0 &&& (15 : Int32)).toInt64))), .second, .val (.int ((x1 &&& (15 : Int32)) % (9 : Int32))), .val (.ref b1), .val (.long j241_1), .second] [(.int (6 : Int32)), (.int x2), (.long j241_1)])) (fun _ k => XS.bipush X25.here hx rfl (hb hby at_270) k) ?_
                  obtain ⟨_, _, ⟨T26, L26, k26, n26⟩, -, X26, ⟨Lc26, hQ26, l26, y26, z26⟩, st26⟩ := Jvm.LawKit.callS X25 hx (y := (⟨"com/example/slotter/slotter/analysis/BatchMeansEventsPinLaw", "bit", "(II)I"⟩ : MethodName)) hown (mvT hZ (hw _ (List.mem_of_getElem? (i := 22) rfl))) (mvT hZ (hw _ (List.mem_of_getElem? (i := 23) rfl))) (mvT hZ (hw _ (List.mem_of_getElem? (i := 24) rfl))) (mvT hZ (hw _ (List.mem_of_getElem? (i := 25) rfl))) (by decide) (backOf (W := 2) (rm4 l Z a0 hw [] x2 (6 : Int32)  T25.heap n0 Zs25 ) hZ (hw _ (List.mem_of_getElem? (i := 25) rfl)) (hw _ (List.mem_of_getElem? (i := 24) rfl)) (by decide) (by decide)) (g := (mkF m 272 #[.val (.int x0), .val (.int x1), .val (.int x2), .val (.long ((20 : Int64) + ((x0 &&& (15 : Int32)).toInt64))), .second, .val (.int ((x1 &&& (15 : Int32)) % (9 : Int32))), .val (.ref b1), .val (.long j241_1), .second] [(.int (6 : Int32)), (.int x2), (.long j241_1)])) rfl (by rw [hml]; rfl) (argsL := [(.int x2), (.int (6 : Int32))]) (rest := [(.long j241_1)]) (lenOf own_pd2 rfl) rfl (by show 2 * 0 + _ ≤ _; exact Nat.le_of_eq rfl) (hb hby at_272) (fun _ _ => ⟨rfl, rfl, (by decide : 2 + 0 ≤ _), (by decide : 25 + 0 ≤ _)⟩)
                  dsimp only [Pt.U, Pt.locs, Pt.cells, Pt.slots] at X26 l26 y26 z26 st26 hQ26
                  subst l26 y26 z26
                  obtain ⟨⟨r26, rfl, hr26⟩, Nq26, eq26⟩ := hQ26
                  have N26 := Fr.app N25 Nq26
                  refine own_st (T' := T26) (F' := (mkF m 275 #[.val (.int x0), .val (.int x1), .val (.int x2), .val (.long ((20 : Int64) + ((x0 &&& (15 : Int32)).toInt64))), .second, .val (.int ((x1 &&& (15 : Int32)) % (9 : Int32))), .val (.ref b1), .val (.long j241_1), .second] [(.int r26), (.long j241_1)])) (fun _ k => st26 _ k) ?_
                  refine own_st (T' := T26) (F' := (mkF m 276 #[.val (.int x0), .val (.int x1), .val (.int x2), .val (.long ((20 : Int64) + ((x0 &&& (15 : Int32)).toInt64))), .second, .val (.int ((x1 &&& (15 : Int32)) % (9 : Int32))), .val (.ref b1), .val (.long j241_1), .second] [(.long (r26.toInt64)), (.long j241_1)])) (fun _ k => XS.i2l X26.here hx rfl (hb hby at_275) rfl k) ?_
                  refine own_st (T' := T26) (F' := (mkF m 277 #[.val (.int x0), .val (.int x1), .val (.int x2), .val (.long ((20 : Int64) + ((x0 &&& (15 : Int32)).toInt64))), .second, .val (.int ((x1 &&& (15 : Int32)) % (9 : Int32))), .val (.ref b1), .val (.long j241_1), .second] [(.long (j241_1 + (r26.toInt64)))])) (fun _ k => XS.ladd X26.here hx rfl (hb hby at_276) rfl k) ?_
                  refine own_st (T' := T26) (F' := (mkF m 279 #[.val (.int x0), .val (.int x1), .val (.int x2), .val (.long ((20 : Int64) + ((x0 &&& (15 : Int32)).toInt64))), .second, .val (.int ((x1 &&& (15 : Int32)) % (9 : Int32))), .val (.ref b1), .val (.long (j241_1 + (r26.toInt64))), .second] [])) (fun _ k => XS.lstore X26.here hx rfl (hb hby at_277) rfl (l' := #[.val (.int x0), .val (.int x1), .val (.int x2), .val (.long ((20 : Int64) + ((x0 &&& (15 : Int32)).toInt64))), .second, .val (.int ((x1 &&& (15 : Int32)) % (9 : Int32))), .val (.ref b1), .val (.long (j241_1 + (r26.toInt64))), .second]) rfl k) ?_
                  exact J279_14 (j241_1 + (r26.toInt64)) be25 (j241_104 + 1) ba25 vs25 T26 _ X26 N26 T25.heap eq26 Zs25 K25 g25_1 g25_2 g25_3 fB25 g25_4 fA25 vE25 (own_I_step hJ241_13 rfl rfl (by decide) hc245 hb25 hl25 hsu25 (by rw [hr26]; rw [hr23] at hJ264_24; rcases hJ264_24 with ⟨a, q⟩ | ⟨a, q⟩; rw [q, a]; rcases own_bit01 _ _ with b | b; exact absurd b a; rw [q, b]))
                refine own_ifc X23 hx (pc' := 263) (pc2 := 259) (hb hby at_256) (by decide) (by decide) rfl (fun (hc256 : r23 = (0 : Int32)) => ?_) (fun (hc256 : ¬ (r23 = (0 : Int32))) => ?_)
                ·
                  refine own_st (T' := T23) (F' := (mkF m 264 #[.val (.int x0), .val (.int x1), .val (.int x2), .val (.long ((20 : Int64) + ((x0 &&& (15 : Int32)).toInt64))), .second, .val (.int ((x1 &&& (15 : Int32)) % (9 : Int32))), .val (.ref b1), .val (.long j241_1), .second] [(.int (0 : Int32)), (.ref b1)])) (fun _ k => XS.iconst X23.here hx rfl (hb hby at_263) k) ?_
                  exact J264_24 (0 : Int32) (Or.inl (⟨hc256, rfl⟩))
                ·
                  refine own_st (T' := T23) (F' := (mkF m 260 #[.val (.int x0), .val (.int x1), .val (.int x2), .val (.long ((20 : Int64) + ((x0 &&& (15 : Int32)).toInt64))), .second, .val (.int ((x1 &&& (15 : Int32)) % (9 : Int32))), .val (.ref b1), .val (.long j241_1), .second] [(.int (1 : Int32)), (.ref b1)])) (fun _ k => XS.iconst X23.here hx rfl (hb hby at_259) k) ?_
                  refine own_st (T' := T23) (F' := (mkF m 264 #[.val (.int x0), .val (.int x1), .val (.int x2), .val (.long ((20 : Int64) + ((x0 &&& (15 : Int32)).toInt64))), .second, .val (.int ((x1 &&& (15 : Int32)) % (9 : Int32))), .val (.ref b1), .val (.long j241_1), .second] [(.int (1 : Int32)), (.ref b1)])) (fun _ k => XS.goto X23.here hx rfl (pc0 := 260) (pc' := 264) rfl (hb hby at_260) (by decide) (by decide) k) ?_
                  exact J264_24 (1 : Int32) (Or.inr (⟨hc256, rfl⟩))
            refine own_icmp XJ12 hx (pc' := 241) (pc2 := 212) (hb hby at_209) (by decide) (by decide) rfl (fun (hc209 : ¬ ((5 : Int32) < ((x1 &&& (15 : Int32)) % (9 : Int32)))) => ?_) (fun (hc209 : (5 : Int32) < ((x1 &&& (15 : Int32)) % (9 : Int32))) => ?_)
            ·
              exact J241_13 j206_1 j206_103 j206_104 j206_105 j206_1600 TJ12 _ XJ12 NJ12 hJ12 eJ12 zJ12 kJ12 fJ12_0 fJ12_1 fJ12_2 fJ12_3 fJ12_4 fJ12_5 fJ12_6 (own_I_skip hJ206_12 rfl rfl hc209)
            ·
              refine own_st (T' := TJ12) (F' := (mkF m 214 #[.val (.int x0), .val (.int x1), .val (.int x2), .val (.long ((20 : Int64) + ((x0 &&& (15 : Int32)).toInt64))), .second, .val (.int ((x1 &&& (15 : Int32)) % (9 : Int32))), .val (.ref b1), .val (.long j206_1), .second] [(.ref b1)])) (fun _ k => XS.aload XJ12.here hx rfl (hb hby at_212) rfl rfl k) ?_
              refine own_st (T' := TJ12) (F' := (mkF m 215 #[.val (.int x0), .val (.int x1), .val (.int x2), .val (.long ((20 : Int64) + ((x0 &&& (15 : Int32)).toInt64))), .second, .val (.int ((x1 &&& (15 : Int32)) % (9 : Int32))), .val (.ref b1), .val (.long j206_1), .second] [(.int x2), (.ref b1)])) (fun _ k => XS.iloadN XJ12.here hx rfl (hb hby at_214) rfl  k) ?_
              refine own_st (T' := TJ12) (F' := (mkF m 216 #[.val (.int x0), .val (.int x1), .val (.int x2), .val (.long ((20 : Int64) + ((x0 &&& (15 : Int32)).toInt64))), .second, .val (.int ((x1 &&& (15 : Int32)) % (9 : Int32))), .val (.ref b1), .val (.long j206_1), .second] [(.int (5 : Int32)), (.int x2), (.ref b1)])) (fun _ k => XS.iconst XJ12.here hx rfl (hb hby at_215) k) ?_
              obtain ⟨_, _, ⟨T27, L27, k27, n27⟩, -, X27, ⟨Lc27, hQ27, l27, y27, z27⟩, st27⟩ := Jvm.LawKit.callS XJ12 hx (y := (⟨"com/example/slotter/slotter/analysis/BatchMeansEventsPinLaw", "bit", "(II)I"⟩ : MethodName)) hown (mvT hZ (hw _ (List.mem_of_getElem? (i := 22) rfl))) (mvT hZ (hw _ (List.mem_of_getElem? (i := 23) rfl))) (mvT hZ (hw _ (List.mem_of_getElem? (i := 24) rfl))) (mvT hZ (hw _ (List.mem_of_getElem? (i := 25) rfl))) (by decide) (backOf (W := 1) (rm4 l Z a0 hw [] x2 (5 : Int32)  hJ12 n0 zJ12 ) hZ (hw _ (List.mem_of_getElem? (i := 25) rfl)) (hw _ (List.mem_of_getElem? (i := 24) rfl)) (by decide) (by decide)) (g := (mkF m 216 #[.val (.int x0), .val (.int x1), .val (.int x2), .val (.long ((20 : Int64) + ((x0 &&& (15 : Int32)).toInt64))), .second, .val (.int ((x1 &&& (15 : Int32)) % (9 : Int32))), .val (.ref b1), .val (.long j206_1), .second] [(.int (5 : Int32)), (.int x2), (.ref b1)])) rfl (by rw [hml]; rfl) (argsL := [(.int x2), (.int (5 : Int32))]) (rest := [(.ref b1)]) (lenOf own_pd2 rfl) rfl (by show 2 * 0 + _ ≤ _; exact Nat.le_of_eq rfl) (hb hby at_216) (fun _ _ => ⟨rfl, eJ12, (by decide : 2 + 0 ≤ _), (by decide : 25 + 0 ≤ _)⟩)
              dsimp only [Pt.U, Pt.locs, Pt.cells, Pt.slots] at X27 l27 y27 z27 st27 hQ27
              subst l27 y27 z27
              obtain ⟨⟨r27, rfl, hr27⟩, Nq27, eq27⟩ := hQ27
              have N27 := Fr.app NJ12 Nq27
              refine own_st (T' := T27) (F' := (mkF m 219 #[.val (.int x0), .val (.int x1), .val (.int x2), .val (.long ((20 : Int64) + ((x0 &&& (15 : Int32)).toInt64))), .second, .val (.int ((x1 &&& (15 : Int32)) % (9 : Int32))), .val (.ref b1), .val (.long j206_1), .second] [(.int r27), (.ref b1)])) (fun _ k => st27 _ k) ?_
              have J227_28 : ∀ (j227_1 : Int32), (((r27 = (0 : Int32)) ∧ j227_1 = (0 : Int32)) ∨ ((¬ (r27 = (0 : Int32))) ∧ j227_1 = (1 : Int32))) → own_Go p e below s (Q0 Z x0 x1 x2  h0 n0) room_1.cells room_1.slots T27 (mkF m 227 #[.val (.int x0), .val (.int x1), .val (.int x2), .val (.long ((20 : Int64) + ((x0 &&& (15 : Int32)).toInt64))), .second, .val (.int ((x1 &&& (15 : Int32)) % (9 : Int32))), .val (.ref b1), .val (.long j206_1), .second] [(.int j227_1), (.ref b1)]) := by
                intro j227_1 hJ227_28
                obtain ⟨cq29, kq29, q29a, q29b, q29c⟩ := isOf hZ eq27 fJ12_0
                obtain ⟨_, _, ⟨T29, L29, k29, n29⟩, -, X29, ⟨Lc29, hQ29, l29, y29, z29⟩, st29⟩ := X27.virtualBack hx (y := (⟨"com/example/slotter/slotter/analysis/BatchMeans", "observe", "(Z)V"⟩ : MethodName)) (z := (⟨"com/example/slotter/slotter/analysis/BatchMeans", "observe", "(Z)V"⟩ : MethodName)) hown (mvT hZ (hw _ (List.mem_of_getElem? (i := 26) rfl))) (mvT hZ (hw _ (List.mem_of_getElem? (i := 27) rfl))) (notFace_of_selects (args := #[]) (mvT hZ (hw _ (List.mem_of_getElem? (i := 29) rfl)))) (mvT hZ (hw _ (List.mem_of_getElem? (i := 29) rfl))) (mvT hZ (hw _ (List.mem_of_getElem? (i := 28) rfl))) (by decide) (backOf (W := 0) (rm5 l Z a0 hw [] b1 j227_1 ev ((20 : Int64) + ((x0 &&& (15 : Int32)).toInt64)) j206_103 j206_104 j206_105 k7k j206_1600 hJ12 n0 zJ12 ge1 fJ12_0 fJ12_1 ge_ev fJ12_2 fJ12_3 fJ12_4 fJ12_5 fJ12_6 ne_ev (own_I_ob hJ206_12 (by decide) (own_t x0)) (own_I_ba hJ206_12 (by decide)) hJ206_12.2.2.2.1 (by rcases hJ227_28 with ⟨_, q⟩ | ⟨_, q⟩; exact Or.inl q; exact Or.inr q)) hZ (hw _ (List.mem_of_getElem? (i := 30) rfl)) (hw _ (List.mem_of_getElem? (i := 3) rfl)) (by decide) (by decide)) q29a q29c (g := (mkF m 227 #[.val (.int x0), .val (.int x1), .val (.int x2), .val (.long ((20 : Int64) + ((x0 &&& (15 : Int32)).toInt64))), .second, .val (.int ((x1 &&& (15 : Int32)) % (9 : Int32))), .val (.ref b1), .val (.long j206_1), .second] [(.int j227_1), (.ref b1)])) rfl (by rw [hml]; rfl) (Steps.refl _) (argsL := [(.int j227_1)]) (rest := []) (lenOf own_pd3 rfl) rfl (by show 2 * 0 + _ ≤ _; exact Nat.le_of_eq rfl) (hb hby at_227) (fun _ _ => ⟨rfl, eq27, (by decide : 2 + 0 ≤ _), (by decide : 25 + 0 ≤ _)⟩)
                dsimp only [Pt.U, Pt.locs, Pt.cells, Pt.slots] at X29 l29 y29 z29 st29 hQ29
                subst l29 y29 z29
                obtain ⟨rfl, Nq29, g29_0, g29_1, g29_2, g29_3, g29_4, g29_5⟩ := hQ29
                have N29 := Fr.app N27 Nq29
                have K29 : Keep h0 T29.heap [] := kJ12.trans g29_0 (allS (Or.inr hge1) (allS (Or.inr hge_ev) all0))
                have Zs29 : n0 ≤ T29.heap.size := Nat.le_trans Z0 K29.1
                obtain ⟨ba29, be29, vs29, fA29, fB29, vE29, hb29, hl29, hsu29⟩ := g29_5
                refine own_tr (T' := T29) (F' := (mkF m 230 #[.val (.int x0), .val (.int x1), .val (.int x2), .val (.long ((20 : Int64) + ((x0 &&& (15 : Int32)).toInt64))), .second, .val (.int ((x1 &&& (15 : Int32)) % (9 : Int32))), .val (.ref b1), .val (.long j206_1), .second] [])) st29 ?_
                refine own_st (T' := T29) (F' := (mkF m 232 #[.val (.int x0), .val (.int x1), .val (.int x2), .val (.long ((20 : Int64) + ((x0 &&& (15 : Int32)).toInt64))), .second, .val (.int ((x1 &&& (15 : Int32)) % (9 : Int32))), .val (.ref b1), .val (.long j206_1), .second] [(.long j206_1)])) (fun _ k => XS.lload X29.here hx rfl (hb hby at_230) rfl  k) ?_
                refine own_st (T' := T29) (F' := (mkF m 233 #[.val (.int x0), .val (.int x1), .val (.int x2), .val (.long ((20 : Int64) + ((x0 &&& (15 : Int32)).toInt64))), .second, .val (.int ((x1 &&& (15 : Int32)) % (9 : Int32))), .val (.ref b1), .val (.long j206_1), .second] [(.int x2), (.long j206_1)])) (fun _ k => XS.iloadN X29.here hx rfl (hb hby at_232) rfl  k) ?_
                refine own_st (T' := T29) (F' := (mkF m 234 #[.val (.int x0), .val (.int x1), .val (.int x2), .val (.long ((20 : Int64) + ((x0 &&& (15 : Int32)).toInt64))), .second, .val (.int ((x1 &&& (15 : Int32)) % (9 : Int32))), .val (.ref b1), .val (.long j206_1), .second] [(.int (5 : Int32)), (.int x2), (.long j206_1)])) (fun _ k => XS.iconst X29.here hx rfl (hb hby at_233) k) ?_
                obtain ⟨_, _, ⟨T30, L30, k30, n30⟩, -, X30, ⟨Lc30, hQ30, l30, y30, z30⟩, st30⟩ := Jvm.LawKit.callS X29 hx (y := (⟨"com/example/slotter/slotter/analysis/BatchMeansEventsPinLaw", "bit", "(II)I"⟩ : MethodName)) hown (mvT hZ (hw _ (List.mem_of_getElem? (i := 22) rfl))) (mvT hZ (hw _ (List.mem_of_getElem? (i := 23) rfl))) (mvT hZ (hw _ (List.mem_of_getElem? (i := 24) rfl))) (mvT hZ (hw _ (List.mem_of_getElem? (i := 25) rfl))) (by decide) (backOf (W := 2) (rm4 l Z a0 hw [] x2 (5 : Int32)  T29.heap n0 Zs29 ) hZ (hw _ (List.mem_of_getElem? (i := 25) rfl)) (hw _ (List.mem_of_getElem? (i := 24) rfl)) (by decide) (by decide)) (g := (mkF m 234 #[.val (.int x0), .val (.int x1), .val (.int x2), .val (.long ((20 : Int64) + ((x0 &&& (15 : Int32)).toInt64))), .second, .val (.int ((x1 &&& (15 : Int32)) % (9 : Int32))), .val (.ref b1), .val (.long j206_1), .second] [(.int (5 : Int32)), (.int x2), (.long j206_1)])) rfl (by rw [hml]; rfl) (argsL := [(.int x2), (.int (5 : Int32))]) (rest := [(.long j206_1)]) (lenOf own_pd2 rfl) rfl (by show 2 * 0 + _ ≤ _; exact Nat.le_of_eq rfl) (hb hby at_234) (fun _ _ => ⟨rfl, rfl, (by decide : 2 + 0 ≤ _), (by decide : 25 + 0 ≤ _)⟩)
                dsimp only [Pt.U, Pt.locs, Pt.cells, Pt.slots] at X30 l30 y30 z30 st30 hQ30
                subst l30 y30 z30
                obtain ⟨⟨r30, rfl, hr30⟩, Nq30, eq30⟩ := hQ30
                have N30 := Fr.app N29 Nq30
                refine own_st (T' := T30) (F' := (mkF m 237 #[.val (.int x0), .val (.int x1), .val (.int x2), .val (.long ((20 : Int64) + ((x0 &&& (15 : Int32)).toInt64))), .second, .val (.int ((x1 &&& (15 : Int32)) % (9 : Int32))), .val (.ref b1), .val (.long j206_1), .second] [(.int r30), (.long j206_1)])) (fun _ k => st30 _ k) ?_
                refine own_st (T' := T30) (F' := (mkF m 238 #[.val (.int x0), .val (.int x1), .val (.int x2), .val (.long ((20 : Int64) + ((x0 &&& (15 : Int32)).toInt64))), .second, .val (.int ((x1 &&& (15 : Int32)) % (9 : Int32))), .val (.ref b1), .val (.long j206_1), .second] [(.long (r30.toInt64)), (.long j206_1)])) (fun _ k => XS.i2l X30.here hx rfl (hb hby at_237) rfl k) ?_
                refine own_st (T' := T30) (F' := (mkF m 239 #[.val (.int x0), .val (.int x1), .val (.int x2), .val (.long ((20 : Int64) + ((x0 &&& (15 : Int32)).toInt64))), .second, .val (.int ((x1 &&& (15 : Int32)) % (9 : Int32))), .val (.ref b1), .val (.long j206_1), .second] [(.long (j206_1 + (r30.toInt64)))])) (fun _ k => XS.ladd X30.here hx rfl (hb hby at_238) rfl k) ?_
                refine own_st (T' := T30) (F' := (mkF m 241 #[.val (.int x0), .val (.int x1), .val (.int x2), .val (.long ((20 : Int64) + ((x0 &&& (15 : Int32)).toInt64))), .second, .val (.int ((x1 &&& (15 : Int32)) % (9 : Int32))), .val (.ref b1), .val (.long (j206_1 + (r30.toInt64))), .second] [])) (fun _ k => XS.lstore X30.here hx rfl (hb hby at_239) rfl (l' := #[.val (.int x0), .val (.int x1), .val (.int x2), .val (.long ((20 : Int64) + ((x0 &&& (15 : Int32)).toInt64))), .second, .val (.int ((x1 &&& (15 : Int32)) % (9 : Int32))), .val (.ref b1), .val (.long (j206_1 + (r30.toInt64))), .second]) rfl k) ?_
                exact J241_13 (j206_1 + (r30.toInt64)) be29 (j206_104 + 1) ba29 vs29 T30 _ X30 N30 T29.heap eq30 Zs29 K29 g29_1 g29_2 g29_3 fB29 g29_4 fA29 vE29 (own_I_step hJ206_12 rfl rfl (by decide) hc209 hb29 hl29 hsu29 (by rw [hr30]; rw [hr27] at hJ227_28; rcases hJ227_28 with ⟨a, q⟩ | ⟨a, q⟩; rw [q, a]; rcases own_bit01 _ _ with b | b; exact absurd b a; rw [q, b]))
              refine own_ifc X27 hx (pc' := 226) (pc2 := 222) (hb hby at_219) (by decide) (by decide) rfl (fun (hc219 : r27 = (0 : Int32)) => ?_) (fun (hc219 : ¬ (r27 = (0 : Int32))) => ?_)
              ·
                refine own_st (T' := T27) (F' := (mkF m 227 #[.val (.int x0), .val (.int x1), .val (.int x2), .val (.long ((20 : Int64) + ((x0 &&& (15 : Int32)).toInt64))), .second, .val (.int ((x1 &&& (15 : Int32)) % (9 : Int32))), .val (.ref b1), .val (.long j206_1), .second] [(.int (0 : Int32)), (.ref b1)])) (fun _ k => XS.iconst X27.here hx rfl (hb hby at_226) k) ?_
                exact J227_28 (0 : Int32) (Or.inl (⟨hc219, rfl⟩))
              ·
                refine own_st (T' := T27) (F' := (mkF m 223 #[.val (.int x0), .val (.int x1), .val (.int x2), .val (.long ((20 : Int64) + ((x0 &&& (15 : Int32)).toInt64))), .second, .val (.int ((x1 &&& (15 : Int32)) % (9 : Int32))), .val (.ref b1), .val (.long j206_1), .second] [(.int (1 : Int32)), (.ref b1)])) (fun _ k => XS.iconst X27.here hx rfl (hb hby at_222) k) ?_
                refine own_st (T' := T27) (F' := (mkF m 227 #[.val (.int x0), .val (.int x1), .val (.int x2), .val (.long ((20 : Int64) + ((x0 &&& (15 : Int32)).toInt64))), .second, .val (.int ((x1 &&& (15 : Int32)) % (9 : Int32))), .val (.ref b1), .val (.long j206_1), .second] [(.int (1 : Int32)), (.ref b1)])) (fun _ k => XS.goto X27.here hx rfl (pc0 := 223) (pc' := 227) rfl (hb hby at_223) (by decide) (by decide) k) ?_
                exact J227_28 (1 : Int32) (Or.inr (⟨hc219, rfl⟩))
          refine own_icmp XJ11 hx (pc' := 206) (pc2 := 177) (hb hby at_174) (by decide) (by decide) rfl (fun (hc174 : ¬ ((4 : Int32) < ((x1 &&& (15 : Int32)) % (9 : Int32)))) => ?_) (fun (hc174 : (4 : Int32) < ((x1 &&& (15 : Int32)) % (9 : Int32))) => ?_)
          ·
            exact J206_12 j171_1 j171_103 j171_104 j171_105 j171_1600 TJ11 _ XJ11 NJ11 hJ11 eJ11 zJ11 kJ11 fJ11_0 fJ11_1 fJ11_2 fJ11_3 fJ11_4 fJ11_5 fJ11_6 (own_I_skip hJ171_11 rfl rfl hc174)
          ·
            refine own_st (T' := TJ11) (F' := (mkF m 179 #[.val (.int x0), .val (.int x1), .val (.int x2), .val (.long ((20 : Int64) + ((x0 &&& (15 : Int32)).toInt64))), .second, .val (.int ((x1 &&& (15 : Int32)) % (9 : Int32))), .val (.ref b1), .val (.long j171_1), .second] [(.ref b1)])) (fun _ k => XS.aload XJ11.here hx rfl (hb hby at_177) rfl rfl k) ?_
            refine own_st (T' := TJ11) (F' := (mkF m 180 #[.val (.int x0), .val (.int x1), .val (.int x2), .val (.long ((20 : Int64) + ((x0 &&& (15 : Int32)).toInt64))), .second, .val (.int ((x1 &&& (15 : Int32)) % (9 : Int32))), .val (.ref b1), .val (.long j171_1), .second] [(.int x2), (.ref b1)])) (fun _ k => XS.iloadN XJ11.here hx rfl (hb hby at_179) rfl  k) ?_
            refine own_st (T' := TJ11) (F' := (mkF m 181 #[.val (.int x0), .val (.int x1), .val (.int x2), .val (.long ((20 : Int64) + ((x0 &&& (15 : Int32)).toInt64))), .second, .val (.int ((x1 &&& (15 : Int32)) % (9 : Int32))), .val (.ref b1), .val (.long j171_1), .second] [(.int (4 : Int32)), (.int x2), (.ref b1)])) (fun _ k => XS.iconst XJ11.here hx rfl (hb hby at_180) k) ?_
            obtain ⟨_, _, ⟨T31, L31, k31, n31⟩, -, X31, ⟨Lc31, hQ31, l31, y31, z31⟩, st31⟩ := Jvm.LawKit.callS XJ11 hx (y := (⟨"com/example/slotter/slotter/analysis/BatchMeansEventsPinLaw", "bit", "(II)I"⟩ : MethodName)) hown (mvT hZ (hw _ (List.mem_of_getElem? (i := 22) rfl))) (mvT hZ (hw _ (List.mem_of_getElem? (i := 23) rfl))) (mvT hZ (hw _ (List.mem_of_getElem? (i := 24) rfl))) (mvT hZ (hw _ (List.mem_of_getElem? (i := 25) rfl))) (by decide) (backOf (W := 1) (rm4 l Z a0 hw [] x2 (4 : Int32)  hJ11 n0 zJ11 ) hZ (hw _ (List.mem_of_getElem? (i := 25) rfl)) (hw _ (List.mem_of_getElem? (i := 24) rfl)) (by decide) (by decide)) (g := (mkF m 181 #[.val (.int x0), .val (.int x1), .val (.int x2), .val (.long ((20 : Int64) + ((x0 &&& (15 : Int32)).toInt64))), .second, .val (.int ((x1 &&& (15 : Int32)) % (9 : Int32))), .val (.ref b1), .val (.long j171_1), .second] [(.int (4 : Int32)), (.int x2), (.ref b1)])) rfl (by rw [hml]; rfl) (argsL := [(.int x2), (.int (4 : Int32))]) (rest := [(.ref b1)]) (lenOf own_pd2 rfl) rfl (by show 2 * 0 + _ ≤ _; exact Nat.le_of_eq rfl) (hb hby at_181) (fun _ _ => ⟨rfl, eJ11, (by decide : 2 + 0 ≤ _), (by decide : 25 + 0 ≤ _)⟩)
            dsimp only [Pt.U, Pt.locs, Pt.cells, Pt.slots] at X31 l31 y31 z31 st31 hQ31
            subst l31 y31 z31
            obtain ⟨⟨r31, rfl, hr31⟩, Nq31, eq31⟩ := hQ31
            have N31 := Fr.app NJ11 Nq31
            refine own_st (T' := T31) (F' := (mkF m 184 #[.val (.int x0), .val (.int x1), .val (.int x2), .val (.long ((20 : Int64) + ((x0 &&& (15 : Int32)).toInt64))), .second, .val (.int ((x1 &&& (15 : Int32)) % (9 : Int32))), .val (.ref b1), .val (.long j171_1), .second] [(.int r31), (.ref b1)])) (fun _ k => st31 _ k) ?_
            have J192_32 : ∀ (j192_1 : Int32), (((r31 = (0 : Int32)) ∧ j192_1 = (0 : Int32)) ∨ ((¬ (r31 = (0 : Int32))) ∧ j192_1 = (1 : Int32))) → own_Go p e below s (Q0 Z x0 x1 x2  h0 n0) room_1.cells room_1.slots T31 (mkF m 192 #[.val (.int x0), .val (.int x1), .val (.int x2), .val (.long ((20 : Int64) + ((x0 &&& (15 : Int32)).toInt64))), .second, .val (.int ((x1 &&& (15 : Int32)) % (9 : Int32))), .val (.ref b1), .val (.long j171_1), .second] [(.int j192_1), (.ref b1)]) := by
              intro j192_1 hJ192_32
              obtain ⟨cq33, kq33, q33a, q33b, q33c⟩ := isOf hZ eq31 fJ11_0
              obtain ⟨_, _, ⟨T33, L33, k33, n33⟩, -, X33, ⟨Lc33, hQ33, l33, y33, z33⟩, st33⟩ := X31.virtualBack hx (y := (⟨"com/example/slotter/slotter/analysis/BatchMeans", "observe", "(Z)V"⟩ : MethodName)) (z := (⟨"com/example/slotter/slotter/analysis/BatchMeans", "observe", "(Z)V"⟩ : MethodName)) hown (mvT hZ (hw _ (List.mem_of_getElem? (i := 26) rfl))) (mvT hZ (hw _ (List.mem_of_getElem? (i := 27) rfl))) (notFace_of_selects (args := #[]) (mvT hZ (hw _ (List.mem_of_getElem? (i := 29) rfl)))) (mvT hZ (hw _ (List.mem_of_getElem? (i := 29) rfl))) (mvT hZ (hw _ (List.mem_of_getElem? (i := 28) rfl))) (by decide) (backOf (W := 0) (rm5 l Z a0 hw [] b1 j192_1 ev ((20 : Int64) + ((x0 &&& (15 : Int32)).toInt64)) j171_103 j171_104 j171_105 k7k j171_1600 hJ11 n0 zJ11 ge1 fJ11_0 fJ11_1 ge_ev fJ11_2 fJ11_3 fJ11_4 fJ11_5 fJ11_6 ne_ev (own_I_ob hJ171_11 (by decide) (own_t x0)) (own_I_ba hJ171_11 (by decide)) hJ171_11.2.2.2.1 (by rcases hJ192_32 with ⟨_, q⟩ | ⟨_, q⟩; exact Or.inl q; exact Or.inr q)) hZ (hw _ (List.mem_of_getElem? (i := 30) rfl)) (hw _ (List.mem_of_getElem? (i := 3) rfl)) (by decide) (by decide)) q33a q33c (g := (mkF m 192 #[.val (.int x0), .val (.int x1), .val (.int x2), .val (.long ((20 : Int64) + ((x0 &&& (15 : Int32)).toInt64))), .second, .val (.int ((x1 &&& (15 : Int32)) % (9 : Int32))), .val (.ref b1), .val (.long j171_1), .second] [(.int j192_1), (.ref b1)])) rfl (by rw [hml]; rfl) (Steps.refl _) (argsL := [(.int j192_1)]) (rest := []) (lenOf own_pd3 rfl) rfl (by show 2 * 0 + _ ≤ _; exact Nat.le_of_eq rfl) (hb hby at_192) (fun _ _ => ⟨rfl, eq31, (by decide : 2 + 0 ≤ _), (by decide : 25 + 0 ≤ _)⟩)
              dsimp only [Pt.U, Pt.locs, Pt.cells, Pt.slots] at X33 l33 y33 z33 st33 hQ33
              subst l33 y33 z33
              obtain ⟨rfl, Nq33, g33_0, g33_1, g33_2, g33_3, g33_4, g33_5⟩ := hQ33
              have N33 := Fr.app N31 Nq33
              have K33 : Keep h0 T33.heap [] := kJ11.trans g33_0 (allS (Or.inr hge1) (allS (Or.inr hge_ev) all0))
              have Zs33 : n0 ≤ T33.heap.size := Nat.le_trans Z0 K33.1
              obtain ⟨ba33, be33, vs33, fA33, fB33, vE33, hb33, hl33, hsu33⟩ := g33_5
              refine own_tr (T' := T33) (F' := (mkF m 195 #[.val (.int x0), .val (.int x1), .val (.int x2), .val (.long ((20 : Int64) + ((x0 &&& (15 : Int32)).toInt64))), .second, .val (.int ((x1 &&& (15 : Int32)) % (9 : Int32))), .val (.ref b1), .val (.long j171_1), .second] [])) st33 ?_
              refine own_st (T' := T33) (F' := (mkF m 197 #[.val (.int x0), .val (.int x1), .val (.int x2), .val (.long ((20 : Int64) + ((x0 &&& (15 : Int32)).toInt64))), .second, .val (.int ((x1 &&& (15 : Int32)) % (9 : Int32))), .val (.ref b1), .val (.long j171_1), .second] [(.long j171_1)])) (fun _ k => XS.lload X33.here hx rfl (hb hby at_195) rfl  k) ?_
              refine own_st (T' := T33) (F' := (mkF m 198 #[.val (.int x0), .val (.int x1), .val (.int x2), .val (.long ((20 : Int64) + ((x0 &&& (15 : Int32)).toInt64))), .second, .val (.int ((x1 &&& (15 : Int32)) % (9 : Int32))), .val (.ref b1), .val (.long j171_1), .second] [(.int x2), (.long j171_1)])) (fun _ k => XS.iloadN X33.here hx rfl (hb hby at_197) rfl  k) ?_
              refine own_st (T' := T33) (F' := (mkF m 199 #[.val (.int x0), .val (.int x1), .val (.int x2), .val (.long ((20 : Int64) + ((x0 &&& (15 : Int32)).toInt64))), .second, .val (.int ((x1 &&& (15 : Int32)) % (9 : Int32))), .val (.ref b1), .val (.long j171_1), .second] [(.int (4 : Int32)), (.int x2), (.long j171_1)])) (fun _ k => XS.iconst X33.here hx rfl (hb hby at_198) k) ?_
              obtain ⟨_, _, ⟨T34, L34, k34, n34⟩, -, X34, ⟨Lc34, hQ34, l34, y34, z34⟩, st34⟩ := Jvm.LawKit.callS X33 hx (y := (⟨"com/example/slotter/slotter/analysis/BatchMeansEventsPinLaw", "bit", "(II)I"⟩ : MethodName)) hown (mvT hZ (hw _ (List.mem_of_getElem? (i := 22) rfl))) (mvT hZ (hw _ (List.mem_of_getElem? (i := 23) rfl))) (mvT hZ (hw _ (List.mem_of_getElem? (i := 24) rfl))) (mvT hZ (hw _ (List.mem_of_getElem? (i := 25) rfl))) (by decide) (backOf (W := 2) (rm4 l Z a0 hw [] x2 (4 : Int32)  T33.heap n0 Zs33 ) hZ (hw _ (List.mem_of_getElem? (i := 25) rfl)) (hw _ (List.mem_of_getElem? (i := 24) rfl)) (by decide) (by decide)) (g := (mkF m 199 #[.val (.int x0), .val (.int x1), .val (.int x2), .val (.long ((20 : Int64) + ((x0 &&& (15 : Int32)).toInt64))), .second, .val (.int ((x1 &&& (15 : Int32)) % (9 : Int32))), .val (.ref b1), .val (.long j171_1), .second] [(.int (4 : Int32)), (.int x2), (.long j171_1)])) rfl (by rw [hml]; rfl) (argsL := [(.int x2), (.int (4 : Int32))]) (rest := [(.long j171_1)]) (lenOf own_pd2 rfl) rfl (by show 2 * 0 + _ ≤ _; exact Nat.le_of_eq rfl) (hb hby at_199) (fun _ _ => ⟨rfl, rfl, (by decide : 2 + 0 ≤ _), (by decide : 25 + 0 ≤ _)⟩)
              dsimp only [Pt.U, Pt.locs, Pt.cells, Pt.slots] at X34 l34 y34 z34 st34 hQ34
              subst l34 y34 z34
              obtain ⟨⟨r34, rfl, hr34⟩, Nq34, eq34⟩ := hQ34
              have N34 := Fr.app N33 Nq34
              refine own_st (T' := T34) (F' := (mkF m 202 #[.val (.int x0), .val (.int x1), .val (.int x2), .val (.long ((20 : Int64) + ((x0 &&& (15 : Int32)).toInt64))), .second, .val (.int ((x1 &&& (15 : Int32)) % (9 : Int32))), .val (.ref b1), .val (.long j171_1), .second] [(.int r34), (.long j171_1)])) (fun _ k => st34 _ k) ?_
              refine own_st (T' := T34) (F' := (mkF m 203 #[.val (.int x0), .val (.int x1), .val (.int x2), .val (.long ((20 : Int64) + ((x0 &&& (15 : Int32)).toInt64))), .second, .val (.int ((x1 &&& (15 : Int32)) % (9 : Int32))), .val (.ref b1), .val (.long j171_1), .second] [(.long (r34.toInt64)), (.long j171_1)])) (fun _ k => XS.i2l X34.here hx rfl (hb hby at_202) rfl k) ?_
              refine own_st (T' := T34) (F' := (mkF m 204 #[.val (.int x0), .val (.int x1), .val (.int x2), .val (.long ((20 : Int64) + ((x0 &&& (15 : Int32)).toInt64))), .second, .val (.int ((x1 &&& (15 : Int32)) % (9 : Int32))), .val (.ref b1), .val (.long j171_1), .second] [(.long (j171_1 + (r34.toInt64)))])) (fun _ k => XS.ladd X34.here hx rfl (hb hby at_203) rfl k) ?_
              refine own_st (T' := T34) (F' := (mkF m 206 #[.val (.int x0), .val (.int x1), .val (.int x2), .val (.long ((20 : Int64) + ((x0 &&& (15 : Int32)).toInt64))), .second, .val (.int ((x1 &&& (15 : Int32)) % (9 : Int32))), .val (.ref b1), .val (.long (j171_1 + (r34.toInt64))), .second] [])) (fun _ k => XS.lstore X34.here hx rfl (hb hby at_204) rfl (l' := #[.val (.int x0), .val (.int x1), .val (.int x2), .val (.long ((20 : Int64) + ((x0 &&& (15 : Int32)).toInt64))), .second, .val (.int ((x1 &&& (15 : Int32)) % (9 : Int32))), .val (.ref b1), .val (.long (j171_1 + (r34.toInt64))), .second]) rfl k) ?_
              exact J206_12 (j171_1 + (r34.toInt64)) be33 (j171_104 + 1) ba33 vs33 T34 _ X34 N34 T33.heap eq34 Zs33 K33 g33_1 g33_2 g33_3 fB33 g33_4 fA33 vE33 (own_I_step hJ171_11 rfl rfl (by decide) hc174 hb33 hl33 hsu33 (by rw [hr34]; rw [hr31] at hJ192_32; rcases hJ192_32 with ⟨a, q⟩ | ⟨a, q⟩; rw [q, a]; rcases own_bit01 _ _ with b | b; exact absurd b a; rw [q, b]))
            refine own_ifc X31 hx (pc' := 191) (pc2 := 187) (hb hby at_184) (by decide) (by decide) rfl (fun (hc184 : r31 = (0 : Int32)) => ?_) (fun (hc184 : ¬ (r31 = (0 : Int32))) => ?_)
            ·
              refine own_st (T' := T31) (F' := (mkF m 192 #[.val (.int x0), .val (.int x1), .val (.int x2), .val (.long ((20 : Int64) + ((x0 &&& (15 : Int32)).toInt64))), .second, .val (.int ((x1 &&& (15 : Int32)) % (9 : Int32))), .val (.ref b1), .val (.long j171_1), .second] [(.int (0 : Int32)), (.ref b1)])) (fun _ k => XS.iconst X31.here hx rfl (hb hby at_191) k) ?_
              exact J192_32 (0 : Int32) (Or.inl (⟨hc184, rfl⟩))
            ·
              refine own_st (T' := T31) (F' := (mkF m 188 #[.val (.int x0), .val (.int x1), .val (.int x2), .val (.long ((20 : Int64) + ((x0 &&& (15 : Int32)).toInt64))), .second, .val (.int ((x1 &&& (15 : Int32)) % (9 : Int32))), .val (.ref b1), .val (.long j171_1), .second] [(.int (1 : Int32)), (.ref b1)])) (fun _ k => XS.iconst X31.here hx rfl (hb hby at_187) k) ?_
              refine own_st (T' := T31) (F' := (mkF m 192 #[.val (.int x0), .val (.int x1), .val (.int x2), .val (.long ((20 : Int64) + ((x0 &&& (15 : Int32)).toInt64))), .second, .val (.int ((x1 &&& (15 : Int32)) % (9 : Int32))), .val (.ref b1), .val (.long j171_1), .second] [(.int (1 : Int32)), (.ref b1)])) (fun _ k => XS.goto X31.here hx rfl (pc0 := 188) (pc' := 192) rfl (hb hby at_188) (by decide) (by decide) k) ?_
              exact J192_32 (1 : Int32) (Or.inr (⟨hc184, rfl⟩))
        refine own_icmp XJ10 hx (pc' := 171) (pc2 := 142) (hb hby at_139) (by decide) (by decide) rfl (fun (hc139 : ¬ ((3 : Int32) < ((x1 &&& (15 : Int32)) % (9 : Int32)))) => ?_) (fun (hc139 : (3 : Int32) < ((x1 &&& (15 : Int32)) % (9 : Int32))) => ?_)
        ·
          exact J171_11 j136_1 j136_103 j136_104 j136_105 j136_1600 TJ10 _ XJ10 NJ10 hJ10 eJ10 zJ10 kJ10 fJ10_0 fJ10_1 fJ10_2 fJ10_3 fJ10_4 fJ10_5 fJ10_6 (own_I_skip hJ136_10 rfl rfl hc139)
        ·
          refine own_st (T' := TJ10) (F' := (mkF m 144 #[.val (.int x0), .val (.int x1), .val (.int x2), .val (.long ((20 : Int64) + ((x0 &&& (15 : Int32)).toInt64))), .second, .val (.int ((x1 &&& (15 : Int32)) % (9 : Int32))), .val (.ref b1), .val (.long j136_1), .second] [(.ref b1)])) (fun _ k => XS.aload XJ10.here hx rfl (hb hby at_142) rfl rfl k) ?_
          refine own_st (T' := TJ10) (F' := (mkF m 145 #[.val (.int x0), .val (.int x1), .val (.int x2), .val (.long ((20 : Int64) + ((x0 &&& (15 : Int32)).toInt64))), .second, .val (.int ((x1 &&& (15 : Int32)) % (9 : Int32))), .val (.ref b1), .val (.long j136_1), .second] [(.int x2), (.ref b1)])) (fun _ k => XS.iloadN XJ10.here hx rfl (hb hby at_144) rfl  k) ?_
          refine own_st (T' := TJ10) (F' := (mkF m 146 #[.val (.int x0), .val (.int x1), .val (.int x2), .val (.long ((20 : Int64) + ((x0 &&& (15 : Int32)).toInt64))), .second, .val (.int ((x1 &&& (15 : Int32)) % (9 : Int32))), .val (.ref b1), .val (.long j136_1), .second] [(.int (3 : Int32)), (.int x2), (.ref b1)])) (fun _ k => XS.iconst XJ10.here hx rfl (hb hby at_145) k) ?_
          obtain ⟨_, _, ⟨T35, L35, k35, n35⟩, -, X35, ⟨Lc35, hQ35, l35, y35, z35⟩, st35⟩ := Jvm.LawKit.callS XJ10 hx (y := (⟨"com/example/slotter/slotter/analysis/BatchMeansEventsPinLaw", "bit", "(II)I"⟩ : MethodName)) hown (mvT hZ (hw _ (List.mem_of_getElem? (i := 22) rfl))) (mvT hZ (hw _ (List.mem_of_getElem? (i := 23) rfl))) (mvT hZ (hw _ (List.mem_of_getElem? (i := 24) rfl))) (mvT hZ (hw _ (List.mem_of_getElem? (i := 25) rfl))) (by decide) (backOf (W := 1) (rm4 l Z a0 hw [] x2 (3 : Int32)  hJ10 n0 zJ10 ) hZ (hw _ (List.mem_of_getElem? (i := 25) rfl)) (hw _ (List.mem_of_getElem? (i := 24) rfl)) (by decide) (by decide)) (g := (mkF m 146 #[.val (.int x0), .val (.int x1), .val (.int x2), .val (.long ((20 : Int64) + ((x0 &&& (15 : Int32)).toInt64))), .second, .val (.int ((x1 &&& (15 : Int32)) % (9 : Int32))), .val (.ref b1), .val (.long j136_1), .second] [(.int (3 : Int32)), (.int x2), (.ref b1)])) rfl (by rw [hml]; rfl) (argsL := [(.int x2), (.int (3 : Int32))]) (rest := [(.ref b1)]) (lenOf own_pd2 rfl) rfl (by show 2 * 0 + _ ≤ _; exact Nat.le_of_eq rfl) (hb hby at_146) (fun _ _ => ⟨rfl, eJ10, (by decide : 2 + 0 ≤ _), (by decide : 25 + 0 ≤ _)⟩)
          dsimp only [Pt.U, Pt.locs, Pt.cells, Pt.slots] at X35 l35 y35 z35 st35 hQ35
          subst l35 y35 z35
          obtain ⟨⟨r35, rfl, hr35⟩, Nq35, eq35⟩ := hQ35
          have N35 := Fr.app NJ10 Nq35
          refine own_st (T' := T35) (F' := (mkF m 149 #[.val (.int x0), .val (.int x1), .val (.int x2), .val (.long ((20 : Int64) + ((x0 &&& (15 : Int32)).toInt64))), .second, .val (.int ((x1 &&& (15 : Int32)) % (9 : Int32))), .val (.ref b1), .val (.long j136_1), .second] [(.int r35), (.ref b1)])) (fun _ k => st35 _ k) ?_
          have J157_36 : ∀ (j157_1 : Int32), (((r35 = (0 : Int32)) ∧ j157_1 = (0 : Int32)) ∨ ((¬ (r35 = (0 : Int32))) ∧ j157_1 = (1 : Int32))) → own_Go p e below s (Q0 Z x0 x1 x2  h0 n0) room_1.cells room_1.slots T35 (mkF m 157 #[.val (.int x0), .val (.int x1), .val (.int x2), .val (.long ((20 : Int64) + ((x0 &&& (15 : Int32)).toInt64))), .second, .val (.int ((x1 &&& (15 : Int32)) % (9 : Int32))), .val (.ref b1), .val (.long j136_1), .second] [(.int j157_1), (.ref b1)]) := by
            intro j157_1 hJ157_36
            obtain ⟨cq37, kq37, q37a, q37b, q37c⟩ := isOf hZ eq35 fJ10_0
            obtain ⟨_, _, ⟨T37, L37, k37, n37⟩, -, X37, ⟨Lc37, hQ37, l37, y37, z37⟩, st37⟩ := X35.virtualBack hx (y := (⟨"com/example/slotter/slotter/analysis/BatchMeans", "observe", "(Z)V"⟩ : MethodName)) (z := (⟨"com/example/slotter/slotter/analysis/BatchMeans", "observe", "(Z)V"⟩ : MethodName)) hown (mvT hZ (hw _ (List.mem_of_getElem? (i := 26) rfl))) (mvT hZ (hw _ (List.mem_of_getElem? (i := 27) rfl))) (notFace_of_selects (args := #[]) (mvT hZ (hw _ (List.mem_of_getElem? (i := 29) rfl)))) (mvT hZ (hw _ (List.mem_of_getElem? (i := 29) rfl))) (mvT hZ (hw _ (List.mem_of_getElem? (i := 28) rfl))) (by decide) (backOf (W := 0) (rm5 l Z a0 hw [] b1 j157_1 ev ((20 : Int64) + ((x0 &&& (15 : Int32)).toInt64)) j136_103 j136_104 j136_105 k7k j136_1600 hJ10 n0 zJ10 ge1 fJ10_0 fJ10_1 ge_ev fJ10_2 fJ10_3 fJ10_4 fJ10_5 fJ10_6 ne_ev (own_I_ob hJ136_10 (by decide) (own_t x0)) (own_I_ba hJ136_10 (by decide)) hJ136_10.2.2.2.1 (by rcases hJ157_36 with ⟨_, q⟩ | ⟨_, q⟩; exact Or.inl q; exact Or.inr q)) hZ (hw _ (List.mem_of_getElem? (i := 30) rfl)) (hw _ (List.mem_of_getElem? (i := 3) rfl)) (by decide) (by decide)) q37a q37c (g := (mkF m 157 #[.val (.int x0), .val (.int x1), .val (.int x2), .val (.long ((20 : Int64) + ((x0 &&& (15 : Int32)).toInt64))), .second, .val (.int ((x1 &&& (15 : Int32)) % (9 : Int32))), .val (.ref b1), .val (.long j136_1), .second] [(.int j157_1), (.ref b1)])) rfl (by rw [hml]; rfl) (Steps.refl _) (argsL := [(.int j157_1)]) (rest := []) (lenOf own_pd3 rfl) rfl (by show 2 * 0 + _ ≤ _; exact Nat.le_of_eq rfl) (hb hby at_157) (fun _ _ => ⟨rfl, eq35, (by decide : 2 + 0 ≤ _), (by decide : 25 + 0 ≤ _)⟩)
            dsimp only [Pt.U, Pt.locs, Pt.cells, Pt.slots] at X37 l37 y37 z37 st37 hQ37
            subst l37 y37 z37
            obtain ⟨rfl, Nq37, g37_0, g37_1, g37_2, g37_3, g37_4, g37_5⟩ := hQ37
            have N37 := Fr.app N35 Nq37
            have K37 : Keep h0 T37.heap [] := kJ10.trans g37_0 (allS (Or.inr hge1) (allS (Or.inr hge_ev) all0))
            have Zs37 : n0 ≤ T37.heap.size := Nat.le_trans Z0 K37.1
            obtain ⟨ba37, be37, vs37, fA37, fB37, vE37, hb37, hl37, hsu37⟩ := g37_5
            refine own_tr (T' := T37) (F' := (mkF m 160 #[.val (.int x0), .val (.int x1), .val (.int x2), .val (.long ((20 : Int64) + ((x0 &&& (15 : Int32)).toInt64))), .second, .val (.int ((x1 &&& (15 : Int32)) % (9 : Int32))), .val (.ref b1), .val (.long j136_1), .second] [])) st37 ?_
            refine own_st (T' := T37) (F' := (mkF m 162 #[.val (.int x0), .val (.int x1), .val (.int x2), .val (.long ((20 : Int64) + ((x0 &&& (15 : Int32)).toInt64))), .second, .val (.int ((x1 &&& (15 : Int32)) % (9 : Int32))), .val (.ref b1), .val (.long j136_1), .second] [(.long j136_1)])) (fun _ k => XS.lload X37.here hx rfl (hb hby at_160) rfl  k) ?_
            refine own_st (T' := T37) (F' := (mkF m 163 #[.val (.int x0), .val (.int x1), .val (.int x2), .val (.long ((20 : Int64) + ((x0 &&& (15 : Int32)).toInt64))), .second, .val (.int ((x1 &&& (15 : Int32)) % (9 : Int32))), .val (.ref b1), .val (.long j136_1), .second] [(.int x2), (.long j136_1)])) (fun _ k => XS.iloadN X37.here hx rfl (hb hby at_162) rfl  k) ?_
            refine own_st (T' := T37) (F' := (mkF m 164 #[.val (.int x0), .val (.int x1), .val (.int x2), .val (.long ((20 : Int64) + ((x0 &&& (15 : Int32)).toInt64))), .second, .val (.int ((x1 &&& (15 : Int32)) % (9 : Int32))), .val (.ref b1), .val (.long j136_1), .second] [(.int (3 : Int32)), (.int x2), (.long j136_1)])) (fun _ k => XS.iconst X37.here hx rfl (hb hby at_163) k) ?_
            obtain ⟨_, _, ⟨T38, L38, k38, n38⟩, -, X38, ⟨Lc38, hQ38, l38, y38, z38⟩, st38⟩ := Jvm.LawKit.callS X37 hx (y := (⟨"com/example/slotter/slotter/analysis/BatchMeansEventsPinLaw", "bit", "(II)I"⟩ : MethodName)) hown (mvT hZ (hw _ (List.mem_of_getElem? (i := 22) rfl))) (mvT hZ (hw _ (List.mem_of_getElem? (i := 23) rfl))) (mvT hZ (hw _ (List.mem_of_getElem? (i := 24) rfl))) (mvT hZ (hw _ (List.mem_of_getElem? (i := 25) rfl))) (by decide) (backOf (W := 2) (rm4 l Z a0 hw [] x2 (3 : Int32)  T37.heap n0 Zs37 ) hZ (hw _ (List.mem_of_getElem? (i := 25) rfl)) (hw _ (List.mem_of_getElem? (i := 24) rfl)) (by decide) (by decide)) (g := (mkF m 164 #[.val (.int x0), .val (.int x1), .val (.int x2), .val (.long ((20 : Int64) + ((x0 &&& (15 : Int32)).toInt64))), .second, .val (.int ((x1 &&& (15 : Int32)) % (9 : Int32))), .val (.ref b1), .val (.long j136_1), .second] [(.int (3 : Int32)), (.int x2), (.long j136_1)])) rfl (by rw [hml]; rfl) (argsL := [(.int x2), (.int (3 : Int32))]) (rest := [(.long j136_1)]) (lenOf own_pd2 rfl) rfl (by show 2 * 0 + _ ≤ _; exact Nat.le_of_eq rfl) (hb hby at_164) (fun _ _ => ⟨rfl, rfl, (by decide : 2 + 0 ≤ _), (by decide : 25 + 0 ≤ _)⟩)
            dsimp only [Pt.U, Pt.locs, Pt.cells, Pt.slots] at X38 l38 y38 z38 st38 hQ38
            subst l38 y38 z38
            obtain ⟨⟨r38, rfl, hr38⟩, Nq38, eq38⟩ := hQ38
            have N38 := Fr.app N37 Nq38
            refine own_st (T' := T38) (F' := (mkF m 167 #[.val (.int x0), .val (.int x1), .val (.int x2), .val (.long ((20 : Int64) + ((x0 &&& (15 : Int32)).toInt64))), .second, .val (.int ((x1 &&& (15 : Int32)) % (9 : Int32))), .val (.ref b1), .val (.long j136_1), .second] [(.int r38), (.long j136_1)])) (fun _ k => st38 _ k) ?_
            refine own_st (T' := T38) (F' := (mkF m 168 #[.val (.int x0), .val (.int x1), .val (.int x2), .val (.long ((20 : Int64) + ((x0 &&& (15 : Int32)).toInt64))), .second, .val (.int ((x1 &&& (15 : Int32)) % (9 : Int32))), .val (.ref b1), .val (.long j136_1), .second] [(.long (r38.toInt64)), (.long j136_1)])) (fun _ k => XS.i2l X38.here hx rfl (hb hby at_167) rfl k) ?_
            refine own_st (T' := T38) (F' := (mkF m 169 #[.val (.int x0), .val (.int x1), .val (.int x2), .val (.long ((20 : Int64) + ((x0 &&& (15 : Int32)).toInt64))), .second, .val (.int ((x1 &&& (15 : Int32)) % (9 : Int32))), .val (.ref b1), .val (.long j136_1), .second] [(.long (j136_1 + (r38.toInt64)))])) (fun _ k => XS.ladd X38.here hx rfl (hb hby at_168) rfl k) ?_
            refine own_st (T' := T38) (F' := (mkF m 171 #[.val (.int x0), .val (.int x1), .val (.int x2), .val (.long ((20 : Int64) + ((x0 &&& (15 : Int32)).toInt64))), .second, .val (.int ((x1 &&& (15 : Int32)) % (9 : Int32))), .val (.ref b1), .val (.long (j136_1 + (r38.toInt64))), .second] [])) (fun _ k => XS.lstore X38.here hx rfl (hb hby at_169) rfl (l' := #[.val (.int x0), .val (.int x1), .val (.int x2), .val (.long ((20 : Int64) + ((x0 &&& (15 : Int32)).toInt64))), .second, .val (.int ((x1 &&& (15 : Int32)) % (9 : Int32))), .val (.ref b1), .val (.long (j136_1 + (r38.toInt64))), .second]) rfl k) ?_
            exact J171_11 (j136_1 + (r38.toInt64)) be37 (j136_104 + 1) ba37 vs37 T38 _ X38 N38 T37.heap eq38 Zs37 K37 g37_1 g37_2 g37_3 fB37 g37_4 fA37 vE37 (own_I_step hJ136_10 rfl rfl (by decide) hc139 hb37 hl37 hsu37 (by rw [hr38]; rw [hr35] at hJ157_36; rcases hJ157_36 with ⟨a, q⟩ | ⟨a, q⟩; rw [q, a]; rcases own_bit01 _ _ with b | b; exact absurd b a; rw [q, b]))
          refine own_ifc X35 hx (pc' := 156) (pc2 := 152) (hb hby at_149) (by decide) (by decide) rfl (fun (hc149 : r35 = (0 : Int32)) => ?_) (fun (hc149 : ¬ (r35 = (0 : Int32))) => ?_)
          ·
            refine own_st (T' := T35) (F' := (mkF m 157 #[.val (.int x0), .val (.int x1), .val (.int x2), .val (.long ((20 : Int64) + ((x0 &&& (15 : Int32)).toInt64))), .second, .val (.int ((x1 &&& (15 : Int32)) % (9 : Int32))), .val (.ref b1), .val (.long j136_1), .second] [(.int (0 : Int32)), (.ref b1)])) (fun _ k => XS.iconst X35.here hx rfl (hb hby at_156) k) ?_
            exact J157_36 (0 : Int32) (Or.inl (⟨hc149, rfl⟩))
          ·
            refine own_st (T' := T35) (F' := (mkF m 153 #[.val (.int x0), .val (.int x1), .val (.int x2), .val (.long ((20 : Int64) + ((x0 &&& (15 : Int32)).toInt64))), .second, .val (.int ((x1 &&& (15 : Int32)) % (9 : Int32))), .val (.ref b1), .val (.long j136_1), .second] [(.int (1 : Int32)), (.ref b1)])) (fun _ k => XS.iconst X35.here hx rfl (hb hby at_152) k) ?_
            refine own_st (T' := T35) (F' := (mkF m 157 #[.val (.int x0), .val (.int x1), .val (.int x2), .val (.long ((20 : Int64) + ((x0 &&& (15 : Int32)).toInt64))), .second, .val (.int ((x1 &&& (15 : Int32)) % (9 : Int32))), .val (.ref b1), .val (.long j136_1), .second] [(.int (1 : Int32)), (.ref b1)])) (fun _ k => XS.goto X35.here hx rfl (pc0 := 153) (pc' := 157) rfl (hb hby at_153) (by decide) (by decide) k) ?_
            exact J157_36 (1 : Int32) (Or.inr (⟨hc149, rfl⟩))
      refine own_icmp XJ9 hx (pc' := 136) (pc2 := 107) (hb hby at_104) (by decide) (by decide) rfl (fun (hc104 : ¬ ((2 : Int32) < ((x1 &&& (15 : Int32)) % (9 : Int32)))) => ?_) (fun (hc104 : (2 : Int32) < ((x1 &&& (15 : Int32)) % (9 : Int32))) => ?_)
      ·
        exact J136_10 j101_1 j101_103 j101_104 j101_105 j101_1600 TJ9 _ XJ9 NJ9 hJ9 eJ9 zJ9 kJ9 fJ9_0 fJ9_1 fJ9_2 fJ9_3 fJ9_4 fJ9_5 fJ9_6 (own_I_skip hJ101_9 rfl rfl hc104)
      ·
        refine own_st (T' := TJ9) (F' := (mkF m 109 #[.val (.int x0), .val (.int x1), .val (.int x2), .val (.long ((20 : Int64) + ((x0 &&& (15 : Int32)).toInt64))), .second, .val (.int ((x1 &&& (15 : Int32)) % (9 : Int32))), .val (.ref b1), .val (.long j101_1), .second] [(.ref b1)])) (fun _ k => XS.aload XJ9.here hx rfl (hb hby at_107) rfl rfl k) ?_
        refine own_st (T' := TJ9) (F' := (mkF m 110 #[.val (.int x0), .val (.int x1), .val (.int x2), .val (.long ((20 : Int64) + ((x0 &&& (15 : Int32)).toInt64))), .second, .val (.int ((x1 &&& (15 : Int32)) % (9 : Int32))), .val (.ref b1), .val (.long j101_1), .second] [(.int x2), (.ref b1)])) (fun _ k => XS.iloadN XJ9.here hx rfl (hb hby at_109) rfl  k) ?_
        refine own_st (T' := TJ9) (F' := (mkF m 111 #[.val (.int x0), .val (.int x1), .val (.int x2), .val (.long ((20 : Int64) + ((x0 &&& (15 : Int32)).toInt64))), .second, .val (.int ((x1 &&& (15 : Int32)) % (9 : Int32))), .val (.ref b1), .val (.long j101_1), .second] [(.int (2 : Int32)), (.int x2), (.ref b1)])) (fun _ k => XS.iconst XJ9.here hx rfl (hb hby at_110) k) ?_
        obtain ⟨_, _, ⟨T39, L39, k39, n39⟩, -, X39, ⟨Lc39, hQ39, l39, y39, z39⟩, st39⟩ := Jvm.LawKit.callS XJ9 hx (y := (⟨"com/example/slotter/slotter/analysis/BatchMeansEventsPinLaw", "bit", "(II)I"⟩ : MethodName)) hown (mvT hZ (hw _ (List.mem_of_getElem? (i := 22) rfl))) (mvT hZ (hw _ (List.mem_of_getElem? (i := 23) rfl))) (mvT hZ (hw _ (List.mem_of_getElem? (i := 24) rfl))) (mvT hZ (hw _ (List.mem_of_getElem? (i := 25) rfl))) (by decide) (backOf (W := 1) (rm4 l Z a0 hw [] x2 (2 : Int32)  hJ9 n0 zJ9 ) hZ (hw _ (List.mem_of_getElem? (i := 25) rfl)) (hw _ (List.mem_of_getElem? (i := 24) rfl)) (by decide) (by decide)) (g := (mkF m 111 #[.val (.int x0), .val (.int x1), .val (.int x2), .val (.long ((20 : Int64) + ((x0 &&& (15 : Int32)).toInt64))), .second, .val (.int ((x1 &&& (15 : Int32)) % (9 : Int32))), .val (.ref b1), .val (.long j101_1), .second] [(.int (2 : Int32)), (.int x2), (.ref b1)])) rfl (by rw [hml]; rfl) (argsL := [(.int x2), (.int (2 : Int32))]) (rest := [(.ref b1)]) (lenOf own_pd2 rfl) rfl (by show 2 * 0 + _ ≤ _; exact Nat.le_of_eq rfl) (hb hby at_111) (fun _ _ => ⟨rfl, eJ9, (by decide : 2 + 0 ≤ _), (by decide : 25 + 0 ≤ _)⟩)
        dsimp only [Pt.U, Pt.locs, Pt.cells, Pt.slots] at X39 l39 y39 z39 st39 hQ39
        subst l39 y39 z39
        obtain ⟨⟨r39, rfl, hr39⟩, Nq39, eq39⟩ := hQ39
        have N39 := Fr.app NJ9 Nq39
        refine own_st (T' := T39) (F' := (mkF m 114 #[.val (.int x0), .val (.int x1), .val (.int x2), .val (.long ((20 : Int64) + ((x0 &&& (15 : Int32)).toInt64))), .second, .val (.int ((x1 &&& (15 : Int32)) % (9 : Int32))), .val (.ref b1), .val (.long j101_1), .second] [(.int r39), (.ref b1)])) (fun _ k => st39 _ k) ?_
        have J122_40 : ∀ (j122_1 : Int32), (((r39 = (0 : Int32)) ∧ j122_1 = (0 : Int32)) ∨ ((¬ (r39 = (0 : Int32))) ∧ j122_1 = (1 : Int32))) → own_Go p e below s (Q0 Z x0 x1 x2  h0 n0) room_1.cells room_1.slots T39 (mkF m 122 #[.val (.int x0), .val (.int x1), .val (.int x2), .val (.long ((20 : Int64) + ((x0 &&& (15 : Int32)).toInt64))), .second, .val (.int ((x1 &&& (15 : Int32)) % (9 : Int32))), .val (.ref b1), .val (.long j101_1), .second] [(.int j122_1), (.ref b1)]) := by
          intro j122_1 hJ122_40
          obtain ⟨cq41, kq41, q41a, q41b, q41c⟩ := isOf hZ eq39 fJ9_0
          obtain ⟨_, _, ⟨T41, L41, k41, n41⟩, -, X41, ⟨Lc41, hQ41, l41, y41, z41⟩, st41⟩ := X39.virtualBack hx (y := (⟨"com/example/slotter/slotter/analysis/BatchMeans", "observe", "(Z)V"⟩ : MethodName)) (z := (⟨"com/example/slotter/slotter/analysis/BatchMeans", "observe", "(Z)V"⟩ : MethodName)) hown (mvT hZ (hw _ (List.mem_of_getElem? (i := 26) rfl))) (mvT hZ (hw _ (List.mem_of_getElem? (i := 27) rfl))) (notFace_of_selects (args := #[]) (mvT hZ (hw _ (List.mem_of_getElem? (i := 29) rfl)))) (mvT hZ (hw _ (List.mem_of_getElem? (i := 29) rfl))) (mvT hZ (hw _ (List.mem_of_getElem? (i := 28) rfl))) (by decide) (backOf (W := 0) (rm5 l Z a0 hw [] b1 j122_1 ev ((20 : Int64) + ((x0 &&& (15 : Int32)).toInt64)) j101_103 j101_104 j101_105 k7k j101_1600 hJ9 n0 zJ9 ge1 fJ9_0 fJ9_1 ge_ev fJ9_2 fJ9_3 fJ9_4 fJ9_5 fJ9_6 ne_ev (own_I_ob hJ101_9 (by decide) (own_t x0)) (own_I_ba hJ101_9 (by decide)) hJ101_9.2.2.2.1 (by rcases hJ122_40 with ⟨_, q⟩ | ⟨_, q⟩; exact Or.inl q; exact Or.inr q)) hZ (hw _ (List.mem_of_getElem? (i := 30) rfl)) (hw _ (List.mem_of_getElem? (i := 3) rfl)) (by decide) (by decide)) q41a q41c (g := (mkF m 122 #[.val (.int x0), .val (.int x1), .val (.int x2), .val (.long ((20 : Int64) + ((x0 &&& (15 : Int32)).toInt64))), .second, .val (.int ((x1 &&& (15 : Int32)) % (9 : Int32))), .val (.ref b1), .val (.long j101_1), .second] [(.int j122_1), (.ref b1)])) rfl (by rw [hml]; rfl) (Steps.refl _) (argsL := [(.int j122_1)]) (rest := []) (lenOf own_pd3 rfl) rfl (by show 2 * 0 + _ ≤ _; exact Nat.le_of_eq rfl) (hb hby at_122) (fun _ _ => ⟨rfl, eq39, (by decide : 2 + 0 ≤ _), (by decide : 25 + 0 ≤ _)⟩)
          dsimp only [Pt.U, Pt.locs, Pt.cells, Pt.slots] at X41 l41 y41 z41 st41 hQ41
          subst l41 y41 z41
          obtain ⟨rfl, Nq41, g41_0, g41_1, g41_2, g41_3, g41_4, g41_5⟩ := hQ41
          have N41 := Fr.app N39 Nq41
          have K41 : Keep h0 T41.heap [] := kJ9.trans g41_0 (allS (Or.inr hge1) (allS (Or.inr hge_ev) all0))
          have Zs41 : n0 ≤ T41.heap.size := Nat.le_trans Z0 K41.1
          obtain ⟨ba41, be41, vs41, fA41, fB41, vE41, hb41, hl41, hsu41⟩ := g41_5
          refine own_tr (T' := T41) (F' := (mkF m 125 #[.val (.int x0), .val (.int x1), .val (.int x2), .val (.long ((20 : Int64) + ((x0 &&& (15 : Int32)).toInt64))), .second, .val (.int ((x1 &&& (15 : Int32)) % (9 : Int32))), .val (.ref b1), .val (.long j101_1), .second] [])) st41 ?_
          refine own_st (T' := T41) (F' := (mkF m 127 #[.val (.int x0), .val (.int x1), .val (.int x2), .val (.long ((20 : Int64) + ((x0 &&& (15 : Int32)).toInt64))), .second, .val (.int ((x1 &&& (15 : Int32)) % (9 : Int32))), .val (.ref b1), .val (.long j101_1), .second] [(.long j101_1)])) (fun _ k => XS.lload X41.here hx rfl (hb hby at_125) rfl  k) ?_
          refine own_st (T' := T41) (F' := (mkF m 128 #[.val (.int x0), .val (.int x1), .val (.int x2), .val (.long ((20 : Int64) + ((x0 &&& (15 : Int32)).toInt64))), .second, .val (.int ((x1 &&& (15 : Int32)) % (9 : Int32))), .val (.ref b1), .val (.long j101_1), .second] [(.int x2), (.long j101_1)])) (fun _ k => XS.iloadN X41.here hx rfl (hb hby at_127) rfl  k) ?_
          refine own_st (T' := T41) (F' := (mkF m 129 #[.val (.int x0), .val (.int x1), .val (.int x2), .val (.long ((20 : Int64) + ((x0 &&& (15 : Int32)).toInt64))), .second, .val (.int ((x1 &&& (15 : Int32)) % (9 : Int32))), .val (.ref b1), .val (.long j101_1), .second] [(.int (2 : Int32)), (.int x2), (.long j101_1)])) (fun _ k => XS.iconst X41.here hx rfl (hb hby at_128) k) ?_
          obtain ⟨_, _, ⟨T42, L42, k42, n42⟩, -, X42, ⟨Lc42, hQ42, l42, y42, z42⟩, st42⟩ := Jvm.LawKit.callS X41 hx (y := (⟨"com/example/slotter/slotter/analysis/BatchMeansEventsPinLaw", "bit", "(II)I"⟩ : MethodName)) hown (mvT hZ (hw _ (List.mem_of_getElem? (i := 22) rfl))) (mvT hZ (hw _ (List.mem_of_getElem? (i := 23) rfl))) (mvT hZ (hw _ (List.mem_of_getElem? (i := 24) rfl))) (mvT hZ (hw _ (List.mem_of_getElem? (i := 25) rfl))) (by decide) (backOf (W := 2) (rm4 l Z a0 hw [] x2 (2 : Int32)  T41.heap n0 Zs41 ) hZ (hw _ (List.mem_of_getElem? (i := 25) rfl)) (hw _ (List.mem_of_getElem? (i := 24) rfl)) (by decide) (by decide)) (g := (mkF m 129 #[.val (.int x0), .val (.int x1), .val (.int x2), .val (.long ((20 : Int64) + ((x0 &&& (15 : Int32)).toInt64))), .second, .val (.int ((x1 &&& (15 : Int32)) % (9 : Int32))), .val (.ref b1), .val (.long j101_1), .second] [(.int (2 : Int32)), (.int x2), (.long j101_1)])) rfl (by rw [hml]; rfl) (argsL := [(.int x2), (.int (2 : Int32))]) (rest := [(.long j101_1)]) (lenOf own_pd2 rfl) rfl (by show 2 * 0 + _ ≤ _; exact Nat.le_of_eq rfl) (hb hby at_129) (fun _ _ => ⟨rfl, rfl, (by decide : 2 + 0 ≤ _), (by decide : 25 + 0 ≤ _)⟩)
          dsimp only [Pt.U, Pt.locs, Pt.cells, Pt.slots] at X42 l42 y42 z42 st42 hQ42
          subst l42 y42 z42
          obtain ⟨⟨r42, rfl, hr42⟩, Nq42, eq42⟩ := hQ42
          have N42 := Fr.app N41 Nq42
          refine own_st (T' := T42) (F' := (mkF m 132 #[.val (.int x0), .val (.int x1), .val (.int x2), .val (.long ((20 : Int64) + ((x0 &&& (15 : Int32)).toInt64))), .second, .val (.int ((x1 &&& (15 : Int32)) % (9 : Int32))), .val (.ref b1), .val (.long j101_1), .second] [(.int r42), (.long j101_1)])) (fun _ k => st42 _ k) ?_
          refine own_st (T' := T42) (F' := (mkF m 133 #[.val (.int x0), .val (.int x1), .val (.int x2), .val (.long ((20 : Int64) + ((x0 &&& (15 : Int32)).toInt64))), .second, .val (.int ((x1 &&& (15 : Int32)) % (9 : Int32))), .val (.ref b1), .val (.long j101_1), .second] [(.long (r42.toInt64)), (.long j101_1)])) (fun _ k => XS.i2l X42.here hx rfl (hb hby at_132) rfl k) ?_
          refine own_st (T' := T42) (F' := (mkF m 134 #[.val (.int x0), .val (.int x1), .val (.int x2), .val (.long ((20 : Int64) + ((x0 &&& (15 : Int32)).toInt64))), .second, .val (.int ((x1 &&& (15 : Int32)) % (9 : Int32))), .val (.ref b1), .val (.long j101_1), .second] [(.long (j101_1 + (r42.toInt64)))])) (fun _ k => XS.ladd X42.here hx rfl (hb hby at_133) rfl k) ?_
          refine own_st (T' := T42) (F' := (mkF m 136 #[.val (.int x0), .val (.int x1), .val (.int x2), .val (.long ((20 : Int64) + ((x0 &&& (15 : Int32)).toInt64))), .second, .val (.int ((x1 &&& (15 : Int32)) % (9 : Int32))), .val (.ref b1), .val (.long (j101_1 + (r42.toInt64))), .second] [])) (fun _ k => XS.lstore X42.here hx rfl (hb hby at_134) rfl (l' := #[.val (.int x0), .val (.int x1), .val (.int x2), .val (.long ((20 : Int64) + ((x0 &&& (15 : Int32)).toInt64))), .second, .val (.int ((x1 &&& (15 : Int32)) % (9 : Int32))), .val (.ref b1), .val (.long (j101_1 + (r42.toInt64))), .second]) rfl k) ?_
          exact J136_10 (j101_1 + (r42.toInt64)) be41 (j101_104 + 1) ba41 vs41 T42 _ X42 N42 T41.heap eq42 Zs41 K41 g41_1 g41_2 g41_3 fB41 g41_4 fA41 vE41 (own_I_step hJ101_9 rfl rfl (by decide) hc104 hb41 hl41 hsu41 (by rw [hr42]; rw [hr39] at hJ122_40; rcases hJ122_40 with ⟨a, q⟩ | ⟨a, q⟩; rw [q, a]; rcases own_bit01 _ _ with b | b; exact absurd b a; rw [q, b]))
        refine own_ifc X39 hx (pc' := 121) (pc2 := 117) (hb hby at_114) (by decide) (by decide) rfl (fun (hc114 : r39 = (0 : Int32)) => ?_) (fun (hc114 : ¬ (r39 = (0 : Int32))) => ?_)
        ·
          refine own_st (T' := T39) (F' := (mkF m 122 #[.val (.int x0), .val (.int x1), .val (.int x2), .val (.long ((20 : Int64) + ((x0 &&& (15 : Int32)).toInt64))), .second, .val (.int ((x1 &&& (15 : Int32)) % (9 : Int32))), .val (.ref b1), .val (.long j101_1), .second] [(.int (0 : Int32)), (.ref b1)])) (fun _ k => XS.iconst X39.here hx rfl (hb hby at_121) k) ?_
          exact J122_40 (0 : Int32) (Or.inl (⟨hc114, rfl⟩))
        ·
          refine own_st (T' := T39) (F' := (mkF m 118 #[.val (.int x0), .val (.int x1), .val (.int x2), .val (.long ((20 : Int64) + ((x0 &&& (15 : Int32)).toInt64))), .second, .val (.int ((x1 &&& (15 : Int32)) % (9 : Int32))), .val (.ref b1), .val (.long j101_1), .second] [(.int (1 : Int32)), (.ref b1)])) (fun _ k => XS.iconst X39.here hx rfl (hb hby at_117) k) ?_
          refine own_st (T' := T39) (F' := (mkF m 122 #[.val (.int x0), .val (.int x1), .val (.int x2), .val (.long ((20 : Int64) + ((x0 &&& (15 : Int32)).toInt64))), .second, .val (.int ((x1 &&& (15 : Int32)) % (9 : Int32))), .val (.ref b1), .val (.long j101_1), .second] [(.int (1 : Int32)), (.ref b1)])) (fun _ k => XS.goto X39.here hx rfl (pc0 := 118) (pc' := 122) rfl (hb hby at_118) (by decide) (by decide) k) ?_
          exact J122_40 (1 : Int32) (Or.inr (⟨hc114, rfl⟩))
    refine own_icmp XJ8 hx (pc' := 101) (pc2 := 72) (hb hby at_69) (by decide) (by decide) rfl (fun (hc69 : ¬ ((1 : Int32) < ((x1 &&& (15 : Int32)) % (9 : Int32)))) => ?_) (fun (hc69 : (1 : Int32) < ((x1 &&& (15 : Int32)) % (9 : Int32))) => ?_)
    ·
      exact J101_9 j66_1 j66_103 j66_104 j66_105 j66_1600 TJ8 _ XJ8 NJ8 hJ8 eJ8 zJ8 kJ8 fJ8_0 fJ8_1 fJ8_2 fJ8_3 fJ8_4 fJ8_5 fJ8_6 (own_I_skip hJ66_8 rfl rfl hc69)
    ·
      refine own_st (T' := TJ8) (F' := (mkF m 74 #[.val (.int x0), .val (.int x1), .val (.int x2), .val (.long ((20 : Int64) + ((x0 &&& (15 : Int32)).toInt64))), .second, .val (.int ((x1 &&& (15 : Int32)) % (9 : Int32))), .val (.ref b1), .val (.long j66_1), .second] [(.ref b1)])) (fun _ k => XS.aload XJ8.here hx rfl (hb hby at_72) rfl rfl k) ?_
      refine own_st (T' := TJ8) (F' := (mkF m 75 #[.val (.int x0), .val (.int x1), .val (.int x2), .val (.long ((20 : Int64) + ((x0 &&& (15 : Int32)).toInt64))), .second, .val (.int ((x1 &&& (15 : Int32)) % (9 : Int32))), .val (.ref b1), .val (.long j66_1), .second] [(.int x2), (.ref b1)])) (fun _ k => XS.iloadN XJ8.here hx rfl (hb hby at_74) rfl  k) ?_
      refine own_st (T' := TJ8) (F' := (mkF m 76 #[.val (.int x0), .val (.int x1), .val (.int x2), .val (.long ((20 : Int64) + ((x0 &&& (15 : Int32)).toInt64))), .second, .val (.int ((x1 &&& (15 : Int32)) % (9 : Int32))), .val (.ref b1), .val (.long j66_1), .second] [(.int (1 : Int32)), (.int x2), (.ref b1)])) (fun _ k => XS.iconst XJ8.here hx rfl (hb hby at_75) k) ?_
      obtain ⟨_, _, ⟨T43, L43, k43, n43⟩, -, X43, ⟨Lc43, hQ43, l43, y43, z43⟩, st43⟩ := Jvm.LawKit.callS XJ8 hx (y := (⟨"com/example/slotter/slotter/analysis/BatchMeansEventsPinLaw", "bit", "(II)I"⟩ : MethodName)) hown (mvT hZ (hw _ (List.mem_of_getElem? (i := 22) rfl))) (mvT hZ (hw _ (List.mem_of_getElem? (i := 23) rfl))) (mvT hZ (hw _ (List.mem_of_getElem? (i := 24) rfl))) (mvT hZ (hw _ (List.mem_of_getElem? (i := 25) rfl))) (by decide) (backOf (W := 1) (rm4 l Z a0 hw [] x2 (1 : Int32)  hJ8 n0 zJ8 ) hZ (hw _ (List.mem_of_getElem? (i := 25) rfl)) (hw _ (List.mem_of_getElem? (i := 24) rfl)) (by decide) (by decide)) (g := (mkF m 76 #[.val (.int x0), .val (.int x1), .val (.int x2), .val (.long ((20 : Int64) + ((x0 &&& (15 : Int32)).toInt64))), .second, .val (.int ((x1 &&& (15 : Int32)) % (9 : Int32))), .val (.ref b1), .val (.long j66_1), .second] [(.int (1 : Int32)), (.int x2), (.ref b1)])) rfl (by rw [hml]; rfl) (argsL := [(.int x2), (.int (1 : Int32))]) (rest := [(.ref b1)]) (lenOf own_pd2 rfl) rfl (by show 2 * 0 + _ ≤ _; exact Nat.le_of_eq rfl) (hb hby at_76) (fun _ _ => ⟨rfl, eJ8, (by decide : 2 + 0 ≤ _), (by decide : 25 + 0 ≤ _)⟩)
      dsimp only [Pt.U, Pt.locs, Pt.cells, Pt.slots] at X43 l43 y43 z43 st43 hQ43
      subst l43 y43 z43
      obtain ⟨⟨r43, rfl, hr43⟩, Nq43, eq43⟩ := hQ43
      have N43 := Fr.app NJ8 Nq43
      refine own_st (T' := T43) (F' := (mkF m 79 #[.val (.int x0), .val (.int x1), .val (.int x2), .val (.long ((20 : Int64) + ((x0 &&& (15 : Int32)).toInt64))), .second, .val (.int ((x1 &&& (15 : Int32)) % (9 : Int32))), .val (.ref b1), .val (.long j66_1), .second] [(.int r43), (.ref b1)])) (fun _ k => st43 _ k) ?_
      have J87_44 : ∀ (j87_1 : Int32), (((r43 = (0 : Int32)) ∧ j87_1 = (0 : Int32)) ∨ ((¬ (r43 = (0 : Int32))) ∧ j87_1 = (1 : Int32))) → own_Go p e below s (Q0 Z x0 x1 x2  h0 n0) room_1.cells room_1.slots T43 (mkF m 87 #[.val (.int x0), .val (.int x1), .val (.int x2), .val (.long ((20 : Int64) + ((x0 &&& (15 : Int32)).toInt64))), .second, .val (.int ((x1 &&& (15 : Int32)) % (9 : Int32))), .val (.ref b1), .val (.long j66_1), .second] [(.int j87_1), (.ref b1)]) := by
        intro j87_1 hJ87_44
        obtain ⟨cq45, kq45, q45a, q45b, q45c⟩ := isOf hZ eq43 fJ8_0
        obtain ⟨_, _, ⟨T45, L45, k45, n45⟩, -, X45, ⟨Lc45, hQ45, l45, y45, z45⟩, st45⟩ := X43.virtualBack hx (y := (⟨"com/example/slotter/slotter/analysis/BatchMeans", "observe", "(Z)V"⟩ : MethodName)) (z := (⟨"com/example/slotter/slotter/analysis/BatchMeans", "observe", "(Z)V"⟩ : MethodName)) hown (mvT hZ (hw _ (List.mem_of_getElem? (i := 26) rfl))) (mvT hZ (hw _ (List.mem_of_getElem? (i := 27) rfl))) (notFace_of_selects (args := #[]) (mvT hZ (hw _ (List.mem_of_getElem? (i := 29) rfl)))) (mvT hZ (hw _ (List.mem_of_getElem? (i := 29) rfl))) (mvT hZ (hw _ (List.mem_of_getElem? (i := 28) rfl))) (by decide) (backOf (W := 0) (rm5 l Z a0 hw [] b1 j87_1 ev ((20 : Int64) + ((x0 &&& (15 : Int32)).toInt64)) j66_103 j66_104 j66_105 k7k j66_1600 hJ8 n0 zJ8 ge1 fJ8_0 fJ8_1 ge_ev fJ8_2 fJ8_3 fJ8_4 fJ8_5 fJ8_6 ne_ev (own_I_ob hJ66_8 (by decide) (own_t x0)) (own_I_ba hJ66_8 (by decide)) hJ66_8.2.2.2.1 (by rcases hJ87_44 with ⟨_, q⟩ | ⟨_, q⟩; exact Or.inl q; exact Or.inr q)) hZ (hw _ (List.mem_of_getElem? (i := 30) rfl)) (hw _ (List.mem_of_getElem? (i := 3) rfl)) (by decide) (by decide)) q45a q45c (g := (mkF m 87 #[.val (.int x0), .val (.int x1), .val (.int x2), .val (.long ((20 : Int64) + ((x0 &&& (15 : Int32)).toInt64))), .second, .val (.int ((x1 &&& (15 : Int32)) % (9 : Int32))), .val (.ref b1), .val (.long j66_1), .second] [(.int j87_1), (.ref b1)])) rfl (by rw [hml]; rfl) (Steps.refl _) (argsL := [(.int j87_1)]) (rest := []) (lenOf own_pd3 rfl) rfl (by show 2 * 0 + _ ≤ _; exact Nat.le_of_eq rfl) (hb hby at_87) (fun _ _ => ⟨rfl, eq43, (by decide : 2 + 0 ≤ _), (by decide : 25 + 0 ≤ _)⟩)
        dsimp only [Pt.U, Pt.locs, Pt.cells, Pt.slots] at X45 l45 y45 z45 st45 hQ45
        subst l45 y45 z45
        obtain ⟨rfl, Nq45, g45_0, g45_1, g45_2, g45_3, g45_4, g45_5⟩ := hQ45
        have N45 := Fr.app N43 Nq45
        have K45 : Keep h0 T45.heap [] := kJ8.trans g45_0 (allS (Or.inr hge1) (allS (Or.inr hge_ev) all0))
        have Zs45 : n0 ≤ T45.heap.size := Nat.le_trans Z0 K45.1
        obtain ⟨ba45, be45, vs45, fA45, fB45, vE45, hb45, hl45, hsu45⟩ := g45_5
        refine own_tr (T' := T45) (F' := (mkF m 90 #[.val (.int x0), .val (.int x1), .val (.int x2), .val (.long ((20 : Int64) + ((x0 &&& (15 : Int32)).toInt64))), .second, .val (.int ((x1 &&& (15 : Int32)) % (9 : Int32))), .val (.ref b1), .val (.long j66_1), .second] [])) st45 ?_
        refine own_st (T' := T45) (F' := (mkF m 92 #[.val (.int x0), .val (.int x1), .val (.int x2), .val (.long ((20 : Int64) + ((x0 &&& (15 : Int32)).toInt64))), .second, .val (.int ((x1 &&& (15 : Int32)) % (9 : Int32))), .val (.ref b1), .val (.long j66_1), .second] [(.long j66_1)])) (fun _ k => XS.lload X45.here hx rfl (hb hby at_90) rfl  k) ?_
        refine own_st (T' := T45) (F' := (mkF m 93 #[.val (.int x0), .val (.int x1), .val (.int x2), .val (.long ((20 : Int64) + ((x0 &&& (15 : Int32)).toInt64))), .second, .val (.int ((x1 &&& (15 : Int32)) % (9 : Int32))), .val (.ref b1), .val (.long j66_1), .second] [(.int x2), (.long j66_1)])) (fun _ k => XS.iloadN X45.here hx rfl (hb hby at_92) rfl  k) ?_
        refine own_st (T' := T45) (F' := (mkF m 94 #[.val (.int x0), .val (.int x1), .val (.int x2), .val (.long ((20 : Int64) + ((x0 &&& (15 : Int32)).toInt64))), .second, .val (.int ((x1 &&& (15 : Int32)) % (9 : Int32))), .val (.ref b1), .val (.long j66_1), .second] [(.int (1 : Int32)), (.int x2), (.long j66_1)])) (fun _ k => XS.iconst X45.here hx rfl (hb hby at_93) k) ?_
        obtain ⟨_, _, ⟨T46, L46, k46, n46⟩, -, X46, ⟨Lc46, hQ46, l46, y46, z46⟩, st46⟩ := Jvm.LawKit.callS X45 hx (y := (⟨"com/example/slotter/slotter/analysis/BatchMeansEventsPinLaw", "bit", "(II)I"⟩ : MethodName)) hown (mvT hZ (hw _ (List.mem_of_getElem? (i := 22) rfl))) (mvT hZ (hw _ (List.mem_of_getElem? (i := 23) rfl))) (mvT hZ (hw _ (List.mem_of_getElem? (i := 24) rfl))) (mvT hZ (hw _ (List.mem_of_getElem? (i := 25) rfl))) (by decide) (backOf (W := 2) (rm4 l Z a0 hw [] x2 (1 : Int32)  T45.heap n0 Zs45 ) hZ (hw _ (List.mem_of_getElem? (i := 25) rfl)) (hw _ (List.mem_of_getElem? (i := 24) rfl)) (by decide) (by decide)) (g := (mkF m 94 #[.val (.int x0), .val (.int x1), .val (.int x2), .val (.long ((20 : Int64) + ((x0 &&& (15 : Int32)).toInt64))), .second, .val (.int ((x1 &&& (15 : Int32)) % (9 : Int32))), .val (.ref b1), .val (.long j66_1), .second] [(.int (1 : Int32)), (.int x2), (.long j66_1)])) rfl (by rw [hml]; rfl) (argsL := [(.int x2), (.int (1 : Int32))]) (rest := [(.long j66_1)]) (lenOf own_pd2 rfl) rfl (by show 2 * 0 + _ ≤ _; exact Nat.le_of_eq rfl) (hb hby at_94) (fun _ _ => ⟨rfl, rfl, (by decide : 2 + 0 ≤ _), (by decide : 25 + 0 ≤ _)⟩)
        dsimp only [Pt.U, Pt.locs, Pt.cells, Pt.slots] at X46 l46 y46 z46 st46 hQ46
        subst l46 y46 z46
        obtain ⟨⟨r46, rfl, hr46⟩, Nq46, eq46⟩ := hQ46
        have N46 := Fr.app N45 Nq46
        refine own_st (T' := T46) (F' := (mkF m 97 #[.val (.int x0), .val (.int x1), .val (.int x2), .val (.long ((20 : Int64) + ((x0 &&& (15 : Int32)).toInt64))), .second, .val (.int ((x1 &&& (15 : Int32)) % (9 : Int32))), .val (.ref b1), .val (.long j66_1), .second] [(.int r46), (.long j66_1)])) (fun _ k => st46 _ k) ?_
        refine own_st (T' := T46) (F' := (mkF m 98 #[.val (.int x0), .val (.int x1), .val (.int x2), .val (.long ((20 : Int64) + ((x0 &&& (15 : Int32)).toInt64))), .second, .val (.int ((x1 &&& (15 : Int32)) % (9 : Int32))), .val (.ref b1), .val (.long j66_1), .second] [(.long (r46.toInt64)), (.long j66_1)])) (fun _ k => XS.i2l X46.here hx rfl (hb hby at_97) rfl k) ?_
        refine own_st (T' := T46) (F' := (mkF m 99 #[.val (.int x0), .val (.int x1), .val (.int x2), .val (.long ((20 : Int64) + ((x0 &&& (15 : Int32)).toInt64))), .second, .val (.int ((x1 &&& (15 : Int32)) % (9 : Int32))), .val (.ref b1), .val (.long j66_1), .second] [(.long (j66_1 + (r46.toInt64)))])) (fun _ k => XS.ladd X46.here hx rfl (hb hby at_98) rfl k) ?_
        refine own_st (T' := T46) (F' := (mkF m 101 #[.val (.int x0), .val (.int x1), .val (.int x2), .val (.long ((20 : Int64) + ((x0 &&& (15 : Int32)).toInt64))), .second, .val (.int ((x1 &&& (15 : Int32)) % (9 : Int32))), .val (.ref b1), .val (.long (j66_1 + (r46.toInt64))), .second] [])) (fun _ k => XS.lstore X46.here hx rfl (hb hby at_99) rfl (l' := #[.val (.int x0), .val (.int x1), .val (.int x2), .val (.long ((20 : Int64) + ((x0 &&& (15 : Int32)).toInt64))), .second, .val (.int ((x1 &&& (15 : Int32)) % (9 : Int32))), .val (.ref b1), .val (.long (j66_1 + (r46.toInt64))), .second]) rfl k) ?_
        exact J101_9 (j66_1 + (r46.toInt64)) be45 (j66_104 + 1) ba45 vs45 T46 _ X46 N46 T45.heap eq46 Zs45 K45 g45_1 g45_2 g45_3 fB45 g45_4 fA45 vE45 (own_I_step hJ66_8 rfl rfl (by decide) hc69 hb45 hl45 hsu45 (by rw [hr46]; rw [hr43] at hJ87_44; rcases hJ87_44 with ⟨a, q⟩ | ⟨a, q⟩; rw [q, a]; rcases own_bit01 _ _ with b | b; exact absurd b a; rw [q, b]))
      refine own_ifc X43 hx (pc' := 86) (pc2 := 82) (hb hby at_79) (by decide) (by decide) rfl (fun (hc79 : r43 = (0 : Int32)) => ?_) (fun (hc79 : ¬ (r43 = (0 : Int32))) => ?_)
      ·
        refine own_st (T' := T43) (F' := (mkF m 87 #[.val (.int x0), .val (.int x1), .val (.int x2), .val (.long ((20 : Int64) + ((x0 &&& (15 : Int32)).toInt64))), .second, .val (.int ((x1 &&& (15 : Int32)) % (9 : Int32))), .val (.ref b1), .val (.long j66_1), .second] [(.int (0 : Int32)), (.ref b1)])) (fun _ k => XS.iconst X43.here hx rfl (hb hby at_86) k) ?_
        exact J87_44 (0 : Int32) (Or.inl (⟨hc79, rfl⟩))
      ·
        refine own_st (T' := T43) (F' := (mkF m 83 #[.val (.int x0), .val (.int x1), .val (.int x2), .val (.long ((20 : Int64) + ((x0 &&& (15 : Int32)).toInt64))), .second, .val (.int ((x1 &&& (15 : Int32)) % (9 : Int32))), .val (.ref b1), .val (.long j66_1), .second] [(.int (1 : Int32)), (.ref b1)])) (fun _ k => XS.iconst X43.here hx rfl (hb hby at_82) k) ?_
        refine own_st (T' := T43) (F' := (mkF m 87 #[.val (.int x0), .val (.int x1), .val (.int x2), .val (.long ((20 : Int64) + ((x0 &&& (15 : Int32)).toInt64))), .second, .val (.int ((x1 &&& (15 : Int32)) % (9 : Int32))), .val (.ref b1), .val (.long j66_1), .second] [(.int (1 : Int32)), (.ref b1)])) (fun _ k => XS.goto X43.here hx rfl (pc0 := 83) (pc' := 87) rfl (hb hby at_83) (by decide) (by decide) k) ?_
        exact J87_44 (1 : Int32) (Or.inr (⟨hc79, rfl⟩))
  refine own_ifc X7 hx (pc' := 66) (pc2 := 37) (hb hby at_34) (by decide) (by decide) rfl (fun (hc34 : ¬ ((0 : Int32) < ((x1 &&& (15 : Int32)) % (9 : Int32)))) => ?_) (fun (hc34 : (0 : Int32) < ((x1 &&& (15 : Int32)) % (9 : Int32))) => ?_)
  ·
    exact J66_8 (0 : Int64) be7 (0 : Int64) (0 : Int32) (List.replicate 20 (.long (0 : Int64))) T7 _ X7 N7 T7.heap rfl Zs7 K7 g7_1 fE7 fT7 fB7 fO7 fA7 vE7 (own_I_skip hI0 rfl rfl hc34)
  ·
    refine own_st (T' := T7) (F' := (mkF m 39 #[.val (.int x0), .val (.int x1), .val (.int x2), .val (.long ((20 : Int64) + ((x0 &&& (15 : Int32)).toInt64))), .second, .val (.int ((x1 &&& (15 : Int32)) % (9 : Int32))), .val (.ref b1), .val (.long (0 : Int64)), .second] [(.ref b1)])) (fun _ k => XS.aload X7.here hx rfl (hb hby at_37) rfl rfl k) ?_
    refine own_st (T' := T7) (F' := (mkF m 40 #[.val (.int x0), .val (.int x1), .val (.int x2), .val (.long ((20 : Int64) + ((x0 &&& (15 : Int32)).toInt64))), .second, .val (.int ((x1 &&& (15 : Int32)) % (9 : Int32))), .val (.ref b1), .val (.long (0 : Int64)), .second] [(.int x2), (.ref b1)])) (fun _ k => XS.iloadN X7.here hx rfl (hb hby at_39) rfl  k) ?_
    refine own_st (T' := T7) (F' := (mkF m 41 #[.val (.int x0), .val (.int x1), .val (.int x2), .val (.long ((20 : Int64) + ((x0 &&& (15 : Int32)).toInt64))), .second, .val (.int ((x1 &&& (15 : Int32)) % (9 : Int32))), .val (.ref b1), .val (.long (0 : Int64)), .second] [(.int (0 : Int32)), (.int x2), (.ref b1)])) (fun _ k => XS.iconst X7.here hx rfl (hb hby at_40) k) ?_
    obtain ⟨_, _, ⟨T47, L47, k47, n47⟩, -, X47, ⟨Lc47, hQ47, l47, y47, z47⟩, st47⟩ := Jvm.LawKit.callS X7 hx (y := (⟨"com/example/slotter/slotter/analysis/BatchMeansEventsPinLaw", "bit", "(II)I"⟩ : MethodName)) hown (mvT hZ (hw _ (List.mem_of_getElem? (i := 22) rfl))) (mvT hZ (hw _ (List.mem_of_getElem? (i := 23) rfl))) (mvT hZ (hw _ (List.mem_of_getElem? (i := 24) rfl))) (mvT hZ (hw _ (List.mem_of_getElem? (i := 25) rfl))) (by decide) (backOf (W := 1) (rm4 l Z a0 hw [] x2 (0 : Int32)  T7.heap n0 Zs7 ) hZ (hw _ (List.mem_of_getElem? (i := 25) rfl)) (hw _ (List.mem_of_getElem? (i := 24) rfl)) (by decide) (by decide)) (g := (mkF m 41 #[.val (.int x0), .val (.int x1), .val (.int x2), .val (.long ((20 : Int64) + ((x0 &&& (15 : Int32)).toInt64))), .second, .val (.int ((x1 &&& (15 : Int32)) % (9 : Int32))), .val (.ref b1), .val (.long (0 : Int64)), .second] [(.int (0 : Int32)), (.int x2), (.ref b1)])) rfl (by rw [hml]; rfl) (argsL := [(.int x2), (.int (0 : Int32))]) (rest := [(.ref b1)]) (lenOf own_pd2 rfl) rfl (by show 2 * 0 + _ ≤ _; exact Nat.le_of_eq rfl) (hb hby at_41) (fun _ _ => ⟨rfl, rfl, (by decide : 2 + 0 ≤ _), (by decide : 25 + 0 ≤ _)⟩)
    dsimp only [Pt.U, Pt.locs, Pt.cells, Pt.slots] at X47 l47 y47 z47 st47 hQ47
    subst l47 y47 z47
    obtain ⟨⟨r47, rfl, hr47⟩, Nq47, eq47⟩ := hQ47
    have N47 := Fr.app N7 Nq47
    refine own_st (T' := T47) (F' := (mkF m 44 #[.val (.int x0), .val (.int x1), .val (.int x2), .val (.long ((20 : Int64) + ((x0 &&& (15 : Int32)).toInt64))), .second, .val (.int ((x1 &&& (15 : Int32)) % (9 : Int32))), .val (.ref b1), .val (.long (0 : Int64)), .second] [(.int r47), (.ref b1)])) (fun _ k => st47 _ k) ?_
    have J52_48 : ∀ (j52_1 : Int32), (((r47 = (0 : Int32)) ∧ j52_1 = (0 : Int32)) ∨ ((¬ (r47 = (0 : Int32))) ∧ j52_1 = (1 : Int32))) → own_Go p e below s (Q0 Z x0 x1 x2  h0 n0) room_1.cells room_1.slots T47 (mkF m 52 #[.val (.int x0), .val (.int x1), .val (.int x2), .val (.long ((20 : Int64) + ((x0 &&& (15 : Int32)).toInt64))), .second, .val (.int ((x1 &&& (15 : Int32)) % (9 : Int32))), .val (.ref b1), .val (.long (0 : Int64)), .second] [(.int j52_1), (.ref b1)]) := by
      intro j52_1 hJ52_48
      obtain ⟨cq49, kq49, q49a, q49b, q49c⟩ := isOf hZ eq47 g7_1
      obtain ⟨_, _, ⟨T49, L49, k49, n49⟩, -, X49, ⟨Lc49, hQ49, l49, y49, z49⟩, st49⟩ := X47.virtualBack hx (y := (⟨"com/example/slotter/slotter/analysis/BatchMeans", "observe", "(Z)V"⟩ : MethodName)) (z := (⟨"com/example/slotter/slotter/analysis/BatchMeans", "observe", "(Z)V"⟩ : MethodName)) hown (mvT hZ (hw _ (List.mem_of_getElem? (i := 26) rfl))) (mvT hZ (hw _ (List.mem_of_getElem? (i := 27) rfl))) (notFace_of_selects (args := #[]) (mvT hZ (hw _ (List.mem_of_getElem? (i := 29) rfl)))) (mvT hZ (hw _ (List.mem_of_getElem? (i := 29) rfl))) (mvT hZ (hw _ (List.mem_of_getElem? (i := 28) rfl))) (by decide) (backOf (W := 0) (rm5 l Z a0 hw [] b1 j52_1 ev ((20 : Int64) + ((x0 &&& (15 : Int32)).toInt64)) be7 (0 : Int64) (0 : Int32) k7k (List.replicate 20 (.long (0 : Int64))) T7.heap n0 Zs7 ge1 g7_1 fE7 ge_ev fT7 fB7 fO7 fA7 vE7 ne_ev (own_I_ob hI0 (by decide) (own_t x0)) (own_I_ba hI0 (by decide)) hI0.2.2.2.1 (by rcases hJ52_48 with ⟨_, q⟩ | ⟨_, q⟩; exact Or.inl q; exact Or.inr q)) hZ (hw _ (List.mem_of_getElem? (i := 30) rfl)) (hw _ (List.mem_of_getElem? (i := 3) rfl)) (by decide) (by decide)) q49a q49c (g := (mkF m 52 #[.val (.int x0), .val (.int x1), .val (.int x2), .val (.long ((20 : Int64) + ((x0 &&& (15 : Int32)).toInt64))), .second, .val (.int ((x1 &&& (15 : Int32)) % (9 : Int32))), .val (.ref b1), .val (.long (0 : Int64)), .second] [(.int j52_1), (.ref b1)])) rfl (by rw [hml]; rfl) (Steps.refl _) (argsL := [(.int j52_1)]) (rest := []) (lenOf own_pd3 rfl) rfl (by show 2 * 0 + _ ≤ _; exact Nat.le_of_eq rfl) (hb hby at_52) (fun _ _ => ⟨rfl, eq47, (by decide : 2 + 0 ≤ _), (by decide : 25 + 0 ≤ _)⟩)
      dsimp only [Pt.U, Pt.locs, Pt.cells, Pt.slots] at X49 l49 y49 z49 st49 hQ49
      subst l49 y49 z49
      obtain ⟨rfl, Nq49, g49_0, g49_1, g49_2, g49_3, g49_4, g49_5⟩ := hQ49
      have N49 := Fr.app N47 Nq49
      have K49 : Keep h0 T49.heap [] := K7.trans g49_0 (allS (Or.inr hge1) (allS (Or.inr hge_ev) all0))
      have Zs49 : n0 ≤ T49.heap.size := Nat.le_trans Z0 K49.1
      obtain ⟨ba49, be49, vs49, fA49, fB49, vE49, hb49, hl49, hsu49⟩ := g49_5
      refine own_tr (T' := T49) (F' := (mkF m 55 #[.val (.int x0), .val (.int x1), .val (.int x2), .val (.long ((20 : Int64) + ((x0 &&& (15 : Int32)).toInt64))), .second, .val (.int ((x1 &&& (15 : Int32)) % (9 : Int32))), .val (.ref b1), .val (.long (0 : Int64)), .second] [])) st49 ?_
      refine own_st (T' := T49) (F' := (mkF m 57 #[.val (.int x0), .val (.int x1), .val (.int x2), .val (.long ((20 : Int64) + ((x0 &&& (15 : Int32)).toInt64))), .second, .val (.int ((x1 &&& (15 : Int32)) % (9 : Int32))), .val (.ref b1), .val (.long (0 : Int64)), .second] [(.long (0 : Int64))])) (fun _ k => XS.lload X49.here hx rfl (hb hby at_55) rfl  k) ?_
      refine own_st (T' := T49) (F' := (mkF m 58 #[.val (.int x0), .val (.int x1), .val (.int x2), .val (.long ((20 : Int64) + ((x0 &&& (15 : Int32)).toInt64))), .second, .val (.int ((x1 &&& (15 : Int32)) % (9 : Int32))), .val (.ref b1), .val (.long (0 : Int64)), .second] [(.int x2), (.long (0 : Int64))])) (fun _ k => XS.iloadN X49.here hx rfl (hb hby at_57) rfl  k) ?_
      refine own_st (T' := T49) (F' := (mkF m 59 #[.val (.int x0), .val (.int x1), .val (.int x2), .val (.long ((20 : Int64) + ((x0 &&& (15 : Int32)).toInt64))), .second, .val (.int ((x1 &&& (15 : Int32)) % (9 : Int32))), .val (.ref b1), .val (.long (0 : Int64)), .second] [(.int (0 : Int32)), (.int x2), (.long (0 : Int64))])) (fun _ k => XS.iconst X49.here hx rfl (hb hby at_58) k) ?_
      obtain ⟨_, _, ⟨T50, L50, k50, n50⟩, -, X50, ⟨Lc50, hQ50, l50, y50, z50⟩, st50⟩ := Jvm.LawKit.callS X49 hx (y := (⟨"com/example/slotter/slotter/analysis/BatchMeansEventsPinLaw", "bit", "(II)I"⟩ : MethodName)) hown (mvT hZ (hw _ (List.mem_of_getElem? (i := 22) rfl))) (mvT hZ (hw _ (List.mem_of_getElem? (i := 23) rfl))) (mvT hZ (hw _ (List.mem_of_getElem? (i := 24) rfl))) (mvT hZ (hw _ (List.mem_of_getElem? (i := 25) rfl))) (by decide) (backOf (W := 2) (rm4 l Z a0 hw [] x2 (0 : Int32)  T49.heap n0 Zs49 ) hZ (hw _ (List.mem_of_getElem? (i := 25) rfl)) (hw _ (List.mem_of_getElem? (i := 24) rfl)) (by decide) (by decide)) (g := (mkF m 59 #[.val (.int x0), .val (.int x1), .val (.int x2), .val (.long ((20 : Int64) + ((x0 &&& (15 : Int32)).toInt64))), .second, .val (.int ((x1 &&& (15 : Int32)) % (9 : Int32))), .val (.ref b1), .val (.long (0 : Int64)), .second] [(.int (0 : Int32)), (.int x2), (.long (0 : Int64))])) rfl (by rw [hml]; rfl) (argsL := [(.int x2), (.int (0 : Int32))]) (rest := [(.long (0 : Int64))]) (lenOf own_pd2 rfl) rfl (by show 2 * 0 + _ ≤ _; exact Nat.le_of_eq rfl) (hb hby at_59) (fun _ _ => ⟨rfl, rfl, (by decide : 2 + 0 ≤ _), (by decide : 25 + 0 ≤ _)⟩)
      dsimp only [Pt.U, Pt.locs, Pt.cells, Pt.slots] at X50 l50 y50 z50 st50 hQ50
      subst l50 y50 z50
      obtain ⟨⟨r50, rfl, hr50⟩, Nq50, eq50⟩ := hQ50
      have N50 := Fr.app N49 Nq50
      refine own_st (T' := T50) (F' := (mkF m 62 #[.val (.int x0), .val (.int x1), .val (.int x2), .val (.long ((20 : Int64) + ((x0 &&& (15 : Int32)).toInt64))), .second, .val (.int ((x1 &&& (15 : Int32)) % (9 : Int32))), .val (.ref b1), .val (.long (0 : Int64)), .second] [(.int r50), (.long (0 : Int64))])) (fun _ k => st50 _ k) ?_
      refine own_st (T' := T50) (F' := (mkF m 63 #[.val (.int x0), .val (.int x1), .val (.int x2), .val (.long ((20 : Int64) + ((x0 &&& (15 : Int32)).toInt64))), .second, .val (.int ((x1 &&& (15 : Int32)) % (9 : Int32))), .val (.ref b1), .val (.long (0 : Int64)), .second] [(.long (r50.toInt64)), (.long (0 : Int64))])) (fun _ k => XS.i2l X50.here hx rfl (hb hby at_62) rfl k) ?_
      refine own_st (T' := T50) (F' := (mkF m 64 #[.val (.int x0), .val (.int x1), .val (.int x2), .val (.long ((20 : Int64) + ((x0 &&& (15 : Int32)).toInt64))), .second, .val (.int ((x1 &&& (15 : Int32)) % (9 : Int32))), .val (.ref b1), .val (.long (0 : Int64)), .second] [(.long ((0 : Int64) + (r50.toInt64)))])) (fun _ k => XS.ladd X50.here hx rfl (hb hby at_63) rfl k) ?_
      refine own_st (T' := T50) (F' := (mkF m 66 #[.val (.int x0), .val (.int x1), .val (.int x2), .val (.long ((20 : Int64) + ((x0 &&& (15 : Int32)).toInt64))), .second, .val (.int ((x1 &&& (15 : Int32)) % (9 : Int32))), .val (.ref b1), .val (.long ((0 : Int64) + (r50.toInt64))), .second] [])) (fun _ k => XS.lstore X50.here hx rfl (hb hby at_64) rfl (l' := #[.val (.int x0), .val (.int x1), .val (.int x2), .val (.long ((20 : Int64) + ((x0 &&& (15 : Int32)).toInt64))), .second, .val (.int ((x1 &&& (15 : Int32)) % (9 : Int32))), .val (.ref b1), .val (.long ((0 : Int64) + (r50.toInt64))), .second]) rfl k) ?_
      exact J66_8 ((0 : Int64) + (r50.toInt64)) be49 ((0 : Int64) + 1) ba49 vs49 T50 _ X50 N50 T49.heap eq50 Zs49 K49 g49_1 g49_2 g49_3 fB49 g49_4 fA49 vE49 (own_I_step hI0 rfl rfl (by decide) hc34 hb49 hl49 hsu49 (by rw [hr50]; rw [hr47] at hJ52_48; rcases hJ52_48 with ⟨a, q⟩ | ⟨a, q⟩; rw [q, a]; rcases own_bit01 _ _ with b | b; exact absurd b a; rw [q, b]))
    refine own_ifc X47 hx (pc' := 51) (pc2 := 47) (hb hby at_44) (by decide) (by decide) rfl (fun (hc44 : r47 = (0 : Int32)) => ?_) (fun (hc44 : ¬ (r47 = (0 : Int32))) => ?_)
    ·
      refine own_st (T' := T47) (F' := (mkF m 52 #[.val (.int x0), .val (.int x1), .val (.int x2), .val (.long ((20 : Int64) + ((x0 &&& (15 : Int32)).toInt64))), .second, .val (.int ((x1 &&& (15 : Int32)) % (9 : Int32))), .val (.ref b1), .val (.long (0 : Int64)), .second] [(.int (0 : Int32)), (.ref b1)])) (fun _ k => XS.iconst X47.here hx rfl (hb hby at_51) k) ?_
      exact J52_48 (0 : Int32) (Or.inl (⟨hc44, rfl⟩))
    ·
      refine own_st (T' := T47) (F' := (mkF m 48 #[.val (.int x0), .val (.int x1), .val (.int x2), .val (.long ((20 : Int64) + ((x0 &&& (15 : Int32)).toInt64))), .second, .val (.int ((x1 &&& (15 : Int32)) % (9 : Int32))), .val (.ref b1), .val (.long (0 : Int64)), .second] [(.int (1 : Int32)), (.ref b1)])) (fun _ k => XS.iconst X47.here hx rfl (hb hby at_47) k) ?_
      refine own_st (T' := T47) (F' := (mkF m 52 #[.val (.int x0), .val (.int x1), .val (.int x2), .val (.long ((20 : Int64) + ((x0 &&& (15 : Int32)).toInt64))), .second, .val (.int ((x1 &&& (15 : Int32)) % (9 : Int32))), .val (.ref b1), .val (.long (0 : Int64)), .second] [(.int (1 : Int32)), (.ref b1)])) (fun _ k => XS.goto X47.here hx rfl (pc0 := 48) (pc' := 52) rfl (hb hby at_48) (by decide) (by decide) k) ?_
      exact J52_48 (1 : Int32) (Or.inr (⟨hc44, rfl⟩))
set_option maxRecDepth 65536 in
set_option maxHeartbeats 40000000 in
theorem comes_1 {Post : Tables → Env → Array Value → State → Outcome → State → Prop} (hpost : ∀ tb e args s v u, (limb_1_1.after args s (.returned v) u = true ∧ limb_1_2.after args s (.returned v) u = true ∧ True) → FrameEnd s (.returned v) u (Jvm.fieldLocs frame_1_writes args s ++ Jvm.arrayLocs frame_1_arrays args s ++ Jvm.staticLocs frame_1_statics s) 16 128 → Post tb e args s (.returned v) u) :
    ArmFor flags0 classFile x code maxLocals ret World_1 tables_1 room_1 Calls_1 rest_1 Pre_1 Post := by
  intro l hfl _ _ p e ha hc hk s m args below hf hA hF happ hP
  obtain ⟨hcalls, hrest, hpre⟩ := hP
  obtain ⟨-, -, -, hnamed, -, -, -, hat⟩ := (Spec.applies_iff hf).mp happ
  obtain ⟨hg, hn⟩ := and_e (Cond.before_iff.mp (show (Jvm.Cond.and given_1 narrow_1).before args s = true from hpre))
  obtain ⟨g0, hg0⟩ := and_e hg
  obtain ⟨g1, hg1⟩ := and_e hg0
  obtain ⟨g2, hg2⟩ := and_e hg1
  obtain ⟨w0, w1, w2, rfl⟩ : ∃ w0 w1 w2 : Value, args = #[w0, w1, w2] := by
    have hs : args.size = 3 := by simpa [Cond.value, given_1] using g0
    obtain ⟨L⟩ := args
    match L, hs with
    | [w0, w1, w2], _ => exact ⟨w0, w1, w2, rfl⟩
  have hw := fun d (hd : d ∈ tables_1) => atoms_spec (ws := Jvm.Cond.code x code maxLocals ret :: tables_1) hat d (List.mem_cons_of_mem _ hd)
  have hfit : Fit s := fun {y c} hc i hi => by
    obtain ⟨ha, rfl⟩ := Array.getElem?_eq_some_iff.mp hc
    have q := List.all_eq_true.mp ((Array.all_eq_true_iff_forall_mem.mp hF) _ (Array.getElem_mem ha)) i (List.mem_range.mpr hi)
    simpa [Array.getElem?_eq_getElem hi] using q
  obtain ⟨i0, ei0⟩ := is_v g1
  obtain rfl : w0 = (.int i0) := Option.some.inj ei0
  obtain ⟨i1, ei1⟩ := is_v g2
  obtain rfl : w1 = (.int i1) := Option.some.inj ei1
  obtain ⟨i2, ei2⟩ := is_v hg2
  obtain rfl : w2 = (.int i2) := Option.some.inj ei2
  obtain ⟨n, o, h1, h2, h3, _, L, rfl, ⟨⟨_, rfl, rfl⟩, N⟩, hq⟩ := rm0 l s _ hw tables_1 i0 i1 i2  s.heap s.heap.size (Nat.le_refl _)  p e ha hc hk s m _ below hf ((Spec.applies_iff_loose hf).mp happ).1 ⟨rfl, State.Warmed39.refl s, rfl⟩ trivial
  refine ⟨n, _, h1, h2, h3, hpost _ _ _ _ _ _ ⟨Cond.after_iff.mpr rfl, Cond.after_iff.mpr (eq_i res_at (Term.int_eval (1)) rfl), trivial⟩ ⟨hq.1, hq.2.1, (hq.2.2.sift fun y hy => Or.inr (N y hy)).mono (by decide) (by decide)⟩⟩
theorem main_1_1 : Claimed_1_1 := comes_1 fun _ _ _ _ _ _ h hF => ⟨h.1, hF⟩
theorem main_1_2 : Claimed_1_2 := comes_1 fun _ _ _ _ _ _ h hF => ⟨h.2.1, hF⟩
end Jvm.Pilot.@@N@@
namespace Jvm.Pilot.@@N@@
open Jvm Jvm.ClassFile Sem Op Lib Jvm.Free Jvm.Stand Jvm.Pilot.@@N@@.Jvm.D
/-! MADE BY PROGRAM (witnessworld.py) out of the Statement's table words and the real class files: 11 classes; the members and pool entries that the words name. The judged class is class 1, her method 2. -/
namespace start1
open Jvm.ClassFile
def u (s : String) : CpInfo := .utf8 (stringToUtf16 s)
/-- a pool by its gaps: so many unusable entries, then the entry; so many at the end -/
def gap : Nat → List CpInfo → List CpInfo
  | 0, r => r
  | n + 1, r => .unusable :: gap n r
def poolList (es : List (Nat × CpInfo)) (last : Nat) : List CpInfo := es.foldr (fun e r => gap e.1 (e.2 :: r)) (gap last [])
def pool (es : List (Nat × CpInfo)) (last : Nat) : Array CpInfo := ⟨poolList es last⟩
def fileOf (pool : Array CpInfo) (this : Nat) (attrs : Array Attribute := #[]) (ms : Array MethodInfo := #[]) (fl : Nat := 33) (sup : Nat := 0) (ifs : Array Nat := #[]) (fds : Array FieldInfo := #[]) : ClassFile where
  minorVersion := 0
  majorVersion := 65
  constantPool := pool
  accessFlags := fl
  thisClass := this
  superClass := sup
  interfaces := ifs
  fields := fds
  methods := ms
  attributes := attrs
def plain (name : String) (sup : Option ClassId) : Class where
  name := name
  kind := .ordinary
  loader := none
  accessFlags := 33
  super := sup
  interfaces := #[]
  cf := none
  fields := #[]
  methods := #[]
  instanceTypes := #[]
  staticTypes := #[]
  resolved := #[]
  callSites := []
  init := .initialized
  statics := none
  mirror := none

def pool0 : Array CpInfo := pool [(5, u "<init>"), (0, u "()V"), (1, .class_ 10), (1, u "java/lang/Object")] 113

def k0c0 : Code := { maxStack := 0, maxLocals := 1, code := object_method_1_code, exceptionTable := #[], attributes := #[] }
def k0m0 : Method := { name := "<init>", desc := "()V", sig := { parameters := [], returnType := none }, accessFlags := 1, code := some k0c0 }
/-- java/lang/Object -/
def k0 : Class := { plain "java/lang/Object" none with
  accessFlags := 33
  interfaces := #[]
  cf := some (fileOf pool0 8 #[] #[{ accessFlags := 1, nameIndex := 5, descriptorIndex := 6, attributes := #[] }] 33 0 #[] #[])
  fields := #[]
  methods := #[k0m0]
  instanceTypes := #[]
  staticTypes := #[]
  resolved := Array.replicate 124 none
  statics := none }

def pool1 : Array CpInfo := pool [(2, .class_ 4), (1, u "java/lang/Object"), (0, u "<init>"), (0, u "()V"), (0, .long 20), (1, .class_ 10), (0, u "com/example/slotter/slotter/analysis/BatchMeans"), (0, .methodref 9 12), (0, .nameAndType 5 13), (0, u "(J)V"), (0, .methodref 15 16), (0, .class_ 17), (0, .nameAndType 18 19), (0, u "com/example/slotter/slotter/analysis/BatchMeansEventsPinLaw"), (0, u "bit"), (0, u "(II)I"), (0, .methodref 9 21), (0, .nameAndType 22 23), (0, u "observe"), (0, u "(Z)V"), (0, .methodref 9 25), (0, .nameAndType 26 27), (0, u "events"), (0, u "()J"), (0, .methodref 9 29), (0, .nameAndType 30 27), (0, u "observed"), (2, u "law"), (0, u "(III)Z")] 3

def k1m0 : Method := { name := "<init>", desc := "()V", sig := { parameters := [], returnType := none }, accessFlags := 2, code := none }
def k1c1 : Code := { maxStack := 2, maxLocals := 2, code := method_2_code, exceptionTable := #[], attributes := #[] }
def k1m1 : Method := { name := "bit", desc := "(II)I", sig := { parameters := [.int, .int], returnType := some .int }, accessFlags := 10, code := some k1c1 }
def k1c2 : Code := { maxStack := 4, maxLocals := 9, code := code, exceptionTable := #[], attributes := #[] }
def k1m2 : Method := { name := "law", desc := "(III)Z", sig := { parameters := [.int, .int, .int], returnType := some .boolean }, accessFlags := 9, code := some k1c2 }
/-- com/example/slotter/slotter/analysis/BatchMeansEventsPinLaw -/
def k1 : Class := { plain "com/example/slotter/slotter/analysis/BatchMeansEventsPinLaw" (some 0) with
  accessFlags := 49
  interfaces := #[]
  cf := some (fileOf pool1 15 #[] #[{ accessFlags := 2, nameIndex := 5, descriptorIndex := 6, attributes := #[] }, { accessFlags := 10, nameIndex := 18, descriptorIndex := 19, attributes := #[] }, { accessFlags := 9, nameIndex := 33, descriptorIndex := 34, attributes := #[] }] 49 2 #[] #[])
  fields := #[]
  methods := #[k1m0, k1m1, k1m2]
  instanceTypes := #[]
  staticTypes := #[]
  resolved := Array.replicate 38 none
  statics := none }

def pool2 : Array CpInfo := pool [(1, .methodref 2 3), (0, .class_ 4), (0, .nameAndType 5 6), (0, u "java/lang/Object"), (0, u "<init>"), (0, u "()V"), (0, .class_ 8), (0, u "com/example/slotter/slotter/analysis/BatchMeans"), (0, .fieldref 7 10), (0, .nameAndType 11 12), (0, u "events"), (0, u "[J"), (0, .long 20), (10, .fieldref 7 25), (0, .nameAndType 26 27), (0, u "total"), (0, u "J"), (0, .methodref 7 29), (0, .nameAndType 30 31), (0, u "batchEnd"), (0, u "(I)J"), (0, .fieldref 7 33), (0, .nameAndType 30 27), (0, .fieldref 7 35), (0, .nameAndType 36 27), (0, u "observed"), (4, .fieldref 7 42), (0, .nameAndType 43 44), (0, u "batch"), (0, u "I"), (9, u "BATCHES"), (2, u "(J)V"), (3, u "observe"), (0, u "(Z)V"), (0, u "()J")] 25

def k2c0 : Code := { maxStack := 4, maxLocals := 3, code := prog_1_method_1_code, exceptionTable := #[], attributes := #[] }
def k2m0 : Method := { name := "<init>", desc := "(J)V", sig := { parameters := [.long], returnType := none }, accessFlags := 1, code := some k2c0 }
def k2c1 : Code := { maxStack := 6, maxLocals := 2, code := prog_1_method_2_code, exceptionTable := #[], attributes := #[] }
def k2m1 : Method := { name := "observe", desc := "(Z)V", sig := { parameters := [.boolean], returnType := none }, accessFlags := 1, code := some k2c1 }
def k2c2 : Code := { maxStack := 2, maxLocals := 1, code := prog_1_method_3_code, exceptionTable := #[], attributes := #[] }
def k2m2 : Method := { name := "observed", desc := "()J", sig := { parameters := [], returnType := some .long }, accessFlags := 1, code := some k2c2 }
def k2c3 : Code := { maxStack := 4, maxLocals := 8, code := prog_1_method_4_code, exceptionTable := #[], attributes := #[] }
def k2m3 : Method := { name := "events", desc := "()J", sig := { parameters := [], returnType := some .long }, accessFlags := 1, code := some k2c3 }
def k2c4 : Code := { maxStack := 6, maxLocals := 4, code := prog_1_method_6_code, exceptionTable := #[], attributes := #[] }
def k2m4 : Method := { name := "batchEnd", desc := "(I)J", sig := { parameters := [.int], returnType := some .long }, accessFlags := 2, code := some k2c4 }
/-- com/example/slotter/slotter/analysis/BatchMeans -/
def k2 : Class := { plain "com/example/slotter/slotter/analysis/BatchMeans" (some 0) with
  accessFlags := 49
  interfaces := #[]
  cf := some (fileOf pool2 7 #[] #[{ accessFlags := 1, nameIndex := 5, descriptorIndex := 57, attributes := #[] }, { accessFlags := 1, nameIndex := 61, descriptorIndex := 62, attributes := #[] }, { accessFlags := 1, nameIndex := 36, descriptorIndex := 63, attributes := #[] }, { accessFlags := 1, nameIndex := 11, descriptorIndex := 63, attributes := #[] }, { accessFlags := 2, nameIndex := 30, descriptorIndex := 31, attributes := #[] }] 49 2 #[] #[{ accessFlags := 25, nameIndex := 54, descriptorIndex := 44, attributes := #[] }, { accessFlags := 18, nameIndex := 26, descriptorIndex := 27, attributes := #[] }, { accessFlags := 18, nameIndex := 11, descriptorIndex := 12, attributes := #[] }, { accessFlags := 2, nameIndex := 36, descriptorIndex := 27, attributes := #[] }, { accessFlags := 2, nameIndex := 43, descriptorIndex := 44, attributes := #[] }, { accessFlags := 2, nameIndex := 30, descriptorIndex := 27, attributes := #[] }])
  fields := #[{ name := "BATCHES", type := .int, accessFlags := 25, slot := 0, constantValue := 0 }, { name := "total", type := .long, accessFlags := 18, slot := 0, constantValue := 0 }, { name := "events", type := (.array .long), accessFlags := 18, slot := 1, constantValue := 0 }, { name := "observed", type := .long, accessFlags := 2, slot := 2, constantValue := 0 }, { name := "batch", type := .int, accessFlags := 2, slot := 3, constantValue := 0 }, { name := "batchEnd", type := .long, accessFlags := 2, slot := 4, constantValue := 0 }]
  methods := #[k2m0, k2m1, k2m2, k2m3, k2m4]
  instanceTypes := #[.long, (.array .long), .long, .int, .long]
  staticTypes := #[.int]
  resolved := Array.replicate 89 none
  statics := none }

def pool3 : Array CpInfo := pool [(1, u "java/lang/Cloneable"), (0, .class_ 1), (0, u "java/lang/Object"), (0, .class_ 3)] 3

/-- java/lang/Cloneable -/
def k3 : Class := { plain "java/lang/Cloneable" (some 0) with
  accessFlags := 1537
  interfaces := #[]
  cf := some (fileOf pool3 2 #[] #[] 1537 4 #[] #[])
  fields := #[]
  methods := #[]
  instanceTypes := #[]
  staticTypes := #[]
  resolved := Array.replicate 8 none
  statics := none }

def pool4 : Array CpInfo := pool [(1, u "java/io/Serializable"), (0, .class_ 1), (0, u "java/lang/Object"), (0, .class_ 3)] 3

/-- java/io/Serializable -/
def k4 : Class := { plain "java/io/Serializable" (some 0) with
  accessFlags := 1537
  interfaces := #[]
  cf := some (fileOf pool4 2 #[] #[] 1537 4 #[] #[])
  fields := #[]
  methods := #[]
  instanceTypes := #[]
  staticTypes := #[]
  resolved := Array.replicate 8 none
  statics := none }

/-- the primitive byte -/
def k5 : Class := { plain "byte" none with kind := .primitive 'B', accessFlags := 0x411 }
/-- [B -/
def k6 : Class := { plain "[B" (some 0) with kind := .array 5 .byte, interfaces := #[3, 4], accessFlags := 1041 }

/-- the primitive int -/
def k7 : Class := { plain "int" none with kind := .primitive 'I', accessFlags := 0x411 }
/-- [I -/
def k8 : Class := { plain "[I" (some 0) with kind := .array 7 .int, interfaces := #[3, 4], accessFlags := 1041 }

/-- the primitive long -/
def k9 : Class := { plain "long" none with kind := .primitive 'J', accessFlags := 0x411 }
/-- [J -/
def k10 : Class := { plain "[J" (some 0) with kind := .array 9 .long, interfaces := #[3, 4], accessFlags := 1041 }

def heap : Heap := #[]
def classes : Array Class := #[k0, k1, k2, k3, k4, k5, k6, k7, k8, k9, k10]
def interned : List (Array UInt16 × Addr) := []
def slotsUsed : Nat := 0
def theMethod : MethodId := ⟨1, 2⟩
def args0 : Array Value := #[.int 1, .int 2, .int 3]
def aboutOver (below : List Frame) : State where
  vm := { classes := classes, interned := interned.toArray }
  heap := heap
  slotsUsed := slotsUsed
  threads := #[{ frames := .invoking theMethod args0 :: below }]
def below0 : List Frame := [.native { method := ⟨0, 0⟩, args := #[] }]
def about1 : State := aboutOver below0
def p0 : Program := .bare "" "" ""
def e0 : Env := launch0.env 0 0 0
theorem w_frames : about1.frames = Frame.invoking theMethod args0 :: below0 := rfl
set_option maxRecDepth 65536 in
theorem w_args : argsFit about1.vm theMethod args0 = true := by decide +kernel
set_option maxRecDepth 65536 in
theorem w_heap : heapFits about1 = true := by decide +kernel
set_option maxRecDepth 65536 in
theorem w_runnable : about1.curStatus? = some .runnable := by decide +kernel
set_option maxRecDepth 65536 in
theorem w_alone : about1.alone = true := by decide +kernel
set_option maxRecDepth 65536 in
theorem w_named : about1.methodNamed? x = some theMethod := by decide +kernel
set_option maxRecDepth 65536 in
theorem w_hears : about1.hears theMethod below0 = true := by decide +kernel
set_option maxRecDepth 65536 in
theorem w_ripe : about1.ripe theMethod args0 below0 = true := by decide +kernel
theorem w_running : about1.status = .running := rfl
set_option maxRecDepth 65536 in
theorem w_room : about1.hasRoom e0.platform room_1 = true :=
  launch0.hasRoom_least _ room_1 (by decide +kernel) (by decide +kernel) (by decide +kernel) (by decide +kernel) (by decide +kernel) (by decide +kernel)
theorem allAtoms_all (ts : List Jvm.Cond) (a : Array Jvm.Value) (st : Jvm.State) : (allAtoms ts).before a st = ts.all (fun c => c.before a st) := by
  induction ts with
  | nil => rfl
  | cons c t ih =>
    show (Jvm.Cond.and c (allAtoms t)).before a st = _
    rw [Jvm.Cond.before_and, ih, List.all_cons]
def words1 : List Jvm.Cond := Jvm.Cond.code x code maxLocals ret :: tables_1
/-- a 'code' word, met by the world's own term for the bytes: nothing is compared byte by byte -/
theorem code_word {y : MethodName} {bytes : ByteArray} {mx : Nat} {rt : Option FieldType} {a : Array Value} {s : State} {m : MethodId} {meth : Method} {c : Code} (h1 : s.methodNamed? y = some m) (h2 : s.vm.method? m = some meth) (h3 : meth.code = some c) (h4 : c.code = bytes)
    (h5 : (c.maxLocals == mx && c.exceptionTable.isEmpty && decide (c.maxStack ≤ mostOperands) && decide (meth.sig.returnType = rt) && !meth.locks && decide (parseMethodDescriptor y.desc = some meth.sig)) = true) : (Jvm.Cond.code y bytes mx rt).before a s = true := by
  simp only [Bool.and_eq_true, beq_iff_eq, Bool.not_eq_true', decide_eq_true_eq] at h5
  obtain ⟨⟨⟨⟨⟨g1, g2⟩, g3⟩, g4⟩, g5⟩, g6⟩ := h5
  simp [Cond.before, Cond.holds, Cond.value, h1, h2, h3, h4, g1, g2, g3, g4, g5, g6]
def isCode : Jvm.Cond → Bool
  | .code _ _ _ _ => true
  | _ => false
theorem all_split {L : List Jvm.Cond} {P : Jvm.Cond → Bool} (h1 : L.all (fun c => isCode c || P c) = true) (h2 : ∀ c ∈ L.filter isCode, P c = true) : L.all P = true := by
  refine List.all_eq_true.mpr fun c hc => ?_
  have h := List.all_eq_true.mp h1 c hc
  rcases Bool.eq_false_or_eq_true (isCode c) with hi | hi
  · exact h2 c (List.mem_filter.mpr ⟨hc, hi⟩)
  · simpa [hi] using h
set_option maxRecDepth 65536 in
theorem w_c0 : (Jvm.Cond.code x code maxLocals ret).before args0 about1 = true := code_word (m := ⟨1, 2⟩) (meth := k1m2) (c := k1c2) (by decide +kernel) rfl rfl rfl (by decide +kernel)
set_option maxRecDepth 65536 in
theorem w_c1 : (Jvm.Cond.code ({ cls := "com/example/slotter/slotter/analysis/BatchMeans", name := "<init>", desc := "(J)V" } : Jvm.MethodName) prog_1_method_1_code (3 : Nat) (Option.none : Option Jvm.ClassFile.FieldType)).before args0 about1 = true := code_word (m := ⟨2, 0⟩) (meth := k2m0) (c := k2c0) (by decide +kernel) rfl rfl rfl (by decide +kernel)
set_option maxRecDepth 65536 in
theorem w_c2 : (Jvm.Cond.code ({ cls := "java/lang/Object", name := "<init>", desc := "()V" } : Jvm.MethodName) object_method_1_code (1 : Nat) (Option.none : Option Jvm.ClassFile.FieldType)).before args0 about1 = true := code_word (m := ⟨0, 0⟩) (meth := k0m0) (c := k0c0) (by decide +kernel) rfl rfl rfl (by decide +kernel)
set_option maxRecDepth 65536 in
theorem w_c3 : (Jvm.Cond.code ({ cls := "com/example/slotter/slotter/analysis/BatchMeans", name := "batchEnd", desc := "(I)J" } : Jvm.MethodName) prog_1_method_6_code (4 : Nat) (Option.some Jvm.ClassFile.FieldType.long)).before args0 about1 = true := code_word (m := ⟨2, 4⟩) (meth := k2m4) (c := k2c4) (by decide +kernel) rfl rfl rfl (by decide +kernel)
set_option maxRecDepth 65536 in
theorem w_c4 : (Jvm.Cond.code ({ cls := "com/example/slotter/slotter/analysis/BatchMeansEventsPinLaw", name := "bit", desc := "(II)I" } : Jvm.MethodName) method_2_code (2 : Nat) (Option.some Jvm.ClassFile.FieldType.int)).before args0 about1 = true := code_word (m := ⟨1, 1⟩) (meth := k1m1) (c := k1c1) (by decide +kernel) rfl rfl rfl (by decide +kernel)
set_option maxRecDepth 65536 in
theorem w_c5 : (Jvm.Cond.code ({ cls := "com/example/slotter/slotter/analysis/BatchMeans", name := "observe", desc := "(Z)V" } : Jvm.MethodName) prog_1_method_2_code (2 : Nat) (Option.none : Option Jvm.ClassFile.FieldType)).before args0 about1 = true := code_word (m := ⟨2, 1⟩) (meth := k2m1) (c := k2c1) (by decide +kernel) rfl rfl rfl (by decide +kernel)
set_option maxRecDepth 65536 in
theorem w_c6 : (Jvm.Cond.code ({ cls := "com/example/slotter/slotter/analysis/BatchMeans", name := "events", desc := "()J" } : Jvm.MethodName) prog_1_method_4_code (8 : Nat) (Option.some Jvm.ClassFile.FieldType.long)).before args0 about1 = true := code_word (m := ⟨2, 3⟩) (meth := k2m3) (c := k2c3) (by decide +kernel) rfl rfl rfl (by decide +kernel)
set_option maxRecDepth 65536 in
theorem w_c7 : (Jvm.Cond.code ({ cls := "com/example/slotter/slotter/analysis/BatchMeans", name := "observed", desc := "()J" } : Jvm.MethodName) prog_1_method_3_code (1 : Nat) (Option.some Jvm.ClassFile.FieldType.long)).before args0 about1 = true := code_word (m := ⟨2, 2⟩) (meth := k2m2) (c := k2c2) (by decide +kernel) rfl rfl rfl (by decide +kernel)
def codes1 : List Jvm.Cond := [Jvm.Cond.code x code maxLocals ret, Jvm.Cond.code ({ cls := "com/example/slotter/slotter/analysis/BatchMeans", name := "<init>", desc := "(J)V" } : Jvm.MethodName) prog_1_method_1_code (3 : Nat) (Option.none : Option Jvm.ClassFile.FieldType), Jvm.Cond.code ({ cls := "java/lang/Object", name := "<init>", desc := "()V" } : Jvm.MethodName) object_method_1_code (1 : Nat) (Option.none : Option Jvm.ClassFile.FieldType), Jvm.Cond.code ({ cls := "com/example/slotter/slotter/analysis/BatchMeans", name := "batchEnd", desc := "(I)J" } : Jvm.MethodName) prog_1_method_6_code (4 : Nat) (Option.some Jvm.ClassFile.FieldType.long), Jvm.Cond.code ({ cls := "com/example/slotter/slotter/analysis/BatchMeansEventsPinLaw", name := "bit", desc := "(II)I" } : Jvm.MethodName) method_2_code (2 : Nat) (Option.some Jvm.ClassFile.FieldType.int), Jvm.Cond.code ({ cls := "com/example/slotter/slotter/analysis/BatchMeans", name := "observe", desc := "(Z)V" } : Jvm.MethodName) prog_1_method_2_code (2 : Nat) (Option.none : Option Jvm.ClassFile.FieldType), Jvm.Cond.code ({ cls := "com/example/slotter/slotter/analysis/BatchMeans", name := "events", desc := "()J" } : Jvm.MethodName) prog_1_method_4_code (8 : Nat) (Option.some Jvm.ClassFile.FieldType.long), Jvm.Cond.code ({ cls := "com/example/slotter/slotter/analysis/BatchMeans", name := "observed", desc := "()J" } : Jvm.MethodName) prog_1_method_3_code (1 : Nat) (Option.some Jvm.ClassFile.FieldType.long)]
set_option maxRecDepth 65536 in
theorem codes_eq : words1.filter isCode = codes1 := rfl
theorem w_codes : ∀ c ∈ words1.filter isCode, c.before args0 about1 = true := by
  rw [codes_eq]
  intro c hc
  simp only [codes1, List.mem_cons, List.not_mem_nil, or_false] at hc
  rcases hc with rfl | rfl | rfl | rfl | rfl | rfl | rfl | rfl
  · exact w_c0
  · exact w_c1
  · exact w_c2
  · exact w_c3
  · exact w_c4
  · exact w_c5
  · exact w_c6
  · exact w_c7
set_option maxRecDepth 65536 in
theorem w_t1 : (words1.take 24).all (fun c => isCode c || c.before args0 about1) = true := by decide +kernel
set_option maxRecDepth 65536 in
theorem w_t2 : (words1.drop 24).all (fun c => isCode c || c.before args0 about1) = true := by decide +kernel
theorem w_tables : (allAtoms (Jvm.Cond.code x code maxLocals ret :: tables_1)).before args0 about1 = true := by
  rw [allAtoms_all]
  show words1.all (fun c => c.before args0 about1) = true
  refine all_split ?_ w_codes
  rw [← List.take_append_drop 24 words1, List.all_append, w_t1, w_t2]
  rfl
set_option maxRecDepth 65536 in
theorem w_case : (Jvm.Cond.and given_1 narrow_1).before args0 about1 = true := by decide +kernel
theorem w_applies : (headSpec (Jvm.Cond.code x code maxLocals ret :: tables_1) room_1).applies x e0.platform about1 = true :=
  (Spec.applies_iff w_frames).mpr ⟨w_running, w_runnable, w_alone, w_named, w_hears, w_ripe, w_room, w_tables⟩
theorem atStart : AtStart classFile x code maxLocals ret World_1 tables_1 room_1 Calls_1 rest_1 Pre_1 launch0 p0 e0 about1 theMethod args0 below0 :=
  ⟨lists_1, trivial, launch0.admits_env _ _ _, launch0.least_env, fairChoices_fair.cas, fairChoices_fair.clock, w_frames, w_args, w_heap, w_applies, trivial, trivial, w_case⟩
end start1
theorem witness_1 : WitnessClaimed_1 := ⟨start1.p0, start1.e0, start1.about1, start1.theMethod, start1.args0, start1.below0, start1.atStart⟩
end Jvm.Pilot.@@N@@
