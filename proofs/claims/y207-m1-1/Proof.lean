import JvmDerived
import JvmDerived.Pilot.@@N@@Statement
import JvmDerived.Pilot.@@N@@Code
set_option linter.unusedVariables false
set_option linter.unusedSimpArgs false
namespace Jvm.Pilot.@@N@@
open Jvm Jvm.ClassFile Sem Op Lib Jvm.Free Jvm.Stand Jvm.LawKit Jvm.RoadKit Bundle Jvm.Pilot.@@N@@.Jvm.D
section Own
variable {p : Program} {l : Launch} {e : Env} {R : Room} {s : State} {m : MethodId} {args : Array Value} {below : List Frame} {meth : Method} {c : Code} {T T' : State} {locs : List Loc} {cells slots : Nat} {Qf : Option Value → Heap → List Loc → Prop} {C S : Nat} {F F' : JFrame}
/-- from the state T with the frame F on top the invocation ends as Qf says -/
def own_Go (p : Program) (e : Env) (below : List Frame) (s : State) (Qf : Option Value → Heap → List Loc → Prop) (C S : Nat) (T : State) (F : JFrame) : Prop :=
  ∃ s₂ o, Steps p.tables e below (T.setTop F) s₂ ∧ s₂.status = .running ∧ Ended s₂ below o ∧ ∃ v L, o = .returned v ∧ Qf v s₂.heap L ∧ FrameEnd s o s₂ L C S
theorem own_enter (q : F = F') (hr : own_Go p e below s Qf C S T F') : ∃ s₂ o, Steps p.tables e below (T.setTop F) s₂ ∧ s₂.status = .running ∧ Ended s₂ below o ∧ ∃ v L, o = .returned v ∧ Qf v s₂.heap L ∧ FrameEnd s o s₂ L C S := by
  subst q; exact hr
theorem own_st (st : ∀ t, Steps p.tables e below (T'.setTop F') t → Steps p.tables e below (T.setTop F) t) (hr : own_Go p e below s Qf C S T' F') : own_Go p e below s Qf C S T F := by
  obtain ⟨s2, o, h1, h2⟩ := hr
  exact ⟨s2, o, st _ h1, h2⟩
theorem own_tr (st : Steps p.tables e below (T.setTop F) (T'.setTop F')) (hr : own_Go p e below s Qf C S T' F') : own_Go p e below s Qf C S T F := by
  obtain ⟨s2, o, h1, h2⟩ := hr
  exact ⟨s2, o, st.trans h1, h2⟩
theorem own_ret (X : Stand p l e R s m args below meth c T locs cells slots) (hlk : meth.locks = false) {v : Option Value} (hv : meth.sig.returnType = none → v = none)
    (st : ∀ fs, (∀ (f : JFrame) (acts : List Action), f.method = m → f.locked = none → f.entered = [] → (doReturn e (T.setTop f) acts v).1 = T.setFrames fs) → Steps p.tables e below (T.setTop F) (T.setFrames fs))
    (hQ : Qf v T.heap locs) (hC : cells ≤ C) (hS : slots ≤ S) : own_Go p e below s Qf C S T F := by
  obtain ⟨fs, hr, hrun, hended, hW, hsame⟩ := X.leave (v := v) hv hlk
  exact ⟨_, _, st fs hr, hrun, hended, _, _, rfl, hQ, ⟨_, rfl⟩, hW, hsame.mono hC hS⟩
theorem own_retN (X : Stand p l e R s m args below meth c T locs cells slots) (hx : p.tables.exec = Jvm.exec) (hlk : meth.locks = false) {pc : Nat} {Ls : Array Slot} {z : Int32} {t : FieldType} {rest : List Value} (hret : meth.sig.returnType = some t) (ht : t = .boolean ∨ t = .byte ∨ t = .char ∨ t = .short) (hd : decode c.code pc = .ok (.ireturn, 1))
    (hQ : Qf (some (.int (nar t z))) T.heap locs) (hC : cells ≤ C) (hS : slots ≤ S) : own_Go p e below s Qf C S T (mkF m pc Ls (.int z :: rest)) :=
  own_ret X hlk (fun h => by rw [hret] at h; cases h) (fun _ hr => retN X hx hret ht hd hr) hQ hC hS
theorem own_retI (X : Stand p l e R s m args below meth c T locs cells slots) (hx : p.tables.exec = Jvm.exec) (hlk : meth.locks = false) {pc : Nat} {Ls : Array Slot} {z : Int32} {rest : List Value} (hret : meth.sig.returnType = some .int) (hd : decode c.code pc = .ok (.ireturn, 1))
    (hQ : Qf (some (.int z)) T.heap locs) (hC : cells ≤ C) (hS : slots ≤ S) : own_Go p e below s Qf C S T (mkF m pc Ls (.int z :: rest)) :=
  own_ret X hlk (fun h => by rw [hret] at h; cases h) (fun _ hr => retOut X hx hret rfl (Or.inl ⟨rfl, Or.inl rfl, _, rfl⟩) hd hr) hQ hC hS
theorem own_retJ (X : Stand p l e R s m args below meth c T locs cells slots) (hx : p.tables.exec = Jvm.exec) (hlk : meth.locks = false) {pc : Nat} {Ls : Array Slot} {z : Int64} {rest : List Value} (hret : meth.sig.returnType = some .long) (hd : decode c.code pc = .ok (.lreturn, 1))
    (hQ : Qf (some (.long z)) T.heap locs) (hC : cells ≤ C) (hS : slots ≤ S) : own_Go p e below s Qf C S T (mkF m pc Ls (.long z :: rest)) :=
  own_ret X hlk (fun h => by rw [hret] at h; cases h) (fun _ hr => retOut X hx hret rfl (Or.inr (Or.inl ⟨rfl, rfl, _, rfl⟩)) hd hr) hQ hC hS
theorem own_retA (X : Stand p l e R s m args below meth c T locs cells slots) (hx : p.tables.exec = Jvm.exec) (hlk : meth.locks = false) {pc : Nat} {Ls : Array Slot} {w : Value} {t : FieldType} {rest : List Value} (hret : meth.sig.returnType = some t) (ht : t.isReference = true) (hw : w.isRef = true) (hn : narrow t w = w) (hd : decode c.code pc = .ok (.areturn, 1))
    (hQ : Qf (some w) T.heap locs) (hC : cells ≤ C) (hS : slots ≤ S) : own_Go p e below s Qf C S T (mkF m pc Ls (w :: rest)) :=
  own_ret X hlk (fun h => by rw [hret] at h; cases h) (fun _ hr => retOut X hx hret hn (Or.inr (Or.inr (Or.inr (Or.inr ⟨rfl, ht, hw⟩)))) hd hr) hQ hC hS
theorem own_retV (X : Stand p l e R s m args below meth c T locs cells slots) (hx : p.tables.exec = Jvm.exec) (hlk : meth.locks = false) {pc : Nat} {Ls : Array Slot} (hret : meth.sig.returnType = none) (hd : decode c.code pc = .ok (.return_, 1))
    (hQ : Qf none T.heap locs) (hC : cells ≤ C) (hS : slots ≤ S) : own_Go p e below s Qf C S T (mkF m pc Ls []) :=
  own_ret X hlk (fun _ => rfl) (fun _ hr => X.returnOut hx hret hd hr) hQ hC hS
def own_cc : ClassFile.Cond → Int32 → Int32 → Prop
  | .eq, x, y => x = y
  | .ne, x, y => ¬ x = y
  | .lt, x, y => x < y
  | .ge, x, y => ¬ x < y
  | .gt, x, y => y < x
  | .le, x, y => ¬ y < x
def own_nn : ClassFile.Cond → Int32 → Int32 → Prop
  | .eq, x, y => ¬ x = y
  | .ne, x, y => x = y
  | .lt, x, y => ¬ x < y
  | .ge, x, y => x < y
  | .gt, x, y => ¬ y < x
  | .le, x, y => y < x
theorem own_split (cd : ClassFile.Cond) (x y : Int32) : (own_cc cd x y ∧ if_icmp.holds cd x y = true) ∨ (own_nn cd x y ∧ if_icmp.holds cd x y = false) := by
  cases cd
  · by_cases h : x = y
    · exact Or.inl ⟨h, (teq h).1⟩
    · exact Or.inr ⟨h, (feq h).1⟩
  · by_cases h : x = y
    · exact Or.inr ⟨h, (teq h).2⟩
    · exact Or.inl ⟨h, (feq h).2⟩
  · by_cases h : x < y
    · exact Or.inl ⟨h, (tlt h).1⟩
    · exact Or.inr ⟨h, (flt h).1⟩
  · by_cases h : x < y
    · exact Or.inr ⟨h, (tlt h).2.1⟩
    · exact Or.inl ⟨h, (flt h).2.1⟩
  · by_cases h : y < x
    · exact Or.inl ⟨h, (tlt h).2.2.1⟩
    · exact Or.inr ⟨h, (flt h).2.2.1⟩
  · by_cases h : y < x
    · exact Or.inr ⟨h, (tlt h).2.2.2⟩
    · exact Or.inl ⟨h, (flt h).2.2.2⟩
theorem own_icmp (X : Stand p l e R s m args below meth c T locs cells slots) (hx : p.tables.exec = Jvm.exec) {pc pc' pc2 : Nat} {Ls : Array Slot} {st : List Value} {x y : Int32} {cd : ClassFile.Cond} {o : Int} (hd : decode c.code pc = .ok (.if_icmp cd o, 3)) (ho : 0 ≤ (pc : Int) + o) (hp : ((pc : Int) + o).toNat = pc') (h2 : pc + 3 = pc2)
    (hY : own_cc cd x y → own_Go p e below s Qf C S T (mkF m pc' Ls st)) (hN : own_nn cd x y → own_Go p e below s Qf C S T (mkF m pc2 Ls st)) : own_Go p e below s Qf C S T (mkF m pc Ls (.int y :: .int x :: st)) := by
  subst h2
  rcases own_split cd x y with ⟨h, q⟩ | ⟨h, q⟩
  · exact own_st (fun _ k => XS.icmpYes X.here hx rfl (pc0 := pc) (pc' := pc') rfl hd rfl q ho hp k) (hY h)
  · exact own_st (fun _ k => XS.icmpNo X.here hx rfl hd rfl q k) (hN h)
theorem own_ifc (X : Stand p l e R s m args below meth c T locs cells slots) (hx : p.tables.exec = Jvm.exec) {pc pc' pc2 : Nat} {Ls : Array Slot} {st : List Value} {x : Int32} {cd : ClassFile.Cond} {o : Int} (hd : decode c.code pc = .ok (.ifCond cd o, 3)) (ho : 0 ≤ (pc : Int) + o) (hp : ((pc : Int) + o).toNat = pc') (h2 : pc + 3 = pc2)
    (hY : own_cc cd x 0 → own_Go p e below s Qf C S T (mkF m pc' Ls st)) (hN : own_nn cd x 0 → own_Go p e below s Qf C S T (mkF m pc2 Ls st)) : own_Go p e below s Qf C S T (mkF m pc Ls (.int x :: st)) := by
  subst h2
  rcases own_split cd x 0 with ⟨h, q⟩ | ⟨h, q⟩
  · exact own_st (fun _ k => XS.ifYes X.here hx rfl (pc0 := pc) (pc' := pc') rfl hd rfl ((if0 _ _).trans q) ho hp k) (hY h)
  · exact own_st (fun _ k => XS.ifNo X.here hx rfl hd rfl ((if0 _ _).trans q) k) (hN h)
def own_ccL : ClassFile.Cond → Int64 → Int64 → Prop
  | .eq, x, y => x = y
  | .ne, x, y => ¬ x = y
  | .lt, x, y => x < y
  | .ge, x, y => ¬ x < y
  | .gt, x, y => y < x
  | .le, x, y => ¬ y < x
def own_nnL : ClassFile.Cond → Int64 → Int64 → Prop
  | .eq, x, y => ¬ x = y
  | .ne, x, y => x = y
  | .lt, x, y => ¬ x < y
  | .ge, x, y => x < y
  | .gt, x, y => ¬ y < x
  | .le, x, y => y < x
theorem own_lc (cd : ClassFile.Cond) (x y : Int64) : (own_cc cd (lcmpW x y) 0 → own_ccL cd x y) ∧ (own_nn cd (lcmpW x y) 0 → own_nnL cd x y) := by
  have h1 : x > y → lcmpW x y = 1 := fun h => by simp [lcmpW, h]
  have h2 : x = y → lcmpW x y = 0 := fun h => by subst h; simp [lcmpW, Int64.lt_irrefl]
  have h3 : ¬ x > y → ¬ x = y → lcmpW x y = -1 := fun h h' => by simp [lcmpW, h, h']
  have lt : x < y ↔ lcmpW x y < 0 := by
    by_cases a : x > y
    · rw [h1 a]; exact ⟨fun b => absurd (Int64.lt_trans a b) (Int64.lt_irrefl), fun b => absurd b (by decide)⟩
    · by_cases b : x = y
      · rw [h2 b, b]; exact ⟨fun q => absurd q (Int64.lt_irrefl), fun q => absurd q (by decide)⟩
      · rw [h3 a b]; exact ⟨fun _ => by decide, fun _ => by
          rw [Int64.lt_iff_toInt_lt]; simp only [gt_iff_lt, Int64.lt_iff_toInt_lt] at a
          have : x.toInt ≠ y.toInt := fun q => b (Int64.toInt_inj.mp q)
          omega⟩
  have gt : y < x ↔ 0 < lcmpW x y := by
    by_cases a : x > y
    · rw [h1 a]; exact ⟨fun _ => by decide, fun _ => a⟩
    · by_cases b : x = y
      · rw [h2 b]; exact ⟨fun q => absurd q a, fun q => absurd q (by decide)⟩
      · rw [h3 a b]; exact ⟨fun q => absurd q a, fun q => absurd q (by decide)⟩
  have eq : x = y ↔ lcmpW x y = 0 := by
    by_cases a : x > y
    · rw [h1 a]; exact ⟨fun b => absurd a (by rw [b]; exact Int64.lt_irrefl), fun b => absurd b (by decide)⟩
    · by_cases b : x = y
      · exact ⟨fun _ => h2 b, fun _ => b⟩
      · rw [h3 a b]; exact ⟨fun q => absurd q b, fun q => absurd q (by decide)⟩
  cases cd
  · exact ⟨fun h => eq.mpr h, fun h q => h (eq.mp q)⟩
  · exact ⟨fun h q => h (eq.mp q), fun h => eq.mpr h⟩
  · exact ⟨fun h => lt.mpr h, fun h q => h (lt.mp q)⟩
  · exact ⟨fun h q => h (lt.mp q), fun h => lt.mpr h⟩
  · exact ⟨fun h => gt.mpr h, fun h q => h (gt.mp q)⟩
  · exact ⟨fun h q => h (gt.mp q), fun h => gt.mpr h⟩
theorem own_iflc (X : Stand p l e R s m args below meth c T locs cells slots) (hx : p.tables.exec = Jvm.exec) {pc pc' pc2 : Nat} {Ls : Array Slot} {st : List Value} {x y : Int64} {cd : ClassFile.Cond} {o : Int} (hd : decode c.code pc = .ok (.ifCond cd o, 3)) (ho : 0 ≤ (pc : Int) + o) (hp : ((pc : Int) + o).toNat = pc') (h2 : pc + 3 = pc2)
    (hY : own_ccL cd x y → own_Go p e below s Qf C S T (mkF m pc' Ls st)) (hN : own_nnL cd x y → own_Go p e below s Qf C S T (mkF m pc2 Ls st)) : own_Go p e below s Qf C S T (mkF m pc Ls (.int (lcmpW x y) :: st)) :=
  own_ifc X hx hd ho hp h2 (fun h => hY ((own_lc cd x y).1 h)) (fun h => hN ((own_lc cd x y).2 h))
theorem own_acmp (X : Stand p l e R s m args below meth c T locs cells slots) (hx : p.tables.exec = Jvm.exec) {pc pc' pc2 : Nat} {Ls : Array Slot} {st : List Value} {x y : Addr} {o : Int} {cd : ACond} (hd : decode c.code pc = .ok (.if_acmp cd o, 3)) (ho : 0 ≤ (pc : Int) + o) (hp : ((pc : Int) + o).toNat = pc') (h2 : pc + 3 = pc2)
    (hE : x = y → own_Go p e below s Qf C S T (mkF m (if acV cd true = true then pc' else pc2) Ls st)) (hN : ¬ x = y → own_Go p e below s Qf C S T (mkF m (if acV cd false = true then pc' else pc2) Ls st)) : own_Go p e below s Qf C S T (mkF m pc Ls (.ref y :: .ref x :: st)) := by
  subst h2 hp
  by_cases h : x = y
  · exact own_st (fun _ k => Jvm.RoadKit.acmp (g := mkF m pc Ls (.ref y :: .ref x :: st)) X hx rfl rfl rfl (pc0 := pc) (same := true) rfl hd rfl (decide_eq_true (congrArg Value.ref h)) ho rfl k) (hE h)
  · exact own_st (fun _ k => Jvm.RoadKit.acmp (g := mkF m pc Ls (.ref y :: .ref x :: st)) X hx rfl rfl rfl (pc0 := pc) (same := false) rfl hd rfl (decide_eq_false fun q => h (Value.ref.inj q)) ho rfl k) (hN h)
theorem own_ord {Z : State} {a0 : Array Value} {t : Term} {a : Addr} {C n d : String} {k : Int32} (ev : t.eval a0 Z none [] Z = some (.ref a)) (h : (Cond.eq (Term.field t C n d) (Term.int k)).value a0 Z none Z [] = some true) : Fld Z Z.heap a C n d (.int k) := by
  have e1 : (Term.field t C n d).eval a0 Z none [] Z = Z.fieldOf? a C n d := fld_at ev
  simp only [Cond.value, e1] at h
  cases hq : Z.fieldOf? a C n d with
  | none => simp [hq] at h
  | some v =>
    rw [hq] at h
    cases v <;> simp [Term.eval] at h
    subst h
    exact Fld.start hq
theorem own_narb {z : Int32} (h : z = 0 ∨ z = 1) : nar .boolean z = z := by rcases h with rfl | rfl <;> rfl
theorem own_stk {Z : State} {h h' : Heap} {C n d : String} {v : Value} {ws : List Addr} (F : Sta Z h C n d v) (K : Keep h h' ws) (q : ∀ x ∈ ws, ∀ c : Cell, h[x]? = some c → c.vm.isStatics = false) : Sta Z h' C n d v := by
  obtain ⟨cf, i, k, f, st, cell, h1, h2, h3, h4, h5, h6, h7⟩ := F
  exact ⟨cf, i, k, f, st, cell, h1, h2, h3, h4, K.2.1 st cell h5 (fun z => by rw [q st z cell h5] at h6; cases h6), h6, h7⟩
theorem own_npE {Z : State} {h : Heap} {a : Addr} {C : String} (E : Exa Z h a C) : ∀ c : Cell, h[a]? = some c → c.vm.isStatics = false := fun c hc => by
  obtain ⟨cell, k, h1, h2, h3, h4, h5⟩ := E
  cases h1.symm.trans hc
  exact h4
theorem own_npA {Z : State} {h : Heap} {a : Addr} {k : ClassId} {ty : FieldType} {z : Int32} {vs : List Value} {dv : Value} (V : Arv Z h a k ty z vs dv) : ∀ c : Cell, h[a]? = some c → c.vm.isStatics = false := fun c hc => by
  obtain ⟨cl, A, r⟩ := V
  cases A.1.symm.trans hc
  exact A.plain
theorem own_len {Z : State} {a0 : Array Value} {t : Term} {a : Addr} {cl : Cell} {ty : FieldType} {k : Int32} (ev : t.eval a0 Z none [] Z = some (.ref a)) (A : Arr Z Z.heap a cl ty) (h : (Cond.eq (Term.length t) (Term.int k)).value a0 Z none Z [] = some true) : cl.slots.size < 2 ^ 31 ∧ cl.slots.size.toInt32 = k := by
  have ha : Z.arrayAt? a = some cl := IntBox.arrayAt_of A.1 A.2.1 A.2.2
  simp only [Cond.value, Term.eval, ev, Option.bind_eq_bind, Option.bind_some, ha] at h
  by_cases q : cl.slots.size < 2 ^ 31
  · simp [q] at h; exact ⟨q, h⟩
  · simp [q] at h
theorem own_elem {Z : State} {a0 : Array Value} {t : Term} {a : Addr} {cl : Cell} {ty : FieldType} {j v : Int32} (ev : t.eval a0 Z none [] Z = some (.ref a)) (A : Arr Z Z.heap a cl ty) (hj : ¬ j < 0) (h : (Cond.eq (Term.elem t (Term.int j)) (Term.int v)).value a0 Z none Z [] = some true) : cl.slots[j.toNatClampNeg]? = some (.int v) := by
  have ha : Z.arrayAt? a = some cl := IntBox.arrayAt_of A.1 A.2.1 A.2.2
  have e1 : (Term.elem t (Term.int j)).eval a0 Z none [] Z = cl.slots[j.toNatClampNeg]? := elem_f ev rfl ha hj
  simp only [Cond.value, e1] at h
  cases hq : cl.slots[j.toNatClampNeg]? with
  | none => simp [hq] at h
  | some w =>
    rw [hq] at h
    cases w <;> simp [Term.eval] at h
    rw [h]
theorem own_arvex {Z : State} {a : Addr} {cl : Cell} {ty : FieldType} {z : Int32} {dv : Value} (hf : Fit Z) (A : Arr Z Z.heap a cl ty) (q : cl.slots.size < 2 ^ 31) (e : cl.slots.size.toInt32 = z) (hz : ¬ z < 0) : ∃ vs, Arv Z Z.heap a cl.cls ty z vs dv := by
  have S : cl.slots.size = z.toNatClampNeg := by rw [← e]; simp only [Int32.toNatClampNeg, len_toInt q]; rfl
  have H : Has cl cl.slots.toList dv := fun k hk => by
    rw [List.getD_eq_getElem?_getD, Array.getElem?_toList, Array.getElem?_eq_getElem hk]; rfl
  refine ⟨cl.slots.toList, cl, A, rfl, S, hz, H, fun j hj => ?_⟩
  have e1 : (Nat.toInt32 j).toNatClampNeg = j := by simp only [Int32.toNatClampNeg, len_toInt (Nat.lt_trans hj q)]; rfl
  exact elem_fits (j := Nat.toInt32 j) hf A (idx_in hj q) (by rw [e1]; exact H j hj)
theorem own_selp {s : State} {args : Array Value} {y : MethodName} {n : Nat} (wi : (Cond.instantiable y.cls n).before args s = true) (hp : s.PrivateAt y) (hi : (Cond.instanceMethod y).before args s = true) (hy : y.cls ≠ "java/lang/invoke/MethodHandle" ∧ y.cls ≠ "java/lang/invoke/VarHandle") : (Cond.selects y.cls y y).before args s = true := by
  obtain ⟨c, k, hc, hk, -, hf, -⟩ := Cond.instantiable_spec wi
  exact selects_self_of_private hc hk (by simp only [Bool.or_eq_false_iff] at hf; exact hf.1) hp hi hy
theorem own_nar0 : nar .boolean (0 : Int32) = 0 := rfl
theorem own_nar1 : nar .boolean (1 : Int32) = 1 := rfl
end Own

theorem own_k (x : Int64) (h1 : ¬ x < -128) (h2 : ¬ 127 < x) : ¬ (x.toInt32 + 128) < 0 ∧ (x.toInt32 + 128) < 256 := by
  have a1 : (-128 : Int64).toInt = -128 := rfl
  have a2 : (127 : Int64).toInt = 127 := rfl
  have a3 : (128 : Int32).toInt = 128 := rfl
  have a4 : (256 : Int32).toInt = 256 := rfl
  have a5 : (0 : Int32).toInt = 0 := rfl
  rw [Int64.lt_iff_toInt_lt] at h1 h2
  have c1 := c_l2i x
  have c2 := c_iadd x.toInt32 128
  have r1 := rng32 x.toInt32
  have r2 := rng32 (x.toInt32 + 128)
  rw [Int32.lt_iff_toInt_lt, Int32.lt_iff_toInt_lt]
  omega
theorem own_root {Z : State} {a0 : Array Value} {O K : String} {n : Nat} (w : (Cond.noSuperclass O).before a0 Z = true) (wk : (Cond.instantiable K n).before a0 Z = true) (hn : O ≠ K) : NS Z O K := by
  obtain ⟨c, k, h1, h2, h3, h4, h5⟩ := Cond.noSuperclass_spec w
  obtain ⟨t, kt, g1, g2, g3, g4, -⟩ := Cond.instantiable_spec wk
  refine ⟨c, t, h1, g1, fun fuel => ?_⟩
  have ne := ids_ne h1 g1 hn
  cases fuel with
  | zero => simp [Vm.isSubclassAux, ne]
  | succ f => simp [Vm.isSubclassAux, ne, h2, h3]
theorem own_no {Z : State} {a0 : Array Value} {C S K : String} {m : Nat} (w : (Cond.superclass C S).before a0 Z = true) (wk : (Cond.instantiable K m).before a0 Z = true) (n : NS Z C K) (hn : C ≠ K) : ∃ c t, Z.vm.findClass C = some c ∧ Z.vm.findClass K = some t ∧ Z.vm.assignable c t = false := by
  obtain ⟨c, t, h0, g0, n3⟩ := n
  obtain ⟨p, k, kp, h1, h2, h3, h4, h5, -, h7⟩ := Cond.superclass_spec h0 w
  obtain ⟨t', k', g1, g2, g3, g4, -⟩ := Cond.instantiable_spec wk
  cases g0.symm.trans g1
  have ne := ids_ne h0 g0 hn
  simp only [Bool.or_eq_false_iff] at g4
  refine ⟨c, t, h0, g0, ?_⟩
  show Z.vm.assignableAux (255 + 1) c t = false
  simp [Vm.assignableAux, ne, h2, g2, h5, g3, g4.1, Vm.isSubclass, n3]
theorem own_arvl {Z : State} {a : Addr} {cl : Cell} {ty : FieldType} {z : Int32} {dv : Value} (hf : Fit Z) (A : Arr Z Z.heap a cl ty) (q : cl.slots.size < 2 ^ 31) (e : cl.slots.size.toInt32 = z) (hz : ¬ z < 0) : Arv Z Z.heap a cl.cls ty z cl.slots.toList dv := by
  have S : cl.slots.size = z.toNatClampNeg := by rw [← e]; simp only [Int32.toNatClampNeg, len_toInt q]; rfl
  have H : Has cl cl.slots.toList dv := fun k hk => by
    rw [List.getD_eq_getElem?_getD, Array.getElem?_toList, Array.getElem?_eq_getElem hk]; rfl
  refine ⟨cl, A, rfl, S, hz, H, fun j hj => ?_⟩
  have e1 : (Nat.toInt32 j).toNatClampNeg = j := by simp only [Int32.toNatClampNeg, len_toInt (Nat.lt_trans hj q)]; rfl
  exact elem_fits (j := Nat.toInt32 j) hf A (idx_in hj q) (by rw [e1]; exact H j hj)
theorem own_hall {Z : State} {a0 : Array Value} {t : Term} {a : Addr} {cl : Cell} {ty : FieldType} {c : Jvm.Cond} {K : String} (ev : ∀ idx, t.eval a0 Z none idx Z = some (.ref a)) (A : Arr Z Z.heap a cl ty) (q : cl.slots.size < 2 ^ 31)
    (h : (Cond.all t (Cond.and (Cond.exactly (Term.elem t (Term.index 0)) K) c)).value a0 Z none Z [] = some true) : ∀ i, i < cl.slots.size → ∃ b, cl.slots.toList.getD i .null = .ref b ∧ Exa Z Z.heap b K := by
  have ha : Z.arrayAt? a = some cl := IntBox.arrayAt_of A.1 A.2.1 A.2.2
  intro i hi
  have h1 := (and_e (Cond.all_elim (ev []) ha h i hi)).1
  obtain ⟨b, c', cell, k, e1, e2, e3, e4, e5, rfl, e7⟩ := Cond.exactly_spec (show (Cond.exactly (Term.elem t (Term.index 0)) K).holds a0 Z none Z [i] = true by simp only [Cond.holds, h1]; rfl)
  have hj : (Term.index 0).eval a0 Z none [i] Z = some (.int (Nat.toInt32 i)) := by
    have : i < 2 ^ 31 := Nat.lt_trans hi q
    simp [Term.eval, this]
  have e1' : (Nat.toInt32 i).toNatClampNeg = i := by simp only [Int32.toNatClampNeg, len_toInt (Nat.lt_trans hi q)]; rfl
  have hn : ¬ (Nat.toInt32 i) < 0 := fun z => by
    rw [Int32.lt_iff_toInt_lt, len_toInt (Nat.lt_trans hi q)] at z
    have e0 : (0 : Int32).toInt = 0 := rfl
    omega
  have e := elem_f (ev [i]) hj ha hn
  rw [e1, e1'] at e
  refine ⟨b, ?_, cell, k, e3, e2, e4, e5, e7⟩
  rw [List.getD_eq_getElem?_getD, Array.getElem?_toList, ← e]; rfl

theorem d1_0 : decode prog_81_method_1_code 0 = .ok (.aload_n 0, 1) := by decide +kernel
theorem d1_1 : decode prog_81_method_1_code 1 = .ok (.invokespecial 1, 3) := by decide +kernel
theorem d1_4 : decode prog_81_method_1_code 4 = .ok (.aload_n 0, 1) := by decide +kernel
theorem d1_5 : decode prog_81_method_1_code 5 = .ok (.lload_n 1, 1) := by decide +kernel
theorem d1_6 : decode prog_81_method_1_code 6 = .ok (.putfield 7, 3) := by decide +kernel
theorem d1_9 : decode prog_81_method_1_code 9 = .ok (.aload_n 0, 1) := by decide +kernel
theorem d1_10 : decode prog_81_method_1_code 10 = .ok (.lload_n 3, 1) := by decide +kernel
theorem d1_11 : decode prog_81_method_1_code 11 = .ok (.putfield 13, 3) := by decide +kernel
theorem d1_14 : decode prog_81_method_1_code 14 = .ok (.return_, 1) := by decide +kernel
theorem own_pn1 : plainName "com/example/infinite_tail/infinitetail/stream/StreamId" = true := by first | (simp [plainName, overriddenIn]; done) | decide +kernel
theorem own_ef1 (m : MethodId) (o : Addr) (x0 : Int64) (x1 : Int64) : entryFrame m #[(.ref o), (.long x0), (.long x1)] 5 = (mkF m 0 #[.val (.ref o), .val (.long x0), .second, .val (.long x1), .second] []) := by first | (simp [entryFrame, mkF, argsToLocals, Value.category]; done) | rfl
def Q1 (Z : State) (o : Addr) (x0 : Int64) (x1 : Int64) (u0 : Value) (u1 : Value) (h0 : Heap) (n0 : Nat) (v : Option Value) (h : Heap) (L : List Loc) : Prop := v = none ∧ Fr n0 L ∧ Keep h0 h [o] ∧ Exa Z h o "com/example/infinite_tail/infinitetail/stream/StreamId" ∧ Fld Z h o "com/example/infinite_tail/infinitetail/stream/StreamId" "milliseconds" "J" (.long x0) ∧ Fld Z h o "com/example/infinite_tail/infinitetail/stream/StreamId" "sequence" "J" (.long x1)
set_option maxRecDepth 65536 in
set_option maxHeartbeats 40000000 in
theorem rm1 (l : Launch) (Z : State) (a0 : Array Value) (hw : ∀ d ∈ tables_1, d.before a0 Z = true) (ws : List Jvm.Cond) (o : Addr) (x0 : Int64) (x1 : Int64) (u0 : Value) (u1 : Value) (h0 : Heap) (n0 : Nat) (Z0 : n0 ≤ h0.size) (hge : n0 ≤ o) (hE : Exa Z h0 o "com/example/infinite_tail/infinitetail/stream/StreamId") (hF0 : Fld Z h0 o "com/example/infinite_tail/infinitetail/stream/StreamId" "milliseconds" "J" u0) (hF1 : Fld Z h0 o "com/example/infinite_tail/infinitetail/stream/StreamId" "sequence" "J" u1) :
    MetFree l (⟨"com/example/infinite_tail/infinitetail/stream/StreamId", "<init>", "(JJ)V"⟩ : MethodName) (head1 (Jvm.Cond.code (⟨"com/example/infinite_tail/infinitetail/stream/StreamId", "<init>", "(JJ)V"⟩ : MethodName) prog_81_method_1_code 5 none :: ws) ({ frames := 1, cells := 0, slots := 0, locals := 12 } : Room)) (fun a U => a = #[(.ref o), (.long x0), (.long x1)] ∧ Z.Warmed39 U.vm ∧ U.heap = h0) (fun _ _ _ _ _ => True) (fun _ U oc U' => ∃ v L, oc = .returned v ∧ Q1 Z o x0 x1 u0 u1 h0 n0 v U'.heap L ∧ FrameEnd U oc U' L ({ frames := 1, cells := 0, slots := 0, locals := 12 } : Room).cells ({ frames := 1, cells := 0, slots := 0, locals := 12 } : Room).slots) := by
  refine MetFree.of_bodySF (plainFor_of_name own_pn1) hisR ?_
  intro p e s m args below meth c s₁ Bd hml0 hP hK
  obtain ⟨rfl, hZ, hh⟩ := hP
  have hx := Bd.exec
  have hby := Bd.bytes
  have hlk : meth.locks = false := BodyLoose.notSynchronized Bd
  have hml : c.maxLocals = 5 := hml0
  have hown : s.vm.findClass "com/example/infinite_tail/infinitetail/stream/StreamId" = some m.cls := findClass_of_methodNamed Bd.named
  have hnm := (name_of_methodNamed Bd.named Bd.method).1
  have X0 : Stand p l e ({ frames := 1, cells := 0, slots := 0, locals := 12 } : Room) s m #[(.ref o), (.long x0), (.long x1)] below meth c s₁ [] 0 0 := Stand.of_body Bd
  have e0 : s₁.heap = h0 := by rw [← hh, Bd.state]; rfl
  have N0 := Fr.nil n0
  refine own_enter (own_ef1 m o x0 x1) ?_
  show own_Go p e below s (Q1 Z o x0 x1 u0 u1 h0 n0) ({ frames := 1, cells := 0, slots := 0, locals := 12 } : Room).cells ({ frames := 1, cells := 0, slots := 0, locals := 12 } : Room).slots s₁ (mkF m 0 #[.val (.ref o), .val (.long x0), .second, .val (.long x1), .second] [])
  refine own_st (T' := s₁) (F' := (mkF m 1 #[.val (.ref o), .val (.long x0), .second, .val (.long x1), .second] [(.ref o)])) (fun _ k => XS.aloadN X0.here hx rfl (hb hby d1_0) rfl rfl k) ?_
  obtain ⟨T1, X1, e1, st1⟩ := initO X0 hx hZ hown (hw _ (List.mem_of_getElem? (i := 6) rfl)) (hw _ (List.mem_of_getElem? (i := 7) rfl)) (hw _ (List.mem_of_getElem? (i := 8) rfl)) e0 (g := (mkF m 1 #[.val (.ref o), .val (.long x0), .second, .val (.long x1), .second] [(.ref o)])) rfl (by rw [hml]; rfl) rfl (hb hby d1_1) (by decide) (W := 0) (by show 2 * 0 + _ ≤ _; exact Nat.le_of_eq rfl) (by decide)
  refine own_st (T' := T1) (F' := (mkF m 4 #[.val (.ref o), .val (.long x0), .second, .val (.long x1), .second] [])) (fun _ k => st1 _ k) ?_
  refine own_st (T' := T1) (F' := (mkF m 5 #[.val (.ref o), .val (.long x0), .second, .val (.long x1), .second] [(.ref o)])) (fun _ k => XS.aloadN X1.here hx rfl (hb hby d1_4) rfl rfl k) ?_
  refine own_st (T' := T1) (F' := (mkF m 6 #[.val (.ref o), .val (.long x0), .second, .val (.long x1), .second] [(.long x0), (.ref o)])) (fun _ k => XS.lloadN X1.here hx rfl (hb hby d1_5) rfl  k) ?_
  obtain ⟨T2, h2, X2, e2, W2, st2⟩ := putF X1 hx hZ hown (host := "") (Or.inl (hw _ (List.mem_of_getElem? (i := 9) rfl))) Via.refl e1 hF0 hE (Or.inr ⟨(hw _ (List.mem_of_getElem? (i := 10) rfl)), rfl, hnm⟩) (hw _ (List.mem_of_getElem? (i := 1) rfl)) (ty := .long) (by decide) rfl rfl (g := (mkF m 6 #[.val (.ref o), .val (.long x0), .second, .val (.long x1), .second] [(.long x0), (.ref o)])) rfl rfl (hb hby d1_6)
  have N2 := Fr.snoc X2 N0 hge
  have f3 : Exa Z h2 o "com/example/infinite_tail/infinitetail/stream/StreamId" := hE.wr W2
  have f4 : Fld Z h2 o "com/example/infinite_tail/infinitetail/stream/StreamId" "milliseconds" "J" (.long x0) := hF0.same W2
  have f5 : Fld Z h2 o "com/example/infinite_tail/infinitetail/stream/StreamId" "sequence" "J" u1 := hF1.other W2 (Or.inr (slot_ne (Or.inr (hw _ (List.mem_of_getElem? (i := 12) rfl))) (Or.inr (hw _ (List.mem_of_getElem? (i := 10) rfl))) (by decide) (t := .long) (t' := .long) (by decide) (by decide)))
  have K2 : Keep h0 h2 [o] := (Keep.refl h0 [o]).wr W2 (Or.inl (List.mem_of_getElem? (i := 0) rfl))
  have Zs2 : n0 ≤ h2.size := Nat.le_trans Z0 K2.1
  refine own_st (T' := T2) (F' := (mkF m 9 #[.val (.ref o), .val (.long x0), .second, .val (.long x1), .second] [])) (fun _ k => st2 _ k) ?_
  refine own_st (T' := T2) (F' := (mkF m 10 #[.val (.ref o), .val (.long x0), .second, .val (.long x1), .second] [(.ref o)])) (fun _ k => XS.aloadN X2.here hx rfl (hb hby d1_9) rfl rfl k) ?_
  refine own_st (T' := T2) (F' := (mkF m 11 #[.val (.ref o), .val (.long x0), .second, .val (.long x1), .second] [(.long x1), (.ref o)])) (fun _ k => XS.lloadN X2.here hx rfl (hb hby d1_10) rfl  k) ?_
  obtain ⟨T6, h6, X6, e6, W6, st6⟩ := putF X2 hx hZ hown (host := "") (Or.inl (hw _ (List.mem_of_getElem? (i := 11) rfl))) Via.refl e2 f5 f3 (Or.inr ⟨(hw _ (List.mem_of_getElem? (i := 12) rfl)), rfl, hnm⟩) (hw _ (List.mem_of_getElem? (i := 1) rfl)) (ty := .long) (by decide) rfl rfl (g := (mkF m 11 #[.val (.ref o), .val (.long x0), .second, .val (.long x1), .second] [(.long x1), (.ref o)])) rfl rfl (hb hby d1_11)
  have N6 := Fr.snoc X6 N2 hge
  have f7 : Exa Z h6 o "com/example/infinite_tail/infinitetail/stream/StreamId" := f3.wr W6
  have f8 : Fld Z h6 o "com/example/infinite_tail/infinitetail/stream/StreamId" "milliseconds" "J" (.long x0) := f4.other W6 (Or.inr (slot_ne (Or.inr (hw _ (List.mem_of_getElem? (i := 10) rfl))) (Or.inr (hw _ (List.mem_of_getElem? (i := 12) rfl))) (by decide) (t := .long) (t' := .long) (by decide) (by decide)))
  have f9 : Fld Z h6 o "com/example/infinite_tail/infinitetail/stream/StreamId" "sequence" "J" (.long x1) := f5.same W6
  have K6 : Keep h0 h6 [o] := K2.wr W6 (Or.inl (List.mem_of_getElem? (i := 0) rfl))
  have Zs6 : n0 ≤ h6.size := Nat.le_trans Z0 K6.1
  refine own_st (T' := T6) (F' := (mkF m 14 #[.val (.ref o), .val (.long x0), .second, .val (.long x1), .second] [])) (fun _ k => st6 _ k) ?_
  refine own_retV X6 hx hlk Bd.returns (hb hby d1_14) ?_ (by decide) (by decide)
  rw [e6]
  refine ⟨rfl, N6, K6, f7, f8, f9⟩
theorem d3tb_0 : decode prog_81_method_10_code 0 = .ok (.aload_n 1, 1) := by decide +kernel
theorem d3tb_1 : decode prog_81_method_10_code 1 = .ok (.instanceof 8, 3) := by decide +kernel
theorem d3tb_4 : decode prog_81_method_10_code 4 = .ok (.ifCond .eq 36, 3) := by decide +kernel
theorem d3tb_7 : decode prog_81_method_10_code 7 = .ok (.aload_n 1, 1) := by decide +kernel
theorem d3tb_8 : decode prog_81_method_10_code 8 = .ok (.checkcast 8, 3) := by decide +kernel
theorem d3tb_11 : decode prog_81_method_10_code 11 = .ok (.astore_n 2, 1) := by decide +kernel
theorem d3tb_12 : decode prog_81_method_10_code 12 = .ok (.aload_n 0, 1) := by decide +kernel
theorem d3tb_13 : decode prog_81_method_10_code 13 = .ok (.getfield 7, 3) := by decide +kernel
theorem d3tb_16 : decode prog_81_method_10_code 16 = .ok (.aload_n 2, 1) := by decide +kernel
theorem d3tb_17 : decode prog_81_method_10_code 17 = .ok (.getfield 7, 3) := by decide +kernel
theorem d3tb_20 : decode prog_81_method_10_code 20 = .ok (.lcmp, 1) := by decide +kernel
theorem d3tb_21 : decode prog_81_method_10_code 21 = .ok (.ifCond .ne 19, 3) := by decide +kernel
theorem d3tb_24 : decode prog_81_method_10_code 24 = .ok (.aload_n 0, 1) := by decide +kernel
theorem d3tb_25 : decode prog_81_method_10_code 25 = .ok (.getfield 13, 3) := by decide +kernel
theorem d3tb_28 : decode prog_81_method_10_code 28 = .ok (.aload_n 2, 1) := by decide +kernel
theorem d3tb_29 : decode prog_81_method_10_code 29 = .ok (.getfield 13, 3) := by decide +kernel
theorem d3tb_32 : decode prog_81_method_10_code 32 = .ok (.lcmp, 1) := by decide +kernel
theorem d3tb_33 : decode prog_81_method_10_code 33 = .ok (.ifCond .ne 7, 3) := by decide +kernel
theorem d3tb_36 : decode prog_81_method_10_code 36 = .ok (.iconst 1, 1) := by decide +kernel
theorem d3tb_37 : decode prog_81_method_10_code 37 = .ok (.goto 4, 3) := by decide +kernel
theorem d3tb_40 : decode prog_81_method_10_code 40 = .ok (.iconst 0, 1) := by decide +kernel
theorem d3tb_41 : decode prog_81_method_10_code 41 = .ok (.ireturn, 1) := by decide +kernel
theorem own_pn3tb : plainName "com/example/infinite_tail/infinitetail/stream/StreamId" = true := by first | (simp [plainName, overriddenIn]; done) | decide +kernel
theorem own_ef3tb (m : MethodId) (o : Addr) (x0 : Addr) : entryFrame m #[(.ref o), (.ref x0)] 3 = (mkF m 0 #[.val (.ref o), .val (.ref x0), .unset] []) := by first | (simp [entryFrame, mkF, argsToLocals, Value.category]; done) | rfl
def Q3tb (Z : State) (o : Addr) (x0 : Addr) (p0 : Int64) (p1 : Int64) (q0 : Int64) (q1 : Int64) (h0 : Heap) (n0 : Nat) (v : Option Value) (h : Heap) (L : List Loc) : Prop := (∃ z : Int32, v = some (.int z) ∧ ((z = 1 ∧ p0 = q0 ∧ p1 = q1) ∨ (z = 0 ∧ ¬ (p0 = q0 ∧ p1 = q1)))) ∧ Fr n0 L ∧ h = h0
set_option maxRecDepth 65536 in
set_option maxHeartbeats 40000000 in
theorem rm3tb (l : Launch) (Z : State) (a0 : Array Value) (hw : ∀ d ∈ tables_1, d.before a0 Z = true) (ws : List Jvm.Cond) (o : Addr) (x0 : Addr) (p0 : Int64) (p1 : Int64) (q0 : Int64) (q1 : Int64) (h0 : Heap) (n0 : Nat) (Z0 : n0 ≤ h0.size) (hF0 : Fld Z h0 o "com/example/infinite_tail/infinitetail/stream/StreamId" "milliseconds" "J" (.long p0)) (hF1 : Fld Z h0 o "com/example/infinite_tail/infinitetail/stream/StreamId" "sequence" "J" (.long p1)) (hG0 : Fld Z h0 x0 "com/example/infinite_tail/infinitetail/stream/StreamId" "milliseconds" "J" (.long q0)) (hG1 : Fld Z h0 x0 "com/example/infinite_tail/infinitetail/stream/StreamId" "sequence" "J" (.long q1)) (hE : Exa Z h0 x0 "com/example/infinite_tail/infinitetail/stream/StreamId") :
    MetFree l (⟨"com/example/infinite_tail/infinitetail/stream/StreamId", "equals", "(Ljava/lang/Object;)Z"⟩ : MethodName) (head1 (Jvm.Cond.code (⟨"com/example/infinite_tail/infinitetail/stream/StreamId", "equals", "(Ljava/lang/Object;)Z"⟩ : MethodName) prog_81_method_10_code 3 (some .boolean) :: ws) ({ frames := 0, cells := 0, slots := 0, locals := 0 } : Room)) (fun a U => a = #[(.ref o), (.ref x0)] ∧ Z.Warmed39 U.vm ∧ U.heap = h0) (fun _ _ _ _ _ => True) (fun _ U oc U' => ∃ v L, oc = .returned v ∧ Q3tb Z o x0 p0 p1 q0 q1 h0 n0 v U'.heap L ∧ FrameEnd U oc U' L ({ frames := 0, cells := 0, slots := 0, locals := 0 } : Room).cells ({ frames := 0, cells := 0, slots := 0, locals := 0 } : Room).slots) := by
  refine MetFree.of_bodySF (plainFor_of_name own_pn3tb) hisR ?_
  intro p e s m args below meth c s₁ Bd hml0 hP hK
  obtain ⟨rfl, hZ, hh⟩ := hP
  have hx := Bd.exec
  have hby := Bd.bytes
  have hlk : meth.locks = false := BodyLoose.notSynchronized Bd
  have hml : c.maxLocals = 3 := hml0
  have hown : s.vm.findClass "com/example/infinite_tail/infinitetail/stream/StreamId" = some m.cls := findClass_of_methodNamed Bd.named
  have hnm := (name_of_methodNamed Bd.named Bd.method).1
  have X0 : Stand p l e ({ frames := 0, cells := 0, slots := 0, locals := 0 } : Room) s m #[(.ref o), (.ref x0)] below meth c s₁ [] 0 0 := Stand.of_body Bd
  have e0 : s₁.heap = h0 := by rw [← hh, Bd.state]; rfl
  have N0 := Fr.nil n0
  refine own_enter (own_ef3tb m o x0) ?_
  show own_Go p e below s (Q3tb Z o x0 p0 p1 q0 q1 h0 n0) ({ frames := 0, cells := 0, slots := 0, locals := 0 } : Room).cells ({ frames := 0, cells := 0, slots := 0, locals := 0 } : Room).slots s₁ (mkF m 0 #[.val (.ref o), .val (.ref x0), .unset] [])
  refine own_st (T' := s₁) (F' := (mkF m 1 #[.val (.ref o), .val (.ref x0), .unset] [(.ref x0)])) (fun _ k => XS.aloadN X0.here hx rfl (hb hby d3tb_0) rfl rfl k) ?_
  obtain ⟨T1, X1, e1, st1⟩ := instY X0 hx hZ hown (hw _ (List.mem_of_getElem? (i := 18) rfl)) e0 (Ins.self hE) (g := (mkF m 1 #[.val (.ref o), .val (.ref x0), .unset] [(.ref x0)])) rfl rfl (hb hby d3tb_1)
  refine own_st (T' := T1) (F' := (mkF m 4 #[.val (.ref o), .val (.ref x0), .unset] [(.int (1 : Int32))])) (fun _ k => st1 _ k) ?_
  refine own_ifc X1 hx (pc' := 40) (pc2 := 7) (hb hby d3tb_4) (by decide) (by decide) rfl (fun (hc4 : (1 : Int32) = (0 : Int32)) => ?_) (fun (hc4 : ¬ ((1 : Int32) = (0 : Int32))) => ?_)
  · exact absurd hc4 (by decide)
  refine own_st (T' := T1) (F' := (mkF m 8 #[.val (.ref o), .val (.ref x0), .unset] [(.ref x0)])) (fun _ k => XS.aloadN X1.here hx rfl (hb hby d3tb_7) rfl rfl k) ?_
  obtain ⟨T2, X2, e2, st2⟩ := castY X1 hx hZ hown (hw _ (List.mem_of_getElem? (i := 18) rfl)) e1 (Ins.self hE) (g := (mkF m 8 #[.val (.ref o), .val (.ref x0), .unset] [(.ref x0)])) rfl rfl (hb hby d3tb_8)
  refine own_st (T' := T2) (F' := (mkF m 11 #[.val (.ref o), .val (.ref x0), .unset] [(.ref x0)])) (fun _ k => st2 _ k) ?_
  refine own_st (T' := T2) (F' := (mkF m 12 #[.val (.ref o), .val (.ref x0), .val (.ref x0)] [])) (fun _ k => XS.astoreN X2.here hx rfl (hb hby d3tb_11) rfl rfl (l' := #[.val (.ref o), .val (.ref x0), .val (.ref x0)]) rfl k) ?_
  refine own_st (T' := T2) (F' := (mkF m 13 #[.val (.ref o), .val (.ref x0), .val (.ref x0)] [(.ref o)])) (fun _ k => XS.aloadN X2.here hx rfl (hb hby d3tb_12) rfl rfl k) ?_
  obtain ⟨T3, X3, e3, st3⟩ := getF X2 hx hZ hown (host := "") (Or.inl (hw _ (List.mem_of_getElem? (i := 9) rfl))) Via.refl e2 hF0 (g := (mkF m 13 #[.val (.ref o), .val (.ref x0), .val (.ref x0)] [(.ref o)])) rfl rfl (hb hby d3tb_13)
  refine own_st (T' := T3) (F' := (mkF m 16 #[.val (.ref o), .val (.ref x0), .val (.ref x0)] [(.long p0)])) (fun _ k => st3 _ k) ?_
  refine own_st (T' := T3) (F' := (mkF m 17 #[.val (.ref o), .val (.ref x0), .val (.ref x0)] [(.ref x0), (.long p0)])) (fun _ k => XS.aloadN X3.here hx rfl (hb hby d3tb_16) rfl rfl k) ?_
  obtain ⟨T4, X4, e4, st4⟩ := getF X3 hx hZ hown (host := "") (Or.inl (hw _ (List.mem_of_getElem? (i := 9) rfl))) Via.refl e3 hG0 (g := (mkF m 17 #[.val (.ref o), .val (.ref x0), .val (.ref x0)] [(.ref x0), (.long p0)])) rfl rfl (hb hby d3tb_17)
  refine own_st (T' := T4) (F' := (mkF m 20 #[.val (.ref o), .val (.ref x0), .val (.ref x0)] [(.long q0), (.long p0)])) (fun _ k => st4 _ k) ?_
  refine own_st (T' := T4) (F' := (mkF m 21 #[.val (.ref o), .val (.ref x0), .val (.ref x0)] [(.int (lcmpW p0 q0))])) (fun _ k => XS.lcmp X4.here hx rfl (hb hby d3tb_20) rfl k) ?_
  have J41_5 : ∀ (j41_1 : Int32) (TJ5 : State) (LJ5 : List Loc) (XJ5 : Stand p l e ({ frames := 0, cells := 0, slots := 0, locals := 0 } : Room) s m #[(.ref o), (.ref x0)] below meth c TJ5 LJ5 0 0) (NJ5 : Fr n0 LJ5) (eJ5 : TJ5.heap = h0), (((¬ (p0 = q0)) ∧ j41_1 = (0 : Int32)) ∨ ((p0 = q0) ∧ (¬ (p1 = q1)) ∧ j41_1 = (0 : Int32)) ∨ ((p0 = q0) ∧ (p1 = q1) ∧ j41_1 = (1 : Int32))) → own_Go p e below s (Q3tb Z o x0 p0 p1 q0 q1 h0 n0) ({ frames := 0, cells := 0, slots := 0, locals := 0 } : Room).cells ({ frames := 0, cells := 0, slots := 0, locals := 0 } : Room).slots TJ5 (mkF m 41 #[.val (.ref o), .val (.ref x0), .val (.ref x0)] [(.int j41_1)]) := by
    intro j41_1 TJ5 LJ5 XJ5 NJ5 eJ5 hJ41_5
    refine own_retN XJ5 hx hlk (t := .boolean) Bd.returns (by simp) (hb hby d3tb_41) ?_ (by decide) (by decide)
    rw [eJ5]
    refine ⟨⟨_, rfl, ?_⟩, NJ5, rfl⟩
    rcases hJ41_5 with ⟨h1, rfl⟩ | ⟨h1, h2, rfl⟩ | ⟨h1, h2, rfl⟩ <;> simp_all [own_nar0, own_nar1]
  refine own_iflc X4 hx (pc' := 40) (pc2 := 24) (hb hby d3tb_21) (by decide) (by decide) rfl (fun (hc21 : ¬ (p0 = q0)) => ?_) (fun (hc21 : p0 = q0) => ?_)
  ·
    refine own_st (T' := T4) (F' := (mkF m 41 #[.val (.ref o), .val (.ref x0), .val (.ref x0)] [(.int (0 : Int32))])) (fun _ k => XS.iconst X4.here hx rfl (hb hby d3tb_40) k) ?_
    exact J41_5 (0 : Int32) T4 _ X4 N0 e4 (Or.inl (⟨hc21, rfl⟩))
  ·
    refine own_st (T' := T4) (F' := (mkF m 25 #[.val (.ref o), .val (.ref x0), .val (.ref x0)] [(.ref o)])) (fun _ k => XS.aloadN X4.here hx rfl (hb hby d3tb_24) rfl rfl k) ?_
    obtain ⟨T6, X6, e6, st6⟩ := getF X4 hx hZ hown (host := "") (Or.inl (hw _ (List.mem_of_getElem? (i := 11) rfl))) Via.refl e4 hF1 (g := (mkF m 25 #[.val (.ref o), .val (.ref x0), .val (.ref x0)] [(.ref o)])) rfl rfl (hb hby d3tb_25)
    refine own_st (T' := T6) (F' := (mkF m 28 #[.val (.ref o), .val (.ref x0), .val (.ref x0)] [(.long p1)])) (fun _ k => st6 _ k) ?_
    refine own_st (T' := T6) (F' := (mkF m 29 #[.val (.ref o), .val (.ref x0), .val (.ref x0)] [(.ref x0), (.long p1)])) (fun _ k => XS.aloadN X6.here hx rfl (hb hby d3tb_28) rfl rfl k) ?_
    obtain ⟨T7, X7, e7, st7⟩ := getF X6 hx hZ hown (host := "") (Or.inl (hw _ (List.mem_of_getElem? (i := 11) rfl))) Via.refl e6 hG1 (g := (mkF m 29 #[.val (.ref o), .val (.ref x0), .val (.ref x0)] [(.ref x0), (.long p1)])) rfl rfl (hb hby d3tb_29)
    refine own_st (T' := T7) (F' := (mkF m 32 #[.val (.ref o), .val (.ref x0), .val (.ref x0)] [(.long q1), (.long p1)])) (fun _ k => st7 _ k) ?_
    refine own_st (T' := T7) (F' := (mkF m 33 #[.val (.ref o), .val (.ref x0), .val (.ref x0)] [(.int (lcmpW p1 q1))])) (fun _ k => XS.lcmp X7.here hx rfl (hb hby d3tb_32) rfl k) ?_
    refine own_iflc X7 hx (pc' := 40) (pc2 := 36) (hb hby d3tb_33) (by decide) (by decide) rfl (fun (hc33 : ¬ (p1 = q1)) => ?_) (fun (hc33 : p1 = q1) => ?_)
    ·
      refine own_st (T' := T7) (F' := (mkF m 41 #[.val (.ref o), .val (.ref x0), .val (.ref x0)] [(.int (0 : Int32))])) (fun _ k => XS.iconst X7.here hx rfl (hb hby d3tb_40) k) ?_
      exact J41_5 (0 : Int32) T7 _ X7 N0 e7 (Or.inr (Or.inl (⟨hc21, hc33, rfl⟩)))
    ·
      refine own_st (T' := T7) (F' := (mkF m 37 #[.val (.ref o), .val (.ref x0), .val (.ref x0)] [(.int (1 : Int32))])) (fun _ k => XS.iconst X7.here hx rfl (hb hby d3tb_36) k) ?_
      refine own_st (T' := T7) (F' := (mkF m 41 #[.val (.ref o), .val (.ref x0), .val (.ref x0)] [(.int (1 : Int32))])) (fun _ k => XS.goto X7.here hx rfl (pc0 := 37) (pc' := 41) rfl (hb hby d3tb_37) (by decide) (by decide) k) ?_
      exact J41_5 (1 : Int32) T7 _ X7 N0 e7 (Or.inr (Or.inr (⟨hc21, hc33, rfl⟩)))
theorem d3tn_0 : decode prog_81_method_10_code 0 = .ok (.aload_n 1, 1) := by decide +kernel
theorem d3tn_1 : decode prog_81_method_10_code 1 = .ok (.instanceof 8, 3) := by decide +kernel
theorem d3tn_4 : decode prog_81_method_10_code 4 = .ok (.ifCond .eq 36, 3) := by decide +kernel
theorem d3tn_40 : decode prog_81_method_10_code 40 = .ok (.iconst 0, 1) := by decide +kernel
theorem d3tn_41 : decode prog_81_method_10_code 41 = .ok (.ireturn, 1) := by decide +kernel
theorem own_pn3tn : plainName "com/example/infinite_tail/infinitetail/stream/StreamId" = true := by first | (simp [plainName, overriddenIn]; done) | decide +kernel
theorem own_ef3tn (m : MethodId) (o : Addr) : entryFrame m #[(.ref o), .null] 3 = (mkF m 0 #[.val (.ref o), .val .null, .unset] []) := by first | (simp [entryFrame, mkF, argsToLocals, Value.category]; done) | rfl
def Q3tn (Z : State) (o : Addr)  (h0 : Heap) (n0 : Nat) (v : Option Value) (h : Heap) (L : List Loc) : Prop := (∃ z : Int32, v = some (.int z) ∧ (z = 0)) ∧ Fr n0 L ∧ h = h0
set_option maxRecDepth 65536 in
set_option maxHeartbeats 40000000 in
theorem rm3tn (l : Launch) (Z : State) (a0 : Array Value) (hw : ∀ d ∈ tables_1, d.before a0 Z = true) (ws : List Jvm.Cond) (o : Addr)  (h0 : Heap) (n0 : Nat) (Z0 : n0 ≤ h0.size)  :
    MetFree l (⟨"com/example/infinite_tail/infinitetail/stream/StreamId", "equals", "(Ljava/lang/Object;)Z"⟩ : MethodName) (head1 (Jvm.Cond.code (⟨"com/example/infinite_tail/infinitetail/stream/StreamId", "equals", "(Ljava/lang/Object;)Z"⟩ : MethodName) prog_81_method_10_code 3 (some .boolean) :: ws) ({ frames := 0, cells := 0, slots := 0, locals := 0 } : Room)) (fun a U => a = #[(.ref o), .null] ∧ Z.Warmed39 U.vm ∧ U.heap = h0) (fun _ _ _ _ _ => True) (fun _ U oc U' => ∃ v L, oc = .returned v ∧ Q3tn Z o  h0 n0 v U'.heap L ∧ FrameEnd U oc U' L ({ frames := 0, cells := 0, slots := 0, locals := 0 } : Room).cells ({ frames := 0, cells := 0, slots := 0, locals := 0 } : Room).slots) := by
  refine MetFree.of_bodySF (plainFor_of_name own_pn3tn) hisR ?_
  intro p e s m args below meth c s₁ Bd hml0 hP hK
  obtain ⟨rfl, hZ, hh⟩ := hP
  have hx := Bd.exec
  have hby := Bd.bytes
  have hlk : meth.locks = false := BodyLoose.notSynchronized Bd
  have hml : c.maxLocals = 3 := hml0
  have hown : s.vm.findClass "com/example/infinite_tail/infinitetail/stream/StreamId" = some m.cls := findClass_of_methodNamed Bd.named
  have hnm := (name_of_methodNamed Bd.named Bd.method).1
  have X0 : Stand p l e ({ frames := 0, cells := 0, slots := 0, locals := 0 } : Room) s m #[(.ref o), .null] below meth c s₁ [] 0 0 := Stand.of_body Bd
  have e0 : s₁.heap = h0 := by rw [← hh, Bd.state]; rfl
  have N0 := Fr.nil n0
  refine own_enter (own_ef3tn m o) ?_
  show own_Go p e below s (Q3tn Z o  h0 n0) ({ frames := 0, cells := 0, slots := 0, locals := 0 } : Room).cells ({ frames := 0, cells := 0, slots := 0, locals := 0 } : Room).slots s₁ (mkF m 0 #[.val (.ref o), .val .null, .unset] [])
  refine own_st (T' := s₁) (F' := (mkF m 1 #[.val (.ref o), .val .null, .unset] [.null])) (fun _ k => XS.aloadN X0.here hx rfl (hb hby d3tn_0) rfl rfl k) ?_
  refine own_st (T' := s₁) (F' := (mkF m 4 #[.val (.ref o), .val .null, .unset] [(.int (0 : Int32))])) (fun _ k => X0.instanceofNull hx (index := 8) (g := (mkF m 1 #[.val (.ref o), .val .null, .unset] [.null])) rfl (rest := []) rfl (hb hby d3tn_1) _ k) ?_
  refine own_ifc X0 hx (pc' := 40) (pc2 := 7) (hb hby d3tn_4) (by decide) (by decide) rfl (fun (hc4 : (0 : Int32) = (0 : Int32)) => ?_) (fun (hc4 : ¬ ((0 : Int32) = (0 : Int32))) => ?_)
  rotate_left
  · exact absurd hc4 (by decide)
  refine own_st (T' := s₁) (F' := (mkF m 41 #[.val (.ref o), .val .null, .unset] [(.int (0 : Int32))])) (fun _ k => XS.iconst X0.here hx rfl (hb hby d3tn_40) k) ?_
  refine own_retN X0 hx hlk (t := .boolean) Bd.returns (by simp) (hb hby d3tn_41) ?_ (by decide) (by decide)
  rw [e0]
  refine ⟨⟨_, rfl, ?_⟩, N0, rfl⟩
  rfl
theorem d3tl_0 : decode prog_81_method_10_code 0 = .ok (.aload_n 1, 1) := by decide +kernel
theorem d3tl_1 : decode prog_81_method_10_code 1 = .ok (.instanceof 8, 3) := by decide +kernel
theorem d3tl_4 : decode prog_81_method_10_code 4 = .ok (.ifCond .eq 36, 3) := by decide +kernel
theorem d3tl_40 : decode prog_81_method_10_code 40 = .ok (.iconst 0, 1) := by decide +kernel
theorem d3tl_41 : decode prog_81_method_10_code 41 = .ok (.ireturn, 1) := by decide +kernel
theorem own_pn3tl : plainName "com/example/infinite_tail/infinitetail/stream/StreamId" = true := by first | (simp [plainName, overriddenIn]; done) | decide +kernel
theorem own_ef3tl (m : MethodId) (o : Addr) (x0 : Addr) : entryFrame m #[(.ref o), (.ref x0)] 3 = (mkF m 0 #[.val (.ref o), .val (.ref x0), .unset] []) := by first | (simp [entryFrame, mkF, argsToLocals, Value.category]; done) | rfl
def Q3tl (Z : State) (o : Addr) (x0 : Addr)  (h0 : Heap) (n0 : Nat) (v : Option Value) (h : Heap) (L : List Loc) : Prop := (∃ z : Int32, v = some (.int z) ∧ (z = 0)) ∧ Fr n0 L ∧ h = h0
set_option maxRecDepth 65536 in
set_option maxHeartbeats 40000000 in
theorem rm3tl (l : Launch) (Z : State) (a0 : Array Value) (hw : ∀ d ∈ tables_1, d.before a0 Z = true) (ws : List Jvm.Cond) (o : Addr) (x0 : Addr)  (h0 : Heap) (n0 : Nat) (Z0 : n0 ≤ h0.size) (hE : Exa Z h0 x0 "java/lang/Long") (hNI : ∃ c t, Z.vm.findClass "java/lang/Long" = some c ∧ Z.vm.findClass "com/example/infinite_tail/infinitetail/stream/StreamId" = some t ∧ Z.vm.assignable c t = false) :
    MetFree l (⟨"com/example/infinite_tail/infinitetail/stream/StreamId", "equals", "(Ljava/lang/Object;)Z"⟩ : MethodName) (head1 (Jvm.Cond.code (⟨"com/example/infinite_tail/infinitetail/stream/StreamId", "equals", "(Ljava/lang/Object;)Z"⟩ : MethodName) prog_81_method_10_code 3 (some .boolean) :: ws) ({ frames := 0, cells := 0, slots := 0, locals := 0 } : Room)) (fun a U => a = #[(.ref o), (.ref x0)] ∧ Z.Warmed39 U.vm ∧ U.heap = h0) (fun _ _ _ _ _ => True) (fun _ U oc U' => ∃ v L, oc = .returned v ∧ Q3tl Z o x0  h0 n0 v U'.heap L ∧ FrameEnd U oc U' L ({ frames := 0, cells := 0, slots := 0, locals := 0 } : Room).cells ({ frames := 0, cells := 0, slots := 0, locals := 0 } : Room).slots) := by
  refine MetFree.of_bodySF (plainFor_of_name own_pn3tl) hisR ?_
  intro p e s m args below meth c s₁ Bd hml0 hP hK
  obtain ⟨rfl, hZ, hh⟩ := hP
  have hx := Bd.exec
  have hby := Bd.bytes
  have hlk : meth.locks = false := BodyLoose.notSynchronized Bd
  have hml : c.maxLocals = 3 := hml0
  have hown : s.vm.findClass "com/example/infinite_tail/infinitetail/stream/StreamId" = some m.cls := findClass_of_methodNamed Bd.named
  have hnm := (name_of_methodNamed Bd.named Bd.method).1
  have X0 : Stand p l e ({ frames := 0, cells := 0, slots := 0, locals := 0 } : Room) s m #[(.ref o), (.ref x0)] below meth c s₁ [] 0 0 := Stand.of_body Bd
  have e0 : s₁.heap = h0 := by rw [← hh, Bd.state]; rfl
  have N0 := Fr.nil n0
  refine own_enter (own_ef3tl m o x0) ?_
  show own_Go p e below s (Q3tl Z o x0  h0 n0) ({ frames := 0, cells := 0, slots := 0, locals := 0 } : Room).cells ({ frames := 0, cells := 0, slots := 0, locals := 0 } : Room).slots s₁ (mkF m 0 #[.val (.ref o), .val (.ref x0), .unset] [])
  refine own_st (T' := s₁) (F' := (mkF m 1 #[.val (.ref o), .val (.ref x0), .unset] [(.ref x0)])) (fun _ k => XS.aloadN X0.here hx rfl (hb hby d3tl_0) rfl rfl k) ?_
  obtain ⟨T1, X1, e1, st1⟩ := instNo X0 hx hZ hown (hw _ (List.mem_of_getElem? (i := 18) rfl)) e0 hE hNI (g := (mkF m 1 #[.val (.ref o), .val (.ref x0), .unset] [(.ref x0)])) rfl rfl (hb hby d3tl_1)
  refine own_st (T' := T1) (F' := (mkF m 4 #[.val (.ref o), .val (.ref x0), .unset] [(.int (0 : Int32))])) (fun _ k => st1 _ k) ?_
  refine own_ifc X1 hx (pc' := 40) (pc2 := 7) (hb hby d3tl_4) (by decide) (by decide) rfl (fun (hc4 : (0 : Int32) = (0 : Int32)) => ?_) (fun (hc4 : ¬ ((0 : Int32) = (0 : Int32))) => ?_)
  rotate_left
  · exact absurd hc4 (by decide)
  refine own_st (T' := T1) (F' := (mkF m 41 #[.val (.ref o), .val (.ref x0), .unset] [(.int (0 : Int32))])) (fun _ k => XS.iconst X1.here hx rfl (hb hby d3tl_40) k) ?_
  refine own_retN X1 hx hlk (t := .boolean) Bd.returns (by simp) (hb hby d3tl_41) ?_ (by decide) (by decide)
  rw [e1]
  refine ⟨⟨_, rfl, ?_⟩, N0, rfl⟩
  rfl
theorem d6_0 : decode jdk_18_method_1_code 0 = .ok (.aload_n 0, 1) := by decide +kernel
theorem d6_1 : decode jdk_18_method_1_code 1 = .ok (.invokespecial 1, 3) := by decide +kernel
theorem d6_4 : decode jdk_18_method_1_code 4 = .ok (.return_, 1) := by decide +kernel
theorem own_pn6 : plainName "java/lang/Number" = true := by first | (simp [plainName, overriddenIn]; done) | decide +kernel
theorem own_ef6 (m : MethodId) (o : Addr) : entryFrame m #[(.ref o)] 1 = (mkF m 0 #[.val (.ref o)] []) := by first | (simp [entryFrame, mkF, argsToLocals, Value.category]; done) | rfl
def Q6 (Z : State) (o : Addr)  (h0 : Heap) (n0 : Nat) (v : Option Value) (h : Heap) (L : List Loc) : Prop := v = none ∧ Fr n0 L ∧ h = h0
set_option maxRecDepth 65536 in
set_option maxHeartbeats 40000000 in
theorem rm6 (l : Launch) (Z : State) (a0 : Array Value) (hw : ∀ d ∈ tables_1, d.before a0 Z = true) (ws : List Jvm.Cond) (o : Addr)  (h0 : Heap) (n0 : Nat) (Z0 : n0 ≤ h0.size)  :
    MetFree l (⟨"java/lang/Number", "<init>", "()V"⟩ : MethodName) (head1 (Jvm.Cond.code (⟨"java/lang/Number", "<init>", "()V"⟩ : MethodName) jdk_18_method_1_code 1 none :: ws) ({ frames := 1, cells := 0, slots := 0, locals := 12 } : Room)) (fun a U => a = #[(.ref o)] ∧ Z.Warmed39 U.vm ∧ U.heap = h0) (fun _ _ _ _ _ => True) (fun _ U oc U' => ∃ v L, oc = .returned v ∧ Q6 Z o  h0 n0 v U'.heap L ∧ FrameEnd U oc U' L ({ frames := 1, cells := 0, slots := 0, locals := 12 } : Room).cells ({ frames := 1, cells := 0, slots := 0, locals := 12 } : Room).slots) := by
  refine MetFree.of_bodySF (plainFor_of_name own_pn6) hisR ?_
  intro p e s m args below meth c s₁ Bd hml0 hP hK
  obtain ⟨rfl, hZ, hh⟩ := hP
  have hx := Bd.exec
  have hby := Bd.bytes
  have hlk : meth.locks = false := BodyLoose.notSynchronized Bd
  have hml : c.maxLocals = 1 := hml0
  have hown : s.vm.findClass "java/lang/Number" = some m.cls := findClass_of_methodNamed Bd.named
  have hnm := (name_of_methodNamed Bd.named Bd.method).1
  have X0 : Stand p l e ({ frames := 1, cells := 0, slots := 0, locals := 12 } : Room) s m #[(.ref o)] below meth c s₁ [] 0 0 := Stand.of_body Bd
  have e0 : s₁.heap = h0 := by rw [← hh, Bd.state]; rfl
  have N0 := Fr.nil n0
  refine own_enter (own_ef6 m o) ?_
  show own_Go p e below s (Q6 Z o  h0 n0) ({ frames := 1, cells := 0, slots := 0, locals := 12 } : Room).cells ({ frames := 1, cells := 0, slots := 0, locals := 12 } : Room).slots s₁ (mkF m 0 #[.val (.ref o)] [])
  refine own_st (T' := s₁) (F' := (mkF m 1 #[.val (.ref o)] [(.ref o)])) (fun _ k => XS.aloadN X0.here hx rfl (hb hby d6_0) rfl rfl k) ?_
  obtain ⟨T1, X1, e1, st1⟩ := initO X0 hx hZ hown (hw _ (List.mem_of_getElem? (i := 38) rfl)) (hw _ (List.mem_of_getElem? (i := 7) rfl)) (hw _ (List.mem_of_getElem? (i := 8) rfl)) e0 (g := (mkF m 1 #[.val (.ref o)] [(.ref o)])) rfl (by rw [hml]; rfl) rfl (hb hby d6_1) (by decide) (W := 0) (by show 2 * 0 + _ ≤ _; exact Nat.le_of_eq rfl) (by decide)
  refine own_st (T' := T1) (F' := (mkF m 4 #[.val (.ref o)] [])) (fun _ k => st1 _ k) ?_
  refine own_retV X1 hx hlk Bd.returns (hb hby d6_4) ?_ (by decide) (by decide)
  rw [e1]
  refine ⟨rfl, N0, rfl⟩
theorem own_pd0 : parseMethodDescriptor "()V" = some ⟨[], none⟩ := by decide +kernel
theorem d5_0 : decode jdk_35_method_26_code 0 = .ok (.aload_n 0, 1) := by decide +kernel
theorem d5_1 : decode jdk_35_method_26_code 1 = .ok (.invokespecial 270, 3) := by decide +kernel
theorem d5_4 : decode jdk_35_method_26_code 4 = .ok (.aload_n 0, 1) := by decide +kernel
theorem d5_5 : decode jdk_35_method_26_code 5 = .ok (.lload_n 1, 1) := by decide +kernel
theorem d5_6 : decode jdk_35_method_26_code 6 = .ok (.putfield 273, 3) := by decide +kernel
theorem d5_9 : decode jdk_35_method_26_code 9 = .ok (.return_, 1) := by decide +kernel
theorem own_pn5 : plainName "java/lang/Long" = true := by first | (simp [plainName, overriddenIn]; done) | decide +kernel
theorem own_ef5 (m : MethodId) (o : Addr) (x0 : Int64) : entryFrame m #[(.ref o), (.long x0)] 3 = (mkF m 0 #[.val (.ref o), .val (.long x0), .second] []) := by first | (simp [entryFrame, mkF, argsToLocals, Value.category]; done) | rfl
def Q5 (Z : State) (o : Addr) (x0 : Int64) (u0 : Value) (h0 : Heap) (n0 : Nat) (v : Option Value) (h : Heap) (L : List Loc) : Prop := v = none ∧ Fr n0 L ∧ Keep h0 h [o] ∧ Exa Z h o "java/lang/Long"
set_option maxRecDepth 65536 in
set_option maxHeartbeats 40000000 in
theorem rm5 (l : Launch) (Z : State) (a0 : Array Value) (hw : ∀ d ∈ tables_1, d.before a0 Z = true) (ws : List Jvm.Cond) (o : Addr) (x0 : Int64) (u0 : Value) (h0 : Heap) (n0 : Nat) (Z0 : n0 ≤ h0.size) (hge : n0 ≤ o) (hE : Exa Z h0 o "java/lang/Long") (hF : Fld Z h0 o "java/lang/Long" "value" "J" u0) :
    MetFree l (⟨"java/lang/Long", "<init>", "(J)V"⟩ : MethodName) (head1 (Jvm.Cond.code (⟨"java/lang/Long", "<init>", "(J)V"⟩ : MethodName) jdk_35_method_26_code 3 none :: ws) ({ frames := 2, cells := 0, slots := 0, locals := 24 } : Room)) (fun a U => a = #[(.ref o), (.long x0)] ∧ Z.Warmed39 U.vm ∧ U.heap = h0) (fun _ _ _ _ _ => True) (fun _ U oc U' => ∃ v L, oc = .returned v ∧ Q5 Z o x0 u0 h0 n0 v U'.heap L ∧ FrameEnd U oc U' L ({ frames := 2, cells := 0, slots := 0, locals := 24 } : Room).cells ({ frames := 2, cells := 0, slots := 0, locals := 24 } : Room).slots) := by
  refine MetFree.of_bodySF (plainFor_of_name own_pn5) hisR ?_
  intro p e s m args below meth c s₁ Bd hml0 hP hK
  obtain ⟨rfl, hZ, hh⟩ := hP
  have hx := Bd.exec
  have hby := Bd.bytes
  have hlk : meth.locks = false := BodyLoose.notSynchronized Bd
  have hml : c.maxLocals = 3 := hml0
  have hown : s.vm.findClass "java/lang/Long" = some m.cls := findClass_of_methodNamed Bd.named
  have hnm := (name_of_methodNamed Bd.named Bd.method).1
  have X0 : Stand p l e ({ frames := 2, cells := 0, slots := 0, locals := 24 } : Room) s m #[(.ref o), (.long x0)] below meth c s₁ [] 0 0 := Stand.of_body Bd
  have e0 : s₁.heap = h0 := by rw [← hh, Bd.state]; rfl
  have N0 := Fr.nil n0
  refine own_enter (own_ef5 m o x0) ?_
  show own_Go p e below s (Q5 Z o x0 u0 h0 n0) ({ frames := 2, cells := 0, slots := 0, locals := 24 } : Room).cells ({ frames := 2, cells := 0, slots := 0, locals := 24 } : Room).slots s₁ (mkF m 0 #[.val (.ref o), .val (.long x0), .second] [])
  refine own_st (T' := s₁) (F' := (mkF m 1 #[.val (.ref o), .val (.long x0), .second] [(.ref o)])) (fun _ k => XS.aloadN X0.here hx rfl (hb hby d5_0) rfl rfl k) ?_
  obtain ⟨_, _, ⟨T1, L1, k1, n1⟩, -, X1, ⟨Lc1, hQ1, l1, y1, z1⟩, st1⟩ := X0.specialBack hx (y := (⟨"java/lang/Number", "<init>", "()V"⟩ : MethodName)) rfl hown (mvT hZ (hw _ (List.mem_of_getElem? (i := 32) rfl))) (mvT hZ (hw _ (List.mem_of_getElem? (i := 33) rfl))) (mvT hZ (hw _ (List.mem_of_getElem? (i := 37) rfl))) (by decide) (backOf (W := 0) (rm6 l Z a0 hw [] o  h0 n0 Z0 ) hZ (hw _ (List.mem_of_getElem? (i := 37) rfl)) (hw _ (List.mem_of_getElem? (i := 36) rfl)) (by decide) (by decide)) (g := (mkF m 1 #[.val (.ref o), .val (.long x0), .second] [(.ref o)])) rfl (by rw [hml]; rfl) (Steps.refl _) (a := o) (argsL := []) (rest := []) (lenOf own_pd0 rfl) rfl (by show 2 * 0 + _ ≤ _; exact Nat.le_of_eq rfl) (hb hby d5_1) (fun _ _ => ⟨rfl, e0, (by decide : 0 + 0 ≤ _), (by decide : 0 + 0 ≤ _)⟩)
  dsimp only [Pt.U, Pt.locs, Pt.cells, Pt.slots] at X1 l1 y1 z1 st1 hQ1
  subst l1 y1 z1
  obtain ⟨rfl, Nq1, eq1⟩ := hQ1
  have N1 := Fr.app N0 Nq1
  refine own_tr (T' := T1) (F' := (mkF m 4 #[.val (.ref o), .val (.long x0), .second] [])) st1 ?_
  refine own_st (T' := T1) (F' := (mkF m 5 #[.val (.ref o), .val (.long x0), .second] [(.ref o)])) (fun _ k => XS.aloadN X1.here hx rfl (hb hby d5_4) rfl rfl k) ?_
  refine own_st (T' := T1) (F' := (mkF m 6 #[.val (.ref o), .val (.long x0), .second] [(.long x0), (.ref o)])) (fun _ k => XS.lloadN X1.here hx rfl (hb hby d5_5) rfl  k) ?_
  obtain ⟨T2, h2, X2, e2, W2, st2⟩ := putF X1 hx hZ hown (host := "") (Or.inl (hw _ (List.mem_of_getElem? (i := 39) rfl))) Via.refl eq1 hF hE (Or.inr ⟨(hw _ (List.mem_of_getElem? (i := 40) rfl)), rfl, hnm⟩) (hw _ (List.mem_of_getElem? (i := 27) rfl)) (ty := .long) (by decide) rfl rfl (g := (mkF m 6 #[.val (.ref o), .val (.long x0), .second] [(.long x0), (.ref o)])) rfl rfl (hb hby d5_6)
  have N2 := Fr.snoc X2 N1 hge
  have f3 : Exa Z h2 o "java/lang/Long" := hE.wr W2
  have f4 : Fld Z h2 o "java/lang/Long" "value" "J" (.long x0) := hF.same W2
  have K2 : Keep h0 h2 [o] := (Keep.refl h0 [o]).wr W2 (Or.inl (List.mem_of_getElem? (i := 0) rfl))
  have Zs2 : n0 ≤ h2.size := Nat.le_trans Z0 K2.1
  refine own_st (T' := T2) (F' := (mkF m 9 #[.val (.ref o), .val (.long x0), .second] [])) (fun _ k => st2 _ k) ?_
  refine own_retV X2 hx hlk Bd.returns (hb hby d5_9) ?_ (by decide) (by decide)
  rw [e2]
  refine ⟨rfl, N2, K2, f3⟩
theorem own_pd1 : parseMethodDescriptor "(J)V" = some ⟨[.long], none⟩ := by decide +kernel
theorem d4_0 : decode jdk_35_method_24_code 0 = .ok (.sipush 128, 3) := by decide +kernel
theorem d4_3 : decode jdk_35_method_24_code 3 = .ok (.istore_n 2, 1) := by decide +kernel
theorem d4_4 : decode jdk_35_method_24_code 4 = .ok (.lload_n 0, 1) := by decide +kernel
theorem d4_5 : decode jdk_35_method_24_code 5 = .ok (.ldc2_w 230, 3) := by decide +kernel
theorem d4_8 : decode jdk_35_method_24_code 8 = .ok (.lcmp, 1) := by decide +kernel
theorem d4_9 : decode jdk_35_method_24_code 9 = .ok (.ifCond .lt 22, 3) := by decide +kernel
theorem d4_12 : decode jdk_35_method_24_code 12 = .ok (.lload_n 0, 1) := by decide +kernel
theorem d4_13 : decode jdk_35_method_24_code 13 = .ok (.ldc2_w 232, 3) := by decide +kernel
theorem d4_16 : decode jdk_35_method_24_code 16 = .ok (.lcmp, 1) := by decide +kernel
theorem d4_17 : decode jdk_35_method_24_code 17 = .ok (.ifCond .gt 14, 3) := by decide +kernel
theorem d4_20 : decode jdk_35_method_24_code 20 = .ok (.getstatic 234, 3) := by decide +kernel
theorem d4_23 : decode jdk_35_method_24_code 23 = .ok (.lload_n 0, 1) := by decide +kernel
theorem d4_24 : decode jdk_35_method_24_code 24 = .ok (.l2i, 1) := by decide +kernel
theorem d4_25 : decode jdk_35_method_24_code 25 = .ok (.sipush 128, 3) := by decide +kernel
theorem d4_28 : decode jdk_35_method_24_code 28 = .ok (.iadd, 1) := by decide +kernel
theorem d4_29 : decode jdk_35_method_24_code 29 = .ok (.aaload, 1) := by decide +kernel
theorem d4_30 : decode jdk_35_method_24_code 30 = .ok (.areturn, 1) := by decide +kernel
theorem d4_31 : decode jdk_35_method_24_code 31 = .ok (.new 1, 3) := by decide +kernel
theorem d4_34 : decode jdk_35_method_24_code 34 = .ok (.dup, 1) := by decide +kernel
theorem d4_35 : decode jdk_35_method_24_code 35 = .ok (.lload_n 0, 1) := by decide +kernel
theorem d4_36 : decode jdk_35_method_24_code 36 = .ok (.invokespecial 240, 3) := by decide +kernel
theorem d4_39 : decode jdk_35_method_24_code 39 = .ok (.areturn, 1) := by decide +kernel
theorem own_pn4 : plainName "java/lang/Long" = true := by first | (simp [plainName, overriddenIn]; done) | decide +kernel
theorem own_ef4 (m : MethodId) (x0 : Int64) : entryFrame m #[(.long x0)] 3 = (mkF m 0 #[.val (.long x0), .second, .unset] []) := by first | (simp [entryFrame, mkF, argsToLocals, Value.category]; done) | rfl
def Q4 (Z : State) (x0 : Int64) (aL : Addr) (kc : ClassId) (vs : List Value) (h0 : Heap) (n0 : Nat) (v : Option Value) (h : Heap) (L : List Loc) : Prop := (∃ z : Addr, v = some (.ref z) ∧ (Exa Z h z "java/lang/Long")) ∧ Fr n0 L ∧ Keep h0 h []
set_option maxRecDepth 65536 in
set_option maxHeartbeats 40000000 in
theorem rm4 (l : Launch) (Z : State) (a0 : Array Value) (hw : ∀ d ∈ tables_1, d.before a0 Z = true) (ws : List Jvm.Cond) (x0 : Int64) (aL : Addr) (kc : ClassId) (vs : List Value) (h0 : Heap) (n0 : Nat) (Z0 : n0 ≤ h0.size) (S_c : Sta Z h0 "java/lang/Long$LongCache" "cache" "[Ljava/lang/Long;" (.ref aL)) (V_c : Arv Z h0 aL kc (.object "java/lang/Long") (256 : Int32) vs .null) (hall : ∀ i, i < 256 → ∃ b, vs.getD i .null = .ref b ∧ Exa Z h0 b "java/lang/Long") :
    MetFree l (⟨"java/lang/Long", "valueOf", "(J)Ljava/lang/Long;"⟩ : MethodName) (head1 (Jvm.Cond.code (⟨"java/lang/Long", "valueOf", "(J)Ljava/lang/Long;"⟩ : MethodName) jdk_35_method_24_code 3 (some (.object "java/lang/Long")) :: ws) ({ frames := 3, cells := 1, slots := 1, locals := 39 } : Room)) (fun a U => a = #[(.long x0)] ∧ Z.Warmed39 U.vm ∧ U.heap = h0) (fun _ _ _ _ _ => True) (fun _ U oc U' => ∃ v L, oc = .returned v ∧ Q4 Z x0 aL kc vs h0 n0 v U'.heap L ∧ FrameEnd U oc U' L ({ frames := 3, cells := 1, slots := 1, locals := 39 } : Room).cells ({ frames := 3, cells := 1, slots := 1, locals := 39 } : Room).slots) := by
  refine MetFree.of_bodySF (plainFor_of_name own_pn4) hisR ?_
  intro p e s m args below meth c s₁ Bd hml0 hP hK
  obtain ⟨rfl, hZ, hh⟩ := hP
  have hx := Bd.exec
  have hby := Bd.bytes
  have hlk : meth.locks = false := BodyLoose.notSynchronized Bd
  have hml : c.maxLocals = 3 := hml0
  have hown : s.vm.findClass "java/lang/Long" = some m.cls := findClass_of_methodNamed Bd.named
  have hnm := (name_of_methodNamed Bd.named Bd.method).1
  have X0 : Stand p l e ({ frames := 3, cells := 1, slots := 1, locals := 39 } : Room) s m #[(.long x0)] below meth c s₁ [] 0 0 := Stand.of_body Bd
  have e0 : s₁.heap = h0 := by rw [← hh, Bd.state]; rfl
  have N0 := Fr.nil n0
  refine own_enter (own_ef4 m x0) ?_
  show own_Go p e below s (Q4 Z x0 aL kc vs h0 n0) ({ frames := 3, cells := 1, slots := 1, locals := 39 } : Room).cells ({ frames := 3, cells := 1, slots := 1, locals := 39 } : Room).slots s₁ (mkF m 0 #[.val (.long x0), .second, .unset] [])
  refine own_st (T' := s₁) (F' := (mkF m 3 #[.val (.long x0), .second, .unset] [(.int (128 : Int32))])) (fun _ k => XS.sipush X0.here hx rfl (hb hby d4_0) k) ?_
  refine own_st (T' := s₁) (F' := (mkF m 4 #[.val (.long x0), .second, .val (.int (128 : Int32))] [])) (fun _ k => XS.istoreN X0.here hx rfl (hb hby d4_3) rfl (l' := #[.val (.long x0), .second, .val (.int (128 : Int32))]) rfl k) ?_
  refine own_st (T' := s₁) (F' := (mkF m 5 #[.val (.long x0), .second, .val (.int (128 : Int32))] [(.long x0)])) (fun _ k => XS.lloadN X0.here hx rfl (hb hby d4_4) rfl  k) ?_
  refine own_st (T' := s₁) (F' := (mkF m 8 #[.val (.long x0), .second, .val (.int (128 : Int32))] [(.long (-128 : Int64)), (.long x0)])) (fun _ k => X0.ldc2Long hx hown (mvT hZ (hw _ (List.mem_of_getElem? (i := 24) rfl))) (g := (mkF m 5 #[.val (.long x0), .second, .val (.int (128 : Int32))] [(.long x0)])) rfl (hb hby d4_5) _ k) ?_
  refine own_st (T' := s₁) (F' := (mkF m 9 #[.val (.long x0), .second, .val (.int (128 : Int32))] [(.int (lcmpW x0 (-128 : Int64)))])) (fun _ k => XS.lcmp X0.here hx rfl (hb hby d4_8) rfl k) ?_
  refine own_iflc X0 hx (pc' := 31) (pc2 := 12) (hb hby d4_9) (by decide) (by decide) rfl (fun (hc9 : x0 < (-128 : Int64)) => ?_) (fun (hc9 : ¬ (x0 < (-128 : Int64))) => ?_)
  ·
    obtain ⟨T1, h1, X1, e1, E1, A1, D1, -, st1⟩ := newO X0 hx hZ hown (hw _ (List.mem_of_getElem? (i := 26) rfl)) (hw _ (List.mem_of_getElem? (i := 27) rfl)) (hw _ (List.mem_of_getElem? (i := 22) rfl)) e0 (g := (mkF m 31 #[.val (.long x0), .second, .val (.int (128 : Int32))] [])) rfl (hb hby d4_31) (by decide) (by decide)
    obtain ⟨b1, g1⟩ : ∃ z, z = h0.size := ⟨_, rfl⟩
    rw [← g1] at A1 D1 st1
    have ge1 : n0 ≤ b1 := by rw [g1]; exact Z0
    have hge1 : h0.size ≤ b1 := by rw [g1]; exact (Keep.refl h0 []).1
    have ne1_1 : aL ≠ b1 := by rw [g1]; exact Nat.ne_of_lt V_c.lt
    have f2 : Sta Z h1 "java/lang/Long$LongCache" "cache" "[Ljava/lang/Long;" (.ref aL) := S_c.ext E1
    have f3 : Arv Z h1 aL kc (.object "java/lang/Long") (256 : Int32) vs .null := V_c.ext E1
    have K1 : Keep h0 h1 [] := (Keep.refl h0 []).ext E1
    have Zs1 : n0 ≤ h1.size := Nat.le_trans Z0 K1.1
    have f4 : Fld Z h1 b1 "java/lang/Long" "value" "J" (.long (0 : Int64)) := D1 (Or.inr (hw _ (List.mem_of_getElem? (i := 40) rfl))) (ty := .long) (by decide)
    refine own_st (T' := T1) (F' := (mkF m 34 #[.val (.long x0), .second, .val (.int (128 : Int32))] [(.ref b1)])) (fun _ k => st1 _ k) ?_
    refine own_st (T' := T1) (F' := (mkF m 35 #[.val (.long x0), .second, .val (.int (128 : Int32))] [(.ref b1), (.ref b1)])) (fun _ k => XS.dup X1.here hx rfl (hb hby d4_34) rfl rfl k) ?_
    refine own_st (T' := T1) (F' := (mkF m 36 #[.val (.long x0), .second, .val (.int (128 : Int32))] [(.long x0), (.ref b1), (.ref b1)])) (fun _ k => XS.lloadN X1.here hx rfl (hb hby d4_35) rfl  k) ?_
    obtain ⟨_, _, ⟨T5, L5, k5, n5⟩, -, X5, ⟨Lc5, hQ5, l5, y5, z5⟩, st5⟩ := X1.specialBack hx (y := (⟨"java/lang/Long", "<init>", "(J)V"⟩ : MethodName)) rfl hown (mvT hZ (hw _ (List.mem_of_getElem? (i := 28) rfl))) (mvT hZ (hw _ (List.mem_of_getElem? (i := 29) rfl))) (mvT hZ (hw _ (List.mem_of_getElem? (i := 31) rfl))) (by decide) (backOf (W := 1) (rm5 l Z a0 hw [] b1 x0 (.long (0 : Int64)) h1 n0 Zs1 ge1 A1 f4) hZ (hw _ (List.mem_of_getElem? (i := 31) rfl)) (hw _ (List.mem_of_getElem? (i := 22) rfl)) (by decide) (by decide)) (g := (mkF m 36 #[.val (.long x0), .second, .val (.int (128 : Int32))] [(.long x0), (.ref b1), (.ref b1)])) rfl (by rw [hml]; rfl) (Steps.refl _) (a := b1) (argsL := [(.long x0)]) (rest := [(.ref b1)]) (lenOf own_pd1 rfl) rfl (by show 2 * 0 + _ ≤ _; exact Nat.le_of_eq rfl) (hb hby d4_36) (fun _ _ => ⟨rfl, e1, (by decide : 1 + 0 ≤ _), (by decide : 1 + 0 ≤ _)⟩)
    dsimp only [Pt.U, Pt.locs, Pt.cells, Pt.slots] at X5 l5 y5 z5 st5 hQ5
    subst l5 y5 z5
    obtain ⟨rfl, Nq5, g5_0, g5_1⟩ := hQ5
    have N5 := Fr.app N0 Nq5
    have f6 : Sta Z T5.heap "java/lang/Long$LongCache" "cache" "[Ljava/lang/Long;" (.ref aL) := own_stk f2 g5_0 (allS (own_npE A1) all0)
    have f7 : Arv Z T5.heap aL kc (.object "java/lang/Long") (256 : Int32) vs .null := f3.keep g5_0 (ninS ne1_1 nin0)
    have K5 : Keep h0 T5.heap [] := K1.trans g5_0 (allS (Or.inr hge1) all0)
    have Zs5 : n0 ≤ T5.heap.size := Nat.le_trans Z0 K5.1
    refine own_tr (T' := T5) (F' := (mkF m 39 #[.val (.long x0), .second, .val (.int (128 : Int32))] [(.ref b1)])) st5 ?_
    refine own_retA X5 hx hlk (t := (.object "java/lang/Long")) Bd.returns rfl rfl rfl (hb hby d4_39) ?_ (by decide) (by decide)
    show Q4 Z x0 aL kc vs h0 n0 _ T5.heap _
    refine ⟨⟨_, rfl, ?_⟩, N5, K5⟩
    exact g5_1
  ·
    refine own_st (T' := s₁) (F' := (mkF m 13 #[.val (.long x0), .second, .val (.int (128 : Int32))] [(.long x0)])) (fun _ k => XS.lloadN X0.here hx rfl (hb hby d4_12) rfl  k) ?_
    refine own_st (T' := s₁) (F' := (mkF m 16 #[.val (.long x0), .second, .val (.int (128 : Int32))] [(.long (127 : Int64)), (.long x0)])) (fun _ k => X0.ldc2Long hx hown (mvT hZ (hw _ (List.mem_of_getElem? (i := 25) rfl))) (g := (mkF m 13 #[.val (.long x0), .second, .val (.int (128 : Int32))] [(.long x0)])) rfl (hb hby d4_13) _ k) ?_
    refine own_st (T' := s₁) (F' := (mkF m 17 #[.val (.long x0), .second, .val (.int (128 : Int32))] [(.int (lcmpW x0 (127 : Int64)))])) (fun _ k => XS.lcmp X0.here hx rfl (hb hby d4_16) rfl k) ?_
    refine own_iflc X0 hx (pc' := 31) (pc2 := 20) (hb hby d4_17) (by decide) (by decide) rfl (fun (hc17 : (127 : Int64) < x0) => ?_) (fun (hc17 : ¬ ((127 : Int64) < x0)) => ?_)
    ·
      obtain ⟨T8, h8, X8, e8, E8, A8, D8, -, st8⟩ := newO X0 hx hZ hown (hw _ (List.mem_of_getElem? (i := 26) rfl)) (hw _ (List.mem_of_getElem? (i := 27) rfl)) (hw _ (List.mem_of_getElem? (i := 22) rfl)) e0 (g := (mkF m 31 #[.val (.long x0), .second, .val (.int (128 : Int32))] [])) rfl (hb hby d4_31) (by decide) (by decide)
      obtain ⟨b8, g8⟩ : ∃ z, z = h0.size := ⟨_, rfl⟩
      rw [← g8] at A8 D8 st8
      have ge8 : n0 ≤ b8 := by rw [g8]; exact Z0
      have hge8 : h0.size ≤ b8 := by rw [g8]; exact (Keep.refl h0 []).1
      have ne8_1 : aL ≠ b8 := by rw [g8]; exact Nat.ne_of_lt V_c.lt
      have f9 : Sta Z h8 "java/lang/Long$LongCache" "cache" "[Ljava/lang/Long;" (.ref aL) := S_c.ext E8
      have f10 : Arv Z h8 aL kc (.object "java/lang/Long") (256 : Int32) vs .null := V_c.ext E8
      have K8 : Keep h0 h8 [] := (Keep.refl h0 []).ext E8
      have Zs8 : n0 ≤ h8.size := Nat.le_trans Z0 K8.1
      have f11 : Fld Z h8 b8 "java/lang/Long" "value" "J" (.long (0 : Int64)) := D8 (Or.inr (hw _ (List.mem_of_getElem? (i := 40) rfl))) (ty := .long) (by decide)
      refine own_st (T' := T8) (F' := (mkF m 34 #[.val (.long x0), .second, .val (.int (128 : Int32))] [(.ref b8)])) (fun _ k => st8 _ k) ?_
      refine own_st (T' := T8) (F' := (mkF m 35 #[.val (.long x0), .second, .val (.int (128 : Int32))] [(.ref b8), (.ref b8)])) (fun _ k => XS.dup X8.here hx rfl (hb hby d4_34) rfl rfl k) ?_
      refine own_st (T' := T8) (F' := (mkF m 36 #[.val (.long x0), .second, .val (.int (128 : Int32))] [(.long x0), (.ref b8), (.ref b8)])) (fun _ k => XS.lloadN X8.here hx rfl (hb hby d4_35) rfl  k) ?_
      obtain ⟨_, _, ⟨T12, L12, k12, n12⟩, -, X12, ⟨Lc12, hQ12, l12, y12, z12⟩, st12⟩ := X8.specialBack hx (y := (⟨"java/lang/Long", "<init>", "(J)V"⟩ : MethodName)) rfl hown (mvT hZ (hw _ (List.mem_of_getElem? (i := 28) rfl))) (mvT hZ (hw _ (List.mem_of_getElem? (i := 29) rfl))) (mvT hZ (hw _ (List.mem_of_getElem? (i := 31) rfl))) (by decide) (backOf (W := 1) (rm5 l Z a0 hw [] b8 x0 (.long (0 : Int64)) h8 n0 Zs8 ge8 A8 f11) hZ (hw _ (List.mem_of_getElem? (i := 31) rfl)) (hw _ (List.mem_of_getElem? (i := 22) rfl)) (by decide) (by decide)) (g := (mkF m 36 #[.val (.long x0), .second, .val (.int (128 : Int32))] [(.long x0), (.ref b8), (.ref b8)])) rfl (by rw [hml]; rfl) (Steps.refl _) (a := b8) (argsL := [(.long x0)]) (rest := [(.ref b8)]) (lenOf own_pd1 rfl) rfl (by show 2 * 0 + _ ≤ _; exact Nat.le_of_eq rfl) (hb hby d4_36) (fun _ _ => ⟨rfl, e8, (by decide : 1 + 0 ≤ _), (by decide : 1 + 0 ≤ _)⟩)
      dsimp only [Pt.U, Pt.locs, Pt.cells, Pt.slots] at X12 l12 y12 z12 st12 hQ12
      subst l12 y12 z12
      obtain ⟨rfl, Nq12, g12_0, g12_1⟩ := hQ12
      have N12 := Fr.app N0 Nq12
      have f13 : Sta Z T12.heap "java/lang/Long$LongCache" "cache" "[Ljava/lang/Long;" (.ref aL) := own_stk f9 g12_0 (allS (own_npE A8) all0)
      have f14 : Arv Z T12.heap aL kc (.object "java/lang/Long") (256 : Int32) vs .null := f10.keep g12_0 (ninS ne8_1 nin0)
      have K12 : Keep h0 T12.heap [] := K8.trans g12_0 (allS (Or.inr hge8) all0)
      have Zs12 : n0 ≤ T12.heap.size := Nat.le_trans Z0 K12.1
      refine own_tr (T' := T12) (F' := (mkF m 39 #[.val (.long x0), .second, .val (.int (128 : Int32))] [(.ref b8)])) st12 ?_
      refine own_retA X12 hx hlk (t := (.object "java/lang/Long")) Bd.returns rfl rfl rfl (hb hby d4_39) ?_ (by decide) (by decide)
      show Q4 Z x0 aL kc vs h0 n0 _ T12.heap _
      refine ⟨⟨_, rfl, ?_⟩, N12, K12⟩
      exact g12_1
    ·
      obtain ⟨T15, X15, e15, st15⟩ := getS2 X0 hx hZ hown (host := "") (Or.inl (hw _ (List.mem_of_getElem? (i := 44) rfl))) Via.refl e0 S_c (g := (mkF m 20 #[.val (.long x0), .second, .val (.int (128 : Int32))] [])) rfl (hb hby d4_20)
      refine own_st (T' := T15) (F' := (mkF m 23 #[.val (.long x0), .second, .val (.int (128 : Int32))] [(.ref aL)])) (fun _ k => st15 _ k) ?_
      refine own_st (T' := T15) (F' := (mkF m 24 #[.val (.long x0), .second, .val (.int (128 : Int32))] [(.long x0), (.ref aL)])) (fun _ k => XS.lloadN X15.here hx rfl (hb hby d4_23) rfl  k) ?_
      refine own_st (T' := T15) (F' := (mkF m 25 #[.val (.long x0), .second, .val (.int (128 : Int32))] [(.int (x0.toInt32)), (.ref aL)])) (fun _ k => XS.l2i X15.here hx rfl (hb hby d4_24) rfl k) ?_
      refine own_st (T' := T15) (F' := (mkF m 28 #[.val (.long x0), .second, .val (.int (128 : Int32))] [(.int (128 : Int32)), (.int (x0.toInt32)), (.ref aL)])) (fun _ k => XS.sipush X15.here hx rfl (hb hby d4_25) k) ?_
      refine own_st (T' := T15) (F' := (mkF m 29 #[.val (.long x0), .second, .val (.int (128 : Int32))] [(.int ((x0.toInt32) + (128 : Int32))), (.ref aL)])) (fun _ k => XS.iadd X15.here hx rfl (hb hby d4_28) rfl k) ?_
      obtain ⟨bc, hbc, Ebc⟩ := hall (((x0.toInt32) + (128 : Int32))).toNatClampNeg (by have q := own_k x0 hc9 hc17; rw [Int32.lt_iff_toInt_lt, Int32.lt_iff_toInt_lt] at q; have a4 : (256 : Int32).toInt = 256 := rfl; simp only [Int32.toNatClampNeg]; omega)
      obtain ⟨cl16, Ar16, Aq16, As16, Am16, Ah16, Au16⟩ := id V_c
      have hin16 : ¬ (((x0.toInt32) + (128 : Int32)) < 0 ∨ cl16.slots.size ≤ (((x0.toInt32) + (128 : Int32))).toNatClampNeg) := inb_of As16 (own_k x0 hc9 hc17)
      have hat16 : cl16.slots[(((x0.toInt32) + (128 : Int32))).toNatClampNeg]? = some (.ref bc) := Ah16.at hin16 (hbc)
      refine own_st (T' := T15) (F' := (mkF m 30 #[.val (.long x0), .second, .val (.int (128 : Int32))] [(.ref bc)])) (fun _ k => X15.aaload hx (j := ((x0.toInt32) + (128 : Int32))) (v := (.ref bc)) (by rw [e15]; exact Ar16.1) (State.isArrayOf_alike hZ.alike Ar16.2.1) rfl Ar16.2.2 hin16 hat16 (g := (mkF m 29 #[.val (.long x0), .second, .val (.int (128 : Int32))] [(.int ((x0.toInt32) + (128 : Int32))), (.ref aL)])) rfl rfl (hb hby d4_29) _ k) ?_
      refine own_retA X15 hx hlk (t := (.object "java/lang/Long")) Bd.returns rfl rfl rfl (hb hby d4_30) ?_ (by decide) (by decide)
      rw [e15]
      refine ⟨⟨_, rfl, ?_⟩, N0, (Keep.refl h0 [])⟩
      exact Ebc
theorem own_pd2 : parseMethodDescriptor "(JJ)V" = some ⟨[.long, .long], none⟩ := by decide +kernel
theorem own_pd3 : parseMethodDescriptor "(Ljava/lang/Object;)Z" = some ⟨[(.object "java/lang/Object")], some .boolean⟩ := by decide +kernel
theorem own_pd4 : parseMethodDescriptor "(J)Ljava/lang/Long;" = some ⟨[.long], some (.object "java/lang/Long")⟩ := by decide +kernel
theorem own_pn0 : plainName "com/example/infinite_tail/infinitetail/stream/StreamIdEqualsPinLaw" = true := by first | (simp [plainName, overriddenIn]; done) | decide +kernel
theorem own_ef0 (m : MethodId) (x0 : Int64) (x1 : Int64) (x2 : Int64) (x3 : Int64) (x4 : Int32) : entryFrame m #[(.long x0), (.long x1), (.long x2), (.long x3), (.int x4)] maxLocals = (mkF m 0 #[.val (.long x0), .second, .val (.long x1), .second, .val (.long x2), .second, .val (.long x3), .second, .val (.int x4), .unset, .unset, .unset, .unset, .unset, .unset, .unset, .unset] []) := by first | (simp [entryFrame, mkF, argsToLocals, Value.category, maxLocals]; done) | rfl
def Q0 (Z : State) (x0 : Int64) (x1 : Int64) (x2 : Int64) (x3 : Int64) (x4 : Int32) (aL : Addr) (kc : ClassId) (vs : List Value) (h0 : Heap) (n0 : Nat) (v : Option Value) (h : Heap) (L : List Loc) : Prop := (∃ z : Int32, v = some (.int z) ∧ (z = 1)) ∧ Fr n0 L
set_option maxRecDepth 65536 in
set_option maxHeartbeats 40000000 in
theorem rm0 (l : Launch) (Z : State) (a0 : Array Value) (hw : ∀ d ∈ tables_1, d.before a0 Z = true) (ws : List Jvm.Cond) (x0 : Int64) (x1 : Int64) (x2 : Int64) (x3 : Int64) (x4 : Int32) (aL : Addr) (kc : ClassId) (vs : List Value) (h0 : Heap) (n0 : Nat) (Z0 : n0 ≤ h0.size) (S_c : Sta Z h0 "java/lang/Long$LongCache" "cache" "[Ljava/lang/Long;" (.ref aL)) (V_c : Arv Z h0 aL kc (.object "java/lang/Long") (256 : Int32) vs .null) (hall : ∀ i, i < 256 → ∃ b, vs.getD i .null = .ref b ∧ Exa Z h0 b "java/lang/Long") (hNI : ∃ c t, Z.vm.findClass "java/lang/Long" = some c ∧ Z.vm.findClass "com/example/infinite_tail/infinitetail/stream/StreamId" = some t ∧ Z.vm.assignable c t = false) :
    MetFree l x (head1 (Jvm.Cond.code x code maxLocals ret :: ws) room_1) (fun a U => a = #[(.long x0), (.long x1), (.long x2), (.long x3), (.int x4)] ∧ Z.Warmed39 U.vm ∧ U.heap = h0) (fun _ _ _ _ _ => True) (fun _ U oc U' => ∃ v L, oc = .returned v ∧ Q0 Z x0 x1 x2 x3 x4 aL kc vs h0 n0 v U'.heap L ∧ FrameEnd U oc U' L room_1.cells room_1.slots) := by
  refine MetFree.of_bodySF (plainFor_of_name own_pn0) hisR ?_
  intro p e s m args below meth c s₁ Bd hml0 hP hK
  obtain ⟨rfl, hZ, hh⟩ := hP
  have hx := Bd.exec
  have hby := Bd.bytes
  have hlk : meth.locks = false := BodyLoose.notSynchronized Bd
  have hml : c.maxLocals = 17 := hml0
  have hown : s.vm.findClass "com/example/infinite_tail/infinitetail/stream/StreamIdEqualsPinLaw" = some m.cls := findClass_of_methodNamed Bd.named
  have hnm := (name_of_methodNamed Bd.named Bd.method).1
  have X0 : Stand p l e room_1 s m #[(.long x0), (.long x1), (.long x2), (.long x3), (.int x4)] below meth c s₁ [] 0 0 := Stand.of_body Bd
  have e0 : s₁.heap = h0 := by rw [← hh, Bd.state]; rfl
  have N0 := Fr.nil n0
  refine own_enter (own_ef0 m x0 x1 x2 x3 x4) ?_
  show own_Go p e below s (Q0 Z x0 x1 x2 x3 x4 aL kc vs h0 n0) room_1.cells room_1.slots s₁ (mkF m 0 #[.val (.long x0), .second, .val (.long x1), .second, .val (.long x2), .second, .val (.long x3), .second, .val (.int x4), .unset, .unset, .unset, .unset, .unset, .unset, .unset, .unset] [])
  refine own_st (T' := s₁) (F' := (mkF m 2 #[.val (.long x0), .second, .val (.long x1), .second, .val (.long x2), .second, .val (.long x3), .second, .val (.int x4), .unset, .unset, .unset, .unset, .unset, .unset, .unset, .unset] [(.int x4)])) (fun _ k => XS.iload X0.here hx rfl (hb hby at_0) rfl  k) ?_
  refine own_st (T' := s₁) (F' := (mkF m 3 #[.val (.long x0), .second, .val (.long x1), .second, .val (.long x2), .second, .val (.long x3), .second, .val (.int x4), .unset, .unset, .unset, .unset, .unset, .unset, .unset, .unset] [(.int (1 : Int32)), (.int x4)])) (fun _ k => XS.iconst X0.here hx rfl (hb hby at_2) k) ?_
  refine own_st (T' := s₁) (F' := (mkF m 4 #[.val (.long x0), .second, .val (.long x1), .second, .val (.long x2), .second, .val (.long x3), .second, .val (.int x4), .unset, .unset, .unset, .unset, .unset, .unset, .unset, .unset] [(.int (x4 &&& (1 : Int32)))])) (fun _ k => XS.iand X0.here hx rfl (hb hby at_3) rfl k) ?_
  have J13_1 : ∀ (j13_1 : Int64), ((((x4 &&& (1 : Int32)) = (0 : Int32)) ∧ j13_1 = x2) ∨ ((¬ ((x4 &&& (1 : Int32)) = (0 : Int32))) ∧ j13_1 = x0)) → own_Go p e below s (Q0 Z x0 x1 x2 x3 x4 aL kc vs h0 n0) room_1.cells room_1.slots s₁ (mkF m 13 #[.val (.long x0), .second, .val (.long x1), .second, .val (.long x2), .second, .val (.long x3), .second, .val (.int x4), .unset, .unset, .unset, .unset, .unset, .unset, .unset, .unset] [(.long j13_1)]) := by
    intro j13_1 hJ13_1
    refine own_st (T' := s₁) (F' := (mkF m 15 #[.val (.long x0), .second, .val (.long x1), .second, .val (.long x2), .second, .val (.long x3), .second, .val (.int x4), .val (.long j13_1), .second, .unset, .unset, .unset, .unset, .unset, .unset] [])) (fun _ k => XS.lstore X0.here hx rfl (hb hby at_13) rfl (l' := #[.val (.long x0), .second, .val (.long x1), .second, .val (.long x2), .second, .val (.long x3), .second, .val (.int x4), .val (.long j13_1), .second, .unset, .unset, .unset, .unset, .unset, .unset]) rfl k) ?_
    refine own_st (T' := s₁) (F' := (mkF m 17 #[.val (.long x0), .second, .val (.long x1), .second, .val (.long x2), .second, .val (.long x3), .second, .val (.int x4), .val (.long j13_1), .second, .unset, .unset, .unset, .unset, .unset, .unset] [(.int x4)])) (fun _ k => XS.iload X0.here hx rfl (hb hby at_15) rfl  k) ?_
    refine own_st (T' := s₁) (F' := (mkF m 18 #[.val (.long x0), .second, .val (.long x1), .second, .val (.long x2), .second, .val (.long x3), .second, .val (.int x4), .val (.long j13_1), .second, .unset, .unset, .unset, .unset, .unset, .unset] [(.int (2 : Int32)), (.int x4)])) (fun _ k => XS.iconst X0.here hx rfl (hb hby at_17) k) ?_
    refine own_st (T' := s₁) (F' := (mkF m 19 #[.val (.long x0), .second, .val (.long x1), .second, .val (.long x2), .second, .val (.long x3), .second, .val (.int x4), .val (.long j13_1), .second, .unset, .unset, .unset, .unset, .unset, .unset] [(.int (x4 &&& (2 : Int32)))])) (fun _ k => XS.iand X0.here hx rfl (hb hby at_18) rfl k) ?_
    have J28_2 : ∀ (j28_1 : Int64), ((((x4 &&& (2 : Int32)) = (0 : Int32)) ∧ j28_1 = x3) ∨ ((¬ ((x4 &&& (2 : Int32)) = (0 : Int32))) ∧ j28_1 = x1)) → own_Go p e below s (Q0 Z x0 x1 x2 x3 x4 aL kc vs h0 n0) room_1.cells room_1.slots s₁ (mkF m 28 #[.val (.long x0), .second, .val (.long x1), .second, .val (.long x2), .second, .val (.long x3), .second, .val (.int x4), .val (.long j13_1), .second, .unset, .unset, .unset, .unset, .unset, .unset] [(.long j28_1)]) := by
      intro j28_1 hJ28_2
      refine own_st (T' := s₁) (F' := (mkF m 30 #[.val (.long x0), .second, .val (.long x1), .second, .val (.long x2), .second, .val (.long x3), .second, .val (.int x4), .val (.long j13_1), .second, .val (.long j28_1), .second, .unset, .unset, .unset, .unset] [])) (fun _ k => XS.lstore X0.here hx rfl (hb hby at_28) rfl (l' := #[.val (.long x0), .second, .val (.long x1), .second, .val (.long x2), .second, .val (.long x3), .second, .val (.int x4), .val (.long j13_1), .second, .val (.long j28_1), .second, .unset, .unset, .unset, .unset]) rfl k) ?_
      refine own_st (T' := s₁) (F' := (mkF m 32 #[.val (.long x0), .second, .val (.long x1), .second, .val (.long x2), .second, .val (.long x3), .second, .val (.int x4), .val (.long j13_1), .second, .val (.long j28_1), .second, .unset, .unset, .unset, .unset] [(.int x4)])) (fun _ k => XS.iload X0.here hx rfl (hb hby at_30) rfl  k) ?_
      refine own_st (T' := s₁) (F' := (mkF m 33 #[.val (.long x0), .second, .val (.long x1), .second, .val (.long x2), .second, .val (.long x3), .second, .val (.int x4), .val (.long j13_1), .second, .val (.long j28_1), .second, .unset, .unset, .unset, .unset] [(.int (2 : Int32)), (.int x4)])) (fun _ k => XS.iconst X0.here hx rfl (hb hby at_32) k) ?_
      refine own_st (T' := s₁) (F' := (mkF m 34 #[.val (.long x0), .second, .val (.long x1), .second, .val (.long x2), .second, .val (.long x3), .second, .val (.int x4), .val (.long j13_1), .second, .val (.long j28_1), .second, .unset, .unset, .unset, .unset] [(.int ((x4.toUInt32 >>> ((2 : Int32) &&& 31).toUInt32).toInt32))])) (fun _ k => XS.iushr X0.here hx rfl (hb hby at_33) rfl k) ?_
      refine own_st (T' := s₁) (F' := (mkF m 35 #[.val (.long x0), .second, .val (.long x1), .second, .val (.long x2), .second, .val (.long x3), .second, .val (.int x4), .val (.long j13_1), .second, .val (.long j28_1), .second, .unset, .unset, .unset, .unset] [(.int (3 : Int32)), (.int ((x4.toUInt32 >>> ((2 : Int32) &&& 31).toUInt32).toInt32))])) (fun _ k => XS.iconst X0.here hx rfl (hb hby at_34) k) ?_
      refine own_st (T' := s₁) (F' := (mkF m 36 #[.val (.long x0), .second, .val (.long x1), .second, .val (.long x2), .second, .val (.long x3), .second, .val (.int x4), .val (.long j13_1), .second, .val (.long j28_1), .second, .unset, .unset, .unset, .unset] [(.int (((x4.toUInt32 >>> ((2 : Int32) &&& 31).toUInt32).toInt32) &&& (3 : Int32)))])) (fun _ k => XS.iand X0.here hx rfl (hb hby at_35) rfl k) ?_
      refine own_st (T' := s₁) (F' := (mkF m 38 #[.val (.long x0), .second, .val (.long x1), .second, .val (.long x2), .second, .val (.long x3), .second, .val (.int x4), .val (.long j13_1), .second, .val (.long j28_1), .second, .val (.int (((x4.toUInt32 >>> ((2 : Int32) &&& 31).toUInt32).toInt32) &&& (3 : Int32))), .unset, .unset, .unset] [])) (fun _ k => XS.istore X0.here hx rfl (hb hby at_36) rfl (l' := #[.val (.long x0), .second, .val (.long x1), .second, .val (.long x2), .second, .val (.long x3), .second, .val (.int x4), .val (.long j13_1), .second, .val (.long j28_1), .second, .val (.int (((x4.toUInt32 >>> ((2 : Int32) &&& 31).toUInt32).toInt32) &&& (3 : Int32))), .unset, .unset, .unset]) rfl k) ?_
      obtain ⟨T3, h3, X3, e3, E3, A3, D3, -, st3⟩ := newO X0 hx hZ hown (hw _ (List.mem_of_getElem? (i := 0) rfl)) (hw _ (List.mem_of_getElem? (i := 1) rfl)) (hw _ (List.mem_of_getElem? (i := 2) rfl)) e0 (g := (mkF m 38 #[.val (.long x0), .second, .val (.long x1), .second, .val (.long x2), .second, .val (.long x3), .second, .val (.int x4), .val (.long j13_1), .second, .val (.long j28_1), .second, .val (.int (((x4.toUInt32 >>> ((2 : Int32) &&& 31).toUInt32).toInt32) &&& (3 : Int32))), .unset, .unset, .unset] [])) rfl (hb hby at_38) (by decide) (by decide)
      obtain ⟨b3, g3⟩ : ∃ z, z = h0.size := ⟨_, rfl⟩
      rw [← g3] at A3 D3 st3
      have ge3 : n0 ≤ b3 := by rw [g3]; exact Z0
      have hge3 : h0.size ≤ b3 := by rw [g3]; exact (Keep.refl h0 []).1
      have ne3_1 : aL ≠ b3 := by rw [g3]; exact Nat.ne_of_lt V_c.lt
      have f4 : Sta Z h3 "java/lang/Long$LongCache" "cache" "[Ljava/lang/Long;" (.ref aL) := S_c.ext E3
      have f5 : Arv Z h3 aL kc (.object "java/lang/Long") (256 : Int32) vs .null := V_c.ext E3
      have K3 : Keep h0 h3 [] := (Keep.refl h0 []).ext E3
      have Zs3 : n0 ≤ h3.size := Nat.le_trans Z0 K3.1
      have f6 : Fld Z h3 b3 "com/example/infinite_tail/infinitetail/stream/StreamId" "milliseconds" "J" (.long (0 : Int64)) := D3 (Or.inr (hw _ (List.mem_of_getElem? (i := 10) rfl))) (ty := .long) (by decide)
      have f7 : Fld Z h3 b3 "com/example/infinite_tail/infinitetail/stream/StreamId" "sequence" "J" (.long (0 : Int64)) := D3 (Or.inr (hw _ (List.mem_of_getElem? (i := 12) rfl))) (ty := .long) (by decide)
      refine own_st (T' := T3) (F' := (mkF m 41 #[.val (.long x0), .second, .val (.long x1), .second, .val (.long x2), .second, .val (.long x3), .second, .val (.int x4), .val (.long j13_1), .second, .val (.long j28_1), .second, .val (.int (((x4.toUInt32 >>> ((2 : Int32) &&& 31).toUInt32).toInt32) &&& (3 : Int32))), .unset, .unset, .unset] [(.ref b3)])) (fun _ k => st3 _ k) ?_
      refine own_st (T' := T3) (F' := (mkF m 42 #[.val (.long x0), .second, .val (.long x1), .second, .val (.long x2), .second, .val (.long x3), .second, .val (.int x4), .val (.long j13_1), .second, .val (.long j28_1), .second, .val (.int (((x4.toUInt32 >>> ((2 : Int32) &&& 31).toUInt32).toInt32) &&& (3 : Int32))), .unset, .unset, .unset] [(.ref b3), (.ref b3)])) (fun _ k => XS.dup X3.here hx rfl (hb hby at_41) rfl rfl k) ?_
      refine own_st (T' := T3) (F' := (mkF m 43 #[.val (.long x0), .second, .val (.long x1), .second, .val (.long x2), .second, .val (.long x3), .second, .val (.int x4), .val (.long j13_1), .second, .val (.long j28_1), .second, .val (.int (((x4.toUInt32 >>> ((2 : Int32) &&& 31).toUInt32).toInt32) &&& (3 : Int32))), .unset, .unset, .unset] [(.long x0), (.ref b3), (.ref b3)])) (fun _ k => XS.lloadN X3.here hx rfl (hb hby at_42) rfl  k) ?_
      refine own_st (T' := T3) (F' := (mkF m 44 #[.val (.long x0), .second, .val (.long x1), .second, .val (.long x2), .second, .val (.long x3), .second, .val (.int x4), .val (.long j13_1), .second, .val (.long j28_1), .second, .val (.int (((x4.toUInt32 >>> ((2 : Int32) &&& 31).toUInt32).toInt32) &&& (3 : Int32))), .unset, .unset, .unset] [(.long x1), (.long x0), (.ref b3), (.ref b3)])) (fun _ k => XS.lloadN X3.here hx rfl (hb hby at_43) rfl  k) ?_
      obtain ⟨_, _, ⟨T8, L8, k8, n8⟩, -, X8, ⟨Lc8, hQ8, l8, y8, z8⟩, st8⟩ := X3.specialBack hx (y := (⟨"com/example/infinite_tail/infinitetail/stream/StreamId", "<init>", "(JJ)V"⟩ : MethodName)) rfl hown (mvT hZ (hw _ (List.mem_of_getElem? (i := 3) rfl))) (mvT hZ (hw _ (List.mem_of_getElem? (i := 4) rfl))) (mvT hZ (hw _ (List.mem_of_getElem? (i := 5) rfl))) (by decide) (backOf (W := 1) (rm1 l Z a0 hw [] b3 x0 x1 (.long (0 : Int64)) (.long (0 : Int64)) h3 n0 Zs3 ge3 A3 f6 f7) hZ (hw _ (List.mem_of_getElem? (i := 5) rfl)) (hw _ (List.mem_of_getElem? (i := 2) rfl)) (by decide) (by decide)) (g := (mkF m 44 #[.val (.long x0), .second, .val (.long x1), .second, .val (.long x2), .second, .val (.long x3), .second, .val (.int x4), .val (.long j13_1), .second, .val (.long j28_1), .second, .val (.int (((x4.toUInt32 >>> ((2 : Int32) &&& 31).toUInt32).toInt32) &&& (3 : Int32))), .unset, .unset, .unset] [(.long x1), (.long x0), (.ref b3), (.ref b3)])) rfl (by rw [hml]; rfl) (Steps.refl _) (a := b3) (argsL := [(.long x0), (.long x1)]) (rest := [(.ref b3)]) (lenOf own_pd2 rfl) rfl (by show 2 * 0 + _ ≤ _; exact Nat.le_of_eq rfl) (hb hby at_44) (fun _ _ => ⟨rfl, e3, (by decide : 1 + 0 ≤ _), (by decide : 2 + 0 ≤ _)⟩)
      dsimp only [Pt.U, Pt.locs, Pt.cells, Pt.slots] at X8 l8 y8 z8 st8 hQ8
      subst l8 y8 z8
      obtain ⟨rfl, Nq8, g8_0, g8_1, g8_2, g8_3⟩ := hQ8
      have N8 := Fr.app N0 Nq8
      have f9 : Sta Z T8.heap "java/lang/Long$LongCache" "cache" "[Ljava/lang/Long;" (.ref aL) := own_stk f4 g8_0 (allS (own_npE A3) all0)
      have f10 : Arv Z T8.heap aL kc (.object "java/lang/Long") (256 : Int32) vs .null := f5.keep g8_0 (ninS ne3_1 nin0)
      have K8 : Keep h0 T8.heap [] := K3.trans g8_0 (allS (Or.inr hge3) all0)
      have Zs8 : n0 ≤ T8.heap.size := Nat.le_trans Z0 K8.1
      refine own_tr (T' := T8) (F' := (mkF m 47 #[.val (.long x0), .second, .val (.long x1), .second, .val (.long x2), .second, .val (.long x3), .second, .val (.int x4), .val (.long j13_1), .second, .val (.long j28_1), .second, .val (.int (((x4.toUInt32 >>> ((2 : Int32) &&& 31).toUInt32).toInt32) &&& (3 : Int32))), .unset, .unset, .unset] [(.ref b3)])) st8 ?_
      refine own_st (T' := T8) (F' := (mkF m 49 #[.val (.long x0), .second, .val (.long x1), .second, .val (.long x2), .second, .val (.long x3), .second, .val (.int x4), .val (.long j13_1), .second, .val (.long j28_1), .second, .val (.int (((x4.toUInt32 >>> ((2 : Int32) &&& 31).toUInt32).toInt32) &&& (3 : Int32))), .val (.ref b3), .unset, .unset] [])) (fun _ k => XS.astore X8.here hx rfl (hb hby at_47) rfl rfl (l' := #[.val (.long x0), .second, .val (.long x1), .second, .val (.long x2), .second, .val (.long x3), .second, .val (.int x4), .val (.long j13_1), .second, .val (.long j28_1), .second, .val (.int (((x4.toUInt32 >>> ((2 : Int32) &&& 31).toUInt32).toInt32) &&& (3 : Int32))), .val (.ref b3), .unset, .unset]) rfl k) ?_
      refine own_st (T' := T8) (F' := (mkF m 51 #[.val (.long x0), .second, .val (.long x1), .second, .val (.long x2), .second, .val (.long x3), .second, .val (.int x4), .val (.long j13_1), .second, .val (.long j28_1), .second, .val (.int (((x4.toUInt32 >>> ((2 : Int32) &&& 31).toUInt32).toInt32) &&& (3 : Int32))), .val (.ref b3), .unset, .unset] [(.int (((x4.toUInt32 >>> ((2 : Int32) &&& 31).toUInt32).toInt32) &&& (3 : Int32)))])) (fun _ k => XS.iload X8.here hx rfl (hb hby at_49) rfl  k) ?_
      refine own_ifc X8 hx (pc' := 63) (pc2 := 54) (hb hby at_51) (by decide) (by decide) rfl (fun (hc51 : ¬ ((((x4.toUInt32 >>> ((2 : Int32) &&& 31).toUInt32).toInt32) &&& (3 : Int32)) = (0 : Int32))) => ?_) (fun (hc51 : (((x4.toUInt32 >>> ((2 : Int32) &&& 31).toUInt32).toInt32) &&& (3 : Int32)) = (0 : Int32)) => ?_)
      ·
        refine own_st (T' := T8) (F' := (mkF m 65 #[.val (.long x0), .second, .val (.long x1), .second, .val (.long x2), .second, .val (.long x3), .second, .val (.int x4), .val (.long j13_1), .second, .val (.long j28_1), .second, .val (.int (((x4.toUInt32 >>> ((2 : Int32) &&& 31).toUInt32).toInt32) &&& (3 : Int32))), .val (.ref b3), .unset, .unset] [(.int (((x4.toUInt32 >>> ((2 : Int32) &&& 31).toUInt32).toInt32) &&& (3 : Int32)))])) (fun _ k => XS.iload X8.here hx rfl (hb hby at_63) rfl  k) ?_
        refine own_st (T' := T8) (F' := (mkF m 66 #[.val (.long x0), .second, .val (.long x1), .second, .val (.long x2), .second, .val (.long x3), .second, .val (.int x4), .val (.long j13_1), .second, .val (.long j28_1), .second, .val (.int (((x4.toUInt32 >>> ((2 : Int32) &&& 31).toUInt32).toInt32) &&& (3 : Int32))), .val (.ref b3), .unset, .unset] [(.int (1 : Int32)), (.int (((x4.toUInt32 >>> ((2 : Int32) &&& 31).toUInt32).toInt32) &&& (3 : Int32)))])) (fun _ k => XS.iconst X8.here hx rfl (hb hby at_65) k) ?_
        refine own_icmp X8 hx (pc' := 81) (pc2 := 69) (hb hby at_66) (by decide) (by decide) rfl (fun (hc66 : ¬ ((((x4.toUInt32 >>> ((2 : Int32) &&& 31).toUInt32).toInt32) &&& (3 : Int32)) = (1 : Int32))) => ?_) (fun (hc66 : (((x4.toUInt32 >>> ((2 : Int32) &&& 31).toUInt32).toInt32) &&& (3 : Int32)) = (1 : Int32)) => ?_)
        ·
          refine own_st (T' := T8) (F' := (mkF m 83 #[.val (.long x0), .second, .val (.long x1), .second, .val (.long x2), .second, .val (.long x3), .second, .val (.int x4), .val (.long j13_1), .second, .val (.long j28_1), .second, .val (.int (((x4.toUInt32 >>> ((2 : Int32) &&& 31).toUInt32).toInt32) &&& (3 : Int32))), .val (.ref b3), .unset, .unset] [(.int (((x4.toUInt32 >>> ((2 : Int32) &&& 31).toUInt32).toInt32) &&& (3 : Int32)))])) (fun _ k => XS.iload X8.here hx rfl (hb hby at_81) rfl  k) ?_
          refine own_st (T' := T8) (F' := (mkF m 84 #[.val (.long x0), .second, .val (.long x1), .second, .val (.long x2), .second, .val (.long x3), .second, .val (.int x4), .val (.long j13_1), .second, .val (.long j28_1), .second, .val (.int (((x4.toUInt32 >>> ((2 : Int32) &&& 31).toUInt32).toInt32) &&& (3 : Int32))), .val (.ref b3), .unset, .unset] [(.int (2 : Int32)), (.int (((x4.toUInt32 >>> ((2 : Int32) &&& 31).toUInt32).toInt32) &&& (3 : Int32)))])) (fun _ k => XS.iconst X8.here hx rfl (hb hby at_83) k) ?_
          refine own_icmp X8 hx (pc' := 124) (pc2 := 87) (hb hby at_84) (by decide) (by decide) rfl (fun (hc84 : ¬ ((((x4.toUInt32 >>> ((2 : Int32) &&& 31).toUInt32).toInt32) &&& (3 : Int32)) = (2 : Int32))) => ?_) (fun (hc84 : (((x4.toUInt32 >>> ((2 : Int32) &&& 31).toUInt32).toInt32) &&& (3 : Int32)) = (2 : Int32)) => ?_)
          ·
            refine own_st (T' := T8) (F' := (mkF m 126 #[.val (.long x0), .second, .val (.long x1), .second, .val (.long x2), .second, .val (.long x3), .second, .val (.int x4), .val (.long j13_1), .second, .val (.long j28_1), .second, .val (.int (((x4.toUInt32 >>> ((2 : Int32) &&& 31).toUInt32).toInt32) &&& (3 : Int32))), .val (.ref b3), .unset, .unset] [(.ref b3)])) (fun _ k => XS.aload X8.here hx rfl (hb hby at_124) rfl rfl k) ?_
            refine own_st (T' := T8) (F' := (mkF m 128 #[.val (.long x0), .second, .val (.long x1), .second, .val (.long x2), .second, .val (.long x3), .second, .val (.int x4), .val (.long j13_1), .second, .val (.long j28_1), .second, .val (.int (((x4.toUInt32 >>> ((2 : Int32) &&& 31).toUInt32).toInt32) &&& (3 : Int32))), .val (.ref b3), .val (.ref b3), .unset] [])) (fun _ k => XS.astore X8.here hx rfl (hb hby at_126) rfl rfl (l' := #[.val (.long x0), .second, .val (.long x1), .second, .val (.long x2), .second, .val (.long x3), .second, .val (.int x4), .val (.long j13_1), .second, .val (.long j28_1), .second, .val (.int (((x4.toUInt32 >>> ((2 : Int32) &&& 31).toUInt32).toInt32) &&& (3 : Int32))), .val (.ref b3), .val (.ref b3), .unset]) rfl k) ?_
            refine own_st (T' := T8) (F' := (mkF m 129 #[.val (.long x0), .second, .val (.long x1), .second, .val (.long x2), .second, .val (.long x3), .second, .val (.int x4), .val (.long j13_1), .second, .val (.long j28_1), .second, .val (.int (((x4.toUInt32 >>> ((2 : Int32) &&& 31).toUInt32).toInt32) &&& (3 : Int32))), .val (.ref b3), .val (.ref b3), .unset] [(.int (1 : Int32))])) (fun _ k => XS.iconst X8.here hx rfl (hb hby at_128) k) ?_
            refine own_st (T' := T8) (F' := (mkF m 131 #[.val (.long x0), .second, .val (.long x1), .second, .val (.long x2), .second, .val (.long x3), .second, .val (.int x4), .val (.long j13_1), .second, .val (.long j28_1), .second, .val (.int (((x4.toUInt32 >>> ((2 : Int32) &&& 31).toUInt32).toInt32) &&& (3 : Int32))), .val (.ref b3), .val (.ref b3), .val (.int (1 : Int32))] [])) (fun _ k => XS.istore X8.here hx rfl (hb hby at_129) rfl (l' := #[.val (.long x0), .second, .val (.long x1), .second, .val (.long x2), .second, .val (.long x3), .second, .val (.int x4), .val (.long j13_1), .second, .val (.long j28_1), .second, .val (.int (((x4.toUInt32 >>> ((2 : Int32) &&& 31).toUInt32).toInt32) &&& (3 : Int32))), .val (.ref b3), .val (.ref b3), .val (.int (1 : Int32))]) rfl k) ?_
            refine own_st (T' := T8) (F' := (mkF m 133 #[.val (.long x0), .second, .val (.long x1), .second, .val (.long x2), .second, .val (.long x3), .second, .val (.int x4), .val (.long j13_1), .second, .val (.long j28_1), .second, .val (.int (((x4.toUInt32 >>> ((2 : Int32) &&& 31).toUInt32).toInt32) &&& (3 : Int32))), .val (.ref b3), .val (.ref b3), .val (.int (1 : Int32))] [(.ref b3)])) (fun _ k => XS.aload X8.here hx rfl (hb hby at_131) rfl rfl k) ?_
            refine own_st (T' := T8) (F' := (mkF m 135 #[.val (.long x0), .second, .val (.long x1), .second, .val (.long x2), .second, .val (.long x3), .second, .val (.int x4), .val (.long j13_1), .second, .val (.long j28_1), .second, .val (.int (((x4.toUInt32 >>> ((2 : Int32) &&& 31).toUInt32).toInt32) &&& (3 : Int32))), .val (.ref b3), .val (.ref b3), .val (.int (1 : Int32))] [(.ref b3), (.ref b3)])) (fun _ k => XS.aload X8.here hx rfl (hb hby at_133) rfl rfl k) ?_
            obtain ⟨cq11, kq11, q11a, q11b, q11c⟩ := isOf hZ rfl g8_1
            obtain ⟨_, _, ⟨T11, L11, k11, n11⟩, -, X11, ⟨Lc11, hQ11, l11, y11, z11⟩, st11⟩ := X8.virtualBack hx (y := (⟨"com/example/infinite_tail/infinitetail/stream/StreamId", "equals", "(Ljava/lang/Object;)Z"⟩ : MethodName)) (z := (⟨"com/example/infinite_tail/infinitetail/stream/StreamId", "equals", "(Ljava/lang/Object;)Z"⟩ : MethodName)) hown (mvT hZ (hw _ (List.mem_of_getElem? (i := 13) rfl))) (mvT hZ (hw _ (List.mem_of_getElem? (i := 14) rfl))) (notFace_of_selects (args := #[]) (mvT hZ (hw _ (List.mem_of_getElem? (i := 16) rfl)))) (mvT hZ (hw _ (List.mem_of_getElem? (i := 16) rfl))) (mvT hZ (hw _ (List.mem_of_getElem? (i := 15) rfl))) (by decide) (backOf (W := 0) (rm3tb l Z a0 hw [] b3 b3 x0 x1 x0 x1 T8.heap n0 Zs8 g8_2 g8_3 g8_2 g8_3 g8_1) hZ (hw _ (List.mem_of_getElem? (i := 17) rfl)) (hw _ (List.mem_of_getElem? (i := 2) rfl)) (by decide) (by decide)) q11a q11c (g := (mkF m 135 #[.val (.long x0), .second, .val (.long x1), .second, .val (.long x2), .second, .val (.long x3), .second, .val (.int x4), .val (.long j13_1), .second, .val (.long j28_1), .second, .val (.int (((x4.toUInt32 >>> ((2 : Int32) &&& 31).toUInt32).toInt32) &&& (3 : Int32))), .val (.ref b3), .val (.ref b3), .val (.int (1 : Int32))] [(.ref b3), (.ref b3)])) rfl (by rw [hml]; rfl) (Steps.refl _) (argsL := [(.ref b3)]) (rest := []) (lenOf own_pd3 rfl) rfl (by show 2 * 0 + _ ≤ _; exact Nat.le_of_eq rfl) (hb hby at_135) (fun _ _ => ⟨rfl, rfl, (by decide : 1 + 0 ≤ _), (by decide : 2 + 0 ≤ _)⟩)
            dsimp only [Pt.U, Pt.locs, Pt.cells, Pt.slots] at X11 l11 y11 z11 st11 hQ11
            subst l11 y11 z11
            obtain ⟨⟨r11, rfl, hr11⟩, Nq11, eq11⟩ := hQ11
            have N11 := Fr.app N8 Nq11
            refine own_tr (T' := T11) (F' := (mkF m 138 #[.val (.long x0), .second, .val (.long x1), .second, .val (.long x2), .second, .val (.long x3), .second, .val (.int x4), .val (.long j13_1), .second, .val (.long j28_1), .second, .val (.int (((x4.toUInt32 >>> ((2 : Int32) &&& 31).toUInt32).toInt32) &&& (3 : Int32))), .val (.ref b3), .val (.ref b3), .val (.int (1 : Int32))] [(.int r11)])) st11 ?_
            refine own_st (T' := T11) (F' := (mkF m 140 #[.val (.long x0), .second, .val (.long x1), .second, .val (.long x2), .second, .val (.long x3), .second, .val (.int x4), .val (.long j13_1), .second, .val (.long j28_1), .second, .val (.int (((x4.toUInt32 >>> ((2 : Int32) &&& 31).toUInt32).toInt32) &&& (3 : Int32))), .val (.ref b3), .val (.ref b3), .val (.int (1 : Int32))] [(.int (1 : Int32)), (.int r11)])) (fun _ k => XS.iload X11.here hx rfl (hb hby at_138) rfl  k) ?_
            have J148_12 : ∀ (j148_1 : Int32), (((¬ (r11 = (1 : Int32))) ∧ j148_1 = (0 : Int32)) ∨ ((r11 = (1 : Int32)) ∧ j148_1 = (1 : Int32))) → own_Go p e below s (Q0 Z x0 x1 x2 x3 x4 aL kc vs h0 n0) room_1.cells room_1.slots T11 (mkF m 148 #[.val (.long x0), .second, .val (.long x1), .second, .val (.long x2), .second, .val (.long x3), .second, .val (.int x4), .val (.long j13_1), .second, .val (.long j28_1), .second, .val (.int (((x4.toUInt32 >>> ((2 : Int32) &&& 31).toUInt32).toInt32) &&& (3 : Int32))), .val (.ref b3), .val (.ref b3), .val (.int (1 : Int32))] [(.int j148_1)]) := by
              intro j148_1 hJ148_12
              refine own_retN X11 hx hlk (t := .boolean) Bd.returns (by simp) (hb hby at_148) ?_ (by decide) (by decide)
              rw [eq11]
              refine ⟨⟨_, rfl, ?_⟩, N11⟩
              rcases hJ148_12 with ⟨h, rfl⟩ | ⟨h, rfl⟩
              · exact absurd (by first | exact hr11 | (rcases hr11 with ⟨a, _⟩ | ⟨_, b⟩; exact a; exact absurd ⟨rfl, rfl⟩ b)) h
              · rfl
            refine own_icmp X11 hx (pc' := 147) (pc2 := 143) (hb hby at_140) (by decide) (by decide) rfl (fun (hc140 : ¬ (r11 = (1 : Int32))) => ?_) (fun (hc140 : r11 = (1 : Int32)) => ?_)
            ·
              refine own_st (T' := T11) (F' := (mkF m 148 #[.val (.long x0), .second, .val (.long x1), .second, .val (.long x2), .second, .val (.long x3), .second, .val (.int x4), .val (.long j13_1), .second, .val (.long j28_1), .second, .val (.int (((x4.toUInt32 >>> ((2 : Int32) &&& 31).toUInt32).toInt32) &&& (3 : Int32))), .val (.ref b3), .val (.ref b3), .val (.int (1 : Int32))] [(.int (0 : Int32))])) (fun _ k => XS.iconst X11.here hx rfl (hb hby at_147) k) ?_
              exact J148_12 (0 : Int32) (Or.inl (⟨hc140, rfl⟩))
            ·
              refine own_st (T' := T11) (F' := (mkF m 144 #[.val (.long x0), .second, .val (.long x1), .second, .val (.long x2), .second, .val (.long x3), .second, .val (.int x4), .val (.long j13_1), .second, .val (.long j28_1), .second, .val (.int (((x4.toUInt32 >>> ((2 : Int32) &&& 31).toUInt32).toInt32) &&& (3 : Int32))), .val (.ref b3), .val (.ref b3), .val (.int (1 : Int32))] [(.int (1 : Int32))])) (fun _ k => XS.iconst X11.here hx rfl (hb hby at_143) k) ?_
              refine own_st (T' := T11) (F' := (mkF m 148 #[.val (.long x0), .second, .val (.long x1), .second, .val (.long x2), .second, .val (.long x3), .second, .val (.int x4), .val (.long j13_1), .second, .val (.long j28_1), .second, .val (.int (((x4.toUInt32 >>> ((2 : Int32) &&& 31).toUInt32).toInt32) &&& (3 : Int32))), .val (.ref b3), .val (.ref b3), .val (.int (1 : Int32))] [(.int (1 : Int32))])) (fun _ k => XS.goto X11.here hx rfl (pc0 := 144) (pc' := 148) rfl (hb hby at_144) (by decide) (by decide) k) ?_
              exact J148_12 (1 : Int32) (Or.inr (⟨hc140, rfl⟩))
          ·
            obtain ⟨T13, h13, X13, e13, E13, A13, D13, -, st13⟩ := newO X8 hx hZ hown (hw _ (List.mem_of_getElem? (i := 0) rfl)) (hw _ (List.mem_of_getElem? (i := 1) rfl)) (hw _ (List.mem_of_getElem? (i := 2) rfl)) rfl (g := (mkF m 87 #[.val (.long x0), .second, .val (.long x1), .second, .val (.long x2), .second, .val (.long x3), .second, .val (.int x4), .val (.long j13_1), .second, .val (.long j28_1), .second, .val (.int (((x4.toUInt32 >>> ((2 : Int32) &&& 31).toUInt32).toInt32) &&& (3 : Int32))), .val (.ref b3), .unset, .unset] [])) rfl (hb hby at_87) (by decide) (by decide)
            obtain ⟨b13, g13⟩ : ∃ z, z = T8.heap.size := ⟨_, rfl⟩
            rw [← g13] at A13 D13 st13
            have ge13 : n0 ≤ b13 := by rw [g13]; exact Zs8
            have hge13 : h0.size ≤ b13 := by rw [g13]; exact K8.1
            have ne13_1 : aL ≠ b13 := by rw [g13]; exact Nat.ne_of_lt f10.lt
            have ne13_2 : b3 ≠ b13 := by rw [g13]; exact Nat.ne_of_lt g8_1.lt
            have f14 : Sta Z h13 "java/lang/Long$LongCache" "cache" "[Ljava/lang/Long;" (.ref aL) := f9.ext E13
            have f15 : Arv Z h13 aL kc (.object "java/lang/Long") (256 : Int32) vs .null := f10.ext E13
            have f16 : Exa Z h13 b3 "com/example/infinite_tail/infinitetail/stream/StreamId" := g8_1.ext E13
            have f17 : Fld Z h13 b3 "com/example/infinite_tail/infinitetail/stream/StreamId" "milliseconds" "J" (.long x0) := g8_2.ext E13
            have f18 : Fld Z h13 b3 "com/example/infinite_tail/infinitetail/stream/StreamId" "sequence" "J" (.long x1) := g8_3.ext E13
            have K13 : Keep h0 h13 [] := K8.ext E13
            have Zs13 : n0 ≤ h13.size := Nat.le_trans Z0 K13.1
            have f19 : Fld Z h13 b13 "com/example/infinite_tail/infinitetail/stream/StreamId" "milliseconds" "J" (.long (0 : Int64)) := D13 (Or.inr (hw _ (List.mem_of_getElem? (i := 10) rfl))) (ty := .long) (by decide)
            have f20 : Fld Z h13 b13 "com/example/infinite_tail/infinitetail/stream/StreamId" "sequence" "J" (.long (0 : Int64)) := D13 (Or.inr (hw _ (List.mem_of_getElem? (i := 12) rfl))) (ty := .long) (by decide)
            refine own_st (T' := T13) (F' := (mkF m 90 #[.val (.long x0), .second, .val (.long x1), .second, .val (.long x2), .second, .val (.long x3), .second, .val (.int x4), .val (.long j13_1), .second, .val (.long j28_1), .second, .val (.int (((x4.toUInt32 >>> ((2 : Int32) &&& 31).toUInt32).toInt32) &&& (3 : Int32))), .val (.ref b3), .unset, .unset] [(.ref b13)])) (fun _ k => st13 _ k) ?_
            refine own_st (T' := T13) (F' := (mkF m 91 #[.val (.long x0), .second, .val (.long x1), .second, .val (.long x2), .second, .val (.long x3), .second, .val (.int x4), .val (.long j13_1), .second, .val (.long j28_1), .second, .val (.int (((x4.toUInt32 >>> ((2 : Int32) &&& 31).toUInt32).toInt32) &&& (3 : Int32))), .val (.ref b3), .unset, .unset] [(.ref b13), (.ref b13)])) (fun _ k => XS.dup X13.here hx rfl (hb hby at_90) rfl rfl k) ?_
            refine own_st (T' := T13) (F' := (mkF m 93 #[.val (.long x0), .second, .val (.long x1), .second, .val (.long x2), .second, .val (.long x3), .second, .val (.int x4), .val (.long j13_1), .second, .val (.long j28_1), .second, .val (.int (((x4.toUInt32 >>> ((2 : Int32) &&& 31).toUInt32).toInt32) &&& (3 : Int32))), .val (.ref b3), .unset, .unset] [(.long j13_1), (.ref b13), (.ref b13)])) (fun _ k => XS.lload X13.here hx rfl (hb hby at_91) rfl  k) ?_
            refine own_st (T' := T13) (F' := (mkF m 95 #[.val (.long x0), .second, .val (.long x1), .second, .val (.long x2), .second, .val (.long x3), .second, .val (.int x4), .val (.long j13_1), .second, .val (.long j28_1), .second, .val (.int (((x4.toUInt32 >>> ((2 : Int32) &&& 31).toUInt32).toInt32) &&& (3 : Int32))), .val (.ref b3), .unset, .unset] [(.long j28_1), (.long j13_1), (.ref b13), (.ref b13)])) (fun _ k => XS.lload X13.here hx rfl (hb hby at_93) rfl  k) ?_
            obtain ⟨_, _, ⟨T21, L21, k21, n21⟩, -, X21, ⟨Lc21, hQ21, l21, y21, z21⟩, st21⟩ := X13.specialBack hx (y := (⟨"com/example/infinite_tail/infinitetail/stream/StreamId", "<init>", "(JJ)V"⟩ : MethodName)) rfl hown (mvT hZ (hw _ (List.mem_of_getElem? (i := 3) rfl))) (mvT hZ (hw _ (List.mem_of_getElem? (i := 4) rfl))) (mvT hZ (hw _ (List.mem_of_getElem? (i := 5) rfl))) (by decide) (backOf (W := 1) (rm1 l Z a0 hw [] b13 j13_1 j28_1 (.long (0 : Int64)) (.long (0 : Int64)) h13 n0 Zs13 ge13 A13 f19 f20) hZ (hw _ (List.mem_of_getElem? (i := 5) rfl)) (hw _ (List.mem_of_getElem? (i := 2) rfl)) (by decide) (by decide)) (g := (mkF m 95 #[.val (.long x0), .second, .val (.long x1), .second, .val (.long x2), .second, .val (.long x3), .second, .val (.int x4), .val (.long j13_1), .second, .val (.long j28_1), .second, .val (.int (((x4.toUInt32 >>> ((2 : Int32) &&& 31).toUInt32).toInt32) &&& (3 : Int32))), .val (.ref b3), .unset, .unset] [(.long j28_1), (.long j13_1), (.ref b13), (.ref b13)])) rfl (by rw [hml]; rfl) (Steps.refl _) (a := b13) (argsL := [(.long j13_1), (.long j28_1)]) (rest := [(.ref b13)]) (lenOf own_pd2 rfl) rfl (by show 2 * 0 + _ ≤ _; exact Nat.le_of_eq rfl) (hb hby at_95) (fun _ _ => ⟨rfl, e13, (by decide : 2 + 0 ≤ _), (by decide : 4 + 0 ≤ _)⟩)
            dsimp only [Pt.U, Pt.locs, Pt.cells, Pt.slots] at X21 l21 y21 z21 st21 hQ21
            subst l21 y21 z21
            obtain ⟨rfl, Nq21, g21_0, g21_1, g21_2, g21_3⟩ := hQ21
            have N21 := Fr.app N8 Nq21
            have f22 : Sta Z T21.heap "java/lang/Long$LongCache" "cache" "[Ljava/lang/Long;" (.ref aL) := own_stk f14 g21_0 (allS (own_npE A13) all0)
            have f23 : Arv Z T21.heap aL kc (.object "java/lang/Long") (256 : Int32) vs .null := f15.keep g21_0 (ninS ne13_1 nin0)
            have f24 : Exa Z T21.heap b3 "com/example/infinite_tail/infinitetail/stream/StreamId" := f16.keep g21_0
            have f25 : Fld Z T21.heap b3 "com/example/infinite_tail/infinitetail/stream/StreamId" "milliseconds" "J" (.long x0) := f17.keep g21_0 (ninS ne13_2 nin0)
            have f26 : Fld Z T21.heap b3 "com/example/infinite_tail/infinitetail/stream/StreamId" "sequence" "J" (.long x1) := f18.keep g21_0 (ninS ne13_2 nin0)
            have K21 : Keep h0 T21.heap [] := K13.trans g21_0 (allS (Or.inr hge13) all0)
            have Zs21 : n0 ≤ T21.heap.size := Nat.le_trans Z0 K21.1
            refine own_tr (T' := T21) (F' := (mkF m 98 #[.val (.long x0), .second, .val (.long x1), .second, .val (.long x2), .second, .val (.long x3), .second, .val (.int x4), .val (.long j13_1), .second, .val (.long j28_1), .second, .val (.int (((x4.toUInt32 >>> ((2 : Int32) &&& 31).toUInt32).toInt32) &&& (3 : Int32))), .val (.ref b3), .unset, .unset] [(.ref b13)])) st21 ?_
            refine own_st (T' := T21) (F' := (mkF m 100 #[.val (.long x0), .second, .val (.long x1), .second, .val (.long x2), .second, .val (.long x3), .second, .val (.int x4), .val (.long j13_1), .second, .val (.long j28_1), .second, .val (.int (((x4.toUInt32 >>> ((2 : Int32) &&& 31).toUInt32).toInt32) &&& (3 : Int32))), .val (.ref b3), .val (.ref b13), .unset] [])) (fun _ k => XS.astore X21.here hx rfl (hb hby at_98) rfl rfl (l' := #[.val (.long x0), .second, .val (.long x1), .second, .val (.long x2), .second, .val (.long x3), .second, .val (.int x4), .val (.long j13_1), .second, .val (.long j28_1), .second, .val (.int (((x4.toUInt32 >>> ((2 : Int32) &&& 31).toUInt32).toInt32) &&& (3 : Int32))), .val (.ref b3), .val (.ref b13), .unset]) rfl k) ?_
            refine own_st (T' := T21) (F' := (mkF m 102 #[.val (.long x0), .second, .val (.long x1), .second, .val (.long x2), .second, .val (.long x3), .second, .val (.int x4), .val (.long j13_1), .second, .val (.long j28_1), .second, .val (.int (((x4.toUInt32 >>> ((2 : Int32) &&& 31).toUInt32).toInt32) &&& (3 : Int32))), .val (.ref b3), .val (.ref b13), .unset] [(.long j13_1)])) (fun _ k => XS.lload X21.here hx rfl (hb hby at_100) rfl  k) ?_
            refine own_st (T' := T21) (F' := (mkF m 103 #[.val (.long x0), .second, .val (.long x1), .second, .val (.long x2), .second, .val (.long x3), .second, .val (.int x4), .val (.long j13_1), .second, .val (.long j28_1), .second, .val (.int (((x4.toUInt32 >>> ((2 : Int32) &&& 31).toUInt32).toInt32) &&& (3 : Int32))), .val (.ref b3), .val (.ref b13), .unset] [(.long x0), (.long j13_1)])) (fun _ k => XS.lloadN X21.here hx rfl (hb hby at_102) rfl  k) ?_
            refine own_st (T' := T21) (F' := (mkF m 104 #[.val (.long x0), .second, .val (.long x1), .second, .val (.long x2), .second, .val (.long x3), .second, .val (.int x4), .val (.long j13_1), .second, .val (.long j28_1), .second, .val (.int (((x4.toUInt32 >>> ((2 : Int32) &&& 31).toUInt32).toInt32) &&& (3 : Int32))), .val (.ref b3), .val (.ref b13), .unset] [(.int (lcmpW j13_1 x0))])) (fun _ k => XS.lcmp X21.here hx rfl (hb hby at_103) rfl k) ?_
            have J119_27 : ∀ (j119_1 : Int32), (((¬ (j13_1 = x0)) ∧ j119_1 = (0 : Int32)) ∨ ((j13_1 = x0) ∧ (¬ (j28_1 = x1)) ∧ j119_1 = (0 : Int32)) ∨ ((j13_1 = x0) ∧ (j28_1 = x1) ∧ j119_1 = (1 : Int32))) → own_Go p e below s (Q0 Z x0 x1 x2 x3 x4 aL kc vs h0 n0) room_1.cells room_1.slots T21 (mkF m 119 #[.val (.long x0), .second, .val (.long x1), .second, .val (.long x2), .second, .val (.long x3), .second, .val (.int x4), .val (.long j13_1), .second, .val (.long j28_1), .second, .val (.int (((x4.toUInt32 >>> ((2 : Int32) &&& 31).toUInt32).toInt32) &&& (3 : Int32))), .val (.ref b3), .val (.ref b13), .unset] [(.int j119_1)]) := by
              intro j119_1 hJ119_27
              refine own_st (T' := T21) (F' := (mkF m 121 #[.val (.long x0), .second, .val (.long x1), .second, .val (.long x2), .second, .val (.long x3), .second, .val (.int x4), .val (.long j13_1), .second, .val (.long j28_1), .second, .val (.int (((x4.toUInt32 >>> ((2 : Int32) &&& 31).toUInt32).toInt32) &&& (3 : Int32))), .val (.ref b3), .val (.ref b13), .val (.int j119_1)] [])) (fun _ k => XS.istore X21.here hx rfl (hb hby at_119) rfl (l' := #[.val (.long x0), .second, .val (.long x1), .second, .val (.long x2), .second, .val (.long x3), .second, .val (.int x4), .val (.long j13_1), .second, .val (.long j28_1), .second, .val (.int (((x4.toUInt32 >>> ((2 : Int32) &&& 31).toUInt32).toInt32) &&& (3 : Int32))), .val (.ref b3), .val (.ref b13), .val (.int j119_1)]) rfl k) ?_
              refine own_st (T' := T21) (F' := (mkF m 131 #[.val (.long x0), .second, .val (.long x1), .second, .val (.long x2), .second, .val (.long x3), .second, .val (.int x4), .val (.long j13_1), .second, .val (.long j28_1), .second, .val (.int (((x4.toUInt32 >>> ((2 : Int32) &&& 31).toUInt32).toInt32) &&& (3 : Int32))), .val (.ref b3), .val (.ref b13), .val (.int j119_1)] [])) (fun _ k => XS.goto X21.here hx rfl (pc0 := 121) (pc' := 131) rfl (hb hby at_121) (by decide) (by decide) k) ?_
              refine own_st (T' := T21) (F' := (mkF m 133 #[.val (.long x0), .second, .val (.long x1), .second, .val (.long x2), .second, .val (.long x3), .second, .val (.int x4), .val (.long j13_1), .second, .val (.long j28_1), .second, .val (.int (((x4.toUInt32 >>> ((2 : Int32) &&& 31).toUInt32).toInt32) &&& (3 : Int32))), .val (.ref b3), .val (.ref b13), .val (.int j119_1)] [(.ref b3)])) (fun _ k => XS.aload X21.here hx rfl (hb hby at_131) rfl rfl k) ?_
              refine own_st (T' := T21) (F' := (mkF m 135 #[.val (.long x0), .second, .val (.long x1), .second, .val (.long x2), .second, .val (.long x3), .second, .val (.int x4), .val (.long j13_1), .second, .val (.long j28_1), .second, .val (.int (((x4.toUInt32 >>> ((2 : Int32) &&& 31).toUInt32).toInt32) &&& (3 : Int32))), .val (.ref b3), .val (.ref b13), .val (.int j119_1)] [(.ref b13), (.ref b3)])) (fun _ k => XS.aload X21.here hx rfl (hb hby at_133) rfl rfl k) ?_
              obtain ⟨cq28, kq28, q28a, q28b, q28c⟩ := isOf hZ rfl f24
              obtain ⟨_, _, ⟨T28, L28, k28, n28⟩, -, X28, ⟨Lc28, hQ28, l28, y28, z28⟩, st28⟩ := X21.virtualBack hx (y := (⟨"com/example/infinite_tail/infinitetail/stream/StreamId", "equals", "(Ljava/lang/Object;)Z"⟩ : MethodName)) (z := (⟨"com/example/infinite_tail/infinitetail/stream/StreamId", "equals", "(Ljava/lang/Object;)Z"⟩ : MethodName)) hown (mvT hZ (hw _ (List.mem_of_getElem? (i := 13) rfl))) (mvT hZ (hw _ (List.mem_of_getElem? (i := 14) rfl))) (notFace_of_selects (args := #[]) (mvT hZ (hw _ (List.mem_of_getElem? (i := 16) rfl)))) (mvT hZ (hw _ (List.mem_of_getElem? (i := 16) rfl))) (mvT hZ (hw _ (List.mem_of_getElem? (i := 15) rfl))) (by decide) (backOf (W := 0) (rm3tb l Z a0 hw [] b3 b13 x0 x1 j13_1 j28_1 T21.heap n0 Zs21 f25 f26 g21_2 g21_3 g21_1) hZ (hw _ (List.mem_of_getElem? (i := 17) rfl)) (hw _ (List.mem_of_getElem? (i := 2) rfl)) (by decide) (by decide)) q28a q28c (g := (mkF m 135 #[.val (.long x0), .second, .val (.long x1), .second, .val (.long x2), .second, .val (.long x3), .second, .val (.int x4), .val (.long j13_1), .second, .val (.long j28_1), .second, .val (.int (((x4.toUInt32 >>> ((2 : Int32) &&& 31).toUInt32).toInt32) &&& (3 : Int32))), .val (.ref b3), .val (.ref b13), .val (.int j119_1)] [(.ref b13), (.ref b3)])) rfl (by rw [hml]; rfl) (Steps.refl _) (argsL := [(.ref b13)]) (rest := []) (lenOf own_pd3 rfl) rfl (by show 2 * 0 + _ ≤ _; exact Nat.le_of_eq rfl) (hb hby at_135) (fun _ _ => ⟨rfl, rfl, (by decide : 2 + 0 ≤ _), (by decide : 4 + 0 ≤ _)⟩)
              dsimp only [Pt.U, Pt.locs, Pt.cells, Pt.slots] at X28 l28 y28 z28 st28 hQ28
              subst l28 y28 z28
              obtain ⟨⟨r28, rfl, hr28⟩, Nq28, eq28⟩ := hQ28
              have N28 := Fr.app N21 Nq28
              refine own_tr (T' := T28) (F' := (mkF m 138 #[.val (.long x0), .second, .val (.long x1), .second, .val (.long x2), .second, .val (.long x3), .second, .val (.int x4), .val (.long j13_1), .second, .val (.long j28_1), .second, .val (.int (((x4.toUInt32 >>> ((2 : Int32) &&& 31).toUInt32).toInt32) &&& (3 : Int32))), .val (.ref b3), .val (.ref b13), .val (.int j119_1)] [(.int r28)])) st28 ?_
              refine own_st (T' := T28) (F' := (mkF m 140 #[.val (.long x0), .second, .val (.long x1), .second, .val (.long x2), .second, .val (.long x3), .second, .val (.int x4), .val (.long j13_1), .second, .val (.long j28_1), .second, .val (.int (((x4.toUInt32 >>> ((2 : Int32) &&& 31).toUInt32).toInt32) &&& (3 : Int32))), .val (.ref b3), .val (.ref b13), .val (.int j119_1)] [(.int j119_1), (.int r28)])) (fun _ k => XS.iload X28.here hx rfl (hb hby at_138) rfl  k) ?_
              have J148_29 : ∀ (j148_1 : Int32), (((¬ (r28 = j119_1)) ∧ j148_1 = (0 : Int32)) ∨ ((r28 = j119_1) ∧ j148_1 = (1 : Int32))) → own_Go p e below s (Q0 Z x0 x1 x2 x3 x4 aL kc vs h0 n0) room_1.cells room_1.slots T28 (mkF m 148 #[.val (.long x0), .second, .val (.long x1), .second, .val (.long x2), .second, .val (.long x3), .second, .val (.int x4), .val (.long j13_1), .second, .val (.long j28_1), .second, .val (.int (((x4.toUInt32 >>> ((2 : Int32) &&& 31).toUInt32).toInt32) &&& (3 : Int32))), .val (.ref b3), .val (.ref b13), .val (.int j119_1)] [(.int j148_1)]) := by
                intro j148_1 hJ148_29
                refine own_retN X28 hx hlk (t := .boolean) Bd.returns (by simp) (hb hby at_148) ?_ (by decide) (by decide)
                rw [eq28]
                refine ⟨⟨_, rfl, ?_⟩, N28⟩
                rcases hJ148_29 with ⟨h, rfl⟩ | ⟨h, rfl⟩
                · refine absurd ?_ h
                  rcases hr28 with ⟨a, b1, b2⟩ | ⟨a, b⟩
                  · rcases hJ119_27 with ⟨q, r⟩ | ⟨q, q', r⟩ | ⟨q, q', r⟩
                    · exact absurd b1.symm q
                    · exact absurd b2.symm q'
                    · rw [a, r]
                  · rcases hJ119_27 with ⟨q, r⟩ | ⟨q, q', r⟩ | ⟨q, q', r⟩
                    · rw [a, r]
                    · rw [a, r]
                    · exact absurd ⟨q.symm, q'.symm⟩ b
                · rfl
              refine own_icmp X28 hx (pc' := 147) (pc2 := 143) (hb hby at_140) (by decide) (by decide) rfl (fun (hc140 : ¬ (r28 = j119_1)) => ?_) (fun (hc140 : r28 = j119_1) => ?_)
              ·
                refine own_st (T' := T28) (F' := (mkF m 148 #[.val (.long x0), .second, .val (.long x1), .second, .val (.long x2), .second, .val (.long x3), .second, .val (.int x4), .val (.long j13_1), .second, .val (.long j28_1), .second, .val (.int (((x4.toUInt32 >>> ((2 : Int32) &&& 31).toUInt32).toInt32) &&& (3 : Int32))), .val (.ref b3), .val (.ref b13), .val (.int j119_1)] [(.int (0 : Int32))])) (fun _ k => XS.iconst X28.here hx rfl (hb hby at_147) k) ?_
                exact J148_29 (0 : Int32) (Or.inl (⟨hc140, rfl⟩))
              ·
                refine own_st (T' := T28) (F' := (mkF m 144 #[.val (.long x0), .second, .val (.long x1), .second, .val (.long x2), .second, .val (.long x3), .second, .val (.int x4), .val (.long j13_1), .second, .val (.long j28_1), .second, .val (.int (((x4.toUInt32 >>> ((2 : Int32) &&& 31).toUInt32).toInt32) &&& (3 : Int32))), .val (.ref b3), .val (.ref b13), .val (.int j119_1)] [(.int (1 : Int32))])) (fun _ k => XS.iconst X28.here hx rfl (hb hby at_143) k) ?_
                refine own_st (T' := T28) (F' := (mkF m 148 #[.val (.long x0), .second, .val (.long x1), .second, .val (.long x2), .second, .val (.long x3), .second, .val (.int x4), .val (.long j13_1), .second, .val (.long j28_1), .second, .val (.int (((x4.toUInt32 >>> ((2 : Int32) &&& 31).toUInt32).toInt32) &&& (3 : Int32))), .val (.ref b3), .val (.ref b13), .val (.int j119_1)] [(.int (1 : Int32))])) (fun _ k => XS.goto X28.here hx rfl (pc0 := 144) (pc' := 148) rfl (hb hby at_144) (by decide) (by decide) k) ?_
                exact J148_29 (1 : Int32) (Or.inr (⟨hc140, rfl⟩))
            refine own_iflc X21 hx (pc' := 118) (pc2 := 107) (hb hby at_104) (by decide) (by decide) rfl (fun (hc104 : ¬ (j13_1 = x0)) => ?_) (fun (hc104 : j13_1 = x0) => ?_)
            ·
              refine own_st (T' := T21) (F' := (mkF m 119 #[.val (.long x0), .second, .val (.long x1), .second, .val (.long x2), .second, .val (.long x3), .second, .val (.int x4), .val (.long j13_1), .second, .val (.long j28_1), .second, .val (.int (((x4.toUInt32 >>> ((2 : Int32) &&& 31).toUInt32).toInt32) &&& (3 : Int32))), .val (.ref b3), .val (.ref b13), .unset] [(.int (0 : Int32))])) (fun _ k => XS.iconst X21.here hx rfl (hb hby at_118) k) ?_
              exact J119_27 (0 : Int32) (Or.inl (⟨hc104, rfl⟩))
            ·
              refine own_st (T' := T21) (F' := (mkF m 109 #[.val (.long x0), .second, .val (.long x1), .second, .val (.long x2), .second, .val (.long x3), .second, .val (.int x4), .val (.long j13_1), .second, .val (.long j28_1), .second, .val (.int (((x4.toUInt32 >>> ((2 : Int32) &&& 31).toUInt32).toInt32) &&& (3 : Int32))), .val (.ref b3), .val (.ref b13), .unset] [(.long j28_1)])) (fun _ k => XS.lload X21.here hx rfl (hb hby at_107) rfl  k) ?_
              refine own_st (T' := T21) (F' := (mkF m 110 #[.val (.long x0), .second, .val (.long x1), .second, .val (.long x2), .second, .val (.long x3), .second, .val (.int x4), .val (.long j13_1), .second, .val (.long j28_1), .second, .val (.int (((x4.toUInt32 >>> ((2 : Int32) &&& 31).toUInt32).toInt32) &&& (3 : Int32))), .val (.ref b3), .val (.ref b13), .unset] [(.long x1), (.long j28_1)])) (fun _ k => XS.lloadN X21.here hx rfl (hb hby at_109) rfl  k) ?_
              refine own_st (T' := T21) (F' := (mkF m 111 #[.val (.long x0), .second, .val (.long x1), .second, .val (.long x2), .second, .val (.long x3), .second, .val (.int x4), .val (.long j13_1), .second, .val (.long j28_1), .second, .val (.int (((x4.toUInt32 >>> ((2 : Int32) &&& 31).toUInt32).toInt32) &&& (3 : Int32))), .val (.ref b3), .val (.ref b13), .unset] [(.int (lcmpW j28_1 x1))])) (fun _ k => XS.lcmp X21.here hx rfl (hb hby at_110) rfl k) ?_
              refine own_iflc X21 hx (pc' := 118) (pc2 := 114) (hb hby at_111) (by decide) (by decide) rfl (fun (hc111 : ¬ (j28_1 = x1)) => ?_) (fun (hc111 : j28_1 = x1) => ?_)
              ·
                refine own_st (T' := T21) (F' := (mkF m 119 #[.val (.long x0), .second, .val (.long x1), .second, .val (.long x2), .second, .val (.long x3), .second, .val (.int x4), .val (.long j13_1), .second, .val (.long j28_1), .second, .val (.int (((x4.toUInt32 >>> ((2 : Int32) &&& 31).toUInt32).toInt32) &&& (3 : Int32))), .val (.ref b3), .val (.ref b13), .unset] [(.int (0 : Int32))])) (fun _ k => XS.iconst X21.here hx rfl (hb hby at_118) k) ?_
                exact J119_27 (0 : Int32) (Or.inr (Or.inl (⟨hc104, hc111, rfl⟩)))
              ·
                refine own_st (T' := T21) (F' := (mkF m 115 #[.val (.long x0), .second, .val (.long x1), .second, .val (.long x2), .second, .val (.long x3), .second, .val (.int x4), .val (.long j13_1), .second, .val (.long j28_1), .second, .val (.int (((x4.toUInt32 >>> ((2 : Int32) &&& 31).toUInt32).toInt32) &&& (3 : Int32))), .val (.ref b3), .val (.ref b13), .unset] [(.int (1 : Int32))])) (fun _ k => XS.iconst X21.here hx rfl (hb hby at_114) k) ?_
                refine own_st (T' := T21) (F' := (mkF m 119 #[.val (.long x0), .second, .val (.long x1), .second, .val (.long x2), .second, .val (.long x3), .second, .val (.int x4), .val (.long j13_1), .second, .val (.long j28_1), .second, .val (.int (((x4.toUInt32 >>> ((2 : Int32) &&& 31).toUInt32).toInt32) &&& (3 : Int32))), .val (.ref b3), .val (.ref b13), .unset] [(.int (1 : Int32))])) (fun _ k => XS.goto X21.here hx rfl (pc0 := 115) (pc' := 119) rfl (hb hby at_115) (by decide) (by decide) k) ?_
                exact J119_27 (1 : Int32) (Or.inr (Or.inr (⟨hc104, hc111, rfl⟩)))
        ·
          refine own_st (T' := T8) (F' := (mkF m 70 #[.val (.long x0), .second, .val (.long x1), .second, .val (.long x2), .second, .val (.long x3), .second, .val (.int x4), .val (.long j13_1), .second, .val (.long j28_1), .second, .val (.int (((x4.toUInt32 >>> ((2 : Int32) &&& 31).toUInt32).toInt32) &&& (3 : Int32))), .val (.ref b3), .unset, .unset] [(.long x0)])) (fun _ k => XS.lloadN X8.here hx rfl (hb hby at_69) rfl  k) ?_
          obtain ⟨_, _, ⟨T30, L30, k30, n30⟩, -, X30, ⟨Lc30, hQ30, l30, y30, z30⟩, st30⟩ := Jvm.LawKit.callS X8 hx (y := (⟨"java/lang/Long", "valueOf", "(J)Ljava/lang/Long;"⟩ : MethodName)) hown (mvT hZ (hw _ (List.mem_of_getElem? (i := 20) rfl))) (mvT hZ (hw _ (List.mem_of_getElem? (i := 21) rfl))) (mvT hZ (hw _ (List.mem_of_getElem? (i := 22) rfl))) (mvT hZ (hw _ (List.mem_of_getElem? (i := 23) rfl))) (by decide) (backOf (W := 0) (rm4 l Z a0 hw [] x0 aL kc vs T8.heap n0 Zs8 f9 f10 (fun i hi => by obtain ⟨b, q, E⟩ := hall i hi; exact ⟨b, q, E.keep K8⟩)) hZ (hw _ (List.mem_of_getElem? (i := 23) rfl)) (hw _ (List.mem_of_getElem? (i := 22) rfl)) (by decide) (by decide)) (g := (mkF m 70 #[.val (.long x0), .second, .val (.long x1), .second, .val (.long x2), .second, .val (.long x3), .second, .val (.int x4), .val (.long j13_1), .second, .val (.long j28_1), .second, .val (.int (((x4.toUInt32 >>> ((2 : Int32) &&& 31).toUInt32).toInt32) &&& (3 : Int32))), .val (.ref b3), .unset, .unset] [(.long x0)])) rfl (by rw [hml]; rfl) (argsL := [(.long x0)]) (rest := []) (lenOf own_pd4 rfl) rfl (by show 2 * 0 + _ ≤ _; exact Nat.le_of_eq rfl) (hb hby at_70) (fun _ _ => ⟨rfl, rfl, (by decide : 1 + 1 ≤ _), (by decide : 2 + 1 ≤ _)⟩)
          dsimp only [Pt.U, Pt.locs, Pt.cells, Pt.slots] at X30 l30 y30 z30 st30 hQ30
          subst l30 y30 z30
          obtain ⟨⟨r30, rfl, hr30⟩, Nq30, g30_0⟩ := hQ30
          have N30 := Fr.app N8 Nq30
          have f31 : Sta Z T30.heap "java/lang/Long$LongCache" "cache" "[Ljava/lang/Long;" (.ref aL) := own_stk f9 g30_0 all0
          have f32 : Arv Z T30.heap aL kc (.object "java/lang/Long") (256 : Int32) vs .null := f10.keep g30_0 nin0
          have f33 : Exa Z T30.heap b3 "com/example/infinite_tail/infinitetail/stream/StreamId" := g8_1.keep g30_0
          have f34 : Fld Z T30.heap b3 "com/example/infinite_tail/infinitetail/stream/StreamId" "milliseconds" "J" (.long x0) := g8_2.keep g30_0 nin0
          have f35 : Fld Z T30.heap b3 "com/example/infinite_tail/infinitetail/stream/StreamId" "sequence" "J" (.long x1) := g8_3.keep g30_0 nin0
          have K30 : Keep h0 T30.heap [] := K8.trans g30_0 all0
          have Zs30 : n0 ≤ T30.heap.size := Nat.le_trans Z0 K30.1
          refine own_st (T' := T30) (F' := (mkF m 73 #[.val (.long x0), .second, .val (.long x1), .second, .val (.long x2), .second, .val (.long x3), .second, .val (.int x4), .val (.long j13_1), .second, .val (.long j28_1), .second, .val (.int (((x4.toUInt32 >>> ((2 : Int32) &&& 31).toUInt32).toInt32) &&& (3 : Int32))), .val (.ref b3), .unset, .unset] [(.ref r30)])) (fun _ k => st30 _ k) ?_
          refine own_st (T' := T30) (F' := (mkF m 75 #[.val (.long x0), .second, .val (.long x1), .second, .val (.long x2), .second, .val (.long x3), .second, .val (.int x4), .val (.long j13_1), .second, .val (.long j28_1), .second, .val (.int (((x4.toUInt32 >>> ((2 : Int32) &&& 31).toUInt32).toInt32) &&& (3 : Int32))), .val (.ref b3), .val (.ref r30), .unset] [])) (fun _ k => XS.astore X30.here hx rfl (hb hby at_73) rfl rfl (l' := #[.val (.long x0), .second, .val (.long x1), .second, .val (.long x2), .second, .val (.long x3), .second, .val (.int x4), .val (.long j13_1), .second, .val (.long j28_1), .second, .val (.int (((x4.toUInt32 >>> ((2 : Int32) &&& 31).toUInt32).toInt32) &&& (3 : Int32))), .val (.ref b3), .val (.ref r30), .unset]) rfl k) ?_
          refine own_st (T' := T30) (F' := (mkF m 76 #[.val (.long x0), .second, .val (.long x1), .second, .val (.long x2), .second, .val (.long x3), .second, .val (.int x4), .val (.long j13_1), .second, .val (.long j28_1), .second, .val (.int (((x4.toUInt32 >>> ((2 : Int32) &&& 31).toUInt32).toInt32) &&& (3 : Int32))), .val (.ref b3), .val (.ref r30), .unset] [(.int (0 : Int32))])) (fun _ k => XS.iconst X30.here hx rfl (hb hby at_75) k) ?_
          refine own_st (T' := T30) (F' := (mkF m 78 #[.val (.long x0), .second, .val (.long x1), .second, .val (.long x2), .second, .val (.long x3), .second, .val (.int x4), .val (.long j13_1), .second, .val (.long j28_1), .second, .val (.int (((x4.toUInt32 >>> ((2 : Int32) &&& 31).toUInt32).toInt32) &&& (3 : Int32))), .val (.ref b3), .val (.ref r30), .val (.int (0 : Int32))] [])) (fun _ k => XS.istore X30.here hx rfl (hb hby at_76) rfl (l' := #[.val (.long x0), .second, .val (.long x1), .second, .val (.long x2), .second, .val (.long x3), .second, .val (.int x4), .val (.long j13_1), .second, .val (.long j28_1), .second, .val (.int (((x4.toUInt32 >>> ((2 : Int32) &&& 31).toUInt32).toInt32) &&& (3 : Int32))), .val (.ref b3), .val (.ref r30), .val (.int (0 : Int32))]) rfl k) ?_
          refine own_st (T' := T30) (F' := (mkF m 131 #[.val (.long x0), .second, .val (.long x1), .second, .val (.long x2), .second, .val (.long x3), .second, .val (.int x4), .val (.long j13_1), .second, .val (.long j28_1), .second, .val (.int (((x4.toUInt32 >>> ((2 : Int32) &&& 31).toUInt32).toInt32) &&& (3 : Int32))), .val (.ref b3), .val (.ref r30), .val (.int (0 : Int32))] [])) (fun _ k => XS.goto X30.here hx rfl (pc0 := 78) (pc' := 131) rfl (hb hby at_78) (by decide) (by decide) k) ?_
          refine own_st (T' := T30) (F' := (mkF m 133 #[.val (.long x0), .second, .val (.long x1), .second, .val (.long x2), .second, .val (.long x3), .second, .val (.int x4), .val (.long j13_1), .second, .val (.long j28_1), .second, .val (.int (((x4.toUInt32 >>> ((2 : Int32) &&& 31).toUInt32).toInt32) &&& (3 : Int32))), .val (.ref b3), .val (.ref r30), .val (.int (0 : Int32))] [(.ref b3)])) (fun _ k => XS.aload X30.here hx rfl (hb hby at_131) rfl rfl k) ?_
          refine own_st (T' := T30) (F' := (mkF m 135 #[.val (.long x0), .second, .val (.long x1), .second, .val (.long x2), .second, .val (.long x3), .second, .val (.int x4), .val (.long j13_1), .second, .val (.long j28_1), .second, .val (.int (((x4.toUInt32 >>> ((2 : Int32) &&& 31).toUInt32).toInt32) &&& (3 : Int32))), .val (.ref b3), .val (.ref r30), .val (.int (0 : Int32))] [(.ref r30), (.ref b3)])) (fun _ k => XS.aload X30.here hx rfl (hb hby at_133) rfl rfl k) ?_
          obtain ⟨cq36, kq36, q36a, q36b, q36c⟩ := isOf hZ rfl f33
          obtain ⟨_, _, ⟨T36, L36, k36, n36⟩, -, X36, ⟨Lc36, hQ36, l36, y36, z36⟩, st36⟩ := X30.virtualBack hx (y := (⟨"com/example/infinite_tail/infinitetail/stream/StreamId", "equals", "(Ljava/lang/Object;)Z"⟩ : MethodName)) (z := (⟨"com/example/infinite_tail/infinitetail/stream/StreamId", "equals", "(Ljava/lang/Object;)Z"⟩ : MethodName)) hown (mvT hZ (hw _ (List.mem_of_getElem? (i := 13) rfl))) (mvT hZ (hw _ (List.mem_of_getElem? (i := 14) rfl))) (notFace_of_selects (args := #[]) (mvT hZ (hw _ (List.mem_of_getElem? (i := 16) rfl)))) (mvT hZ (hw _ (List.mem_of_getElem? (i := 16) rfl))) (mvT hZ (hw _ (List.mem_of_getElem? (i := 15) rfl))) (by decide) (backOf (W := 0) (rm3tl l Z a0 hw [] b3 r30  T30.heap n0 Zs30 hr30 hNI) hZ (hw _ (List.mem_of_getElem? (i := 17) rfl)) (hw _ (List.mem_of_getElem? (i := 2) rfl)) (by decide) (by decide)) q36a q36c (g := (mkF m 135 #[.val (.long x0), .second, .val (.long x1), .second, .val (.long x2), .second, .val (.long x3), .second, .val (.int x4), .val (.long j13_1), .second, .val (.long j28_1), .second, .val (.int (((x4.toUInt32 >>> ((2 : Int32) &&& 31).toUInt32).toInt32) &&& (3 : Int32))), .val (.ref b3), .val (.ref r30), .val (.int (0 : Int32))] [(.ref r30), (.ref b3)])) rfl (by rw [hml]; rfl) (Steps.refl _) (argsL := [(.ref r30)]) (rest := []) (lenOf own_pd3 rfl) rfl (by show 2 * 0 + _ ≤ _; exact Nat.le_of_eq rfl) (hb hby at_135) (fun _ _ => ⟨rfl, rfl, (by decide : 2 + 0 ≤ _), (by decide : 3 + 0 ≤ _)⟩)
          dsimp only [Pt.U, Pt.locs, Pt.cells, Pt.slots] at X36 l36 y36 z36 st36 hQ36
          subst l36 y36 z36
          obtain ⟨⟨r36, rfl, hr36⟩, Nq36, eq36⟩ := hQ36
          have N36 := Fr.app N30 Nq36
          refine own_tr (T' := T36) (F' := (mkF m 138 #[.val (.long x0), .second, .val (.long x1), .second, .val (.long x2), .second, .val (.long x3), .second, .val (.int x4), .val (.long j13_1), .second, .val (.long j28_1), .second, .val (.int (((x4.toUInt32 >>> ((2 : Int32) &&& 31).toUInt32).toInt32) &&& (3 : Int32))), .val (.ref b3), .val (.ref r30), .val (.int (0 : Int32))] [(.int r36)])) st36 ?_
          refine own_st (T' := T36) (F' := (mkF m 140 #[.val (.long x0), .second, .val (.long x1), .second, .val (.long x2), .second, .val (.long x3), .second, .val (.int x4), .val (.long j13_1), .second, .val (.long j28_1), .second, .val (.int (((x4.toUInt32 >>> ((2 : Int32) &&& 31).toUInt32).toInt32) &&& (3 : Int32))), .val (.ref b3), .val (.ref r30), .val (.int (0 : Int32))] [(.int (0 : Int32)), (.int r36)])) (fun _ k => XS.iload X36.here hx rfl (hb hby at_138) rfl  k) ?_
          have J148_37 : ∀ (j148_1 : Int32), (((¬ (r36 = (0 : Int32))) ∧ j148_1 = (0 : Int32)) ∨ ((r36 = (0 : Int32)) ∧ j148_1 = (1 : Int32))) → own_Go p e below s (Q0 Z x0 x1 x2 x3 x4 aL kc vs h0 n0) room_1.cells room_1.slots T36 (mkF m 148 #[.val (.long x0), .second, .val (.long x1), .second, .val (.long x2), .second, .val (.long x3), .second, .val (.int x4), .val (.long j13_1), .second, .val (.long j28_1), .second, .val (.int (((x4.toUInt32 >>> ((2 : Int32) &&& 31).toUInt32).toInt32) &&& (3 : Int32))), .val (.ref b3), .val (.ref r30), .val (.int (0 : Int32))] [(.int j148_1)]) := by
            intro j148_1 hJ148_37
            refine own_retN X36 hx hlk (t := .boolean) Bd.returns (by simp) (hb hby at_148) ?_ (by decide) (by decide)
            rw [eq36]
            refine ⟨⟨_, rfl, ?_⟩, N36⟩
            rcases hJ148_37 with ⟨h, rfl⟩ | ⟨h, rfl⟩
            · exact absurd (by first | exact hr36 | (rcases hr36 with ⟨a, _⟩ | ⟨_, b⟩; exact a; exact absurd ⟨rfl, rfl⟩ b)) h
            · rfl
          refine own_icmp X36 hx (pc' := 147) (pc2 := 143) (hb hby at_140) (by decide) (by decide) rfl (fun (hc140 : ¬ (r36 = (0 : Int32))) => ?_) (fun (hc140 : r36 = (0 : Int32)) => ?_)
          ·
            refine own_st (T' := T36) (F' := (mkF m 148 #[.val (.long x0), .second, .val (.long x1), .second, .val (.long x2), .second, .val (.long x3), .second, .val (.int x4), .val (.long j13_1), .second, .val (.long j28_1), .second, .val (.int (((x4.toUInt32 >>> ((2 : Int32) &&& 31).toUInt32).toInt32) &&& (3 : Int32))), .val (.ref b3), .val (.ref r30), .val (.int (0 : Int32))] [(.int (0 : Int32))])) (fun _ k => XS.iconst X36.here hx rfl (hb hby at_147) k) ?_
            exact J148_37 (0 : Int32) (Or.inl (⟨hc140, rfl⟩))
          ·
            refine own_st (T' := T36) (F' := (mkF m 144 #[.val (.long x0), .second, .val (.long x1), .second, .val (.long x2), .second, .val (.long x3), .second, .val (.int x4), .val (.long j13_1), .second, .val (.long j28_1), .second, .val (.int (((x4.toUInt32 >>> ((2 : Int32) &&& 31).toUInt32).toInt32) &&& (3 : Int32))), .val (.ref b3), .val (.ref r30), .val (.int (0 : Int32))] [(.int (1 : Int32))])) (fun _ k => XS.iconst X36.here hx rfl (hb hby at_143) k) ?_
            refine own_st (T' := T36) (F' := (mkF m 148 #[.val (.long x0), .second, .val (.long x1), .second, .val (.long x2), .second, .val (.long x3), .second, .val (.int x4), .val (.long j13_1), .second, .val (.long j28_1), .second, .val (.int (((x4.toUInt32 >>> ((2 : Int32) &&& 31).toUInt32).toInt32) &&& (3 : Int32))), .val (.ref b3), .val (.ref r30), .val (.int (0 : Int32))] [(.int (1 : Int32))])) (fun _ k => XS.goto X36.here hx rfl (pc0 := 144) (pc' := 148) rfl (hb hby at_144) (by decide) (by decide) k) ?_
            exact J148_37 (1 : Int32) (Or.inr (⟨hc140, rfl⟩))
      ·
        refine own_st (T' := T8) (F' := (mkF m 55 #[.val (.long x0), .second, .val (.long x1), .second, .val (.long x2), .second, .val (.long x3), .second, .val (.int x4), .val (.long j13_1), .second, .val (.long j28_1), .second, .val (.int (((x4.toUInt32 >>> ((2 : Int32) &&& 31).toUInt32).toInt32) &&& (3 : Int32))), .val (.ref b3), .unset, .unset] [.null])) (fun _ k => XS.aconstNull X8.here hx rfl (hb hby at_54) k) ?_
        refine own_st (T' := T8) (F' := (mkF m 57 #[.val (.long x0), .second, .val (.long x1), .second, .val (.long x2), .second, .val (.long x3), .second, .val (.int x4), .val (.long j13_1), .second, .val (.long j28_1), .second, .val (.int (((x4.toUInt32 >>> ((2 : Int32) &&& 31).toUInt32).toInt32) &&& (3 : Int32))), .val (.ref b3), .val .null, .unset] [])) (fun _ k => XS.astore X8.here hx rfl (hb hby at_55) rfl rfl (l' := #[.val (.long x0), .second, .val (.long x1), .second, .val (.long x2), .second, .val (.long x3), .second, .val (.int x4), .val (.long j13_1), .second, .val (.long j28_1), .second, .val (.int (((x4.toUInt32 >>> ((2 : Int32) &&& 31).toUInt32).toInt32) &&& (3 : Int32))), .val (.ref b3), .val .null, .unset]) rfl k) ?_
        refine own_st (T' := T8) (F' := (mkF m 58 #[.val (.long x0), .second, .val (.long x1), .second, .val (.long x2), .second, .val (.long x3), .second, .val (.int x4), .val (.long j13_1), .second, .val (.long j28_1), .second, .val (.int (((x4.toUInt32 >>> ((2 : Int32) &&& 31).toUInt32).toInt32) &&& (3 : Int32))), .val (.ref b3), .val .null, .unset] [(.int (0 : Int32))])) (fun _ k => XS.iconst X8.here hx rfl (hb hby at_57) k) ?_
        refine own_st (T' := T8) (F' := (mkF m 60 #[.val (.long x0), .second, .val (.long x1), .second, .val (.long x2), .second, .val (.long x3), .second, .val (.int x4), .val (.long j13_1), .second, .val (.long j28_1), .second, .val (.int (((x4.toUInt32 >>> ((2 : Int32) &&& 31).toUInt32).toInt32) &&& (3 : Int32))), .val (.ref b3), .val .null, .val (.int (0 : Int32))] [])) (fun _ k => XS.istore X8.here hx rfl (hb hby at_58) rfl (l' := #[.val (.long x0), .second, .val (.long x1), .second, .val (.long x2), .second, .val (.long x3), .second, .val (.int x4), .val (.long j13_1), .second, .val (.long j28_1), .second, .val (.int (((x4.toUInt32 >>> ((2 : Int32) &&& 31).toUInt32).toInt32) &&& (3 : Int32))), .val (.ref b3), .val .null, .val (.int (0 : Int32))]) rfl k) ?_
        refine own_st (T' := T8) (F' := (mkF m 131 #[.val (.long x0), .second, .val (.long x1), .second, .val (.long x2), .second, .val (.long x3), .second, .val (.int x4), .val (.long j13_1), .second, .val (.long j28_1), .second, .val (.int (((x4.toUInt32 >>> ((2 : Int32) &&& 31).toUInt32).toInt32) &&& (3 : Int32))), .val (.ref b3), .val .null, .val (.int (0 : Int32))] [])) (fun _ k => XS.goto X8.here hx rfl (pc0 := 60) (pc' := 131) rfl (hb hby at_60) (by decide) (by decide) k) ?_
        refine own_st (T' := T8) (F' := (mkF m 133 #[.val (.long x0), .second, .val (.long x1), .second, .val (.long x2), .second, .val (.long x3), .second, .val (.int x4), .val (.long j13_1), .second, .val (.long j28_1), .second, .val (.int (((x4.toUInt32 >>> ((2 : Int32) &&& 31).toUInt32).toInt32) &&& (3 : Int32))), .val (.ref b3), .val .null, .val (.int (0 : Int32))] [(.ref b3)])) (fun _ k => XS.aload X8.here hx rfl (hb hby at_131) rfl rfl k) ?_
        refine own_st (T' := T8) (F' := (mkF m 135 #[.val (.long x0), .second, .val (.long x1), .second, .val (.long x2), .second, .val (.long x3), .second, .val (.int x4), .val (.long j13_1), .second, .val (.long j28_1), .second, .val (.int (((x4.toUInt32 >>> ((2 : Int32) &&& 31).toUInt32).toInt32) &&& (3 : Int32))), .val (.ref b3), .val .null, .val (.int (0 : Int32))] [.null, (.ref b3)])) (fun _ k => XS.aload X8.here hx rfl (hb hby at_133) rfl rfl k) ?_
        obtain ⟨cq38, kq38, q38a, q38b, q38c⟩ := isOf hZ rfl g8_1
        obtain ⟨_, _, ⟨T38, L38, k38, n38⟩, -, X38, ⟨Lc38, hQ38, l38, y38, z38⟩, st38⟩ := X8.virtualBack hx (y := (⟨"com/example/infinite_tail/infinitetail/stream/StreamId", "equals", "(Ljava/lang/Object;)Z"⟩ : MethodName)) (z := (⟨"com/example/infinite_tail/infinitetail/stream/StreamId", "equals", "(Ljava/lang/Object;)Z"⟩ : MethodName)) hown (mvT hZ (hw _ (List.mem_of_getElem? (i := 13) rfl))) (mvT hZ (hw _ (List.mem_of_getElem? (i := 14) rfl))) (notFace_of_selects (args := #[]) (mvT hZ (hw _ (List.mem_of_getElem? (i := 16) rfl)))) (mvT hZ (hw _ (List.mem_of_getElem? (i := 16) rfl))) (mvT hZ (hw _ (List.mem_of_getElem? (i := 15) rfl))) (by decide) (backOf (W := 0) (rm3tn l Z a0 hw [] b3  T8.heap n0 Zs8 ) hZ (hw _ (List.mem_of_getElem? (i := 17) rfl)) (hw _ (List.mem_of_getElem? (i := 2) rfl)) (by decide) (by decide)) q38a q38c (g := (mkF m 135 #[.val (.long x0), .second, .val (.long x1), .second, .val (.long x2), .second, .val (.long x3), .second, .val (.int x4), .val (.long j13_1), .second, .val (.long j28_1), .second, .val (.int (((x4.toUInt32 >>> ((2 : Int32) &&& 31).toUInt32).toInt32) &&& (3 : Int32))), .val (.ref b3), .val .null, .val (.int (0 : Int32))] [.null, (.ref b3)])) rfl (by rw [hml]; rfl) (Steps.refl _) (argsL := [.null]) (rest := []) (lenOf own_pd3 rfl) rfl (by show 2 * 0 + _ ≤ _; exact Nat.le_of_eq rfl) (hb hby at_135) (fun _ _ => ⟨rfl, rfl, (by decide : 1 + 0 ≤ _), (by decide : 2 + 0 ≤ _)⟩)
        dsimp only [Pt.U, Pt.locs, Pt.cells, Pt.slots] at X38 l38 y38 z38 st38 hQ38
        subst l38 y38 z38
        obtain ⟨⟨r38, rfl, hr38⟩, Nq38, eq38⟩ := hQ38
        have N38 := Fr.app N8 Nq38
        refine own_tr (T' := T38) (F' := (mkF m 138 #[.val (.long x0), .second, .val (.long x1), .second, .val (.long x2), .second, .val (.long x3), .second, .val (.int x4), .val (.long j13_1), .second, .val (.long j28_1), .second, .val (.int (((x4.toUInt32 >>> ((2 : Int32) &&& 31).toUInt32).toInt32) &&& (3 : Int32))), .val (.ref b3), .val .null, .val (.int (0 : Int32))] [(.int r38)])) st38 ?_
        refine own_st (T' := T38) (F' := (mkF m 140 #[.val (.long x0), .second, .val (.long x1), .second, .val (.long x2), .second, .val (.long x3), .second, .val (.int x4), .val (.long j13_1), .second, .val (.long j28_1), .second, .val (.int (((x4.toUInt32 >>> ((2 : Int32) &&& 31).toUInt32).toInt32) &&& (3 : Int32))), .val (.ref b3), .val .null, .val (.int (0 : Int32))] [(.int (0 : Int32)), (.int r38)])) (fun _ k => XS.iload X38.here hx rfl (hb hby at_138) rfl  k) ?_
        have J148_39 : ∀ (j148_1 : Int32), (((¬ (r38 = (0 : Int32))) ∧ j148_1 = (0 : Int32)) ∨ ((r38 = (0 : Int32)) ∧ j148_1 = (1 : Int32))) → own_Go p e below s (Q0 Z x0 x1 x2 x3 x4 aL kc vs h0 n0) room_1.cells room_1.slots T38 (mkF m 148 #[.val (.long x0), .second, .val (.long x1), .second, .val (.long x2), .second, .val (.long x3), .second, .val (.int x4), .val (.long j13_1), .second, .val (.long j28_1), .second, .val (.int (((x4.toUInt32 >>> ((2 : Int32) &&& 31).toUInt32).toInt32) &&& (3 : Int32))), .val (.ref b3), .val .null, .val (.int (0 : Int32))] [(.int j148_1)]) := by
          intro j148_1 hJ148_39
          refine own_retN X38 hx hlk (t := .boolean) Bd.returns (by simp) (hb hby at_148) ?_ (by decide) (by decide)
          rw [eq38]
          refine ⟨⟨_, rfl, ?_⟩, N38⟩
          rcases hJ148_39 with ⟨h, rfl⟩ | ⟨h, rfl⟩
          · exact absurd (by first | exact hr38 | (rcases hr38 with ⟨a, _⟩ | ⟨_, b⟩; exact a; exact absurd ⟨rfl, rfl⟩ b)) h
          · rfl
        refine own_icmp X38 hx (pc' := 147) (pc2 := 143) (hb hby at_140) (by decide) (by decide) rfl (fun (hc140 : ¬ (r38 = (0 : Int32))) => ?_) (fun (hc140 : r38 = (0 : Int32)) => ?_)
        ·
          refine own_st (T' := T38) (F' := (mkF m 148 #[.val (.long x0), .second, .val (.long x1), .second, .val (.long x2), .second, .val (.long x3), .second, .val (.int x4), .val (.long j13_1), .second, .val (.long j28_1), .second, .val (.int (((x4.toUInt32 >>> ((2 : Int32) &&& 31).toUInt32).toInt32) &&& (3 : Int32))), .val (.ref b3), .val .null, .val (.int (0 : Int32))] [(.int (0 : Int32))])) (fun _ k => XS.iconst X38.here hx rfl (hb hby at_147) k) ?_
          exact J148_39 (0 : Int32) (Or.inl (⟨hc140, rfl⟩))
        ·
          refine own_st (T' := T38) (F' := (mkF m 144 #[.val (.long x0), .second, .val (.long x1), .second, .val (.long x2), .second, .val (.long x3), .second, .val (.int x4), .val (.long j13_1), .second, .val (.long j28_1), .second, .val (.int (((x4.toUInt32 >>> ((2 : Int32) &&& 31).toUInt32).toInt32) &&& (3 : Int32))), .val (.ref b3), .val .null, .val (.int (0 : Int32))] [(.int (1 : Int32))])) (fun _ k => XS.iconst X38.here hx rfl (hb hby at_143) k) ?_
          refine own_st (T' := T38) (F' := (mkF m 148 #[.val (.long x0), .second, .val (.long x1), .second, .val (.long x2), .second, .val (.long x3), .second, .val (.int x4), .val (.long j13_1), .second, .val (.long j28_1), .second, .val (.int (((x4.toUInt32 >>> ((2 : Int32) &&& 31).toUInt32).toInt32) &&& (3 : Int32))), .val (.ref b3), .val .null, .val (.int (0 : Int32))] [(.int (1 : Int32))])) (fun _ k => XS.goto X38.here hx rfl (pc0 := 144) (pc' := 148) rfl (hb hby at_144) (by decide) (by decide) k) ?_
          exact J148_39 (1 : Int32) (Or.inr (⟨hc140, rfl⟩))
    refine own_ifc X0 hx (pc' := 26) (pc2 := 22) (hb hby at_19) (by decide) (by decide) rfl (fun (hc19 : (x4 &&& (2 : Int32)) = (0 : Int32)) => ?_) (fun (hc19 : ¬ ((x4 &&& (2 : Int32)) = (0 : Int32))) => ?_)
    ·
      refine own_st (T' := s₁) (F' := (mkF m 28 #[.val (.long x0), .second, .val (.long x1), .second, .val (.long x2), .second, .val (.long x3), .second, .val (.int x4), .val (.long j13_1), .second, .unset, .unset, .unset, .unset, .unset, .unset] [(.long x3)])) (fun _ k => XS.lload X0.here hx rfl (hb hby at_26) rfl  k) ?_
      exact J28_2 x3 (Or.inl (⟨hc19, rfl⟩))
    ·
      refine own_st (T' := s₁) (F' := (mkF m 23 #[.val (.long x0), .second, .val (.long x1), .second, .val (.long x2), .second, .val (.long x3), .second, .val (.int x4), .val (.long j13_1), .second, .unset, .unset, .unset, .unset, .unset, .unset] [(.long x1)])) (fun _ k => XS.lloadN X0.here hx rfl (hb hby at_22) rfl  k) ?_
      refine own_st (T' := s₁) (F' := (mkF m 28 #[.val (.long x0), .second, .val (.long x1), .second, .val (.long x2), .second, .val (.long x3), .second, .val (.int x4), .val (.long j13_1), .second, .unset, .unset, .unset, .unset, .unset, .unset] [(.long x1)])) (fun _ k => XS.goto X0.here hx rfl (pc0 := 23) (pc' := 28) rfl (hb hby at_23) (by decide) (by decide) k) ?_
      exact J28_2 x1 (Or.inr (⟨hc19, rfl⟩))
  refine own_ifc X0 hx (pc' := 11) (pc2 := 7) (hb hby at_4) (by decide) (by decide) rfl (fun (hc4 : (x4 &&& (1 : Int32)) = (0 : Int32)) => ?_) (fun (hc4 : ¬ ((x4 &&& (1 : Int32)) = (0 : Int32))) => ?_)
  ·
    refine own_st (T' := s₁) (F' := (mkF m 13 #[.val (.long x0), .second, .val (.long x1), .second, .val (.long x2), .second, .val (.long x3), .second, .val (.int x4), .unset, .unset, .unset, .unset, .unset, .unset, .unset, .unset] [(.long x2)])) (fun _ k => XS.lload X0.here hx rfl (hb hby at_11) rfl  k) ?_
    exact J13_1 x2 (Or.inl (⟨hc4, rfl⟩))
  ·
    refine own_st (T' := s₁) (F' := (mkF m 8 #[.val (.long x0), .second, .val (.long x1), .second, .val (.long x2), .second, .val (.long x3), .second, .val (.int x4), .unset, .unset, .unset, .unset, .unset, .unset, .unset, .unset] [(.long x0)])) (fun _ k => XS.lloadN X0.here hx rfl (hb hby at_7) rfl  k) ?_
    refine own_st (T' := s₁) (F' := (mkF m 13 #[.val (.long x0), .second, .val (.long x1), .second, .val (.long x2), .second, .val (.long x3), .second, .val (.int x4), .unset, .unset, .unset, .unset, .unset, .unset, .unset, .unset] [(.long x0)])) (fun _ k => XS.goto X0.here hx rfl (pc0 := 8) (pc' := 13) rfl (hb hby at_8) (by decide) (by decide) k) ?_
    exact J13_1 x0 (Or.inr (⟨hc4, rfl⟩))
set_option maxRecDepth 65536 in
set_option maxHeartbeats 40000000 in
theorem comes_1 {Post : Tables → Env → Array Value → State → Outcome → State → Prop} (hpost : ∀ tb e args s v u, (limb_1_1.after args s (.returned v) u = true ∧ limb_1_2.after args s (.returned v) u = true ∧ True) → FrameEnd s (.returned v) u (Jvm.fieldLocs frame_1_writes args s ++ Jvm.arrayLocs frame_1_arrays args s ++ Jvm.staticLocs frame_1_statics s) 16 128 → Post tb e args s (.returned v) u) :
    ArmFor flags0 classFile x code maxLocals ret World_1 tables_1 room_1 Calls_1 rest_1 Pre_1 Post := by
  intro l hfl _ _ p e ha hc hk s m args below hf hA hF happ hP
  obtain ⟨hcalls, hrest, hpre⟩ := hP
  obtain ⟨-, -, -, hnamed, -, -, -, hat⟩ := (Spec.applies_iff hf).mp happ
  obtain ⟨hg, hn⟩ := and_e (Cond.before_iff.mp (show (Jvm.Cond.and given_1 narrow_1).before args s = true from hpre))
  obtain ⟨g0, hg0⟩ := and_e hg
  obtain ⟨g1, hg1⟩ := and_e hg0
  obtain ⟨g2, hg2⟩ := and_e hg1
  obtain ⟨g3, hg3⟩ := and_e hg2
  obtain ⟨g4, hg4⟩ := and_e hg3
  obtain ⟨w0, w1, w2, w3, w4, rfl⟩ : ∃ w0 w1 w2 w3 w4 : Value, args = #[w0, w1, w2, w3, w4] := by
    have hs : args.size = 5 := by simpa [Cond.value, given_1] using g0
    obtain ⟨L⟩ := args
    match L, hs with
    | [w0, w1, w2, w3, w4], _ => exact ⟨w0, w1, w2, w3, w4, rfl⟩
  have hw := fun d (hd : d ∈ tables_1) => atoms_spec (ws := Jvm.Cond.code x code maxLocals ret :: tables_1) hat d (List.mem_cons_of_mem _ hd)
  have hfit : Fit s := fun {y c} hc i hi => by
    obtain ⟨ha, rfl⟩ := Array.getElem?_eq_some_iff.mp hc
    have q := List.all_eq_true.mp ((Array.all_eq_true_iff_forall_mem.mp hF) _ (Array.getElem_mem ha)) i (List.mem_range.mpr hi)
    simpa [Array.getElem?_eq_getElem hi] using q
  obtain ⟨i0, ei0⟩ := isL_v g1
  obtain rfl : w0 = (.long i0) := Option.some.inj ei0
  obtain ⟨i1, ei1⟩ := isL_v g2
  obtain rfl : w1 = (.long i1) := Option.some.inj ei1
  obtain ⟨i2, ei2⟩ := isL_v g3
  obtain rfl : w2 = (.long i2) := Option.some.inj ei2
  obtain ⟨i3, ei3⟩ := isL_v g4
  obtain rfl : w3 = (.long i3) := Option.some.inj ei3
  obtain ⟨i4, ei4⟩ := is_v hg4
  obtain rfl : w4 = (.int i4) := Option.some.inj ei4
  obtain ⟨hsets, hown0⟩ := atoms_of _ (rest_1_c_eq ▸ (show rest_1_c.before _ s = true from hrest))
  have s2 := Cond.before_iff.mp (hsets _ (List.mem_of_getElem? (i := 2) rfl))
  have s4 := Cond.before_iff.mp (hsets _ (List.mem_of_getElem? (i := 4) rfl))
  have s5 := Cond.before_iff.mp (hsets _ (List.mem_of_getElem? (i := 5) rfl))
  obtain ⟨aL, ev⟩ := arr_v s2
  obtain ⟨cL, AL⟩ := Arr.start ev s2
  have Sc := Sta.start ev (Or.inl (hsets _ (List.mem_of_getElem? (i := 1) rfl)))
  have lL := own_len ev AL s4
  have Vc := own_arvl (dv := .null) hfit AL lL.1 lL.2 (by decide)
  have zL : cL.slots.size = 256 := by
    have := len_toInt lL.1
    rw [lL.2] at this
    have e : (256 : Int32).toInt = 256 := rfl
    omega
  have hall := own_hall (fun _ => ev) AL lL.1 s5
  have hNI := own_no (hw _ (List.mem_of_getElem? (i := 41) rfl)) (hw _ (List.mem_of_getElem? (i := 1) rfl)) (NS.step (hw _ (List.mem_of_getElem? (i := 41) rfl)) (NS.step (hw _ (List.mem_of_getElem? (i := 42) rfl)) (own_root (hw _ (List.mem_of_getElem? (i := 43) rfl)) (hw _ (List.mem_of_getElem? (i := 1) rfl)) (by decide)) (by decide)) (by decide)) (by decide)
  obtain ⟨n, o, h1, h2, h3, _, L, rfl, ⟨⟨_, rfl, rfl⟩, N⟩, hq⟩ := rm0 l s _ hw tables_1 i0 i1 i2 i3 i4 aL cL.cls cL.slots.toList s.heap s.heap.size (Nat.le_refl _) Sc Vc (fun i hi => hall i (by rw [zL]; exact hi)) hNI p e ha hc hk s m _ below hf ((Spec.applies_iff_loose hf).mp happ).1 ⟨rfl, State.Warmed39.refl s, rfl⟩ trivial
  refine ⟨n, _, h1, h2, h3, hpost _ _ _ _ _ _ ⟨Cond.after_iff.mpr rfl, Cond.after_iff.mpr (eq_i res_at (Term.int_eval (1)) rfl), trivial⟩ ⟨hq.1, hq.2.1, (hq.2.2.sift fun y hy => Or.inr (N y hy)).mono (by decide) (by decide)⟩⟩
theorem main_1_1 : Claimed_1_1 := comes_1 fun _ _ _ _ _ _ h hF => ⟨h.1, hF⟩
theorem main_1_2 : Claimed_1_2 := comes_1 fun _ _ _ _ _ _ h hF => ⟨h.2.1, hF⟩
end Jvm.Pilot.@@N@@
namespace Jvm.Pilot.@@N@@
open Jvm Jvm.ClassFile Sem Op Lib Jvm.Free Jvm.Stand Jvm.Pilot.@@N@@.Jvm.D
/-! MADE BY PROGRAM (witnessworld.py) out of the Statement's table words and the real class files: 16 classes; the members and pool entries that the words name. The judged class is class 1, her method 1. -/
namespace start1
open Jvm.ClassFile
def u (s : String) : CpInfo := .utf8 (stringToUtf16 s)
/-- a pool by its gaps: so many unusable entries, then the entry; so many at the end -/
def gap : Nat → List CpInfo → List CpInfo
  | 0, r => r
  | n + 1, r => .unusable :: gap n r
def poolList (es : List (Nat × CpInfo)) (last : Nat) : List CpInfo := es.foldr (fun e r => gap e.1 (e.2 :: r)) (gap last [])
def pool (es : List (Nat × CpInfo)) (last : Nat) : Array CpInfo := ⟨poolList es last⟩
def fileOf (pool : Array CpInfo) (this : Nat) (attrs : Array Attribute := #[]) (ms : Array MethodInfo := #[]) (fl : Nat := 33) (sup : Nat := 0) (ifs : Array Nat := #[]) (fds : Array FieldInfo := #[]) : ClassFile where
  minorVersion := 0
  majorVersion := 65
  constantPool := pool
  accessFlags := fl
  thisClass := this
  superClass := sup
  interfaces := ifs
  fields := fds
  methods := ms
  attributes := attrs
def plain (name : String) (sup : Option ClassId) : Class where
  name := name
  kind := .ordinary
  loader := none
  accessFlags := 33
  super := sup
  interfaces := #[]
  cf := none
  fields := #[]
  methods := #[]
  instanceTypes := #[]
  staticTypes := #[]
  resolved := #[]
  callSites := []
  init := .initialized
  statics := none
  mirror := none

def pool0 : Array CpInfo := pool [(5, u "<init>"), (0, u "()V"), (1, .class_ 10), (1, u "java/lang/Object")] 113

def k0c0 : Code := { maxStack := 0, maxLocals := 1, code := object_method_1_code, exceptionTable := #[], attributes := #[] }
def k0m0 : Method := { name := "<init>", desc := "()V", sig := { parameters := [], returnType := none }, accessFlags := 1, code := some k0c0 }
/-- java/lang/Object -/
def k0 : Class := { plain "java/lang/Object" none with
  accessFlags := 33
  interfaces := #[]
  cf := some (fileOf pool0 8 #[] #[{ accessFlags := 1, nameIndex := 5, descriptorIndex := 6, attributes := #[] }] 33 0 #[] #[])
  fields := #[]
  methods := #[k0m0]
  instanceTypes := #[]
  staticTypes := #[]
  resolved := Array.replicate 124 none
  statics := none }

def pool1 : Array CpInfo := pool [(2, .class_ 4), (1, u "java/lang/Object"), (0, u "<init>"), (0, u "()V"), (0, .class_ 8), (0, u "com/example/infinite_tail/infinitetail/stream/StreamId"), (0, .methodref 7 10), (0, .nameAndType 5 11), (0, u "(JJ)V"), (0, .methodref 13 14), (0, .class_ 15), (0, .nameAndType 16 17), (0, u "java/lang/Long"), (0, u "valueOf"), (0, u "(J)Ljava/lang/Long;"), (0, .methodref 7 19), (0, .nameAndType 20 21), (0, u "equals"), (0, u "(Ljava/lang/Object;)Z"), (0, .class_ 23), (0, u "com/example/infinite_tail/infinitetail/stream/StreamIdEqualsPinLaw"), (2, u "law"), (0, u "(JJJJI)Z")] 3

def k1m0 : Method := { name := "<init>", desc := "()V", sig := { parameters := [], returnType := none }, accessFlags := 1, code := none }
def k1c1 : Code := { maxStack := 6, maxLocals := 17, code := code, exceptionTable := #[], attributes := #[] }
def k1m1 : Method := { name := "law", desc := "(JJJJI)Z", sig := { parameters := [.long, .long, .long, .long, .int], returnType := some .boolean }, accessFlags := 9, code := some k1c1 }
/-- com/example/infinite_tail/infinitetail/stream/StreamIdEqualsPinLaw -/
def k1 : Class := { plain "com/example/infinite_tail/infinitetail/stream/StreamIdEqualsPinLaw" (some 0) with
  accessFlags := 49
  interfaces := #[]
  cf := some (fileOf pool1 22 #[] #[{ accessFlags := 1, nameIndex := 5, descriptorIndex := 6, attributes := #[] }, { accessFlags := 9, nameIndex := 26, descriptorIndex := 27, attributes := #[] }] 49 2 #[] #[])
  fields := #[]
  methods := #[k1m0, k1m1]
  instanceTypes := #[]
  staticTypes := #[]
  resolved := Array.replicate 31 none
  statics := none }

def pool2 : Array CpInfo := pool [(1, .class_ 2), (0, u "java/lang/Comparable"), (0, .class_ 4), (0, u "java/lang/Object")] 7

/-- java/lang/Comparable -/
def k2 : Class := { plain "java/lang/Comparable" (some 0) with
  accessFlags := 1537
  interfaces := #[]
  cf := some (fileOf pool2 1 #[] #[] 1537 3 #[] #[])
  fields := #[]
  methods := #[]
  instanceTypes := #[]
  staticTypes := #[]
  resolved := Array.replicate 12 none
  statics := none }

def pool3 : Array CpInfo := pool [(1, .methodref 2 3), (0, .class_ 4), (0, .nameAndType 5 6), (0, u "java/lang/Object"), (0, u "<init>"), (0, u "()V"), (0, .fieldref 8 9), (0, .class_ 10), (0, .nameAndType 11 12), (0, u "com/example/infinite_tail/infinitetail/stream/StreamId"), (0, u "milliseconds"), (0, u "J"), (0, .fieldref 8 14), (0, .nameAndType 15 12), (0, u "sequence"), (20, u "(JJ)V"), (10, u "MAX"), (0, u "Lcom/example/infinite_tail/infinitetail/stream/StreamId;"), (2, u "equals"), (0, u "(Ljava/lang/Object;)Z"), (17, u "MIN"), (24, u "LIMIT_BEFORE_LAST_DIGIT"), (2, u "LAST_DIGIT_AT_LIMIT"), (0, u "I"), (18, .class_ 119), (0, u "java/lang/Comparable")] 38

def k3c0 : Code := { maxStack := 3, maxLocals := 5, code := prog_81_method_1_code, exceptionTable := #[], attributes := #[] }
def k3m0 : Method := { name := "<init>", desc := "(JJ)V", sig := { parameters := [.long, .long], returnType := none }, accessFlags := 1, code := some k3c0 }
def k3c1 : Code := { maxStack := 4, maxLocals := 3, code := prog_81_method_10_code, exceptionTable := #[], attributes := #[] }
def k3m1 : Method := { name := "equals", desc := "(Ljava/lang/Object;)Z", sig := { parameters := [(.object "java/lang/Object")], returnType := some .boolean }, accessFlags := 1, code := some k3c1 }
/-- com/example/infinite_tail/infinitetail/stream/StreamId -/
def k3 : Class := { plain "com/example/infinite_tail/infinitetail/stream/StreamId" (some 0) with
  accessFlags := 49
  interfaces := #[2]
  cf := some (fileOf pool3 8 #[] #[{ accessFlags := 1, nameIndex := 5, descriptorIndex := 36, attributes := #[] }, { accessFlags := 1, nameIndex := 51, descriptorIndex := 52, attributes := #[] }] 49 2 #[118] #[{ accessFlags := 25, nameIndex := 70, descriptorIndex := 48, attributes := #[] }, { accessFlags := 25, nameIndex := 47, descriptorIndex := 48, attributes := #[] }, { accessFlags := 26, nameIndex := 95, descriptorIndex := 12, attributes := #[] }, { accessFlags := 26, nameIndex := 98, descriptorIndex := 99, attributes := #[] }, { accessFlags := 18, nameIndex := 11, descriptorIndex := 12, attributes := #[] }, { accessFlags := 18, nameIndex := 15, descriptorIndex := 12, attributes := #[] }])
  fields := #[{ name := "MIN", type := (.object "com/example/infinite_tail/infinitetail/stream/StreamId"), accessFlags := 25, slot := 0, constantValue := 0 }, { name := "MAX", type := (.object "com/example/infinite_tail/infinitetail/stream/StreamId"), accessFlags := 25, slot := 1, constantValue := 0 }, { name := "LIMIT_BEFORE_LAST_DIGIT", type := .long, accessFlags := 26, slot := 2, constantValue := 0 }, { name := "LAST_DIGIT_AT_LIMIT", type := .int, accessFlags := 26, slot := 3, constantValue := 0 }, { name := "milliseconds", type := .long, accessFlags := 18, slot := 0, constantValue := 0 }, { name := "sequence", type := .long, accessFlags := 18, slot := 1, constantValue := 0 }]
  methods := #[k3m0, k3m1]
  instanceTypes := #[.long, .long]
  staticTypes := #[(.object "com/example/infinite_tail/infinitetail/stream/StreamId"), (.object "com/example/infinite_tail/infinitetail/stream/StreamId"), .long, .int]
  resolved := Array.replicate 158 none
  statics := none }

def pool4 : Array CpInfo := pool [(1, .class_ 2), (0, u "java/io/Serializable"), (0, .class_ 4), (0, u "java/lang/Object")] 2

/-- java/io/Serializable -/
def k4 : Class := { plain "java/io/Serializable" (some 0) with
  accessFlags := 1537
  interfaces := #[]
  cf := some (fileOf pool4 1 #[] #[] 1537 3 #[] #[])
  fields := #[]
  methods := #[]
  instanceTypes := #[]
  staticTypes := #[]
  resolved := Array.replicate 7 none
  statics := none }

def pool5 : Array CpInfo := pool [(1, .methodref 2 3), (0, .class_ 4), (0, .nameAndType 5 6), (0, u "java/lang/Object"), (0, u "<init>"), (0, u "()V"), (1, .class_ 10), (1, u "java/lang/Number"), (2, .class_ 14), (0, u "java/io/Serializable"), (0, u "serialVersionUID"), (0, u "J")] 20

def k5c0 : Code := { maxStack := 1, maxLocals := 1, code := jdk_18_method_1_code, exceptionTable := #[], attributes := #[] }
def k5m0 : Method := { name := "<init>", desc := "()V", sig := { parameters := [], returnType := none }, accessFlags := 1, code := some k5c0 }
/-- java/lang/Number -/
def k5 : Class := { plain "java/lang/Number" (some 0) with
  accessFlags := 1057
  interfaces := #[4]
  cf := some (fileOf pool5 8 #[] #[{ accessFlags := 1, nameIndex := 5, descriptorIndex := 6, attributes := #[] }] 1057 2 #[13] #[{ accessFlags := 26, nameIndex := 15, descriptorIndex := 16, attributes := #[] }])
  fields := #[{ name := "serialVersionUID", type := .long, accessFlags := 26, slot := 0, constantValue := 0 }]
  methods := #[k5m0]
  instanceTypes := #[]
  staticTypes := #[.long]
  resolved := Array.replicate 37 none
  statics := none }

def pool6 : Array CpInfo := pool [(1, .class_ 2), (0, u "java/lang/constant/Constable"), (0, .class_ 4), (0, u "java/lang/Object")] 6

/-- java/lang/constant/Constable -/
def k6 : Class := { plain "java/lang/constant/Constable" (some 0) with
  accessFlags := 1537
  interfaces := #[]
  cf := some (fileOf pool6 1 #[] #[] 1537 3 #[] #[])
  fields := #[]
  methods := #[]
  instanceTypes := #[]
  staticTypes := #[]
  resolved := Array.replicate 11 none
  statics := none }

def pool7 : Array CpInfo := pool [(1, .class_ 2), (0, u "java/lang/constant/ConstantDesc"), (0, .class_ 4), (0, u "java/lang/Object")] 32

/-- java/lang/constant/ConstantDesc -/
def k7 : Class := { plain "java/lang/constant/ConstantDesc" (some 0) with
  accessFlags := 1537
  interfaces := #[]
  cf := some (fileOf pool7 1 #[] #[] 1537 3 #[] #[])
  fields := #[]
  methods := #[]
  instanceTypes := #[]
  staticTypes := #[]
  resolved := Array.replicate 37 none
  statics := none }

def pool8 : Array CpInfo := pool [(1, .class_ 2), (0, u "java/lang/Long"), (55, .nameAndType 59 60), (0, u "<init>"), (0, u "()V"), (24, u "valueOf"), (143, u "(J)Ljava/lang/Long;"), (0, .long 18446744073709551488), (1, .long 127), (1, .fieldref 235 236), (0, .class_ 237), (0, .nameAndType 238 239), (0, u "java/lang/Long$LongCache"), (0, u "cache"), (0, u "[Ljava/lang/Long;"), (0, .methodref 1 241), (0, .nameAndType 59 242), (0, u "(J)V"), (27, .methodref 271 58), (0, .class_ 272), (0, u "java/lang/Number"), (0, .fieldref 1 274), (0, .nameAndType 275 276), (0, u "value"), (0, u "J"), (84, u "TYPE"), (0, u "Ljava/lang/Class;"), (0, .class_ 364), (0, u "java/lang/Comparable"), (0, .class_ 366), (0, u "java/lang/constant/Constable"), (0, .class_ 368), (0, u "java/lang/constant/ConstantDesc"), (0, u "MIN_VALUE"), (1, u "MAX_VALUE"), (4, u "SIZE"), (0, u "I"), (1, u "BYTES"), (1, u "serialVersionUID")] 142

def k8c0 : Code := { maxStack := 4, maxLocals := 3, code := jdk_35_method_24_code, exceptionTable := #[], attributes := #[] }
def k8m0 : Method := { name := "valueOf", desc := "(J)Ljava/lang/Long;", sig := { parameters := [.long], returnType := some (.object "java/lang/Long") }, accessFlags := 9, code := some k8c0 }
def k8c1 : Code := { maxStack := 3, maxLocals := 3, code := jdk_35_method_26_code, exceptionTable := #[], attributes := #[] }
def k8m1 : Method := { name := "<init>", desc := "(J)V", sig := { parameters := [.long], returnType := none }, accessFlags := 1, code := some k8c1 }
/-- java/lang/Long -/
def k8 : Class := { plain "java/lang/Long" (some 5) with
  accessFlags := 49
  interfaces := #[2, 6, 7]
  cf := some (fileOf pool8 1 #[.nestMembers #[235]] #[{ accessFlags := 9, nameIndex := 85, descriptorIndex := 229, attributes := #[] }, { accessFlags := 1, nameIndex := 59, descriptorIndex := 242, attributes := #[] }] 49 271 #[363, 365, 367] #[{ accessFlags := 25, nameIndex := 369, descriptorIndex := 276, attributes := #[] }, { accessFlags := 25, nameIndex := 371, descriptorIndex := 276, attributes := #[] }, { accessFlags := 25, nameIndex := 361, descriptorIndex := 362, attributes := #[] }, { accessFlags := 18, nameIndex := 275, descriptorIndex := 276, attributes := #[] }, { accessFlags := 25, nameIndex := 376, descriptorIndex := 377, attributes := #[] }, { accessFlags := 25, nameIndex := 379, descriptorIndex := 377, attributes := #[] }, { accessFlags := 26, nameIndex := 381, descriptorIndex := 276, attributes := #[] }])
  fields := #[{ name := "MIN_VALUE", type := .long, accessFlags := 25, slot := 0, constantValue := 0 }, { name := "MAX_VALUE", type := .long, accessFlags := 25, slot := 1, constantValue := 0 }, { name := "TYPE", type := (.object "java/lang/Class"), accessFlags := 25, slot := 2, constantValue := 0 }, { name := "value", type := .long, accessFlags := 18, slot := 0, constantValue := 0 }, { name := "SIZE", type := .int, accessFlags := 25, slot := 3, constantValue := 0 }, { name := "BYTES", type := .int, accessFlags := 25, slot := 4, constantValue := 0 }, { name := "serialVersionUID", type := .long, accessFlags := 26, slot := 5, constantValue := 0 }]
  methods := #[k8m0, k8m1]
  instanceTypes := #[.long]
  staticTypes := #[.long, .long, (.object "java/lang/Class"), .int, .int, .long]
  resolved := Array.replicate 524 none
  statics := none }

def pool9 : Array CpInfo := pool [(2, .class_ 4), (1, u "java/lang/Object"), (0, u "<init>"), (0, u "()V"), (0, .class_ 8), (0, u "java/lang/Long"), (7, .class_ 18), (1, u "java/lang/Long$LongCache"), (0, u "$assertionsDisabled"), (0, u "Z"), (8, u "archivedCache"), (0, u "[Ljava/lang/Long;"), (7, u "cache")] 24

def k9m0 : Method := { name := "<init>", desc := "()V", sig := { parameters := [], returnType := none }, accessFlags := 2, code := none }
/-- java/lang/Long$LongCache -/
def k9 : Class := { plain "java/lang/Long$LongCache" (some 0) with
  accessFlags := 48
  interfaces := #[]
  cf := some (fileOf pool9 16 #[.nestHost 7] #[{ accessFlags := 2, nameIndex := 5, descriptorIndex := 6, attributes := #[] }] 48 2 #[] #[{ accessFlags := 24, nameIndex := 38, descriptorIndex := 30, attributes := #[] }, { accessFlags := 8, nameIndex := 29, descriptorIndex := 30, attributes := #[] }, { accessFlags := 4120, nameIndex := 19, descriptorIndex := 20, attributes := #[] }])
  fields := #[{ name := "cache", type := (.array (.object "java/lang/Long")), accessFlags := 24, slot := 0, constantValue := 0 }, { name := "archivedCache", type := (.array (.object "java/lang/Long")), accessFlags := 8, slot := 1, constantValue := 0 }, { name := "$assertionsDisabled", type := .boolean, accessFlags := 4120, slot := 2, constantValue := 0 }]
  methods := #[k9m0]
  instanceTypes := #[]
  staticTypes := #[(.array (.object "java/lang/Long")), (.array (.object "java/lang/Long")), .boolean]
  resolved := Array.replicate 63 none
  statics := some 0 }

def pool10 : Array CpInfo := pool [(1, u "java/lang/Cloneable"), (0, .class_ 1), (0, u "java/lang/Object"), (0, .class_ 3)] 3

/-- java/lang/Cloneable -/
def k10 : Class := { plain "java/lang/Cloneable" (some 0) with
  accessFlags := 1537
  interfaces := #[]
  cf := some (fileOf pool10 2 #[] #[] 1537 4 #[] #[])
  fields := #[]
  methods := #[]
  instanceTypes := #[]
  staticTypes := #[]
  resolved := Array.replicate 8 none
  statics := none }

/-- the primitive byte -/
def k11 : Class := { plain "byte" none with kind := .primitive 'B', accessFlags := 0x411 }
/-- [B -/
def k12 : Class := { plain "[B" (some 0) with kind := .array 11 .byte, interfaces := #[10, 4], accessFlags := 1041 }

/-- the primitive int -/
def k13 : Class := { plain "int" none with kind := .primitive 'I', accessFlags := 0x411 }
/-- [I -/
def k14 : Class := { plain "[I" (some 0) with kind := .array 13 .int, interfaces := #[10, 4], accessFlags := 1041 }

/-- [Ljava/lang/Long; -/
def k15 : Class := { plain "[Ljava/lang/Long;" (some 0) with kind := .array 8 (.object "java/lang/Long"), interfaces := #[10, 4], accessFlags := 1041 }

def heap : Heap := #[{ cls := 9, slots := #[.ref 1, .null, .int 0], vm := .statics 9 },
  { cls := 15, slots := #[.ref 2, .ref 3, .ref 4, .ref 5, .ref 6, .ref 7, .ref 8, .ref 9, .ref 10, .ref 11, .ref 12, .ref 13, .ref 14, .ref 15, .ref 16, .ref 17, .ref 18, .ref 19, .ref 20, .ref 21, .ref 22, .ref 23, .ref 24, .ref 25, .ref 26, .ref 27, .ref 28, .ref 29, .ref 30, .ref 31, .ref 32, .ref 33, .ref 34, .ref 35, .ref 36, .ref 37, .ref 38, .ref 39, .ref 40, .ref 41, .ref 42, .ref 43, .ref 44, .ref 45, .ref 46, .ref 47, .ref 48, .ref 49, .ref 50, .ref 51, .ref 52, .ref 53, .ref 54, .ref 55, .ref 56, .ref 57, .ref 58, .ref 59, .ref 60, .ref 61, .ref 62, .ref 63, .ref 64, .ref 65, .ref 66, .ref 67, .ref 68, .ref 69, .ref 70, .ref 71, .ref 72, .ref 73, .ref 74, .ref 75, .ref 76, .ref 77, .ref 78, .ref 79, .ref 80, .ref 81, .ref 82, .ref 83, .ref 84, .ref 85, .ref 86, .ref 87, .ref 88, .ref 89, .ref 90, .ref 91, .ref 92, .ref 93, .ref 94, .ref 95, .ref 96, .ref 97, .ref 98, .ref 99, .ref 100, .ref 101, .ref 102, .ref 103, .ref 104, .ref 105, .ref 106, .ref 107, .ref 108, .ref 109, .ref 110, .ref 111, .ref 112, .ref 113, .ref 114, .ref 115, .ref 116, .ref 117, .ref 118, .ref 119, .ref 120, .ref 121, .ref 122, .ref 123, .ref 124, .ref 125, .ref 126, .ref 127, .ref 128, .ref 129, .ref 130, .ref 131, .ref 132, .ref 133, .ref 134, .ref 135, .ref 136, .ref 137, .ref 138, .ref 139, .ref 140, .ref 141, .ref 142, .ref 143, .ref 144, .ref 145, .ref 146, .ref 147, .ref 148, .ref 149, .ref 150, .ref 151, .ref 152, .ref 153, .ref 154, .ref 155, .ref 156, .ref 157, .ref 158, .ref 159, .ref 160, .ref 161, .ref 162, .ref 163, .ref 164, .ref 165, .ref 166, .ref 167, .ref 168, .ref 169, .ref 170, .ref 171, .ref 172, .ref 173, .ref 174, .ref 175, .ref 176, .ref 177, .ref 178, .ref 179, .ref 180, .ref 181, .ref 182, .ref 183, .ref 184, .ref 185, .ref 186, .ref 187, .ref 188, .ref 189, .ref 190, .ref 191, .ref 192, .ref 193, .ref 194, .ref 195, .ref 196, .ref 197, .ref 198, .ref 199, .ref 200, .ref 201, .ref 202, .ref 203, .ref 204, .ref 205, .ref 206, .ref 207, .ref 208, .ref 209, .ref 210, .ref 211, .ref 212, .ref 213, .ref 214, .ref 215, .ref 216, .ref 217, .ref 218, .ref 219, .ref 220, .ref 221, .ref 222, .ref 223, .ref 224, .ref 225, .ref 226, .ref 227, .ref 228, .ref 229, .ref 230, .ref 231, .ref 232, .ref 233, .ref 234, .ref 235, .ref 236, .ref 237, .ref 238, .ref 239, .ref 240, .ref 241, .ref 242, .ref 243, .ref 244, .ref 245, .ref 246, .ref 247, .ref 248, .ref 249, .ref 250, .ref 251, .ref 252, .ref 253, .ref 254, .ref 255, .ref 256, .ref 257], vm := .none },
  { cls := 8, slots := #[.long (-128)], vm := .none },
  { cls := 8, slots := #[.long (-127)], vm := .none },
  { cls := 8, slots := #[.long (-126)], vm := .none },
  { cls := 8, slots := #[.long (-125)], vm := .none },
  { cls := 8, slots := #[.long (-124)], vm := .none },
  { cls := 8, slots := #[.long (-123)], vm := .none },
  { cls := 8, slots := #[.long (-122)], vm := .none },
  { cls := 8, slots := #[.long (-121)], vm := .none },
  { cls := 8, slots := #[.long (-120)], vm := .none },
  { cls := 8, slots := #[.long (-119)], vm := .none },
  { cls := 8, slots := #[.long (-118)], vm := .none },
  { cls := 8, slots := #[.long (-117)], vm := .none },
  { cls := 8, slots := #[.long (-116)], vm := .none },
  { cls := 8, slots := #[.long (-115)], vm := .none },
  { cls := 8, slots := #[.long (-114)], vm := .none },
  { cls := 8, slots := #[.long (-113)], vm := .none },
  { cls := 8, slots := #[.long (-112)], vm := .none },
  { cls := 8, slots := #[.long (-111)], vm := .none },
  { cls := 8, slots := #[.long (-110)], vm := .none },
  { cls := 8, slots := #[.long (-109)], vm := .none },
  { cls := 8, slots := #[.long (-108)], vm := .none },
  { cls := 8, slots := #[.long (-107)], vm := .none },
  { cls := 8, slots := #[.long (-106)], vm := .none },
  { cls := 8, slots := #[.long (-105)], vm := .none },
  { cls := 8, slots := #[.long (-104)], vm := .none },
  { cls := 8, slots := #[.long (-103)], vm := .none },
  { cls := 8, slots := #[.long (-102)], vm := .none },
  { cls := 8, slots := #[.long (-101)], vm := .none },
  { cls := 8, slots := #[.long (-100)], vm := .none },
  { cls := 8, slots := #[.long (-99)], vm := .none },
  { cls := 8, slots := #[.long (-98)], vm := .none },
  { cls := 8, slots := #[.long (-97)], vm := .none },
  { cls := 8, slots := #[.long (-96)], vm := .none },
  { cls := 8, slots := #[.long (-95)], vm := .none },
  { cls := 8, slots := #[.long (-94)], vm := .none },
  { cls := 8, slots := #[.long (-93)], vm := .none },
  { cls := 8, slots := #[.long (-92)], vm := .none },
  { cls := 8, slots := #[.long (-91)], vm := .none },
  { cls := 8, slots := #[.long (-90)], vm := .none },
  { cls := 8, slots := #[.long (-89)], vm := .none },
  { cls := 8, slots := #[.long (-88)], vm := .none },
  { cls := 8, slots := #[.long (-87)], vm := .none },
  { cls := 8, slots := #[.long (-86)], vm := .none },
  { cls := 8, slots := #[.long (-85)], vm := .none },
  { cls := 8, slots := #[.long (-84)], vm := .none },
  { cls := 8, slots := #[.long (-83)], vm := .none },
  { cls := 8, slots := #[.long (-82)], vm := .none },
  { cls := 8, slots := #[.long (-81)], vm := .none },
  { cls := 8, slots := #[.long (-80)], vm := .none },
  { cls := 8, slots := #[.long (-79)], vm := .none },
  { cls := 8, slots := #[.long (-78)], vm := .none },
  { cls := 8, slots := #[.long (-77)], vm := .none },
  { cls := 8, slots := #[.long (-76)], vm := .none },
  { cls := 8, slots := #[.long (-75)], vm := .none },
  { cls := 8, slots := #[.long (-74)], vm := .none },
  { cls := 8, slots := #[.long (-73)], vm := .none },
  { cls := 8, slots := #[.long (-72)], vm := .none },
  { cls := 8, slots := #[.long (-71)], vm := .none },
  { cls := 8, slots := #[.long (-70)], vm := .none },
  { cls := 8, slots := #[.long (-69)], vm := .none },
  { cls := 8, slots := #[.long (-68)], vm := .none },
  { cls := 8, slots := #[.long (-67)], vm := .none },
  { cls := 8, slots := #[.long (-66)], vm := .none },
  { cls := 8, slots := #[.long (-65)], vm := .none },
  { cls := 8, slots := #[.long (-64)], vm := .none },
  { cls := 8, slots := #[.long (-63)], vm := .none },
  { cls := 8, slots := #[.long (-62)], vm := .none },
  { cls := 8, slots := #[.long (-61)], vm := .none },
  { cls := 8, slots := #[.long (-60)], vm := .none },
  { cls := 8, slots := #[.long (-59)], vm := .none },
  { cls := 8, slots := #[.long (-58)], vm := .none },
  { cls := 8, slots := #[.long (-57)], vm := .none },
  { cls := 8, slots := #[.long (-56)], vm := .none },
  { cls := 8, slots := #[.long (-55)], vm := .none },
  { cls := 8, slots := #[.long (-54)], vm := .none },
  { cls := 8, slots := #[.long (-53)], vm := .none },
  { cls := 8, slots := #[.long (-52)], vm := .none },
  { cls := 8, slots := #[.long (-51)], vm := .none },
  { cls := 8, slots := #[.long (-50)], vm := .none },
  { cls := 8, slots := #[.long (-49)], vm := .none },
  { cls := 8, slots := #[.long (-48)], vm := .none },
  { cls := 8, slots := #[.long (-47)], vm := .none },
  { cls := 8, slots := #[.long (-46)], vm := .none },
  { cls := 8, slots := #[.long (-45)], vm := .none },
  { cls := 8, slots := #[.long (-44)], vm := .none },
  { cls := 8, slots := #[.long (-43)], vm := .none },
  { cls := 8, slots := #[.long (-42)], vm := .none },
  { cls := 8, slots := #[.long (-41)], vm := .none },
  { cls := 8, slots := #[.long (-40)], vm := .none },
  { cls := 8, slots := #[.long (-39)], vm := .none },
  { cls := 8, slots := #[.long (-38)], vm := .none },
  { cls := 8, slots := #[.long (-37)], vm := .none },
  { cls := 8, slots := #[.long (-36)], vm := .none },
  { cls := 8, slots := #[.long (-35)], vm := .none },
  { cls := 8, slots := #[.long (-34)], vm := .none },
  { cls := 8, slots := #[.long (-33)], vm := .none },
  { cls := 8, slots := #[.long (-32)], vm := .none },
  { cls := 8, slots := #[.long (-31)], vm := .none },
  { cls := 8, slots := #[.long (-30)], vm := .none },
  { cls := 8, slots := #[.long (-29)], vm := .none },
  { cls := 8, slots := #[.long (-28)], vm := .none },
  { cls := 8, slots := #[.long (-27)], vm := .none },
  { cls := 8, slots := #[.long (-26)], vm := .none },
  { cls := 8, slots := #[.long (-25)], vm := .none },
  { cls := 8, slots := #[.long (-24)], vm := .none },
  { cls := 8, slots := #[.long (-23)], vm := .none },
  { cls := 8, slots := #[.long (-22)], vm := .none },
  { cls := 8, slots := #[.long (-21)], vm := .none },
  { cls := 8, slots := #[.long (-20)], vm := .none },
  { cls := 8, slots := #[.long (-19)], vm := .none },
  { cls := 8, slots := #[.long (-18)], vm := .none },
  { cls := 8, slots := #[.long (-17)], vm := .none },
  { cls := 8, slots := #[.long (-16)], vm := .none },
  { cls := 8, slots := #[.long (-15)], vm := .none },
  { cls := 8, slots := #[.long (-14)], vm := .none },
  { cls := 8, slots := #[.long (-13)], vm := .none },
  { cls := 8, slots := #[.long (-12)], vm := .none },
  { cls := 8, slots := #[.long (-11)], vm := .none },
  { cls := 8, slots := #[.long (-10)], vm := .none },
  { cls := 8, slots := #[.long (-9)], vm := .none },
  { cls := 8, slots := #[.long (-8)], vm := .none },
  { cls := 8, slots := #[.long (-7)], vm := .none },
  { cls := 8, slots := #[.long (-6)], vm := .none },
  { cls := 8, slots := #[.long (-5)], vm := .none },
  { cls := 8, slots := #[.long (-4)], vm := .none },
  { cls := 8, slots := #[.long (-3)], vm := .none },
  { cls := 8, slots := #[.long (-2)], vm := .none },
  { cls := 8, slots := #[.long (-1)], vm := .none },
  { cls := 8, slots := #[.long (0)], vm := .none },
  { cls := 8, slots := #[.long (1)], vm := .none },
  { cls := 8, slots := #[.long (2)], vm := .none },
  { cls := 8, slots := #[.long (3)], vm := .none },
  { cls := 8, slots := #[.long (4)], vm := .none },
  { cls := 8, slots := #[.long (5)], vm := .none },
  { cls := 8, slots := #[.long (6)], vm := .none },
  { cls := 8, slots := #[.long (7)], vm := .none },
  { cls := 8, slots := #[.long (8)], vm := .none },
  { cls := 8, slots := #[.long (9)], vm := .none },
  { cls := 8, slots := #[.long (10)], vm := .none },
  { cls := 8, slots := #[.long (11)], vm := .none },
  { cls := 8, slots := #[.long (12)], vm := .none },
  { cls := 8, slots := #[.long (13)], vm := .none },
  { cls := 8, slots := #[.long (14)], vm := .none },
  { cls := 8, slots := #[.long (15)], vm := .none },
  { cls := 8, slots := #[.long (16)], vm := .none },
  { cls := 8, slots := #[.long (17)], vm := .none },
  { cls := 8, slots := #[.long (18)], vm := .none },
  { cls := 8, slots := #[.long (19)], vm := .none },
  { cls := 8, slots := #[.long (20)], vm := .none },
  { cls := 8, slots := #[.long (21)], vm := .none },
  { cls := 8, slots := #[.long (22)], vm := .none },
  { cls := 8, slots := #[.long (23)], vm := .none },
  { cls := 8, slots := #[.long (24)], vm := .none },
  { cls := 8, slots := #[.long (25)], vm := .none },
  { cls := 8, slots := #[.long (26)], vm := .none },
  { cls := 8, slots := #[.long (27)], vm := .none },
  { cls := 8, slots := #[.long (28)], vm := .none },
  { cls := 8, slots := #[.long (29)], vm := .none },
  { cls := 8, slots := #[.long (30)], vm := .none },
  { cls := 8, slots := #[.long (31)], vm := .none },
  { cls := 8, slots := #[.long (32)], vm := .none },
  { cls := 8, slots := #[.long (33)], vm := .none },
  { cls := 8, slots := #[.long (34)], vm := .none },
  { cls := 8, slots := #[.long (35)], vm := .none },
  { cls := 8, slots := #[.long (36)], vm := .none },
  { cls := 8, slots := #[.long (37)], vm := .none },
  { cls := 8, slots := #[.long (38)], vm := .none },
  { cls := 8, slots := #[.long (39)], vm := .none },
  { cls := 8, slots := #[.long (40)], vm := .none },
  { cls := 8, slots := #[.long (41)], vm := .none },
  { cls := 8, slots := #[.long (42)], vm := .none },
  { cls := 8, slots := #[.long (43)], vm := .none },
  { cls := 8, slots := #[.long (44)], vm := .none },
  { cls := 8, slots := #[.long (45)], vm := .none },
  { cls := 8, slots := #[.long (46)], vm := .none },
  { cls := 8, slots := #[.long (47)], vm := .none },
  { cls := 8, slots := #[.long (48)], vm := .none },
  { cls := 8, slots := #[.long (49)], vm := .none },
  { cls := 8, slots := #[.long (50)], vm := .none },
  { cls := 8, slots := #[.long (51)], vm := .none },
  { cls := 8, slots := #[.long (52)], vm := .none },
  { cls := 8, slots := #[.long (53)], vm := .none },
  { cls := 8, slots := #[.long (54)], vm := .none },
  { cls := 8, slots := #[.long (55)], vm := .none },
  { cls := 8, slots := #[.long (56)], vm := .none },
  { cls := 8, slots := #[.long (57)], vm := .none },
  { cls := 8, slots := #[.long (58)], vm := .none },
  { cls := 8, slots := #[.long (59)], vm := .none },
  { cls := 8, slots := #[.long (60)], vm := .none },
  { cls := 8, slots := #[.long (61)], vm := .none },
  { cls := 8, slots := #[.long (62)], vm := .none },
  { cls := 8, slots := #[.long (63)], vm := .none },
  { cls := 8, slots := #[.long (64)], vm := .none },
  { cls := 8, slots := #[.long (65)], vm := .none },
  { cls := 8, slots := #[.long (66)], vm := .none },
  { cls := 8, slots := #[.long (67)], vm := .none },
  { cls := 8, slots := #[.long (68)], vm := .none },
  { cls := 8, slots := #[.long (69)], vm := .none },
  { cls := 8, slots := #[.long (70)], vm := .none },
  { cls := 8, slots := #[.long (71)], vm := .none },
  { cls := 8, slots := #[.long (72)], vm := .none },
  { cls := 8, slots := #[.long (73)], vm := .none },
  { cls := 8, slots := #[.long (74)], vm := .none },
  { cls := 8, slots := #[.long (75)], vm := .none },
  { cls := 8, slots := #[.long (76)], vm := .none },
  { cls := 8, slots := #[.long (77)], vm := .none },
  { cls := 8, slots := #[.long (78)], vm := .none },
  { cls := 8, slots := #[.long (79)], vm := .none },
  { cls := 8, slots := #[.long (80)], vm := .none },
  { cls := 8, slots := #[.long (81)], vm := .none },
  { cls := 8, slots := #[.long (82)], vm := .none },
  { cls := 8, slots := #[.long (83)], vm := .none },
  { cls := 8, slots := #[.long (84)], vm := .none },
  { cls := 8, slots := #[.long (85)], vm := .none },
  { cls := 8, slots := #[.long (86)], vm := .none },
  { cls := 8, slots := #[.long (87)], vm := .none },
  { cls := 8, slots := #[.long (88)], vm := .none },
  { cls := 8, slots := #[.long (89)], vm := .none },
  { cls := 8, slots := #[.long (90)], vm := .none },
  { cls := 8, slots := #[.long (91)], vm := .none },
  { cls := 8, slots := #[.long (92)], vm := .none },
  { cls := 8, slots := #[.long (93)], vm := .none },
  { cls := 8, slots := #[.long (94)], vm := .none },
  { cls := 8, slots := #[.long (95)], vm := .none },
  { cls := 8, slots := #[.long (96)], vm := .none },
  { cls := 8, slots := #[.long (97)], vm := .none },
  { cls := 8, slots := #[.long (98)], vm := .none },
  { cls := 8, slots := #[.long (99)], vm := .none },
  { cls := 8, slots := #[.long (100)], vm := .none },
  { cls := 8, slots := #[.long (101)], vm := .none },
  { cls := 8, slots := #[.long (102)], vm := .none },
  { cls := 8, slots := #[.long (103)], vm := .none },
  { cls := 8, slots := #[.long (104)], vm := .none },
  { cls := 8, slots := #[.long (105)], vm := .none },
  { cls := 8, slots := #[.long (106)], vm := .none },
  { cls := 8, slots := #[.long (107)], vm := .none },
  { cls := 8, slots := #[.long (108)], vm := .none },
  { cls := 8, slots := #[.long (109)], vm := .none },
  { cls := 8, slots := #[.long (110)], vm := .none },
  { cls := 8, slots := #[.long (111)], vm := .none },
  { cls := 8, slots := #[.long (112)], vm := .none },
  { cls := 8, slots := #[.long (113)], vm := .none },
  { cls := 8, slots := #[.long (114)], vm := .none },
  { cls := 8, slots := #[.long (115)], vm := .none },
  { cls := 8, slots := #[.long (116)], vm := .none },
  { cls := 8, slots := #[.long (117)], vm := .none },
  { cls := 8, slots := #[.long (118)], vm := .none },
  { cls := 8, slots := #[.long (119)], vm := .none },
  { cls := 8, slots := #[.long (120)], vm := .none },
  { cls := 8, slots := #[.long (121)], vm := .none },
  { cls := 8, slots := #[.long (122)], vm := .none },
  { cls := 8, slots := #[.long (123)], vm := .none },
  { cls := 8, slots := #[.long (124)], vm := .none },
  { cls := 8, slots := #[.long (125)], vm := .none },
  { cls := 8, slots := #[.long (126)], vm := .none },
  { cls := 8, slots := #[.long (127)], vm := .none }]
def classes : Array Class := #[k0, k1, k2, k3, k4, k5, k6, k7, k8, k9, k10, k11, k12, k13, k14, k15]
def interned : List (Array UInt16 × Addr) := []
def slotsUsed : Nat := 515
def theMethod : MethodId := ⟨1, 1⟩
def args0 : Array Value := #[.long 1, .long 2, .long 3, .long 4, .int 5]
def aboutOver (below : List Frame) : State where
  vm := { classes := classes, interned := interned.toArray }
  heap := heap
  slotsUsed := slotsUsed
  threads := #[{ frames := .invoking theMethod args0 :: below }]
def below0 : List Frame := [.native { method := ⟨0, 0⟩, args := #[] }]
def about1 : State := aboutOver below0
def p0 : Program := .bare "" "" ""
def e0 : Env := launch0.env 0 0 0
theorem w_frames : about1.frames = Frame.invoking theMethod args0 :: below0 := rfl
set_option maxRecDepth 65536 in
theorem w_args : argsFit about1.vm theMethod args0 = true := by decide +kernel
set_option maxRecDepth 65536 in
theorem w_heap : heapFits about1 = true := by decide +kernel
set_option maxRecDepth 65536 in
theorem w_runnable : about1.curStatus? = some .runnable := by decide +kernel
set_option maxRecDepth 65536 in
theorem w_alone : about1.alone = true := by decide +kernel
set_option maxRecDepth 65536 in
theorem w_named : about1.methodNamed? x = some theMethod := by decide +kernel
set_option maxRecDepth 65536 in
theorem w_hears : about1.hears theMethod below0 = true := by decide +kernel
set_option maxRecDepth 65536 in
theorem w_ripe : about1.ripe theMethod args0 below0 = true := by decide +kernel
theorem w_running : about1.status = .running := rfl
set_option maxRecDepth 65536 in
theorem w_room : about1.hasRoom e0.platform room_1 = true :=
  launch0.hasRoom_least _ room_1 (by decide +kernel) (by decide +kernel) (by decide +kernel) (by decide +kernel) (by decide +kernel) (by decide +kernel)
theorem allAtoms_all (ts : List Jvm.Cond) (a : Array Jvm.Value) (st : Jvm.State) : (allAtoms ts).before a st = ts.all (fun c => c.before a st) := by
  induction ts with
  | nil => rfl
  | cons c t ih =>
    show (Jvm.Cond.and c (allAtoms t)).before a st = _
    rw [Jvm.Cond.before_and, ih, List.all_cons]
def words1 : List Jvm.Cond := Jvm.Cond.code x code maxLocals ret :: tables_1
/-- a 'code' word, met by the world's own term for the bytes: nothing is compared byte by byte -/
theorem code_word {y : MethodName} {bytes : ByteArray} {mx : Nat} {rt : Option FieldType} {a : Array Value} {s : State} {m : MethodId} {meth : Method} {c : Code} (h1 : s.methodNamed? y = some m) (h2 : s.vm.method? m = some meth) (h3 : meth.code = some c) (h4 : c.code = bytes)
    (h5 : (c.maxLocals == mx && c.exceptionTable.isEmpty && decide (c.maxStack ≤ mostOperands) && decide (meth.sig.returnType = rt) && !meth.locks && decide (parseMethodDescriptor y.desc = some meth.sig)) = true) : (Jvm.Cond.code y bytes mx rt).before a s = true := by
  simp only [Bool.and_eq_true, beq_iff_eq, Bool.not_eq_true', decide_eq_true_eq] at h5
  obtain ⟨⟨⟨⟨⟨g1, g2⟩, g3⟩, g4⟩, g5⟩, g6⟩ := h5
  simp [Cond.before, Cond.holds, Cond.value, h1, h2, h3, h4, g1, g2, g3, g4, g5, g6]
def isCode : Jvm.Cond → Bool
  | .code _ _ _ _ => true
  | _ => false
theorem all_split {L : List Jvm.Cond} {P : Jvm.Cond → Bool} (h1 : L.all (fun c => isCode c || P c) = true) (h2 : ∀ c ∈ L.filter isCode, P c = true) : L.all P = true := by
  refine List.all_eq_true.mpr fun c hc => ?_
  have h := List.all_eq_true.mp h1 c hc
  rcases Bool.eq_false_or_eq_true (isCode c) with hi | hi
  · exact h2 c (List.mem_filter.mpr ⟨hc, hi⟩)
  · simpa [hi] using h
set_option maxRecDepth 65536 in
theorem w_c0 : (Jvm.Cond.code x code maxLocals ret).before args0 about1 = true := code_word (m := ⟨1, 1⟩) (meth := k1m1) (c := k1c1) (by decide +kernel) rfl rfl rfl (by decide +kernel)
set_option maxRecDepth 65536 in
theorem w_c1 : (Jvm.Cond.code ({ cls := "com/example/infinite_tail/infinitetail/stream/StreamId", name := "<init>", desc := "(JJ)V" } : Jvm.MethodName) prog_81_method_1_code (5 : Nat) (Option.none : Option Jvm.ClassFile.FieldType)).before args0 about1 = true := code_word (m := ⟨3, 0⟩) (meth := k3m0) (c := k3c0) (by decide +kernel) rfl rfl rfl (by decide +kernel)
set_option maxRecDepth 65536 in
theorem w_c2 : (Jvm.Cond.code ({ cls := "java/lang/Object", name := "<init>", desc := "()V" } : Jvm.MethodName) object_method_1_code (1 : Nat) (Option.none : Option Jvm.ClassFile.FieldType)).before args0 about1 = true := code_word (m := ⟨0, 0⟩) (meth := k0m0) (c := k0c0) (by decide +kernel) rfl rfl rfl (by decide +kernel)
set_option maxRecDepth 65536 in
theorem w_c3 : (Jvm.Cond.code ({ cls := "com/example/infinite_tail/infinitetail/stream/StreamId", name := "equals", desc := "(Ljava/lang/Object;)Z" } : Jvm.MethodName) prog_81_method_10_code (3 : Nat) (Option.some Jvm.ClassFile.FieldType.boolean)).before args0 about1 = true := code_word (m := ⟨3, 1⟩) (meth := k3m1) (c := k3c1) (by decide +kernel) rfl rfl rfl (by decide +kernel)
set_option maxRecDepth 65536 in
theorem w_c4 : (Jvm.Cond.code ({ cls := "java/lang/Long", name := "valueOf", desc := "(J)Ljava/lang/Long;" } : Jvm.MethodName) jdk_35_method_24_code (3 : Nat) (Option.some (Jvm.ClassFile.FieldType.object "java/lang/Long"))).before args0 about1 = true := code_word (m := ⟨8, 0⟩) (meth := k8m0) (c := k8c0) (by decide +kernel) rfl rfl rfl (by decide +kernel)
set_option maxRecDepth 65536 in
theorem w_c5 : (Jvm.Cond.code ({ cls := "java/lang/Long", name := "<init>", desc := "(J)V" } : Jvm.MethodName) jdk_35_method_26_code (3 : Nat) (Option.none : Option Jvm.ClassFile.FieldType)).before args0 about1 = true := code_word (m := ⟨8, 1⟩) (meth := k8m1) (c := k8c1) (by decide +kernel) rfl rfl rfl (by decide +kernel)
set_option maxRecDepth 65536 in
theorem w_c6 : (Jvm.Cond.code ({ cls := "java/lang/Number", name := "<init>", desc := "()V" } : Jvm.MethodName) jdk_18_method_1_code (1 : Nat) (Option.none : Option Jvm.ClassFile.FieldType)).before args0 about1 = true := code_word (m := ⟨5, 0⟩) (meth := k5m0) (c := k5c0) (by decide +kernel) rfl rfl rfl (by decide +kernel)
def codes1 : List Jvm.Cond := [Jvm.Cond.code x code maxLocals ret, Jvm.Cond.code ({ cls := "com/example/infinite_tail/infinitetail/stream/StreamId", name := "<init>", desc := "(JJ)V" } : Jvm.MethodName) prog_81_method_1_code (5 : Nat) (Option.none : Option Jvm.ClassFile.FieldType), Jvm.Cond.code ({ cls := "java/lang/Object", name := "<init>", desc := "()V" } : Jvm.MethodName) object_method_1_code (1 : Nat) (Option.none : Option Jvm.ClassFile.FieldType), Jvm.Cond.code ({ cls := "com/example/infinite_tail/infinitetail/stream/StreamId", name := "equals", desc := "(Ljava/lang/Object;)Z" } : Jvm.MethodName) prog_81_method_10_code (3 : Nat) (Option.some Jvm.ClassFile.FieldType.boolean), Jvm.Cond.code ({ cls := "java/lang/Long", name := "valueOf", desc := "(J)Ljava/lang/Long;" } : Jvm.MethodName) jdk_35_method_24_code (3 : Nat) (Option.some (Jvm.ClassFile.FieldType.object "java/lang/Long")), Jvm.Cond.code ({ cls := "java/lang/Long", name := "<init>", desc := "(J)V" } : Jvm.MethodName) jdk_35_method_26_code (3 : Nat) (Option.none : Option Jvm.ClassFile.FieldType), Jvm.Cond.code ({ cls := "java/lang/Number", name := "<init>", desc := "()V" } : Jvm.MethodName) jdk_18_method_1_code (1 : Nat) (Option.none : Option Jvm.ClassFile.FieldType)]
set_option maxRecDepth 65536 in
theorem codes_eq : words1.filter isCode = codes1 := rfl
theorem w_codes : ∀ c ∈ words1.filter isCode, c.before args0 about1 = true := by
  rw [codes_eq]
  intro c hc
  simp only [codes1, List.mem_cons, List.not_mem_nil, or_false] at hc
  rcases hc with rfl | rfl | rfl | rfl | rfl | rfl | rfl
  · exact w_c0
  · exact w_c1
  · exact w_c2
  · exact w_c3
  · exact w_c4
  · exact w_c5
  · exact w_c6
set_option maxRecDepth 65536 in
theorem w_t1 : (words1.take 24).all (fun c => isCode c || c.before args0 about1) = true := by decide +kernel
set_option maxRecDepth 65536 in
theorem w_t2 : (words1.drop 24).all (fun c => isCode c || c.before args0 about1) = true := by decide +kernel
theorem w_tables : (allAtoms (Jvm.Cond.code x code maxLocals ret :: tables_1)).before args0 about1 = true := by
  rw [allAtoms_all]
  show words1.all (fun c => c.before args0 about1) = true
  refine all_split ?_ w_codes
  rw [← List.take_append_drop 24 words1, List.all_append, w_t1, w_t2]
  rfl
set_option maxRecDepth 65536 in
theorem w_rest : rest_1_c.before args0 about1 = true := by decide +kernel
set_option maxRecDepth 65536 in
theorem w_case : (Jvm.Cond.and given_1 narrow_1).before args0 about1 = true := by decide +kernel
theorem w_applies : (headSpec (Jvm.Cond.code x code maxLocals ret :: tables_1) room_1).applies x e0.platform about1 = true :=
  (Spec.applies_iff w_frames).mpr ⟨w_running, w_runnable, w_alone, w_named, w_hears, w_ripe, w_room, w_tables⟩
theorem atStart : AtStart classFile x code maxLocals ret World_1 tables_1 room_1 Calls_1 rest_1 Pre_1 launch0 p0 e0 about1 theMethod args0 below0 :=
  ⟨lists_1, trivial, launch0.admits_env _ _ _, launch0.least_env, fairChoices_fair.cas, fairChoices_fair.clock, w_frames, w_args, w_heap, w_applies, trivial, w_rest, w_case⟩
end start1
theorem witness_1 : WitnessClaimed_1 := ⟨start1.p0, start1.e0, start1.about1, start1.theMethod, start1.args0, start1.below0, start1.atStart⟩
end Jvm.Pilot.@@N@@
