import JvmDerived
import JvmDerived.Pilot.@@N@@Statement
import JvmDerived.Pilot.@@N@@Code
set_option linter.unusedVariables false
set_option linter.unusedSimpArgs false
namespace Jvm.Pilot.@@N@@
open Jvm Jvm.ClassFile Sem Op Lib Jvm.Free Jvm.Stand Jvm.LawKit Jvm.RoadKit Bundle Jvm.Pilot.@@N@@.Jvm.D
section Own
variable {p : Program} {l : Launch} {e : Env} {R : Room} {s : State} {m : MethodId} {args : Array Value} {below : List Frame} {meth : Method} {c : Code} {T T' : State} {locs : List Loc} {cells slots : Nat} {Qf : Option Value → Heap → List Loc → Prop} {C S : Nat} {F F' : JFrame}
/-- from the state T with the frame F on top the invocation ends as Qf says -/
def own_Go (p : Program) (e : Env) (below : List Frame) (s : State) (Qf : Option Value → Heap → List Loc → Prop) (C S : Nat) (T : State) (F : JFrame) : Prop :=
  ∃ s₂ o, Steps p.tables e below (T.setTop F) s₂ ∧ s₂.status = .running ∧ Ended s₂ below o ∧ ∃ v L, o = .returned v ∧ Qf v s₂.heap L ∧ FrameEnd s o s₂ L C S
theorem own_enter (q : F = F') (hr : own_Go p e below s Qf C S T F') : ∃ s₂ o, Steps p.tables e below (T.setTop F) s₂ ∧ s₂.status = .running ∧ Ended s₂ below o ∧ ∃ v L, o = .returned v ∧ Qf v s₂.heap L ∧ FrameEnd s o s₂ L C S := by
  subst q; exact hr
theorem own_st (st : ∀ t, Steps p.tables e below (T'.setTop F') t → Steps p.tables e below (T.setTop F) t) (hr : own_Go p e below s Qf C S T' F') : own_Go p e below s Qf C S T F := by
  obtain ⟨s2, o, h1, h2⟩ := hr
  exact ⟨s2, o, st _ h1, h2⟩
theorem own_tr (st : Steps p.tables e below (T.setTop F) (T'.setTop F')) (hr : own_Go p e below s Qf C S T' F') : own_Go p e below s Qf C S T F := by
  obtain ⟨s2, o, h1, h2⟩ := hr
  exact ⟨s2, o, st.trans h1, h2⟩
theorem own_ret (X : Stand p l e R s m args below meth c T locs cells slots) (hlk : meth.locks = false) {v : Option Value} (hv : meth.sig.returnType = none → v = none)
    (st : ∀ fs, (∀ (f : JFrame) (acts : List Action), f.method = m → f.locked = none → f.entered = [] → (doReturn e (T.setTop f) acts v).1 = T.setFrames fs) → Steps p.tables e below (T.setTop F) (T.setFrames fs))
    (hQ : Qf v T.heap locs) (hC : cells ≤ C) (hS : slots ≤ S) : own_Go p e below s Qf C S T F := by
  obtain ⟨fs, hr, hrun, hended, hW, hsame⟩ := X.leave (v := v) hv hlk
  exact ⟨_, _, st fs hr, hrun, hended, _, _, rfl, hQ, ⟨_, rfl⟩, hW, hsame.mono hC hS⟩
theorem own_retN (X : Stand p l e R s m args below meth c T locs cells slots) (hx : p.tables.exec = Jvm.exec) (hlk : meth.locks = false) {pc : Nat} {Ls : Array Slot} {z : Int32} {t : FieldType} {rest : List Value} (hret : meth.sig.returnType = some t) (ht : t = .boolean ∨ t = .byte ∨ t = .char ∨ t = .short) (hd : decode c.code pc = .ok (.ireturn, 1))
    (hQ : Qf (some (.int (nar t z))) T.heap locs) (hC : cells ≤ C) (hS : slots ≤ S) : own_Go p e below s Qf C S T (mkF m pc Ls (.int z :: rest)) :=
  own_ret X hlk (fun h => by rw [hret] at h; cases h) (fun _ hr => retN X hx hret ht hd hr) hQ hC hS
theorem own_retI (X : Stand p l e R s m args below meth c T locs cells slots) (hx : p.tables.exec = Jvm.exec) (hlk : meth.locks = false) {pc : Nat} {Ls : Array Slot} {z : Int32} {rest : List Value} (hret : meth.sig.returnType = some .int) (hd : decode c.code pc = .ok (.ireturn, 1))
    (hQ : Qf (some (.int z)) T.heap locs) (hC : cells ≤ C) (hS : slots ≤ S) : own_Go p e below s Qf C S T (mkF m pc Ls (.int z :: rest)) :=
  own_ret X hlk (fun h => by rw [hret] at h; cases h) (fun _ hr => retOut X hx hret rfl (Or.inl ⟨rfl, Or.inl rfl, _, rfl⟩) hd hr) hQ hC hS
theorem own_retJ (X : Stand p l e R s m args below meth c T locs cells slots) (hx : p.tables.exec = Jvm.exec) (hlk : meth.locks = false) {pc : Nat} {Ls : Array Slot} {z : Int64} {rest : List Value} (hret : meth.sig.returnType = some .long) (hd : decode c.code pc = .ok (.lreturn, 1))
    (hQ : Qf (some (.long z)) T.heap locs) (hC : cells ≤ C) (hS : slots ≤ S) : own_Go p e below s Qf C S T (mkF m pc Ls (.long z :: rest)) :=
  own_ret X hlk (fun h => by rw [hret] at h; cases h) (fun _ hr => retOut X hx hret rfl (Or.inr (Or.inl ⟨rfl, rfl, _, rfl⟩)) hd hr) hQ hC hS
theorem own_retA (X : Stand p l e R s m args below meth c T locs cells slots) (hx : p.tables.exec = Jvm.exec) (hlk : meth.locks = false) {pc : Nat} {Ls : Array Slot} {w : Value} {t : FieldType} {rest : List Value} (hret : meth.sig.returnType = some t) (ht : t.isReference = true) (hw : w.isRef = true) (hn : narrow t w = w) (hd : decode c.code pc = .ok (.areturn, 1))
    (hQ : Qf (some w) T.heap locs) (hC : cells ≤ C) (hS : slots ≤ S) : own_Go p e below s Qf C S T (mkF m pc Ls (w :: rest)) :=
  own_ret X hlk (fun h => by rw [hret] at h; cases h) (fun _ hr => retOut X hx hret hn (Or.inr (Or.inr (Or.inr (Or.inr ⟨rfl, ht, hw⟩)))) hd hr) hQ hC hS
theorem own_retV (X : Stand p l e R s m args below meth c T locs cells slots) (hx : p.tables.exec = Jvm.exec) (hlk : meth.locks = false) {pc : Nat} {Ls : Array Slot} (hret : meth.sig.returnType = none) (hd : decode c.code pc = .ok (.return_, 1))
    (hQ : Qf none T.heap locs) (hC : cells ≤ C) (hS : slots ≤ S) : own_Go p e below s Qf C S T (mkF m pc Ls []) :=
  own_ret X hlk (fun _ => rfl) (fun _ hr => X.returnOut hx hret hd hr) hQ hC hS
def own_cc : ClassFile.Cond → Int32 → Int32 → Prop
  | .eq, x, y => x = y
  | .ne, x, y => ¬ x = y
  | .lt, x, y => x < y
  | .ge, x, y => ¬ x < y
  | .gt, x, y => y < x
  | .le, x, y => ¬ y < x
def own_nn : ClassFile.Cond → Int32 → Int32 → Prop
  | .eq, x, y => ¬ x = y
  | .ne, x, y => x = y
  | .lt, x, y => ¬ x < y
  | .ge, x, y => x < y
  | .gt, x, y => ¬ y < x
  | .le, x, y => y < x
theorem own_split (cd : ClassFile.Cond) (x y : Int32) : (own_cc cd x y ∧ if_icmp.holds cd x y = true) ∨ (own_nn cd x y ∧ if_icmp.holds cd x y = false) := by
  cases cd
  · by_cases h : x = y
    · exact Or.inl ⟨h, (teq h).1⟩
    · exact Or.inr ⟨h, (feq h).1⟩
  · by_cases h : x = y
    · exact Or.inr ⟨h, (teq h).2⟩
    · exact Or.inl ⟨h, (feq h).2⟩
  · by_cases h : x < y
    · exact Or.inl ⟨h, (tlt h).1⟩
    · exact Or.inr ⟨h, (flt h).1⟩
  · by_cases h : x < y
    · exact Or.inr ⟨h, (tlt h).2.1⟩
    · exact Or.inl ⟨h, (flt h).2.1⟩
  · by_cases h : y < x
    · exact Or.inl ⟨h, (tlt h).2.2.1⟩
    · exact Or.inr ⟨h, (flt h).2.2.1⟩
  · by_cases h : y < x
    · exact Or.inr ⟨h, (tlt h).2.2.2⟩
    · exact Or.inl ⟨h, (flt h).2.2.2⟩
theorem own_icmp (X : Stand p l e R s m args below meth c T locs cells slots) (hx : p.tables.exec = Jvm.exec) {pc pc' pc2 : Nat} {Ls : Array Slot} {st : List Value} {x y : Int32} {cd : ClassFile.Cond} {o : Int} (hd : decode c.code pc = .ok (.if_icmp cd o, 3)) (ho : 0 ≤ (pc : Int) + o) (hp : ((pc : Int) + o).toNat = pc') (h2 : pc + 3 = pc2)
    (hY : own_cc cd x y → own_Go p e below s Qf C S T (mkF m pc' Ls st)) (hN : own_nn cd x y → own_Go p e below s Qf C S T (mkF m pc2 Ls st)) : own_Go p e below s Qf C S T (mkF m pc Ls (.int y :: .int x :: st)) := by
  subst h2
  rcases own_split cd x y with ⟨h, q⟩ | ⟨h, q⟩
  · exact own_st (fun _ k => XS.icmpYes X.here hx rfl (pc0 := pc) (pc' := pc') rfl hd rfl q ho hp k) (hY h)
  · exact own_st (fun _ k => XS.icmpNo X.here hx rfl hd rfl q k) (hN h)
theorem own_ifc (X : Stand p l e R s m args below meth c T locs cells slots) (hx : p.tables.exec = Jvm.exec) {pc pc' pc2 : Nat} {Ls : Array Slot} {st : List Value} {x : Int32} {cd : ClassFile.Cond} {o : Int} (hd : decode c.code pc = .ok (.ifCond cd o, 3)) (ho : 0 ≤ (pc : Int) + o) (hp : ((pc : Int) + o).toNat = pc') (h2 : pc + 3 = pc2)
    (hY : own_cc cd x 0 → own_Go p e below s Qf C S T (mkF m pc' Ls st)) (hN : own_nn cd x 0 → own_Go p e below s Qf C S T (mkF m pc2 Ls st)) : own_Go p e below s Qf C S T (mkF m pc Ls (.int x :: st)) := by
  subst h2
  rcases own_split cd x 0 with ⟨h, q⟩ | ⟨h, q⟩
  · exact own_st (fun _ k => XS.ifYes X.here hx rfl (pc0 := pc) (pc' := pc') rfl hd rfl ((if0 _ _).trans q) ho hp k) (hY h)
  · exact own_st (fun _ k => XS.ifNo X.here hx rfl hd rfl ((if0 _ _).trans q) k) (hN h)
def own_ccL : ClassFile.Cond → Int64 → Int64 → Prop
  | .eq, x, y => x = y
  | .ne, x, y => ¬ x = y
  | .lt, x, y => x < y
  | .ge, x, y => ¬ x < y
  | .gt, x, y => y < x
  | .le, x, y => ¬ y < x
def own_nnL : ClassFile.Cond → Int64 → Int64 → Prop
  | .eq, x, y => ¬ x = y
  | .ne, x, y => x = y
  | .lt, x, y => ¬ x < y
  | .ge, x, y => x < y
  | .gt, x, y => ¬ y < x
  | .le, x, y => y < x
theorem own_lc (cd : ClassFile.Cond) (x y : Int64) : (own_cc cd (lcmpW x y) 0 → own_ccL cd x y) ∧ (own_nn cd (lcmpW x y) 0 → own_nnL cd x y) := by
  have h1 : x > y → lcmpW x y = 1 := fun h => by simp [lcmpW, h]
  have h2 : x = y → lcmpW x y = 0 := fun h => by subst h; simp [lcmpW, Int64.lt_irrefl]
  have h3 : ¬ x > y → ¬ x = y → lcmpW x y = -1 := fun h h' => by simp [lcmpW, h, h']
  have lt : x < y ↔ lcmpW x y < 0 := by
    by_cases a : x > y
    · rw [h1 a]; exact ⟨fun b => absurd (Int64.lt_trans a b) (Int64.lt_irrefl), fun b => absurd b (by decide)⟩
    · by_cases b : x = y
      · rw [h2 b, b]; exact ⟨fun q => absurd q (Int64.lt_irrefl), fun q => absurd q (by decide)⟩
      · rw [h3 a b]; exact ⟨fun _ => by decide, fun _ => by
          rw [Int64.lt_iff_toInt_lt]; simp only [gt_iff_lt, Int64.lt_iff_toInt_lt] at a
          have : x.toInt ≠ y.toInt := fun q => b (Int64.toInt_inj.mp q)
          omega⟩
  have gt : y < x ↔ 0 < lcmpW x y := by
    by_cases a : x > y
    · rw [h1 a]; exact ⟨fun _ => by decide, fun _ => a⟩
    · by_cases b : x = y
      · rw [h2 b]; exact ⟨fun q => absurd q a, fun q => absurd q (by decide)⟩
      · rw [h3 a b]; exact ⟨fun q => absurd q a, fun q => absurd q (by decide)⟩
  have eq : x = y ↔ lcmpW x y = 0 := by
    by_cases a : x > y
    · rw [h1 a]; exact ⟨fun b => absurd a (by rw [b]; exact Int64.lt_irrefl), fun b => absurd b (by decide)⟩
    · by_cases b : x = y
      · exact ⟨fun _ => h2 b, fun _ => b⟩
      · rw [h3 a b]; exact ⟨fun q => absurd q b, fun q => absurd q (by decide)⟩
  cases cd
  · exact ⟨fun h => eq.mpr h, fun h q => h (eq.mp q)⟩
  · exact ⟨fun h q => h (eq.mp q), fun h => eq.mpr h⟩
  · exact ⟨fun h => lt.mpr h, fun h q => h (lt.mp q)⟩
  · exact ⟨fun h q => h (lt.mp q), fun h => lt.mpr h⟩
  · exact ⟨fun h => gt.mpr h, fun h q => h (gt.mp q)⟩
  · exact ⟨fun h q => h (gt.mp q), fun h => gt.mpr h⟩
theorem own_iflc (X : Stand p l e R s m args below meth c T locs cells slots) (hx : p.tables.exec = Jvm.exec) {pc pc' pc2 : Nat} {Ls : Array Slot} {st : List Value} {x y : Int64} {cd : ClassFile.Cond} {o : Int} (hd : decode c.code pc = .ok (.ifCond cd o, 3)) (ho : 0 ≤ (pc : Int) + o) (hp : ((pc : Int) + o).toNat = pc') (h2 : pc + 3 = pc2)
    (hY : own_ccL cd x y → own_Go p e below s Qf C S T (mkF m pc' Ls st)) (hN : own_nnL cd x y → own_Go p e below s Qf C S T (mkF m pc2 Ls st)) : own_Go p e below s Qf C S T (mkF m pc Ls (.int (lcmpW x y) :: st)) :=
  own_ifc X hx hd ho hp h2 (fun h => hY ((own_lc cd x y).1 h)) (fun h => hN ((own_lc cd x y).2 h))
theorem own_acmp (X : Stand p l e R s m args below meth c T locs cells slots) (hx : p.tables.exec = Jvm.exec) {pc pc' pc2 : Nat} {Ls : Array Slot} {st : List Value} {x y : Addr} {o : Int} {cd : ACond} (hd : decode c.code pc = .ok (.if_acmp cd o, 3)) (ho : 0 ≤ (pc : Int) + o) (hp : ((pc : Int) + o).toNat = pc') (h2 : pc + 3 = pc2)
    (hE : x = y → own_Go p e below s Qf C S T (mkF m (if acV cd true = true then pc' else pc2) Ls st)) (hN : ¬ x = y → own_Go p e below s Qf C S T (mkF m (if acV cd false = true then pc' else pc2) Ls st)) : own_Go p e below s Qf C S T (mkF m pc Ls (.ref y :: .ref x :: st)) := by
  subst h2 hp
  by_cases h : x = y
  · exact own_st (fun _ k => Jvm.RoadKit.acmp (g := mkF m pc Ls (.ref y :: .ref x :: st)) X hx rfl rfl rfl (pc0 := pc) (same := true) rfl hd rfl (decide_eq_true (congrArg Value.ref h)) ho rfl k) (hE h)
  · exact own_st (fun _ k => Jvm.RoadKit.acmp (g := mkF m pc Ls (.ref y :: .ref x :: st)) X hx rfl rfl rfl (pc0 := pc) (same := false) rfl hd rfl (decide_eq_false fun q => h (Value.ref.inj q)) ho rfl k) (hN h)
theorem own_ord {Z : State} {a0 : Array Value} {t : Term} {a : Addr} {C n d : String} {k : Int32} (ev : t.eval a0 Z none [] Z = some (.ref a)) (h : (Cond.eq (Term.field t C n d) (Term.int k)).value a0 Z none Z [] = some true) : Fld Z Z.heap a C n d (.int k) := by
  have e1 : (Term.field t C n d).eval a0 Z none [] Z = Z.fieldOf? a C n d := fld_at ev
  simp only [Cond.value, e1] at h
  cases hq : Z.fieldOf? a C n d with
  | none => simp [hq] at h
  | some v =>
    rw [hq] at h
    cases v <;> simp [Term.eval] at h
    subst h
    exact Fld.start hq
theorem own_narb {z : Int32} (h : z = 0 ∨ z = 1) : nar .boolean z = z := by rcases h with rfl | rfl <;> rfl
theorem own_stk {Z : State} {h h' : Heap} {C n d : String} {v : Value} {ws : List Addr} (F : Sta Z h C n d v) (K : Keep h h' ws) (q : ∀ x ∈ ws, ∀ c : Cell, h[x]? = some c → c.vm.isStatics = false) : Sta Z h' C n d v := by
  obtain ⟨cf, i, k, f, st, cell, h1, h2, h3, h4, h5, h6, h7⟩ := F
  exact ⟨cf, i, k, f, st, cell, h1, h2, h3, h4, K.2.1 st cell h5 (fun z => by rw [q st z cell h5] at h6; cases h6), h6, h7⟩
theorem own_npE {Z : State} {h : Heap} {a : Addr} {C : String} (E : Exa Z h a C) : ∀ c : Cell, h[a]? = some c → c.vm.isStatics = false := fun c hc => by
  obtain ⟨cell, k, h1, h2, h3, h4, h5⟩ := E
  cases h1.symm.trans hc
  exact h4
theorem own_npA {Z : State} {h : Heap} {a : Addr} {k : ClassId} {ty : FieldType} {z : Int32} {vs : List Value} {dv : Value} (V : Arv Z h a k ty z vs dv) : ∀ c : Cell, h[a]? = some c → c.vm.isStatics = false := fun c hc => by
  obtain ⟨cl, A, r⟩ := V
  cases A.1.symm.trans hc
  exact A.plain
theorem own_len {Z : State} {a0 : Array Value} {t : Term} {a : Addr} {cl : Cell} {ty : FieldType} {k : Int32} (ev : t.eval a0 Z none [] Z = some (.ref a)) (A : Arr Z Z.heap a cl ty) (h : (Cond.eq (Term.length t) (Term.int k)).value a0 Z none Z [] = some true) : cl.slots.size < 2 ^ 31 ∧ cl.slots.size.toInt32 = k := by
  have ha : Z.arrayAt? a = some cl := IntBox.arrayAt_of A.1 A.2.1 A.2.2
  simp only [Cond.value, Term.eval, ev, Option.bind_eq_bind, Option.bind_some, ha] at h
  by_cases q : cl.slots.size < 2 ^ 31
  · simp [q] at h; exact ⟨q, h⟩
  · simp [q] at h
theorem own_elem {Z : State} {a0 : Array Value} {t : Term} {a : Addr} {cl : Cell} {ty : FieldType} {j v : Int32} (ev : t.eval a0 Z none [] Z = some (.ref a)) (A : Arr Z Z.heap a cl ty) (hj : ¬ j < 0) (h : (Cond.eq (Term.elem t (Term.int j)) (Term.int v)).value a0 Z none Z [] = some true) : cl.slots[j.toNatClampNeg]? = some (.int v) := by
  have ha : Z.arrayAt? a = some cl := IntBox.arrayAt_of A.1 A.2.1 A.2.2
  have e1 : (Term.elem t (Term.int j)).eval a0 Z none [] Z = cl.slots[j.toNatClampNeg]? := elem_f ev rfl ha hj
  simp only [Cond.value, e1] at h
  cases hq : cl.slots[j.toNatClampNeg]? with
  | none => simp [hq] at h
  | some w =>
    rw [hq] at h
    cases w <;> simp [Term.eval] at h
    rw [h]
theorem own_arvex {Z : State} {a : Addr} {cl : Cell} {ty : FieldType} {z : Int32} {dv : Value} (hf : Fit Z) (A : Arr Z Z.heap a cl ty) (q : cl.slots.size < 2 ^ 31) (e : cl.slots.size.toInt32 = z) (hz : ¬ z < 0) : ∃ vs, Arv Z Z.heap a cl.cls ty z vs dv := by
  have S : cl.slots.size = z.toNatClampNeg := by rw [← e]; simp only [Int32.toNatClampNeg, len_toInt q]; rfl
  have H : Has cl cl.slots.toList dv := fun k hk => by
    rw [List.getD_eq_getElem?_getD, Array.getElem?_toList, Array.getElem?_eq_getElem hk]; rfl
  refine ⟨cl.slots.toList, cl, A, rfl, S, hz, H, fun j hj => ?_⟩
  have e1 : (Nat.toInt32 j).toNatClampNeg = j := by simp only [Int32.toNatClampNeg, len_toInt (Nat.lt_trans hj q)]; rfl
  exact elem_fits (j := Nat.toInt32 j) hf A (idx_in hj q) (by rw [e1]; exact H j hj)
theorem own_selp {s : State} {args : Array Value} {y : MethodName} {n : Nat} (wi : (Cond.instantiable y.cls n).before args s = true) (hp : s.PrivateAt y) (hi : (Cond.instanceMethod y).before args s = true) (hy : y.cls ≠ "java/lang/invoke/MethodHandle" ∧ y.cls ≠ "java/lang/invoke/VarHandle") : (Cond.selects y.cls y y).before args s = true := by
  obtain ⟨c, k, hc, hk, -, hf, -⟩ := Cond.instantiable_spec wi
  exact selects_self_of_private hc hk (by simp only [Bool.or_eq_false_iff] at hf; exact hf.1) hp hi hy
theorem own_nar0 : nar .boolean (0 : Int32) = 0 := rfl
theorem own_nar1 : nar .boolean (1 : Int32) = 1 := rfl
end Own

theorem own_n3 (x : Int32) : ((x &&& (2147483647 : Int32)) % (3 : Int32)) + (1 : Int32) = 1 ∨ ((x &&& (2147483647 : Int32)) % (3 : Int32)) + (1 : Int32) = 2 ∨ ((x &&& (2147483647 : Int32)) % (3 : Int32)) + (1 : Int32) = 3 := by
  have h1 := (c_and x 2147483647 (by decide)).1
  have h2 := (c_irem (x &&& 2147483647) 3 3 rfl).1 h1
  have h3 : (x &&& 2147483647) % 3 = 0 ∨ (x &&& 2147483647) % 3 = 1 ∨ (x &&& 2147483647) % 3 = 2 := by
    have e0 : (0 : Int32).toInt = 0 := rfl
    have e1 : (1 : Int32).toInt = 1 := rfl
    have e2 : (2 : Int32).toInt = 2 := rfl
    simp only [← Int32.toInt_inj, e0, e1, e2]
    omega
  rcases h3 with h | h | h <;> rw [h] <;> decide

theorem d2_0 : decode prog_37_method_1_code 0 = .ok (.aload_n 0, 1) := by decide +kernel
theorem d2_1 : decode prog_37_method_1_code 1 = .ok (.invokespecial 1, 3) := by decide +kernel
theorem d2_4 : decode prog_37_method_1_code 4 = .ok (.aload_n 0, 1) := by decide +kernel
theorem d2_5 : decode prog_37_method_1_code 5 = .ok (.aload_n 1, 1) := by decide +kernel
theorem d2_6 : decode prog_37_method_1_code 6 = .ok (.putfield 7, 3) := by decide +kernel
theorem d2_9 : decode prog_37_method_1_code 9 = .ok (.return_, 1) := by decide +kernel
theorem own_pn2 : plainName "com/example/macaque/macaque/Value" = true := by first | (simp [plainName, overriddenIn]; done) | decide +kernel
theorem own_ef2 (m : MethodId) (o : Addr) (x0 : Addr) : entryFrame m #[(.ref o), (.ref x0)] 2 = (mkF m 0 #[.val (.ref o), .val (.ref x0)] []) := by first | (simp [entryFrame, mkF, argsToLocals, Value.category]; done) | rfl
def Q2 (Z : State) (o : Addr) (x0 : Addr) (u : Value) (h0 : Heap) (n0 : Nat) (v : Option Value) (h : Heap) (L : List Loc) : Prop := v = none ∧ Fr n0 L ∧ Keep h0 h [o] ∧ Exa Z h o "com/example/macaque/macaque/Value" ∧ Fld Z h o "com/example/macaque/macaque/Value" "keys" "[J" (.ref x0)
set_option maxRecDepth 65536 in
set_option maxHeartbeats 40000000 in
theorem rm2 (l : Launch) (Z : State) (a0 : Array Value) (hw : ∀ d ∈ tables_1, d.before a0 Z = true) (ws : List Jvm.Cond) (o : Addr) (x0 : Addr) (u : Value) (h0 : Heap) (n0 : Nat) (Z0 : n0 ≤ h0.size) (hge : n0 ≤ o) (hE : Exa Z h0 o "com/example/macaque/macaque/Value") (hF : Fld Z h0 o "com/example/macaque/macaque/Value" "keys" "[J" u) :
    MetFree l (⟨"com/example/macaque/macaque/Value", "<init>", "([J)V"⟩ : MethodName) (head1 (Jvm.Cond.code (⟨"com/example/macaque/macaque/Value", "<init>", "([J)V"⟩ : MethodName) prog_37_method_1_code 2 none :: ws) ({ frames := 1, cells := 0, slots := 0, locals := 12 } : Room)) (fun a U => a = #[(.ref o), (.ref x0)] ∧ Z.Warmed39 U.vm ∧ U.heap = h0) (fun _ _ _ _ _ => True) (fun _ U oc U' => ∃ v L, oc = .returned v ∧ Q2 Z o x0 u h0 n0 v U'.heap L ∧ FrameEnd U oc U' L ({ frames := 1, cells := 0, slots := 0, locals := 12 } : Room).cells ({ frames := 1, cells := 0, slots := 0, locals := 12 } : Room).slots) := by
  refine MetFree.of_bodySF (plainFor_of_name own_pn2) hisR ?_
  intro p e s m args below meth c s₁ Bd hml0 hP hK
  obtain ⟨rfl, hZ, hh⟩ := hP
  have hx := Bd.exec
  have hby := Bd.bytes
  have hlk : meth.locks = false := BodyLoose.notSynchronized Bd
  have hml : c.maxLocals = 2 := hml0
  have hown : s.vm.findClass "com/example/macaque/macaque/Value" = some m.cls := findClass_of_methodNamed Bd.named
  have hnm := (name_of_methodNamed Bd.named Bd.method).1
  have X0 : Stand p l e ({ frames := 1, cells := 0, slots := 0, locals := 12 } : Room) s m #[(.ref o), (.ref x0)] below meth c s₁ [] 0 0 := Stand.of_body Bd
  have e0 : s₁.heap = h0 := by rw [← hh, Bd.state]; rfl
  have N0 := Fr.nil n0
  refine own_enter (own_ef2 m o x0) ?_
  show own_Go p e below s (Q2 Z o x0 u h0 n0) ({ frames := 1, cells := 0, slots := 0, locals := 12 } : Room).cells ({ frames := 1, cells := 0, slots := 0, locals := 12 } : Room).slots s₁ (mkF m 0 #[.val (.ref o), .val (.ref x0)] [])
  refine own_st (T' := s₁) (F' := (mkF m 1 #[.val (.ref o), .val (.ref x0)] [(.ref o)])) (fun _ k => XS.aloadN X0.here hx rfl (hb hby d2_0) rfl rfl k) ?_
  obtain ⟨T1, X1, e1, st1⟩ := initO X0 hx hZ hown (hw _ (List.mem_of_getElem? (i := 20) rfl)) (hw _ (List.mem_of_getElem? (i := 21) rfl)) (hw _ (List.mem_of_getElem? (i := 22) rfl)) e0 (g := (mkF m 1 #[.val (.ref o), .val (.ref x0)] [(.ref o)])) rfl (by rw [hml]; rfl) rfl (hb hby d2_1) (by decide) (W := 0) (by show 2 * 0 + _ ≤ _; exact Nat.le_of_eq rfl) (by decide)
  refine own_st (T' := T1) (F' := (mkF m 4 #[.val (.ref o), .val (.ref x0)] [])) (fun _ k => st1 _ k) ?_
  refine own_st (T' := T1) (F' := (mkF m 5 #[.val (.ref o), .val (.ref x0)] [(.ref o)])) (fun _ k => XS.aloadN X1.here hx rfl (hb hby d2_4) rfl rfl k) ?_
  refine own_st (T' := T1) (F' := (mkF m 6 #[.val (.ref o), .val (.ref x0)] [(.ref x0), (.ref o)])) (fun _ k => XS.aloadN X1.here hx rfl (hb hby d2_5) rfl rfl k) ?_
  obtain ⟨T2, h2, X2, e2, W2, st2⟩ := putF X1 hx hZ hown (host := "") (Or.inl (hw _ (List.mem_of_getElem? (i := 23) rfl))) Via.refl e1 hF hE (Or.inr ⟨(hw _ (List.mem_of_getElem? (i := 24) rfl)), rfl, hnm⟩) (hw _ (List.mem_of_getElem? (i := 7) rfl)) (ty := (.array .long)) (by decide) rfl rfl (g := (mkF m 6 #[.val (.ref o), .val (.ref x0)] [(.ref x0), (.ref o)])) rfl rfl (hb hby d2_6)
  have N2 := Fr.snoc X2 N0 hge
  have f3 : Exa Z h2 o "com/example/macaque/macaque/Value" := hE.wr W2
  have f4 : Fld Z h2 o "com/example/macaque/macaque/Value" "keys" "[J" (.ref x0) := hF.same W2
  have K2 : Keep h0 h2 [o] := (Keep.refl h0 [o]).wr W2 (Or.inl (List.mem_of_getElem? (i := 0) rfl))
  have Zs2 : n0 ≤ h2.size := Nat.le_trans Z0 K2.1
  refine own_st (T' := T2) (F' := (mkF m 9 #[.val (.ref o), .val (.ref x0)] [])) (fun _ k => st2 _ k) ?_
  refine own_retV X2 hx hlk Bd.returns (hb hby d2_9) ?_ (by decide) (by decide)
  rw [e2]
  refine ⟨rfl, N2, K2, f3, f4⟩
theorem own_pd0 : parseMethodDescriptor "([J)V" = some ⟨[(.array .long)], none⟩ := by decide +kernel
theorem d1_0 : decode prog_37_method_2_code 0 = .ok (.aload_n 0, 1) := by decide +kernel
theorem d1_1 : decode prog_37_method_2_code 1 = .ok (.arraylength, 1) := by decide +kernel
theorem d1_2 : decode prog_37_method_2_code 2 = .ok (.ifCond .ne 13, 3) := by decide +kernel
theorem d1_15 : decode prog_37_method_2_code 15 = .ok (.new 8, 3) := by decide +kernel
theorem d1_18 : decode prog_37_method_2_code 18 = .ok (.dup, 1) := by decide +kernel
theorem d1_19 : decode prog_37_method_2_code 19 = .ok (.aload_n 0, 1) := by decide +kernel
theorem d1_20 : decode prog_37_method_2_code 20 = .ok (.invokevirtual 20, 3) := by decide +kernel
theorem d1_23 : decode prog_37_method_2_code 23 = .ok (.checkcast 21, 3) := by decide +kernel
theorem d1_26 : decode prog_37_method_2_code 26 = .ok (.invokespecial 25, 3) := by decide +kernel
theorem d1_29 : decode prog_37_method_2_code 29 = .ok (.areturn, 1) := by decide +kernel
theorem own_pn1 : plainName "com/example/macaque/macaque/Value" = true := by first | (simp [plainName, overriddenIn]; done) | decide +kernel
theorem own_ef1 (m : MethodId) (x0 : Addr) : entryFrame m #[(.ref x0)] 1 = (mkF m 0 #[.val (.ref x0)] []) := by first | (simp [entryFrame, mkF, argsToLocals, Value.category]; done) | rfl
def Q1 (Z : State) (x0 : Addr) (k : ClassId) (N : Int32) (vs : List Value) (h0 : Heap) (n0 : Nat) (v : Option Value) (h : Heap) (L : List Loc) : Prop := (∃ z : Addr, v = some (.ref z) ∧ ((h0.size ≤ z ∧ Exa Z h z "com/example/macaque/macaque/Value" ∧ ∃ b, h0.size ≤ b ∧ Fld Z h z "com/example/macaque/macaque/Value" "keys" "[J" (.ref b) ∧ Arv Z h b k .long N vs (.long (0 : Int64))))) ∧ Fr n0 L ∧ Keep h0 h []
set_option maxRecDepth 65536 in
set_option maxHeartbeats 40000000 in
theorem rm1 (l : Launch) (Z : State) (a0 : Array Value) (hw : ∀ d ∈ tables_1, d.before a0 Z = true) (ws : List Jvm.Cond) (x0 : Addr) (k : ClassId) (N : Int32) (vs : List Value) (h0 : Heap) (n0 : Nat) (Z0 : n0 ≤ h0.size) (hA : Arv Z h0 x0 k .long N vs (.long (0 : Int64))) (hE : Exa Z h0 x0 "[J") (hN0 : ¬ (N = 0)) (hcap : N.toNatClampNeg ≤ 3) :
    MetFree l (⟨"com/example/macaque/macaque/Value", "of", "([J)Lcom/example/macaque/macaque/Value;"⟩ : MethodName) (head1 (Jvm.Cond.code (⟨"com/example/macaque/macaque/Value", "of", "([J)Lcom/example/macaque/macaque/Value;"⟩ : MethodName) prog_37_method_2_code 1 (some (.object "com/example/macaque/macaque/Value")) :: ws) ({ frames := 2, cells := 2, slots := 4, locals := 26 } : Room)) (fun a U => a = #[(.ref x0)] ∧ Z.Warmed39 U.vm ∧ U.heap = h0) (fun _ _ _ _ _ => True) (fun _ U oc U' => ∃ v L, oc = .returned v ∧ Q1 Z x0 k N vs h0 n0 v U'.heap L ∧ FrameEnd U oc U' L ({ frames := 2, cells := 2, slots := 4, locals := 26 } : Room).cells ({ frames := 2, cells := 2, slots := 4, locals := 26 } : Room).slots) := by
  refine MetFree.of_bodySF (plainFor_of_name own_pn1) hisR ?_
  intro p e s m args below meth c s₁ Bd hml0 hP hK
  obtain ⟨rfl, hZ, hh⟩ := hP
  have hx := Bd.exec
  have hby := Bd.bytes
  have hlk : meth.locks = false := BodyLoose.notSynchronized Bd
  have hml : c.maxLocals = 1 := hml0
  have hown : s.vm.findClass "com/example/macaque/macaque/Value" = some m.cls := findClass_of_methodNamed Bd.named
  have hnm := (name_of_methodNamed Bd.named Bd.method).1
  have X0 : Stand p l e ({ frames := 2, cells := 2, slots := 4, locals := 26 } : Room) s m #[(.ref x0)] below meth c s₁ [] 0 0 := Stand.of_body Bd
  have e0 : s₁.heap = h0 := by rw [← hh, Bd.state]; rfl
  have N0 := Fr.nil n0
  refine own_enter (own_ef1 m x0) ?_
  show own_Go p e below s (Q1 Z x0 k N vs h0 n0) ({ frames := 2, cells := 2, slots := 4, locals := 26 } : Room).cells ({ frames := 2, cells := 2, slots := 4, locals := 26 } : Room).slots s₁ (mkF m 0 #[.val (.ref x0)] [])
  refine own_st (T' := s₁) (F' := (mkF m 1 #[.val (.ref x0)] [(.ref x0)])) (fun _ k => XS.aloadN X0.here hx rfl (hb hby d1_0) rfl rfl k) ?_
  obtain ⟨cl1, Ar1, Aq1, As1, Am1, Ah1, Au1⟩ := id hA
  refine own_st (T' := s₁) (F' := (mkF m 2 #[.val (.ref x0)] [(.int N)])) (fun _ k => X0.arraylength hx (cell := cl1) (by rw [e0]; exact Ar1.1) (State.isArrayOf_alike hZ.alike Ar1.2.1) (g := (mkF m 1 #[.val (.ref x0)] [(.ref x0)])) rfl (rest := []) rfl (hb hby d1_1) _ (by rw [len_of As1 Am1]; exact k)) ?_
  refine own_ifc X0 hx (pc' := 15) (pc2 := 5) (hb hby d1_2) (by decide) (by decide) rfl (fun (hc2 : ¬ (N = (0 : Int32))) => ?_) (fun (hc2 : N = (0 : Int32)) => ?_)
  ·
    obtain ⟨T2, h2, X2, e2, E2, A2, D2, -, st2⟩ := newO X0 hx hZ hown (hw _ (List.mem_of_getElem? (i := 6) rfl)) (hw _ (List.mem_of_getElem? (i := 7) rfl)) (hw _ (List.mem_of_getElem? (i := 4) rfl)) e0 (g := (mkF m 15 #[.val (.ref x0)] [])) rfl (hb hby d1_15) (by decide) (by decide)
    obtain ⟨b2, g2⟩ : ∃ z, z = h0.size := ⟨_, rfl⟩
    rw [← g2] at A2 D2 st2
    have ge2 : n0 ≤ b2 := by rw [g2]; exact Z0
    have hge2 : h0.size ≤ b2 := by rw [g2]; exact (Keep.refl h0 []).1
    have ne2_1 : x0 ≠ b2 := by rw [g2]; exact Nat.ne_of_lt hA.lt
    have f3 : Arv Z h2 x0 k .long N vs (.long (0 : Int64)) := hA.ext E2
    have f4 : Exa Z h2 x0 "[J" := hE.ext E2
    have K2 : Keep h0 h2 [] := (Keep.refl h0 []).ext E2
    have Zs2 : n0 ≤ h2.size := Nat.le_trans Z0 K2.1
    have f5 : Fld Z h2 b2 "com/example/macaque/macaque/Value" "keys" "[J" .null := D2 (Or.inr (hw _ (List.mem_of_getElem? (i := 24) rfl))) (ty := (.array .long)) (by decide)
    refine own_st (T' := T2) (F' := (mkF m 18 #[.val (.ref x0)] [(.ref b2)])) (fun _ k => st2 _ k) ?_
    refine own_st (T' := T2) (F' := (mkF m 19 #[.val (.ref x0)] [(.ref b2), (.ref b2)])) (fun _ k => XS.dup X2.here hx rfl (hb hby d1_18) rfl rfl k) ?_
    refine own_st (T' := T2) (F' := (mkF m 20 #[.val (.ref x0)] [(.ref x0), (.ref b2), (.ref b2)])) (fun _ k => XS.aloadN X2.here hx rfl (hb hby d1_19) rfl rfl k) ?_
    obtain ⟨T7, h7, X7, e7, E7, A7, AE7, st7⟩ := cloneH X2 hx hZ hown (hw _ (List.mem_of_getElem? (i := 8) rfl)) (hw _ (List.mem_of_getElem? (i := 9) rfl)) (hw _ (List.mem_of_getElem? (i := 13) rfl)) (hw _ (List.mem_of_getElem? (i := 11) rfl)) (hw _ (List.mem_of_getElem? (i := 12) rfl)) (hw _ (List.mem_of_getElem? (i := 14) rfl)) e2 (Arv.arh f3) f4 (g := (mkF m 20 #[.val (.ref x0)] [(.ref x0), (.ref b2), (.ref b2)])) rfl (by rw [hml]; rfl) rfl (hb hby d1_20) (by decide) (W := 2) (cap := 3) (by show 2 * 0 + _ ≤ _; exact Nat.le_of_eq rfl) (by decide) hcap (by decide) (by decide)
    obtain ⟨b7, g7⟩ : ∃ z, z = h2.size := ⟨_, rfl⟩
    rw [← g7] at A7 AE7 st7
    have ge7 : n0 ≤ b7 := by rw [g7]; exact Zs2
    have hge7 : h0.size ≤ b7 := by rw [g7]; exact K2.1
    have ne7_1 : x0 ≠ b7 := by rw [g7]; exact Nat.ne_of_lt f3.lt
    have ne7_2 : b2 ≠ b7 := by rw [g7]; exact Nat.ne_of_lt A2.lt
    have f8 : Arv Z h7 x0 k .long N vs (.long (0 : Int64)) := f3.ext E7
    have f9 : Exa Z h7 x0 "[J" := f4.ext E7
    have f10 : Exa Z h7 b2 "com/example/macaque/macaque/Value" := A2.ext E7
    have f11 : Fld Z h7 b2 "com/example/macaque/macaque/Value" "keys" "[J" .null := f5.ext E7
    have K7 : Keep h0 h7 [] := K2.ext E7
    have Zs7 : n0 ≤ h7.size := Nat.le_trans Z0 K7.1
    have V7 : Arv Z h7 b7 k .long N vs (.long (0 : Int64)) := A7
    refine own_st (T' := T7) (F' := (mkF m 23 #[.val (.ref x0)] [(.ref b7), (.ref b2), (.ref b2)])) (fun _ k => st7 _ k) ?_
    obtain ⟨T12, X12, e12, st12⟩ := castY X7 hx hZ hown (hw _ (List.mem_of_getElem? (i := 15) rfl)) e7 (Ins.self AE7) (g := (mkF m 23 #[.val (.ref x0)] [(.ref b7), (.ref b2), (.ref b2)])) rfl rfl (hb hby d1_23)
    refine own_st (T' := T12) (F' := (mkF m 26 #[.val (.ref x0)] [(.ref b7), (.ref b2), (.ref b2)])) (fun _ k => st12 _ k) ?_
    obtain ⟨_, _, ⟨T13, L13, k13, n13⟩, -, X13, ⟨Lc13, hQ13, l13, y13, z13⟩, st13⟩ := X12.specialBack hx (y := (⟨"com/example/macaque/macaque/Value", "<init>", "([J)V"⟩ : MethodName)) rfl hown (mvT hZ (hw _ (List.mem_of_getElem? (i := 17) rfl))) (mvT hZ (hw _ (List.mem_of_getElem? (i := 18) rfl))) (mvT hZ (hw _ (List.mem_of_getElem? (i := 19) rfl))) (by decide) (backOf (W := 1) (rm2 l Z a0 hw [] b2 b7 (.null) h7 n0 Zs7 ge2 f10 f11) hZ (hw _ (List.mem_of_getElem? (i := 19) rfl)) (hw _ (List.mem_of_getElem? (i := 4) rfl)) (by decide) (by decide)) (g := (mkF m 26 #[.val (.ref x0)] [(.ref b7), (.ref b2), (.ref b2)])) rfl (by rw [hml]; rfl) (Steps.refl _) (a := b2) (argsL := [(.ref b7)]) (rest := [(.ref b2)]) (lenOf own_pd0 rfl) rfl (by show 2 * 0 + _ ≤ _; exact Nat.le_of_eq rfl) (hb hby d1_26) (fun _ _ => ⟨rfl, e12, (by decide : 2 + 0 ≤ _), (by decide : 4 + 0 ≤ _)⟩)
    dsimp only [Pt.U, Pt.locs, Pt.cells, Pt.slots] at X13 l13 y13 z13 st13 hQ13
    subst l13 y13 z13
    obtain ⟨rfl, Nq13, g13_0, g13_1, g13_2⟩ := hQ13
    have N13 := Fr.app N0 Nq13
    have f14 : Arv Z T13.heap x0 k .long N vs (.long (0 : Int64)) := f8.keep g13_0 (ninS ne2_1 nin0)
    have f15 : Exa Z T13.heap x0 "[J" := f9.keep g13_0
    have f16 : Arv Z T13.heap b7 k .long N vs (.long (0 : Int64)) := V7.keep g13_0 (ninS (Ne.symm ne7_2) nin0)
    have f17 : Exa Z T13.heap b7 "[J" := AE7.keep g13_0
    have K13 : Keep h0 T13.heap [] := K7.trans g13_0 (allS (Or.inr hge2) all0)
    have Zs13 : n0 ≤ T13.heap.size := Nat.le_trans Z0 K13.1
    refine own_tr (T' := T13) (F' := (mkF m 29 #[.val (.ref x0)] [(.ref b2)])) st13 ?_
    refine own_retA X13 hx hlk (t := (.object "com/example/macaque/macaque/Value")) Bd.returns rfl rfl rfl (hb hby d1_29) ?_ (by decide) (by decide)
    show Q1 Z x0 k N vs h0 n0 _ T13.heap _
    refine ⟨⟨_, rfl, ?_⟩, N13, K13⟩
    exact ⟨hge2, g13_1, b7, hge7, g13_2, f16⟩
  ·
    exact absurd hc2 hN0
theorem d4_0 : decode prog_37_method_3_code 0 = .ok (.aload_n 0, 1) := by decide +kernel
theorem d4_1 : decode prog_37_method_3_code 1 = .ok (.getfield 7, 3) := by decide +kernel
theorem d4_4 : decode prog_37_method_3_code 4 = .ok (.arraylength, 1) := by decide +kernel
theorem d4_5 : decode prog_37_method_3_code 5 = .ok (.ireturn, 1) := by decide +kernel
theorem own_pn4 : plainName "com/example/macaque/macaque/Value" = true := by first | (simp [plainName, overriddenIn]; done) | decide +kernel
theorem own_ef4 (m : MethodId) (o : Addr) : entryFrame m #[(.ref o)] 1 = (mkF m 0 #[.val (.ref o)] []) := by first | (simp [entryFrame, mkF, argsToLocals, Value.category]; done) | rfl
def Q4 (Z : State) (o : Addr) (b : Addr) (k : ClassId) (N : Int32) (vs : List Value) (h0 : Heap) (n0 : Nat) (v : Option Value) (h : Heap) (L : List Loc) : Prop := (∃ z : Int32, v = some (.int z) ∧ (z = N)) ∧ Fr n0 L ∧ h = h0
set_option maxRecDepth 65536 in
set_option maxHeartbeats 40000000 in
theorem rm4 (l : Launch) (Z : State) (a0 : Array Value) (hw : ∀ d ∈ tables_1, d.before a0 Z = true) (ws : List Jvm.Cond) (o : Addr) (b : Addr) (k : ClassId) (N : Int32) (vs : List Value) (h0 : Heap) (n0 : Nat) (Z0 : n0 ≤ h0.size) (hF : Fld Z h0 o "com/example/macaque/macaque/Value" "keys" "[J" (.ref b)) (hA : Arv Z h0 b k .long N vs (.long (0 : Int64))) :
    MetFree l (⟨"com/example/macaque/macaque/Value", "size", "()I"⟩ : MethodName) (head1 (Jvm.Cond.code (⟨"com/example/macaque/macaque/Value", "size", "()I"⟩ : MethodName) prog_37_method_3_code 1 (some .int) :: ws) ({ frames := 0, cells := 0, slots := 0, locals := 0 } : Room)) (fun a U => a = #[(.ref o)] ∧ Z.Warmed39 U.vm ∧ U.heap = h0) (fun _ _ _ _ _ => True) (fun _ U oc U' => ∃ v L, oc = .returned v ∧ Q4 Z o b k N vs h0 n0 v U'.heap L ∧ FrameEnd U oc U' L ({ frames := 0, cells := 0, slots := 0, locals := 0 } : Room).cells ({ frames := 0, cells := 0, slots := 0, locals := 0 } : Room).slots) := by
  refine MetFree.of_bodySF (plainFor_of_name own_pn4) hisR ?_
  intro p e s m args below meth c s₁ Bd hml0 hP hK
  obtain ⟨rfl, hZ, hh⟩ := hP
  have hx := Bd.exec
  have hby := Bd.bytes
  have hlk : meth.locks = false := BodyLoose.notSynchronized Bd
  have hml : c.maxLocals = 1 := hml0
  have hown : s.vm.findClass "com/example/macaque/macaque/Value" = some m.cls := findClass_of_methodNamed Bd.named
  have hnm := (name_of_methodNamed Bd.named Bd.method).1
  have X0 : Stand p l e ({ frames := 0, cells := 0, slots := 0, locals := 0 } : Room) s m #[(.ref o)] below meth c s₁ [] 0 0 := Stand.of_body Bd
  have e0 : s₁.heap = h0 := by rw [← hh, Bd.state]; rfl
  have N0 := Fr.nil n0
  refine own_enter (own_ef4 m o) ?_
  show own_Go p e below s (Q4 Z o b k N vs h0 n0) ({ frames := 0, cells := 0, slots := 0, locals := 0 } : Room).cells ({ frames := 0, cells := 0, slots := 0, locals := 0 } : Room).slots s₁ (mkF m 0 #[.val (.ref o)] [])
  refine own_st (T' := s₁) (F' := (mkF m 1 #[.val (.ref o)] [(.ref o)])) (fun _ k => XS.aloadN X0.here hx rfl (hb hby d4_0) rfl rfl k) ?_
  obtain ⟨T1, X1, e1, st1⟩ := getF X0 hx hZ hown (host := "") (Or.inl (hw _ (List.mem_of_getElem? (i := 23) rfl))) Via.refl e0 hF (g := (mkF m 1 #[.val (.ref o)] [(.ref o)])) rfl rfl (hb hby d4_1)
  refine own_st (T' := T1) (F' := (mkF m 4 #[.val (.ref o)] [(.ref b)])) (fun _ k => st1 _ k) ?_
  obtain ⟨cl2, Ar2, Aq2, As2, Am2, Ah2, Au2⟩ := id hA
  refine own_st (T' := T1) (F' := (mkF m 5 #[.val (.ref o)] [(.int N)])) (fun _ k => X1.arraylength hx (cell := cl2) (by rw [e1]; exact Ar2.1) (State.isArrayOf_alike hZ.alike Ar2.2.1) (g := (mkF m 4 #[.val (.ref o)] [(.ref b)])) rfl (rest := []) rfl (hb hby d4_4) _ (by rw [len_of As2 Am2]; exact k)) ?_
  refine own_retI X1 hx hlk Bd.returns (hb hby d4_5) ?_ (by decide) (by decide)
  rw [e1]
  refine ⟨⟨_, rfl, ?_⟩, N0, rfl⟩
  rfl
theorem d5_0 : decode prog_37_method_4_code 0 = .ok (.aload_n 0, 1) := by decide +kernel
theorem d5_1 : decode prog_37_method_4_code 1 = .ok (.getfield 7, 3) := by decide +kernel
theorem d5_4 : decode prog_37_method_4_code 4 = .ok (.iload_n 1, 1) := by decide +kernel
theorem d5_5 : decode prog_37_method_4_code 5 = .ok (.laload, 1) := by decide +kernel
theorem d5_6 : decode prog_37_method_4_code 6 = .ok (.lreturn, 1) := by decide +kernel
theorem own_pn5 : plainName "com/example/macaque/macaque/Value" = true := by first | (simp [plainName, overriddenIn]; done) | decide +kernel
theorem own_ef5 (m : MethodId) (o : Addr) (x0 : Int32) : entryFrame m #[(.ref o), (.int x0)] 2 = (mkF m 0 #[.val (.ref o), .val (.int x0)] []) := by first | (simp [entryFrame, mkF, argsToLocals, Value.category]; done) | rfl
def Q5 (Z : State) (o : Addr) (x0 : Int32) (b : Addr) (k : ClassId) (N : Int32) (vs : List Value) (w : Int64) (h0 : Heap) (n0 : Nat) (v : Option Value) (h : Heap) (L : List Loc) : Prop := (∃ z : Int64, v = some (.long z) ∧ (z = w)) ∧ Fr n0 L ∧ h = h0
set_option maxRecDepth 65536 in
set_option maxHeartbeats 40000000 in
theorem rm5 (l : Launch) (Z : State) (a0 : Array Value) (hw : ∀ d ∈ tables_1, d.before a0 Z = true) (ws : List Jvm.Cond) (o : Addr) (x0 : Int32) (b : Addr) (k : ClassId) (N : Int32) (vs : List Value) (w : Int64) (h0 : Heap) (n0 : Nat) (Z0 : n0 ≤ h0.size) (hF : Fld Z h0 o "com/example/macaque/macaque/Value" "keys" "[J" (.ref b)) (hA : Arv Z h0 b k .long N vs (.long (0 : Int64))) (hin : ¬ x0 < 0 ∧ x0 < N) (hat : vs.getD x0.toNatClampNeg (.long (0 : Int64)) = .long w) :
    MetFree l (⟨"com/example/macaque/macaque/Value", "key", "(I)J"⟩ : MethodName) (head1 (Jvm.Cond.code (⟨"com/example/macaque/macaque/Value", "key", "(I)J"⟩ : MethodName) prog_37_method_4_code 2 (some .long) :: ws) ({ frames := 0, cells := 0, slots := 0, locals := 0 } : Room)) (fun a U => a = #[(.ref o), (.int x0)] ∧ Z.Warmed39 U.vm ∧ U.heap = h0) (fun _ _ _ _ _ => True) (fun _ U oc U' => ∃ v L, oc = .returned v ∧ Q5 Z o x0 b k N vs w h0 n0 v U'.heap L ∧ FrameEnd U oc U' L ({ frames := 0, cells := 0, slots := 0, locals := 0 } : Room).cells ({ frames := 0, cells := 0, slots := 0, locals := 0 } : Room).slots) := by
  refine MetFree.of_bodySF (plainFor_of_name own_pn5) hisR ?_
  intro p e s m args below meth c s₁ Bd hml0 hP hK
  obtain ⟨rfl, hZ, hh⟩ := hP
  have hx := Bd.exec
  have hby := Bd.bytes
  have hlk : meth.locks = false := BodyLoose.notSynchronized Bd
  have hml : c.maxLocals = 2 := hml0
  have hown : s.vm.findClass "com/example/macaque/macaque/Value" = some m.cls := findClass_of_methodNamed Bd.named
  have hnm := (name_of_methodNamed Bd.named Bd.method).1
  have X0 : Stand p l e ({ frames := 0, cells := 0, slots := 0, locals := 0 } : Room) s m #[(.ref o), (.int x0)] below meth c s₁ [] 0 0 := Stand.of_body Bd
  have e0 : s₁.heap = h0 := by rw [← hh, Bd.state]; rfl
  have N0 := Fr.nil n0
  refine own_enter (own_ef5 m o x0) ?_
  show own_Go p e below s (Q5 Z o x0 b k N vs w h0 n0) ({ frames := 0, cells := 0, slots := 0, locals := 0 } : Room).cells ({ frames := 0, cells := 0, slots := 0, locals := 0 } : Room).slots s₁ (mkF m 0 #[.val (.ref o), .val (.int x0)] [])
  refine own_st (T' := s₁) (F' := (mkF m 1 #[.val (.ref o), .val (.int x0)] [(.ref o)])) (fun _ k => XS.aloadN X0.here hx rfl (hb hby d5_0) rfl rfl k) ?_
  obtain ⟨T1, X1, e1, st1⟩ := getF X0 hx hZ hown (host := "") (Or.inl (hw _ (List.mem_of_getElem? (i := 23) rfl))) Via.refl e0 hF (g := (mkF m 1 #[.val (.ref o), .val (.int x0)] [(.ref o)])) rfl rfl (hb hby d5_1)
  refine own_st (T' := T1) (F' := (mkF m 4 #[.val (.ref o), .val (.int x0)] [(.ref b)])) (fun _ k => st1 _ k) ?_
  refine own_st (T' := T1) (F' := (mkF m 5 #[.val (.ref o), .val (.int x0)] [(.int x0), (.ref b)])) (fun _ k => XS.iloadN X1.here hx rfl (hb hby d5_4) rfl  k) ?_
  obtain ⟨cl2, Ar2, Aq2, As2, Am2, Ah2, Au2⟩ := id hA
  have hin2 : ¬ (x0 < 0 ∨ cl2.slots.size ≤ (x0).toNatClampNeg) := inb_of As2 (hin)
  have hat2 : cl2.slots[(x0).toNatClampNeg]? = some (.long w) := Ah2.at hin2 (hat)
  refine own_st (T' := T1) (F' := (mkF m 6 #[.val (.ref o), .val (.int x0)] [(.long w)])) (fun _ k => X1.laload hx (j := x0) (v := (.long w)) (by rw [e1]; exact Ar2.1) (State.isArrayOf_alike hZ.alike Ar2.2.1) Ar2.2.2 hin2 hat2 (g := (mkF m 5 #[.val (.ref o), .val (.int x0)] [(.int x0), (.ref b)])) rfl rfl (hb hby d5_5) _ k) ?_
  refine own_retJ X1 hx hlk Bd.returns (hb hby d5_6) ?_ (by decide) (by decide)
  rw [e1]
  refine ⟨⟨_, rfl, ?_⟩, N0, rfl⟩
  rfl
theorem own_pd1 : parseMethodDescriptor "([J)Lcom/example/macaque/macaque/Value;" = some ⟨[(.array .long)], some (.object "com/example/macaque/macaque/Value")⟩ := by decide +kernel
theorem own_pd2 : parseMethodDescriptor "()I" = some ⟨[], some .int⟩ := by decide +kernel
theorem own_pd3 : parseMethodDescriptor "(I)J" = some ⟨[.int], some .long⟩ := by decide +kernel
theorem own_pn0 : plainName "com/example/macaque/macaque/ValueOfPinLaw" = true := by first | (simp [plainName, overriddenIn]; done) | decide +kernel
theorem own_ef0 (m : MethodId) (x0 : Int32) (x1 : Int64) (x2 : Int64) (x3 : Int64) : entryFrame m #[(.int x0), (.long x1), (.long x2), (.long x3)] maxLocals = (mkF m 0 #[.val (.int x0), .val (.long x1), .second, .val (.long x2), .second, .val (.long x3), .second, .unset, .unset, .unset] []) := by first | (simp [entryFrame, mkF, argsToLocals, Value.category, maxLocals]; done) | rfl
def Q0 (Z : State) (x0 : Int32) (x1 : Int64) (x2 : Int64) (x3 : Int64)  (h0 : Heap) (n0 : Nat) (v : Option Value) (h : Heap) (L : List Loc) : Prop := (∃ z : Int32, v = some (.int z) ∧ (z = 1)) ∧ Fr n0 L
set_option maxRecDepth 65536 in
set_option maxHeartbeats 40000000 in
theorem rm0 (l : Launch) (Z : State) (a0 : Array Value) (hw : ∀ d ∈ tables_1, d.before a0 Z = true) (ws : List Jvm.Cond) (x0 : Int32) (x1 : Int64) (x2 : Int64) (x3 : Int64)  (h0 : Heap) (n0 : Nat) (Z0 : n0 ≤ h0.size)  :
    MetFree l x (head1 (Jvm.Cond.code x code maxLocals ret :: ws) room_1) (fun a U => a = #[(.int x0), (.long x1), (.long x2), (.long x3)] ∧ Z.Warmed39 U.vm ∧ U.heap = h0) (fun _ _ _ _ _ => True) (fun _ U oc U' => ∃ v L, oc = .returned v ∧ Q0 Z x0 x1 x2 x3  h0 n0 v U'.heap L ∧ FrameEnd U oc U' L room_1.cells room_1.slots) := by
  refine MetFree.of_bodySF (plainFor_of_name own_pn0) hisR ?_
  intro p e s m args below meth c s₁ Bd hml0 hP hK
  obtain ⟨rfl, hZ, hh⟩ := hP
  have hx := Bd.exec
  have hby := Bd.bytes
  have hlk : meth.locks = false := BodyLoose.notSynchronized Bd
  have hml : c.maxLocals = 10 := hml0
  have hown : s.vm.findClass "com/example/macaque/macaque/ValueOfPinLaw" = some m.cls := findClass_of_methodNamed Bd.named
  have hnm := (name_of_methodNamed Bd.named Bd.method).1
  have X0 : Stand p l e room_1 s m #[(.int x0), (.long x1), (.long x2), (.long x3)] below meth c s₁ [] 0 0 := Stand.of_body Bd
  have e0 : s₁.heap = h0 := by rw [← hh, Bd.state]; rfl
  have N0 := Fr.nil n0
  refine own_enter (own_ef0 m x0 x1 x2 x3) ?_
  show own_Go p e below s (Q0 Z x0 x1 x2 x3  h0 n0) room_1.cells room_1.slots s₁ (mkF m 0 #[.val (.int x0), .val (.long x1), .second, .val (.long x2), .second, .val (.long x3), .second, .unset, .unset, .unset] [])
  refine own_st (T' := s₁) (F' := (mkF m 1 #[.val (.int x0), .val (.long x1), .second, .val (.long x2), .second, .val (.long x3), .second, .unset, .unset, .unset] [(.int x0)])) (fun _ k => XS.iloadN X0.here hx rfl (hb hby at_0) rfl  k) ?_
  refine own_st (T' := s₁) (F' := (mkF m 3 #[.val (.int x0), .val (.long x1), .second, .val (.long x2), .second, .val (.long x3), .second, .unset, .unset, .unset] [(.int (2147483647 : Int32)), (.int x0)])) (fun _ k => X0.ldcInt hx hown (mvT hZ (hw _ (List.mem_of_getElem? (i := 0) rfl))) (g := (mkF m 1 #[.val (.int x0), .val (.long x1), .second, .val (.long x2), .second, .val (.long x3), .second, .unset, .unset, .unset] [(.int x0)])) rfl (hb hby at_1) _ k) ?_
  refine own_st (T' := s₁) (F' := (mkF m 4 #[.val (.int x0), .val (.long x1), .second, .val (.long x2), .second, .val (.long x3), .second, .unset, .unset, .unset] [(.int (x0 &&& (2147483647 : Int32)))])) (fun _ k => XS.iand X0.here hx rfl (hb hby at_3) rfl k) ?_
  refine own_st (T' := s₁) (F' := (mkF m 5 #[.val (.int x0), .val (.long x1), .second, .val (.long x2), .second, .val (.long x3), .second, .unset, .unset, .unset] [(.int (3 : Int32)), (.int (x0 &&& (2147483647 : Int32)))])) (fun _ k => XS.iconst X0.here hx rfl (hb hby at_4) k) ?_
  refine own_st (T' := s₁) (F' := (mkF m 6 #[.val (.int x0), .val (.long x1), .second, .val (.long x2), .second, .val (.long x3), .second, .unset, .unset, .unset] [(.int ((x0 &&& (2147483647 : Int32)) % (3 : Int32)))])) (fun _ k => iremM X0 hx rfl (hb hby at_5) rfl (by decide) k) ?_
  refine own_st (T' := s₁) (F' := (mkF m 7 #[.val (.int x0), .val (.long x1), .second, .val (.long x2), .second, .val (.long x3), .second, .unset, .unset, .unset] [(.int (1 : Int32)), (.int ((x0 &&& (2147483647 : Int32)) % (3 : Int32)))])) (fun _ k => XS.iconst X0.here hx rfl (hb hby at_6) k) ?_
  refine own_st (T' := s₁) (F' := (mkF m 8 #[.val (.int x0), .val (.long x1), .second, .val (.long x2), .second, .val (.long x3), .second, .unset, .unset, .unset] [(.int (((x0 &&& (2147483647 : Int32)) % (3 : Int32)) + (1 : Int32)))])) (fun _ k => XS.iadd X0.here hx rfl (hb hby at_7) rfl k) ?_
  refine own_st (T' := s₁) (F' := (mkF m 10 #[.val (.int x0), .val (.long x1), .second, .val (.long x2), .second, .val (.long x3), .second, .val (.int (((x0 &&& (2147483647 : Int32)) % (3 : Int32)) + (1 : Int32))), .unset, .unset] [])) (fun _ k => XS.istore X0.here hx rfl (hb hby at_8) rfl (l' := #[.val (.int x0), .val (.long x1), .second, .val (.long x2), .second, .val (.long x3), .second, .val (.int (((x0 &&& (2147483647 : Int32)) % (3 : Int32)) + (1 : Int32))), .unset, .unset]) rfl k) ?_
  rcases own_n3 x0 with hn3 | hn3 | hn3
  ·
    rw [hn3]
    show own_Go p e below s (Q0 Z x0 x1 x2 x3  h0 n0) room_1.cells room_1.slots s₁ (mkF m 10 #[.val (.int x0), .val (.long x1), .second, .val (.long x2), .second, .val (.long x3), .second, .val (.int (1 : Int32)), .unset, .unset] [])
    refine own_st (T' := s₁) (F' := (mkF m 12 #[.val (.int x0), .val (.long x1), .second, .val (.long x2), .second, .val (.long x3), .second, .val (.int (1 : Int32)), .unset, .unset] [(.int (1 : Int32))])) (fun _ k => XS.iload X0.here hx rfl (hb hby at_10) rfl  k) ?_
    refine own_st (T' := s₁) (F' := (mkF m 13 #[.val (.int x0), .val (.long x1), .second, .val (.long x2), .second, .val (.long x3), .second, .val (.int (1 : Int32)), .unset, .unset] [(.int (1 : Int32)), (.int (1 : Int32))])) (fun _ k => XS.iconst X0.here hx rfl (hb hby at_12) k) ?_
    refine own_icmp X0 hx (pc' := 28) (pc2 := 16) (hb hby at_13) (by decide) (by decide) rfl (fun (hc13 : ¬ ((1 : Int32) = (1 : Int32))) => ?_) (fun (hc13 : (1 : Int32) = (1 : Int32)) => ?_)
    · exact absurd hc13 (by decide)
    refine own_st (T' := s₁) (F' := (mkF m 17 #[.val (.int x0), .val (.long x1), .second, .val (.long x2), .second, .val (.long x3), .second, .val (.int (1 : Int32)), .unset, .unset] [(.int (1 : Int32))])) (fun _ k => XS.iconst X0.here hx rfl (hb hby at_16) k) ?_
    obtain ⟨T1, h1, k1, X1, e1, E1, A1, AE1, st1⟩ := newPE X0 hx hZ (hw _ (List.mem_of_getElem? (i := 1) rfl)) e0 (g := (mkF m 17 #[.val (.int x0), .val (.long x1), .second, .val (.long x2), .second, .val (.long x3), .second, .val (.int (1 : Int32)), .unset, .unset] [(.int (1 : Int32))])) rfl (hb hby at_17) rfl (by decide) (cap := 1) (by decide) (by decide) (by decide) (by decide) (ad := "[J") (by decide)
    obtain ⟨b1, g1⟩ : ∃ z, z = h0.size := ⟨_, rfl⟩
    rw [← g1] at A1 AE1 st1
    have ge1 : n0 ≤ b1 := by rw [g1]; exact Z0
    have hge1 : h0.size ≤ b1 := by rw [g1]; exact (Keep.refl h0 []).1
    have K1 : Keep h0 h1 [] := (Keep.refl h0 []).ext E1
    have Zs1 : n0 ≤ h1.size := Nat.le_trans Z0 K1.1
    have V1 : Arv Z h1 b1 k1 .long (1 : Int32) [(.long (0 : Int64))] (.long (0 : Int64)) := (Arv.new A1 (by decide)).pad (pad_rep [] (.long (0 : Int64)) 1)
    refine own_st (T' := T1) (F' := (mkF m 19 #[.val (.int x0), .val (.long x1), .second, .val (.long x2), .second, .val (.long x3), .second, .val (.int (1 : Int32)), .unset, .unset] [(.ref b1)])) (fun _ k => st1 _ k) ?_
    refine own_st (T' := T1) (F' := (mkF m 20 #[.val (.int x0), .val (.long x1), .second, .val (.long x2), .second, .val (.long x3), .second, .val (.int (1 : Int32)), .unset, .unset] [(.ref b1), (.ref b1)])) (fun _ k => XS.dup X1.here hx rfl (hb hby at_19) rfl rfl k) ?_
    refine own_st (T' := T1) (F' := (mkF m 21 #[.val (.int x0), .val (.long x1), .second, .val (.long x2), .second, .val (.long x3), .second, .val (.int (1 : Int32)), .unset, .unset] [(.int (0 : Int32)), (.ref b1), (.ref b1)])) (fun _ k => XS.iconst X1.here hx rfl (hb hby at_20) k) ?_
    refine own_st (T' := T1) (F' := (mkF m 22 #[.val (.int x0), .val (.long x1), .second, .val (.long x2), .second, .val (.long x3), .second, .val (.int (1 : Int32)), .unset, .unset] [(.long x1), (.int (0 : Int32)), (.ref b1), (.ref b1)])) (fun _ k => XS.lloadN X1.here hx rfl (hb hby at_21) rfl  k) ?_
    obtain ⟨cl2, Ar2, Aq2, As2, Am2, Ah2, Au2⟩ := id V1
    have hin2 : ¬ ((0 : Int32) < 0 ∨ cl2.slots.size ≤ ((0 : Int32)).toNatClampNeg) := inb_of As2 ⟨by decide, by decide⟩
    obtain ⟨T2, h2, X2, e2, W2, st2⟩ := stJ X1 hx hZ e1 Ar2 (j := (0 : Int32)) hin2 (g := (mkF m 22 #[.val (.int x0), .val (.long x1), .second, .val (.long x2), .second, .val (.long x3), .second, .val (.int (1 : Int32)), .unset, .unset] [(.long x1), (.int (0 : Int32)), (.ref b1), (.ref b1)])) rfl rfl (hb hby at_22)
    have V2 : Arv Z h2 b1 k1 .long (1 : Int32) [(.long x1)] (.long (0 : Int64)) := Arv.set Ar2 Aq2 As2 Am2 Ah2 Au2 rfl W2 0 rfl (show 0 < 1 by decide)
    have N2 := Fr.snoc X2 N0 ge1
    have f3 : Exa Z h2 b1 "[J" := AE1.wr W2
    have K2 : Keep h0 h2 [] := K1.wr W2 (Or.inr hge1)
    have Zs2 : n0 ≤ h2.size := Nat.le_trans Z0 K2.1
    refine own_st (T' := T2) (F' := (mkF m 23 #[.val (.int x0), .val (.long x1), .second, .val (.long x2), .second, .val (.long x3), .second, .val (.int (1 : Int32)), .unset, .unset] [(.ref b1)])) (fun _ k => st2 _ k) ?_
    refine own_st (T' := T2) (F' := (mkF m 25 #[.val (.int x0), .val (.long x1), .second, .val (.long x2), .second, .val (.long x3), .second, .val (.int (1 : Int32)), .val (.ref b1), .unset] [])) (fun _ k => XS.astore X2.here hx rfl (hb hby at_23) rfl rfl (l' := #[.val (.int x0), .val (.long x1), .second, .val (.long x2), .second, .val (.long x3), .second, .val (.int (1 : Int32)), .val (.ref b1), .unset]) rfl k) ?_
    refine own_st (T' := T2) (F' := (mkF m 68 #[.val (.int x0), .val (.long x1), .second, .val (.long x2), .second, .val (.long x3), .second, .val (.int (1 : Int32)), .val (.ref b1), .unset] [])) (fun _ k => XS.goto X2.here hx rfl (pc0 := 25) (pc' := 68) rfl (hb hby at_25) (by decide) (by decide) k) ?_
    refine own_st (T' := T2) (F' := (mkF m 70 #[.val (.int x0), .val (.long x1), .second, .val (.long x2), .second, .val (.long x3), .second, .val (.int (1 : Int32)), .val (.ref b1), .unset] [(.ref b1)])) (fun _ k => XS.aload X2.here hx rfl (hb hby at_68) rfl rfl k) ?_
    obtain ⟨_, _, ⟨T4, L4, k4, n4⟩, -, X4, ⟨Lc4, hQ4, l4, y4, z4⟩, st4⟩ := Jvm.LawKit.callS X2 hx (y := (⟨"com/example/macaque/macaque/Value", "of", "([J)Lcom/example/macaque/macaque/Value;"⟩ : MethodName)) hown (mvT hZ (hw _ (List.mem_of_getElem? (i := 2) rfl))) (mvT hZ (hw _ (List.mem_of_getElem? (i := 3) rfl))) (mvT hZ (hw _ (List.mem_of_getElem? (i := 4) rfl))) (mvT hZ (hw _ (List.mem_of_getElem? (i := 5) rfl))) (by decide) (backOf (W := 0) (rm1 l Z a0 hw [] b1 k1 (1 : Int32) ([(.long x1)]) h2 n0 Zs2 V2 f3 (by decide) (by decide)) hZ (hw _ (List.mem_of_getElem? (i := 5) rfl)) (hw _ (List.mem_of_getElem? (i := 4) rfl)) (by decide) (by decide)) (g := (mkF m 70 #[.val (.int x0), .val (.long x1), .second, .val (.long x2), .second, .val (.long x3), .second, .val (.int (1 : Int32)), .val (.ref b1), .unset] [(.ref b1)])) rfl (by rw [hml]; rfl) (argsL := [(.ref b1)]) (rest := []) (lenOf own_pd1 rfl) rfl (by show 2 * 0 + _ ≤ _; exact Nat.le_of_eq rfl) (hb hby at_70) (fun _ _ => ⟨rfl, e2, (by decide : 1 + 2 ≤ _), (by decide : 1 + 4 ≤ _)⟩)
    dsimp only [Pt.U, Pt.locs, Pt.cells, Pt.slots] at X4 l4 y4 z4 st4 hQ4
    subst l4 y4 z4
    obtain ⟨⟨r4, rfl, hr4⟩, Nq4, g4_0⟩ := hQ4
    have N4 := Fr.app N2 Nq4
    have f5 : Exa Z T4.heap b1 "[J" := f3.keep g4_0
    have f6 : Arv Z T4.heap b1 k1 .long (1 : Int32) [(.long x1)] (.long (0 : Int64)) := V2.keep g4_0 nin0
    have K4 : Keep h0 T4.heap [] := K2.trans g4_0 all0
    have Zs4 : n0 ≤ T4.heap.size := Nat.le_trans Z0 K4.1
    obtain ⟨zge4, zE4, bk4, bge4, zF4, zA4⟩ := hr4
    have bne4 : b1 ≠ bk4 := Nat.ne_of_lt (Nat.lt_of_lt_of_le V2.lt bge4)
    have zne4 : b1 ≠ r4 := Nat.ne_of_lt (Nat.lt_of_lt_of_le V2.lt zge4)
    refine own_st (T' := T4) (F' := (mkF m 73 #[.val (.int x0), .val (.long x1), .second, .val (.long x2), .second, .val (.long x3), .second, .val (.int (1 : Int32)), .val (.ref b1), .unset] [(.ref r4)])) (fun _ k => st4 _ k) ?_
    refine own_st (T' := T4) (F' := (mkF m 75 #[.val (.int x0), .val (.long x1), .second, .val (.long x2), .second, .val (.long x3), .second, .val (.int (1 : Int32)), .val (.ref b1), .val (.ref r4)] [])) (fun _ k => XS.astore X4.here hx rfl (hb hby at_73) rfl rfl (l' := #[.val (.int x0), .val (.long x1), .second, .val (.long x2), .second, .val (.long x3), .second, .val (.int (1 : Int32)), .val (.ref b1), .val (.ref r4)]) rfl k) ?_
    refine own_st (T' := T4) (F' := (mkF m 77 #[.val (.int x0), .val (.long x1), .second, .val (.long x2), .second, .val (.long x3), .second, .val (.int (1 : Int32)), .val (.ref b1), .val (.ref r4)] [(.ref b1)])) (fun _ k => XS.aload X4.here hx rfl (hb hby at_75) rfl rfl k) ?_
    refine own_st (T' := T4) (F' := (mkF m 78 #[.val (.int x0), .val (.long x1), .second, .val (.long x2), .second, .val (.long x3), .second, .val (.int (1 : Int32)), .val (.ref b1), .val (.ref r4)] [(.int (0 : Int32)), (.ref b1)])) (fun _ k => XS.iconst X4.here hx rfl (hb hby at_77) k) ?_
    refine own_st (T' := T4) (F' := (mkF m 79 #[.val (.int x0), .val (.long x1), .second, .val (.long x2), .second, .val (.long x3), .second, .val (.int (1 : Int32)), .val (.ref b1), .val (.ref r4)] [(.long x1), (.int (0 : Int32)), (.ref b1)])) (fun _ k => XS.lloadN X4.here hx rfl (hb hby at_78) rfl  k) ?_
    refine own_st (T' := T4) (F' := (mkF m 82 #[.val (.int x0), .val (.long x1), .second, .val (.long x2), .second, .val (.long x3), .second, .val (.int (1 : Int32)), .val (.ref b1), .val (.ref r4)] [(.long (-1 : Int64)), (.long x1), (.int (0 : Int32)), (.ref b1)])) (fun _ k => X4.ldc2Long hx hown (mvT hZ (hw _ (List.mem_of_getElem? (i := 25) rfl))) (g := (mkF m 79 #[.val (.int x0), .val (.long x1), .second, .val (.long x2), .second, .val (.long x3), .second, .val (.int (1 : Int32)), .val (.ref b1), .val (.ref r4)] [(.long x1), (.int (0 : Int32)), (.ref b1)])) rfl (hb hby at_79) _ k) ?_
    refine own_st (T' := T4) (F' := (mkF m 83 #[.val (.int x0), .val (.long x1), .second, .val (.long x2), .second, .val (.long x3), .second, .val (.int (1 : Int32)), .val (.ref b1), .val (.ref r4)] [(.long (x1 ^^^ (-1 : Int64))), (.int (0 : Int32)), (.ref b1)])) (fun _ k => XS.lxor X4.here hx rfl (hb hby at_82) rfl k) ?_
    obtain ⟨cl7, Ar7, Aq7, As7, Am7, Ah7, Au7⟩ := id f6
    have hin7 : ¬ ((0 : Int32) < 0 ∨ cl7.slots.size ≤ ((0 : Int32)).toNatClampNeg) := inb_of As7 ⟨by decide, by decide⟩
    obtain ⟨T7, h7, X7, e7, W7, st7⟩ := stJ X4 hx hZ rfl Ar7 (j := (0 : Int32)) hin7 (g := (mkF m 83 #[.val (.int x0), .val (.long x1), .second, .val (.long x2), .second, .val (.long x3), .second, .val (.int (1 : Int32)), .val (.ref b1), .val (.ref r4)] [(.long (x1 ^^^ (-1 : Int64))), (.int (0 : Int32)), (.ref b1)])) rfl rfl (hb hby at_83)
    have V7 : Arv Z h7 b1 k1 .long (1 : Int32) [(.long (x1 ^^^ (-1 : Int64)))] (.long (0 : Int64)) := Arv.set Ar7 Aq7 As7 Am7 Ah7 Au7 rfl W7 0 rfl (show 0 < 1 by decide)
    have N7 := Fr.snoc X7 N4 ge1
    have f8 : Exa Z h7 b1 "[J" := f5.wr W7
    have f9 : Exa Z h7 r4 "com/example/macaque/macaque/Value" := zE4.wr W7
    have f10 : Fld Z h7 r4 "com/example/macaque/macaque/Value" "keys" "[J" (.ref bk4) := zF4.other W7 (Or.inl (Ne.symm zne4))
    have f11 : Arv Z h7 bk4 k1 .long (1 : Int32) [(.long x1)] (.long (0 : Int64)) := zA4.other W7 (Ne.symm bne4)
    have K7 : Keep h0 h7 [] := K4.wr W7 (Or.inr hge1)
    have Zs7 : n0 ≤ h7.size := Nat.le_trans Z0 K7.1
    refine own_st (T' := T7) (F' := (mkF m 84 #[.val (.int x0), .val (.long x1), .second, .val (.long x2), .second, .val (.long x3), .second, .val (.int (1 : Int32)), .val (.ref b1), .val (.ref r4)] [])) (fun _ k => st7 _ k) ?_
    refine own_st (T' := T7) (F' := (mkF m 86 #[.val (.int x0), .val (.long x1), .second, .val (.long x2), .second, .val (.long x3), .second, .val (.int (1 : Int32)), .val (.ref b1), .val (.ref r4)] [(.int (1 : Int32))])) (fun _ k => XS.iload X7.here hx rfl (hb hby at_84) rfl  k) ?_
    refine own_st (T' := T7) (F' := (mkF m 87 #[.val (.int x0), .val (.long x1), .second, .val (.long x2), .second, .val (.long x3), .second, .val (.int (1 : Int32)), .val (.ref b1), .val (.ref r4)] [(.int (2 : Int32)), (.int (1 : Int32))])) (fun _ k => XS.iconst X7.here hx rfl (hb hby at_86) k) ?_
    refine own_icmp X7 hx (pc' := 99) (pc2 := 90) (hb hby at_87) (by decide) (by decide) rfl (fun (hc87 : (1 : Int32) < (2 : Int32)) => ?_) (fun (hc87 : ¬ ((1 : Int32) < (2 : Int32))) => ?_)
    rotate_left
    · exact absurd hc87 (by decide)
    refine own_st (T' := T7) (F' := (mkF m 101 #[.val (.int x0), .val (.long x1), .second, .val (.long x2), .second, .val (.long x3), .second, .val (.int (1 : Int32)), .val (.ref b1), .val (.ref r4)] [(.int (1 : Int32))])) (fun _ k => XS.iload X7.here hx rfl (hb hby at_99) rfl  k) ?_
    refine own_st (T' := T7) (F' := (mkF m 102 #[.val (.int x0), .val (.long x1), .second, .val (.long x2), .second, .val (.long x3), .second, .val (.int (1 : Int32)), .val (.ref b1), .val (.ref r4)] [(.int (3 : Int32)), (.int (1 : Int32))])) (fun _ k => XS.iconst X7.here hx rfl (hb hby at_101) k) ?_
    refine own_icmp X7 hx (pc' := 115) (pc2 := 105) (hb hby at_102) (by decide) (by decide) rfl (fun (hc102 : ¬ ((1 : Int32) = (3 : Int32))) => ?_) (fun (hc102 : (1 : Int32) = (3 : Int32)) => ?_)
    rotate_left
    · exact absurd hc102 (by decide)
    refine own_st (T' := T7) (F' := (mkF m 117 #[.val (.int x0), .val (.long x1), .second, .val (.long x2), .second, .val (.long x3), .second, .val (.int (1 : Int32)), .val (.ref b1), .val (.ref r4)] [(.ref r4)])) (fun _ k => XS.aload X7.here hx rfl (hb hby at_115) rfl rfl k) ?_
    obtain ⟨cq12, kq12, q12a, q12b, q12c⟩ := isOf hZ e7 f9
    obtain ⟨_, _, ⟨T12, L12, k12, n12⟩, -, X12, ⟨Lc12, hQ12, l12, y12, z12⟩, st12⟩ := X7.virtualBack hx (y := (⟨"com/example/macaque/macaque/Value", "size", "()I"⟩ : MethodName)) (z := (⟨"com/example/macaque/macaque/Value", "size", "()I"⟩ : MethodName)) hown (mvT hZ (hw _ (List.mem_of_getElem? (i := 26) rfl))) (mvT hZ (hw _ (List.mem_of_getElem? (i := 27) rfl))) (notFace_of_selects (args := #[]) (mvT hZ (hw _ (List.mem_of_getElem? (i := 29) rfl)))) (mvT hZ (hw _ (List.mem_of_getElem? (i := 29) rfl))) (mvT hZ (hw _ (List.mem_of_getElem? (i := 28) rfl))) (by decide) (backOf (W := 0) (rm4 l Z a0 hw [] r4 bk4 k1 (1 : Int32) ([(.long x1)]) h7 n0 Zs7 f10 f11) hZ (hw _ (List.mem_of_getElem? (i := 30) rfl)) (hw _ (List.mem_of_getElem? (i := 4) rfl)) (by decide) (by decide)) q12a q12c (g := (mkF m 117 #[.val (.int x0), .val (.long x1), .second, .val (.long x2), .second, .val (.long x3), .second, .val (.int (1 : Int32)), .val (.ref b1), .val (.ref r4)] [(.ref r4)])) rfl (by rw [hml]; rfl) (Steps.refl _) (argsL := []) (rest := []) (lenOf own_pd2 rfl) rfl (by show 2 * 0 + _ ≤ _; exact Nat.le_of_eq rfl) (hb hby at_117) (fun _ _ => ⟨rfl, e7, (by decide : 3 + 0 ≤ _), (by decide : 5 + 0 ≤ _)⟩)
    dsimp only [Pt.U, Pt.locs, Pt.cells, Pt.slots] at X12 l12 y12 z12 st12 hQ12
    subst l12 y12 z12
    obtain ⟨⟨r12, rfl, hr12⟩, Nq12, eq12⟩ := hQ12
    have N12 := Fr.app N7 Nq12
    refine own_tr (T' := T12) (F' := (mkF m 120 #[.val (.int x0), .val (.long x1), .second, .val (.long x2), .second, .val (.long x3), .second, .val (.int (1 : Int32)), .val (.ref b1), .val (.ref r4)] [(.int r12)])) st12 ?_
    refine own_st (T' := T12) (F' := (mkF m 122 #[.val (.int x0), .val (.long x1), .second, .val (.long x2), .second, .val (.long x3), .second, .val (.int (1 : Int32)), .val (.ref b1), .val (.ref r4)] [(.int (1 : Int32)), (.int r12)])) (fun _ k => XS.iload X12.here hx rfl (hb hby at_120) rfl  k) ?_
    refine own_icmp X12 hx (pc' := 127) (pc2 := 125) (hb hby at_122) (by decide) (by decide) rfl (fun (hc122 : r12 = (1 : Int32)) => ?_) (fun (hc122 : ¬ (r12 = (1 : Int32))) => ?_)
    ·
      refine own_st (T' := T12) (F' := (mkF m 129 #[.val (.int x0), .val (.long x1), .second, .val (.long x2), .second, .val (.long x3), .second, .val (.int (1 : Int32)), .val (.ref b1), .val (.ref r4)] [(.ref r4)])) (fun _ k => XS.aload X12.here hx rfl (hb hby at_127) rfl rfl k) ?_
      refine own_st (T' := T12) (F' := (mkF m 130 #[.val (.int x0), .val (.long x1), .second, .val (.long x2), .second, .val (.long x3), .second, .val (.int (1 : Int32)), .val (.ref b1), .val (.ref r4)] [(.int (0 : Int32)), (.ref r4)])) (fun _ k => XS.iconst X12.here hx rfl (hb hby at_129) k) ?_
      obtain ⟨cq13, kq13, q13a, q13b, q13c⟩ := isOf hZ eq12 f9
      obtain ⟨_, _, ⟨T13, L13, k13, n13⟩, -, X13, ⟨Lc13, hQ13, l13, y13, z13⟩, st13⟩ := X12.virtualBack hx (y := (⟨"com/example/macaque/macaque/Value", "key", "(I)J"⟩ : MethodName)) (z := (⟨"com/example/macaque/macaque/Value", "key", "(I)J"⟩ : MethodName)) hown (mvT hZ (hw _ (List.mem_of_getElem? (i := 31) rfl))) (mvT hZ (hw _ (List.mem_of_getElem? (i := 32) rfl))) (notFace_of_selects (args := #[]) (mvT hZ (hw _ (List.mem_of_getElem? (i := 34) rfl)))) (mvT hZ (hw _ (List.mem_of_getElem? (i := 34) rfl))) (mvT hZ (hw _ (List.mem_of_getElem? (i := 33) rfl))) (by decide) (backOf (W := 0) (rm5 l Z a0 hw [] r4 (0 : Int32) bk4 k1 (1 : Int32) ([(.long x1)]) x1 h7 n0 Zs7 f10 f11 ⟨by decide, by decide⟩ rfl) hZ (hw _ (List.mem_of_getElem? (i := 35) rfl)) (hw _ (List.mem_of_getElem? (i := 4) rfl)) (by decide) (by decide)) q13a q13c (g := (mkF m 130 #[.val (.int x0), .val (.long x1), .second, .val (.long x2), .second, .val (.long x3), .second, .val (.int (1 : Int32)), .val (.ref b1), .val (.ref r4)] [(.int (0 : Int32)), (.ref r4)])) rfl (by rw [hml]; rfl) (Steps.refl _) (argsL := [(.int (0 : Int32))]) (rest := []) (lenOf own_pd3 rfl) rfl (by show 2 * 0 + _ ≤ _; exact Nat.le_of_eq rfl) (hb hby at_130) (fun _ _ => ⟨rfl, eq12, (by decide : 3 + 0 ≤ _), (by decide : 5 + 0 ≤ _)⟩)
      dsimp only [Pt.U, Pt.locs, Pt.cells, Pt.slots] at X13 l13 y13 z13 st13 hQ13
      subst l13 y13 z13
      obtain ⟨⟨r13, rfl, hr13⟩, Nq13, eq13⟩ := hQ13
      have N13 := Fr.app N12 Nq13
      refine own_tr (T' := T13) (F' := (mkF m 133 #[.val (.int x0), .val (.long x1), .second, .val (.long x2), .second, .val (.long x3), .second, .val (.int (1 : Int32)), .val (.ref b1), .val (.ref r4)] [(.long r13)])) st13 ?_
      refine own_st (T' := T13) (F' := (mkF m 134 #[.val (.int x0), .val (.long x1), .second, .val (.long x2), .second, .val (.long x3), .second, .val (.int (1 : Int32)), .val (.ref b1), .val (.ref r4)] [(.long x1), (.long r13)])) (fun _ k => XS.lloadN X13.here hx rfl (hb hby at_133) rfl  k) ?_
      refine own_st (T' := T13) (F' := (mkF m 135 #[.val (.int x0), .val (.long x1), .second, .val (.long x2), .second, .val (.long x3), .second, .val (.int (1 : Int32)), .val (.ref b1), .val (.ref r4)] [(.int (lcmpW r13 x1))])) (fun _ k => XS.lcmp X13.here hx rfl (hb hby at_134) rfl k) ?_
      refine own_iflc X13 hx (pc' := 140) (pc2 := 138) (hb hby at_135) (by decide) (by decide) rfl (fun (hc135 : r13 = x1) => ?_) (fun (hc135 : ¬ (r13 = x1)) => ?_)
      ·
        refine own_st (T' := T13) (F' := (mkF m 142 #[.val (.int x0), .val (.long x1), .second, .val (.long x2), .second, .val (.long x3), .second, .val (.int (1 : Int32)), .val (.ref b1), .val (.ref r4)] [(.int (1 : Int32))])) (fun _ k => XS.iload X13.here hx rfl (hb hby at_140) rfl  k) ?_
        refine own_st (T' := T13) (F' := (mkF m 143 #[.val (.int x0), .val (.long x1), .second, .val (.long x2), .second, .val (.long x3), .second, .val (.int (1 : Int32)), .val (.ref b1), .val (.ref r4)] [(.int (2 : Int32)), (.int (1 : Int32))])) (fun _ k => XS.iconst X13.here hx rfl (hb hby at_142) k) ?_
        refine own_icmp X13 hx (pc' := 159) (pc2 := 146) (hb hby at_143) (by decide) (by decide) rfl (fun (hc143 : (1 : Int32) < (2 : Int32)) => ?_) (fun (hc143 : ¬ ((1 : Int32) < (2 : Int32))) => ?_)
        rotate_left
        · exact absurd hc143 (by decide)
        refine own_st (T' := T13) (F' := (mkF m 161 #[.val (.int x0), .val (.long x1), .second, .val (.long x2), .second, .val (.long x3), .second, .val (.int (1 : Int32)), .val (.ref b1), .val (.ref r4)] [(.int (1 : Int32))])) (fun _ k => XS.iload X13.here hx rfl (hb hby at_159) rfl  k) ?_
        refine own_st (T' := T13) (F' := (mkF m 162 #[.val (.int x0), .val (.long x1), .second, .val (.long x2), .second, .val (.long x3), .second, .val (.int (1 : Int32)), .val (.ref b1), .val (.ref r4)] [(.int (3 : Int32)), (.int (1 : Int32))])) (fun _ k => XS.iconst X13.here hx rfl (hb hby at_161) k) ?_
        refine own_icmp X13 hx (pc' := 179) (pc2 := 165) (hb hby at_162) (by decide) (by decide) rfl (fun (hc162 : ¬ ((1 : Int32) = (3 : Int32))) => ?_) (fun (hc162 : (1 : Int32) = (3 : Int32)) => ?_)
        rotate_left
        · exact absurd hc162 (by decide)
        refine own_st (T' := T13) (F' := (mkF m 180 #[.val (.int x0), .val (.long x1), .second, .val (.long x2), .second, .val (.long x3), .second, .val (.int (1 : Int32)), .val (.ref b1), .val (.ref r4)] [(.int (1 : Int32))])) (fun _ k => XS.iconst X13.here hx rfl (hb hby at_179) k) ?_
        refine own_retN X13 hx hlk (t := .boolean) Bd.returns (by simp) (hb hby at_180) ?_ (by decide) (by decide)
        rw [eq13]
        refine ⟨⟨_, rfl, ?_⟩, N13⟩
        rfl
      ·
        refine own_st (T' := T13) (F' := (mkF m 139 #[.val (.int x0), .val (.long x1), .second, .val (.long x2), .second, .val (.long x3), .second, .val (.int (1 : Int32)), .val (.ref b1), .val (.ref r4)] [(.int (0 : Int32))])) (fun _ k => XS.iconst X13.here hx rfl (hb hby at_138) k) ?_
        refine own_retN X13 hx hlk (t := .boolean) Bd.returns (by simp) (hb hby at_139) ?_ (by decide) (by decide)
        rw [eq13]
        refine ⟨⟨_, rfl, ?_⟩, N13⟩
        exact absurd hr13 hc135
    ·
      refine own_st (T' := T12) (F' := (mkF m 126 #[.val (.int x0), .val (.long x1), .second, .val (.long x2), .second, .val (.long x3), .second, .val (.int (1 : Int32)), .val (.ref b1), .val (.ref r4)] [(.int (0 : Int32))])) (fun _ k => XS.iconst X12.here hx rfl (hb hby at_125) k) ?_
      refine own_retN X12 hx hlk (t := .boolean) Bd.returns (by simp) (hb hby at_126) ?_ (by decide) (by decide)
      rw [eq12]
      refine ⟨⟨_, rfl, ?_⟩, N12⟩
      exact absurd hr12 hc122
  ·
    rw [hn3]
    show own_Go p e below s (Q0 Z x0 x1 x2 x3  h0 n0) room_1.cells room_1.slots s₁ (mkF m 10 #[.val (.int x0), .val (.long x1), .second, .val (.long x2), .second, .val (.long x3), .second, .val (.int (2 : Int32)), .unset, .unset] [])
    refine own_st (T' := s₁) (F' := (mkF m 12 #[.val (.int x0), .val (.long x1), .second, .val (.long x2), .second, .val (.long x3), .second, .val (.int (2 : Int32)), .unset, .unset] [(.int (2 : Int32))])) (fun _ k => XS.iload X0.here hx rfl (hb hby at_10) rfl  k) ?_
    refine own_st (T' := s₁) (F' := (mkF m 13 #[.val (.int x0), .val (.long x1), .second, .val (.long x2), .second, .val (.long x3), .second, .val (.int (2 : Int32)), .unset, .unset] [(.int (1 : Int32)), (.int (2 : Int32))])) (fun _ k => XS.iconst X0.here hx rfl (hb hby at_12) k) ?_
    refine own_icmp X0 hx (pc' := 28) (pc2 := 16) (hb hby at_13) (by decide) (by decide) rfl (fun (hc13 : ¬ ((2 : Int32) = (1 : Int32))) => ?_) (fun (hc13 : (2 : Int32) = (1 : Int32)) => ?_)
    rotate_left
    · exact absurd hc13 (by decide)
    refine own_st (T' := s₁) (F' := (mkF m 30 #[.val (.int x0), .val (.long x1), .second, .val (.long x2), .second, .val (.long x3), .second, .val (.int (2 : Int32)), .unset, .unset] [(.int (2 : Int32))])) (fun _ k => XS.iload X0.here hx rfl (hb hby at_28) rfl  k) ?_
    refine own_st (T' := s₁) (F' := (mkF m 31 #[.val (.int x0), .val (.long x1), .second, .val (.long x2), .second, .val (.long x3), .second, .val (.int (2 : Int32)), .unset, .unset] [(.int (2 : Int32)), (.int (2 : Int32))])) (fun _ k => XS.iconst X0.here hx rfl (hb hby at_30) k) ?_
    refine own_icmp X0 hx (pc' := 50) (pc2 := 34) (hb hby at_31) (by decide) (by decide) rfl (fun (hc31 : ¬ ((2 : Int32) = (2 : Int32))) => ?_) (fun (hc31 : (2 : Int32) = (2 : Int32)) => ?_)
    · exact absurd hc31 (by decide)
    refine own_st (T' := s₁) (F' := (mkF m 35 #[.val (.int x0), .val (.long x1), .second, .val (.long x2), .second, .val (.long x3), .second, .val (.int (2 : Int32)), .unset, .unset] [(.int (2 : Int32))])) (fun _ k => XS.iconst X0.here hx rfl (hb hby at_34) k) ?_
    obtain ⟨T14, h14, k14, X14, e14, E14, A14, AE14, st14⟩ := newPE X0 hx hZ (hw _ (List.mem_of_getElem? (i := 1) rfl)) e0 (g := (mkF m 35 #[.val (.int x0), .val (.long x1), .second, .val (.long x2), .second, .val (.long x3), .second, .val (.int (2 : Int32)), .unset, .unset] [(.int (2 : Int32))])) rfl (hb hby at_35) rfl (by decide) (cap := 2) (by decide) (by decide) (by decide) (by decide) (ad := "[J") (by decide)
    obtain ⟨b14, g14⟩ : ∃ z, z = h0.size := ⟨_, rfl⟩
    rw [← g14] at A14 AE14 st14
    have ge14 : n0 ≤ b14 := by rw [g14]; exact Z0
    have hge14 : h0.size ≤ b14 := by rw [g14]; exact (Keep.refl h0 []).1
    have K14 : Keep h0 h14 [] := (Keep.refl h0 []).ext E14
    have Zs14 : n0 ≤ h14.size := Nat.le_trans Z0 K14.1
    have V14 : Arv Z h14 b14 k14 .long (2 : Int32) [(.long (0 : Int64)), (.long (0 : Int64))] (.long (0 : Int64)) := (Arv.new A14 (by decide)).pad (pad_rep [] (.long (0 : Int64)) 2)
    refine own_st (T' := T14) (F' := (mkF m 37 #[.val (.int x0), .val (.long x1), .second, .val (.long x2), .second, .val (.long x3), .second, .val (.int (2 : Int32)), .unset, .unset] [(.ref b14)])) (fun _ k => st14 _ k) ?_
    refine own_st (T' := T14) (F' := (mkF m 38 #[.val (.int x0), .val (.long x1), .second, .val (.long x2), .second, .val (.long x3), .second, .val (.int (2 : Int32)), .unset, .unset] [(.ref b14), (.ref b14)])) (fun _ k => XS.dup X14.here hx rfl (hb hby at_37) rfl rfl k) ?_
    refine own_st (T' := T14) (F' := (mkF m 39 #[.val (.int x0), .val (.long x1), .second, .val (.long x2), .second, .val (.long x3), .second, .val (.int (2 : Int32)), .unset, .unset] [(.int (0 : Int32)), (.ref b14), (.ref b14)])) (fun _ k => XS.iconst X14.here hx rfl (hb hby at_38) k) ?_
    refine own_st (T' := T14) (F' := (mkF m 40 #[.val (.int x0), .val (.long x1), .second, .val (.long x2), .second, .val (.long x3), .second, .val (.int (2 : Int32)), .unset, .unset] [(.long x1), (.int (0 : Int32)), (.ref b14), (.ref b14)])) (fun _ k => XS.lloadN X14.here hx rfl (hb hby at_39) rfl  k) ?_
    obtain ⟨cl15, Ar15, Aq15, As15, Am15, Ah15, Au15⟩ := id V14
    have hin15 : ¬ ((0 : Int32) < 0 ∨ cl15.slots.size ≤ ((0 : Int32)).toNatClampNeg) := inb_of As15 ⟨by decide, by decide⟩
    obtain ⟨T15, h15, X15, e15, W15, st15⟩ := stJ X14 hx hZ e14 Ar15 (j := (0 : Int32)) hin15 (g := (mkF m 40 #[.val (.int x0), .val (.long x1), .second, .val (.long x2), .second, .val (.long x3), .second, .val (.int (2 : Int32)), .unset, .unset] [(.long x1), (.int (0 : Int32)), (.ref b14), (.ref b14)])) rfl rfl (hb hby at_40)
    have V15 : Arv Z h15 b14 k14 .long (2 : Int32) [(.long x1), (.long (0 : Int64))] (.long (0 : Int64)) := Arv.set Ar15 Aq15 As15 Am15 Ah15 Au15 rfl W15 0 rfl (show 0 < 2 by decide)
    have N15 := Fr.snoc X15 N0 ge14
    have f16 : Exa Z h15 b14 "[J" := AE14.wr W15
    have K15 : Keep h0 h15 [] := K14.wr W15 (Or.inr hge14)
    have Zs15 : n0 ≤ h15.size := Nat.le_trans Z0 K15.1
    refine own_st (T' := T15) (F' := (mkF m 41 #[.val (.int x0), .val (.long x1), .second, .val (.long x2), .second, .val (.long x3), .second, .val (.int (2 : Int32)), .unset, .unset] [(.ref b14)])) (fun _ k => st15 _ k) ?_
    refine own_st (T' := T15) (F' := (mkF m 42 #[.val (.int x0), .val (.long x1), .second, .val (.long x2), .second, .val (.long x3), .second, .val (.int (2 : Int32)), .unset, .unset] [(.ref b14), (.ref b14)])) (fun _ k => XS.dup X15.here hx rfl (hb hby at_41) rfl rfl k) ?_
    refine own_st (T' := T15) (F' := (mkF m 43 #[.val (.int x0), .val (.long x1), .second, .val (.long x2), .second, .val (.long x3), .second, .val (.int (2 : Int32)), .unset, .unset] [(.int (1 : Int32)), (.ref b14), (.ref b14)])) (fun _ k => XS.iconst X15.here hx rfl (hb hby at_42) k) ?_
    refine own_st (T' := T15) (F' := (mkF m 44 #[.val (.int x0), .val (.long x1), .second, .val (.long x2), .second, .val (.long x3), .second, .val (.int (2 : Int32)), .unset, .unset] [(.long x2), (.int (1 : Int32)), (.ref b14), (.ref b14)])) (fun _ k => XS.lloadN X15.here hx rfl (hb hby at_43) rfl  k) ?_
    obtain ⟨cl17, Ar17, Aq17, As17, Am17, Ah17, Au17⟩ := id V15
    have hin17 : ¬ ((1 : Int32) < 0 ∨ cl17.slots.size ≤ ((1 : Int32)).toNatClampNeg) := inb_of As17 ⟨by decide, by decide⟩
    obtain ⟨T17, h17, X17, e17, W17, st17⟩ := stJ X15 hx hZ e15 Ar17 (j := (1 : Int32)) hin17 (g := (mkF m 44 #[.val (.int x0), .val (.long x1), .second, .val (.long x2), .second, .val (.long x3), .second, .val (.int (2 : Int32)), .unset, .unset] [(.long x2), (.int (1 : Int32)), (.ref b14), (.ref b14)])) rfl rfl (hb hby at_44)
    have V17 : Arv Z h17 b14 k14 .long (2 : Int32) [(.long x1), (.long x2)] (.long (0 : Int64)) := Arv.set Ar17 Aq17 As17 Am17 Ah17 Au17 rfl W17 1 rfl (show 1 < 2 by decide)
    have N17 := Fr.snoc X17 N15 ge14
    have f18 : Exa Z h17 b14 "[J" := f16.wr W17
    have K17 : Keep h0 h17 [] := K15.wr W17 (Or.inr hge14)
    have Zs17 : n0 ≤ h17.size := Nat.le_trans Z0 K17.1
    refine own_st (T' := T17) (F' := (mkF m 45 #[.val (.int x0), .val (.long x1), .second, .val (.long x2), .second, .val (.long x3), .second, .val (.int (2 : Int32)), .unset, .unset] [(.ref b14)])) (fun _ k => st17 _ k) ?_
    refine own_st (T' := T17) (F' := (mkF m 47 #[.val (.int x0), .val (.long x1), .second, .val (.long x2), .second, .val (.long x3), .second, .val (.int (2 : Int32)), .val (.ref b14), .unset] [])) (fun _ k => XS.astore X17.here hx rfl (hb hby at_45) rfl rfl (l' := #[.val (.int x0), .val (.long x1), .second, .val (.long x2), .second, .val (.long x3), .second, .val (.int (2 : Int32)), .val (.ref b14), .unset]) rfl k) ?_
    refine own_st (T' := T17) (F' := (mkF m 68 #[.val (.int x0), .val (.long x1), .second, .val (.long x2), .second, .val (.long x3), .second, .val (.int (2 : Int32)), .val (.ref b14), .unset] [])) (fun _ k => XS.goto X17.here hx rfl (pc0 := 47) (pc' := 68) rfl (hb hby at_47) (by decide) (by decide) k) ?_
    refine own_st (T' := T17) (F' := (mkF m 70 #[.val (.int x0), .val (.long x1), .second, .val (.long x2), .second, .val (.long x3), .second, .val (.int (2 : Int32)), .val (.ref b14), .unset] [(.ref b14)])) (fun _ k => XS.aload X17.here hx rfl (hb hby at_68) rfl rfl k) ?_
    obtain ⟨_, _, ⟨T19, L19, k19, n19⟩, -, X19, ⟨Lc19, hQ19, l19, y19, z19⟩, st19⟩ := Jvm.LawKit.callS X17 hx (y := (⟨"com/example/macaque/macaque/Value", "of", "([J)Lcom/example/macaque/macaque/Value;"⟩ : MethodName)) hown (mvT hZ (hw _ (List.mem_of_getElem? (i := 2) rfl))) (mvT hZ (hw _ (List.mem_of_getElem? (i := 3) rfl))) (mvT hZ (hw _ (List.mem_of_getElem? (i := 4) rfl))) (mvT hZ (hw _ (List.mem_of_getElem? (i := 5) rfl))) (by decide) (backOf (W := 0) (rm1 l Z a0 hw [] b14 k14 (2 : Int32) ([(.long x1), (.long x2)]) h17 n0 Zs17 V17 f18 (by decide) (by decide)) hZ (hw _ (List.mem_of_getElem? (i := 5) rfl)) (hw _ (List.mem_of_getElem? (i := 4) rfl)) (by decide) (by decide)) (g := (mkF m 70 #[.val (.int x0), .val (.long x1), .second, .val (.long x2), .second, .val (.long x3), .second, .val (.int (2 : Int32)), .val (.ref b14), .unset] [(.ref b14)])) rfl (by rw [hml]; rfl) (argsL := [(.ref b14)]) (rest := []) (lenOf own_pd1 rfl) rfl (by show 2 * 0 + _ ≤ _; exact Nat.le_of_eq rfl) (hb hby at_70) (fun _ _ => ⟨rfl, e17, (by decide : 1 + 2 ≤ _), (by decide : 2 + 4 ≤ _)⟩)
    dsimp only [Pt.U, Pt.locs, Pt.cells, Pt.slots] at X19 l19 y19 z19 st19 hQ19
    subst l19 y19 z19
    obtain ⟨⟨r19, rfl, hr19⟩, Nq19, g19_0⟩ := hQ19
    have N19 := Fr.app N17 Nq19
    have f20 : Exa Z T19.heap b14 "[J" := f18.keep g19_0
    have f21 : Arv Z T19.heap b14 k14 .long (2 : Int32) [(.long x1), (.long x2)] (.long (0 : Int64)) := V17.keep g19_0 nin0
    have K19 : Keep h0 T19.heap [] := K17.trans g19_0 all0
    have Zs19 : n0 ≤ T19.heap.size := Nat.le_trans Z0 K19.1
    obtain ⟨zge19, zE19, bk19, bge19, zF19, zA19⟩ := hr19
    have bne19 : b14 ≠ bk19 := Nat.ne_of_lt (Nat.lt_of_lt_of_le V17.lt bge19)
    have zne19 : b14 ≠ r19 := Nat.ne_of_lt (Nat.lt_of_lt_of_le V17.lt zge19)
    refine own_st (T' := T19) (F' := (mkF m 73 #[.val (.int x0), .val (.long x1), .second, .val (.long x2), .second, .val (.long x3), .second, .val (.int (2 : Int32)), .val (.ref b14), .unset] [(.ref r19)])) (fun _ k => st19 _ k) ?_
    refine own_st (T' := T19) (F' := (mkF m 75 #[.val (.int x0), .val (.long x1), .second, .val (.long x2), .second, .val (.long x3), .second, .val (.int (2 : Int32)), .val (.ref b14), .val (.ref r19)] [])) (fun _ k => XS.astore X19.here hx rfl (hb hby at_73) rfl rfl (l' := #[.val (.int x0), .val (.long x1), .second, .val (.long x2), .second, .val (.long x3), .second, .val (.int (2 : Int32)), .val (.ref b14), .val (.ref r19)]) rfl k) ?_
    refine own_st (T' := T19) (F' := (mkF m 77 #[.val (.int x0), .val (.long x1), .second, .val (.long x2), .second, .val (.long x3), .second, .val (.int (2 : Int32)), .val (.ref b14), .val (.ref r19)] [(.ref b14)])) (fun _ k => XS.aload X19.here hx rfl (hb hby at_75) rfl rfl k) ?_
    refine own_st (T' := T19) (F' := (mkF m 78 #[.val (.int x0), .val (.long x1), .second, .val (.long x2), .second, .val (.long x3), .second, .val (.int (2 : Int32)), .val (.ref b14), .val (.ref r19)] [(.int (0 : Int32)), (.ref b14)])) (fun _ k => XS.iconst X19.here hx rfl (hb hby at_77) k) ?_
    refine own_st (T' := T19) (F' := (mkF m 79 #[.val (.int x0), .val (.long x1), .second, .val (.long x2), .second, .val (.long x3), .second, .val (.int (2 : Int32)), .val (.ref b14), .val (.ref r19)] [(.long x1), (.int (0 : Int32)), (.ref b14)])) (fun _ k => XS.lloadN X19.here hx rfl (hb hby at_78) rfl  k) ?_
    refine own_st (T' := T19) (F' := (mkF m 82 #[.val (.int x0), .val (.long x1), .second, .val (.long x2), .second, .val (.long x3), .second, .val (.int (2 : Int32)), .val (.ref b14), .val (.ref r19)] [(.long (-1 : Int64)), (.long x1), (.int (0 : Int32)), (.ref b14)])) (fun _ k => X19.ldc2Long hx hown (mvT hZ (hw _ (List.mem_of_getElem? (i := 25) rfl))) (g := (mkF m 79 #[.val (.int x0), .val (.long x1), .second, .val (.long x2), .second, .val (.long x3), .second, .val (.int (2 : Int32)), .val (.ref b14), .val (.ref r19)] [(.long x1), (.int (0 : Int32)), (.ref b14)])) rfl (hb hby at_79) _ k) ?_
    refine own_st (T' := T19) (F' := (mkF m 83 #[.val (.int x0), .val (.long x1), .second, .val (.long x2), .second, .val (.long x3), .second, .val (.int (2 : Int32)), .val (.ref b14), .val (.ref r19)] [(.long (x1 ^^^ (-1 : Int64))), (.int (0 : Int32)), (.ref b14)])) (fun _ k => XS.lxor X19.here hx rfl (hb hby at_82) rfl k) ?_
    obtain ⟨cl22, Ar22, Aq22, As22, Am22, Ah22, Au22⟩ := id f21
    have hin22 : ¬ ((0 : Int32) < 0 ∨ cl22.slots.size ≤ ((0 : Int32)).toNatClampNeg) := inb_of As22 ⟨by decide, by decide⟩
    obtain ⟨T22, h22, X22, e22, W22, st22⟩ := stJ X19 hx hZ rfl Ar22 (j := (0 : Int32)) hin22 (g := (mkF m 83 #[.val (.int x0), .val (.long x1), .second, .val (.long x2), .second, .val (.long x3), .second, .val (.int (2 : Int32)), .val (.ref b14), .val (.ref r19)] [(.long (x1 ^^^ (-1 : Int64))), (.int (0 : Int32)), (.ref b14)])) rfl rfl (hb hby at_83)
    have V22 : Arv Z h22 b14 k14 .long (2 : Int32) [(.long (x1 ^^^ (-1 : Int64))), (.long x2)] (.long (0 : Int64)) := Arv.set Ar22 Aq22 As22 Am22 Ah22 Au22 rfl W22 0 rfl (show 0 < 2 by decide)
    have N22 := Fr.snoc X22 N19 ge14
    have f23 : Exa Z h22 b14 "[J" := f20.wr W22
    have f24 : Exa Z h22 r19 "com/example/macaque/macaque/Value" := zE19.wr W22
    have f25 : Fld Z h22 r19 "com/example/macaque/macaque/Value" "keys" "[J" (.ref bk19) := zF19.other W22 (Or.inl (Ne.symm zne19))
    have f26 : Arv Z h22 bk19 k14 .long (2 : Int32) [(.long x1), (.long x2)] (.long (0 : Int64)) := zA19.other W22 (Ne.symm bne19)
    have K22 : Keep h0 h22 [] := K19.wr W22 (Or.inr hge14)
    have Zs22 : n0 ≤ h22.size := Nat.le_trans Z0 K22.1
    refine own_st (T' := T22) (F' := (mkF m 84 #[.val (.int x0), .val (.long x1), .second, .val (.long x2), .second, .val (.long x3), .second, .val (.int (2 : Int32)), .val (.ref b14), .val (.ref r19)] [])) (fun _ k => st22 _ k) ?_
    refine own_st (T' := T22) (F' := (mkF m 86 #[.val (.int x0), .val (.long x1), .second, .val (.long x2), .second, .val (.long x3), .second, .val (.int (2 : Int32)), .val (.ref b14), .val (.ref r19)] [(.int (2 : Int32))])) (fun _ k => XS.iload X22.here hx rfl (hb hby at_84) rfl  k) ?_
    refine own_st (T' := T22) (F' := (mkF m 87 #[.val (.int x0), .val (.long x1), .second, .val (.long x2), .second, .val (.long x3), .second, .val (.int (2 : Int32)), .val (.ref b14), .val (.ref r19)] [(.int (2 : Int32)), (.int (2 : Int32))])) (fun _ k => XS.iconst X22.here hx rfl (hb hby at_86) k) ?_
    refine own_icmp X22 hx (pc' := 99) (pc2 := 90) (hb hby at_87) (by decide) (by decide) rfl (fun (hc87 : (2 : Int32) < (2 : Int32)) => ?_) (fun (hc87 : ¬ ((2 : Int32) < (2 : Int32))) => ?_)
    · exact absurd hc87 (by decide)
    refine own_st (T' := T22) (F' := (mkF m 92 #[.val (.int x0), .val (.long x1), .second, .val (.long x2), .second, .val (.long x3), .second, .val (.int (2 : Int32)), .val (.ref b14), .val (.ref r19)] [(.ref b14)])) (fun _ k => XS.aload X22.here hx rfl (hb hby at_90) rfl rfl k) ?_
    refine own_st (T' := T22) (F' := (mkF m 93 #[.val (.int x0), .val (.long x1), .second, .val (.long x2), .second, .val (.long x3), .second, .val (.int (2 : Int32)), .val (.ref b14), .val (.ref r19)] [(.int (1 : Int32)), (.ref b14)])) (fun _ k => XS.iconst X22.here hx rfl (hb hby at_92) k) ?_
    refine own_st (T' := T22) (F' := (mkF m 94 #[.val (.int x0), .val (.long x1), .second, .val (.long x2), .second, .val (.long x3), .second, .val (.int (2 : Int32)), .val (.ref b14), .val (.ref r19)] [(.long x2), (.int (1 : Int32)), (.ref b14)])) (fun _ k => XS.lloadN X22.here hx rfl (hb hby at_93) rfl  k) ?_
    refine own_st (T' := T22) (F' := (mkF m 97 #[.val (.int x0), .val (.long x1), .second, .val (.long x2), .second, .val (.long x3), .second, .val (.int (2 : Int32)), .val (.ref b14), .val (.ref r19)] [(.long (-1 : Int64)), (.long x2), (.int (1 : Int32)), (.ref b14)])) (fun _ k => X22.ldc2Long hx hown (mvT hZ (hw _ (List.mem_of_getElem? (i := 25) rfl))) (g := (mkF m 94 #[.val (.int x0), .val (.long x1), .second, .val (.long x2), .second, .val (.long x3), .second, .val (.int (2 : Int32)), .val (.ref b14), .val (.ref r19)] [(.long x2), (.int (1 : Int32)), (.ref b14)])) rfl (hb hby at_94) _ k) ?_
    refine own_st (T' := T22) (F' := (mkF m 98 #[.val (.int x0), .val (.long x1), .second, .val (.long x2), .second, .val (.long x3), .second, .val (.int (2 : Int32)), .val (.ref b14), .val (.ref r19)] [(.long (x2 ^^^ (-1 : Int64))), (.int (1 : Int32)), (.ref b14)])) (fun _ k => XS.lxor X22.here hx rfl (hb hby at_97) rfl k) ?_
    obtain ⟨cl27, Ar27, Aq27, As27, Am27, Ah27, Au27⟩ := id V22
    have hin27 : ¬ ((1 : Int32) < 0 ∨ cl27.slots.size ≤ ((1 : Int32)).toNatClampNeg) := inb_of As27 ⟨by decide, by decide⟩
    obtain ⟨T27, h27, X27, e27, W27, st27⟩ := stJ X22 hx hZ e22 Ar27 (j := (1 : Int32)) hin27 (g := (mkF m 98 #[.val (.int x0), .val (.long x1), .second, .val (.long x2), .second, .val (.long x3), .second, .val (.int (2 : Int32)), .val (.ref b14), .val (.ref r19)] [(.long (x2 ^^^ (-1 : Int64))), (.int (1 : Int32)), (.ref b14)])) rfl rfl (hb hby at_98)
    have V27 : Arv Z h27 b14 k14 .long (2 : Int32) [(.long (x1 ^^^ (-1 : Int64))), (.long (x2 ^^^ (-1 : Int64)))] (.long (0 : Int64)) := Arv.set Ar27 Aq27 As27 Am27 Ah27 Au27 rfl W27 1 rfl (show 1 < 2 by decide)
    have N27 := Fr.snoc X27 N22 ge14
    have f28 : Exa Z h27 b14 "[J" := f23.wr W27
    have f29 : Exa Z h27 r19 "com/example/macaque/macaque/Value" := f24.wr W27
    have f30 : Fld Z h27 r19 "com/example/macaque/macaque/Value" "keys" "[J" (.ref bk19) := f25.other W27 (Or.inl (Ne.symm zne19))
    have f31 : Arv Z h27 bk19 k14 .long (2 : Int32) [(.long x1), (.long x2)] (.long (0 : Int64)) := f26.other W27 (Ne.symm bne19)
    have K27 : Keep h0 h27 [] := K22.wr W27 (Or.inr hge14)
    have Zs27 : n0 ≤ h27.size := Nat.le_trans Z0 K27.1
    refine own_st (T' := T27) (F' := (mkF m 99 #[.val (.int x0), .val (.long x1), .second, .val (.long x2), .second, .val (.long x3), .second, .val (.int (2 : Int32)), .val (.ref b14), .val (.ref r19)] [])) (fun _ k => st27 _ k) ?_
    refine own_st (T' := T27) (F' := (mkF m 101 #[.val (.int x0), .val (.long x1), .second, .val (.long x2), .second, .val (.long x3), .second, .val (.int (2 : Int32)), .val (.ref b14), .val (.ref r19)] [(.int (2 : Int32))])) (fun _ k => XS.iload X27.here hx rfl (hb hby at_99) rfl  k) ?_
    refine own_st (T' := T27) (F' := (mkF m 102 #[.val (.int x0), .val (.long x1), .second, .val (.long x2), .second, .val (.long x3), .second, .val (.int (2 : Int32)), .val (.ref b14), .val (.ref r19)] [(.int (3 : Int32)), (.int (2 : Int32))])) (fun _ k => XS.iconst X27.here hx rfl (hb hby at_101) k) ?_
    refine own_icmp X27 hx (pc' := 115) (pc2 := 105) (hb hby at_102) (by decide) (by decide) rfl (fun (hc102 : ¬ ((2 : Int32) = (3 : Int32))) => ?_) (fun (hc102 : (2 : Int32) = (3 : Int32)) => ?_)
    rotate_left
    · exact absurd hc102 (by decide)
    refine own_st (T' := T27) (F' := (mkF m 117 #[.val (.int x0), .val (.long x1), .second, .val (.long x2), .second, .val (.long x3), .second, .val (.int (2 : Int32)), .val (.ref b14), .val (.ref r19)] [(.ref r19)])) (fun _ k => XS.aload X27.here hx rfl (hb hby at_115) rfl rfl k) ?_
    obtain ⟨cq32, kq32, q32a, q32b, q32c⟩ := isOf hZ e27 f29
    obtain ⟨_, _, ⟨T32, L32, k32, n32⟩, -, X32, ⟨Lc32, hQ32, l32, y32, z32⟩, st32⟩ := X27.virtualBack hx (y := (⟨"com/example/macaque/macaque/Value", "size", "()I"⟩ : MethodName)) (z := (⟨"com/example/macaque/macaque/Value", "size", "()I"⟩ : MethodName)) hown (mvT hZ (hw _ (List.mem_of_getElem? (i := 26) rfl))) (mvT hZ (hw _ (List.mem_of_getElem? (i := 27) rfl))) (notFace_of_selects (args := #[]) (mvT hZ (hw _ (List.mem_of_getElem? (i := 29) rfl)))) (mvT hZ (hw _ (List.mem_of_getElem? (i := 29) rfl))) (mvT hZ (hw _ (List.mem_of_getElem? (i := 28) rfl))) (by decide) (backOf (W := 0) (rm4 l Z a0 hw [] r19 bk19 k14 (2 : Int32) ([(.long x1), (.long x2)]) h27 n0 Zs27 f30 f31) hZ (hw _ (List.mem_of_getElem? (i := 30) rfl)) (hw _ (List.mem_of_getElem? (i := 4) rfl)) (by decide) (by decide)) q32a q32c (g := (mkF m 117 #[.val (.int x0), .val (.long x1), .second, .val (.long x2), .second, .val (.long x3), .second, .val (.int (2 : Int32)), .val (.ref b14), .val (.ref r19)] [(.ref r19)])) rfl (by rw [hml]; rfl) (Steps.refl _) (argsL := []) (rest := []) (lenOf own_pd2 rfl) rfl (by show 2 * 0 + _ ≤ _; exact Nat.le_of_eq rfl) (hb hby at_117) (fun _ _ => ⟨rfl, e27, (by decide : 3 + 0 ≤ _), (by decide : 6 + 0 ≤ _)⟩)
    dsimp only [Pt.U, Pt.locs, Pt.cells, Pt.slots] at X32 l32 y32 z32 st32 hQ32
    subst l32 y32 z32
    obtain ⟨⟨r32, rfl, hr32⟩, Nq32, eq32⟩ := hQ32
    have N32 := Fr.app N27 Nq32
    refine own_tr (T' := T32) (F' := (mkF m 120 #[.val (.int x0), .val (.long x1), .second, .val (.long x2), .second, .val (.long x3), .second, .val (.int (2 : Int32)), .val (.ref b14), .val (.ref r19)] [(.int r32)])) st32 ?_
    refine own_st (T' := T32) (F' := (mkF m 122 #[.val (.int x0), .val (.long x1), .second, .val (.long x2), .second, .val (.long x3), .second, .val (.int (2 : Int32)), .val (.ref b14), .val (.ref r19)] [(.int (2 : Int32)), (.int r32)])) (fun _ k => XS.iload X32.here hx rfl (hb hby at_120) rfl  k) ?_
    refine own_icmp X32 hx (pc' := 127) (pc2 := 125) (hb hby at_122) (by decide) (by decide) rfl (fun (hc122 : r32 = (2 : Int32)) => ?_) (fun (hc122 : ¬ (r32 = (2 : Int32))) => ?_)
    ·
      refine own_st (T' := T32) (F' := (mkF m 129 #[.val (.int x0), .val (.long x1), .second, .val (.long x2), .second, .val (.long x3), .second, .val (.int (2 : Int32)), .val (.ref b14), .val (.ref r19)] [(.ref r19)])) (fun _ k => XS.aload X32.here hx rfl (hb hby at_127) rfl rfl k) ?_
      refine own_st (T' := T32) (F' := (mkF m 130 #[.val (.int x0), .val (.long x1), .second, .val (.long x2), .second, .val (.long x3), .second, .val (.int (2 : Int32)), .val (.ref b14), .val (.ref r19)] [(.int (0 : Int32)), (.ref r19)])) (fun _ k => XS.iconst X32.here hx rfl (hb hby at_129) k) ?_
      obtain ⟨cq33, kq33, q33a, q33b, q33c⟩ := isOf hZ eq32 f29
      obtain ⟨_, _, ⟨T33, L33, k33, n33⟩, -, X33, ⟨Lc33, hQ33, l33, y33, z33⟩, st33⟩ := X32.virtualBack hx (y := (⟨"com/example/macaque/macaque/Value", "key", "(I)J"⟩ : MethodName)) (z := (⟨"com/example/macaque/macaque/Value", "key", "(I)J"⟩ : MethodName)) hown (mvT hZ (hw _ (List.mem_of_getElem? (i := 31) rfl))) (mvT hZ (hw _ (List.mem_of_getElem? (i := 32) rfl))) (notFace_of_selects (args := #[]) (mvT hZ (hw _ (List.mem_of_getElem? (i := 34) rfl)))) (mvT hZ (hw _ (List.mem_of_getElem? (i := 34) rfl))) (mvT hZ (hw _ (List.mem_of_getElem? (i := 33) rfl))) (by decide) (backOf (W := 0) (rm5 l Z a0 hw [] r19 (0 : Int32) bk19 k14 (2 : Int32) ([(.long x1), (.long x2)]) x1 h27 n0 Zs27 f30 f31 ⟨by decide, by decide⟩ rfl) hZ (hw _ (List.mem_of_getElem? (i := 35) rfl)) (hw _ (List.mem_of_getElem? (i := 4) rfl)) (by decide) (by decide)) q33a q33c (g := (mkF m 130 #[.val (.int x0), .val (.long x1), .second, .val (.long x2), .second, .val (.long x3), .second, .val (.int (2 : Int32)), .val (.ref b14), .val (.ref r19)] [(.int (0 : Int32)), (.ref r19)])) rfl (by rw [hml]; rfl) (Steps.refl _) (argsL := [(.int (0 : Int32))]) (rest := []) (lenOf own_pd3 rfl) rfl (by show 2 * 0 + _ ≤ _; exact Nat.le_of_eq rfl) (hb hby at_130) (fun _ _ => ⟨rfl, eq32, (by decide : 3 + 0 ≤ _), (by decide : 6 + 0 ≤ _)⟩)
      dsimp only [Pt.U, Pt.locs, Pt.cells, Pt.slots] at X33 l33 y33 z33 st33 hQ33
      subst l33 y33 z33
      obtain ⟨⟨r33, rfl, hr33⟩, Nq33, eq33⟩ := hQ33
      have N33 := Fr.app N32 Nq33
      refine own_tr (T' := T33) (F' := (mkF m 133 #[.val (.int x0), .val (.long x1), .second, .val (.long x2), .second, .val (.long x3), .second, .val (.int (2 : Int32)), .val (.ref b14), .val (.ref r19)] [(.long r33)])) st33 ?_
      refine own_st (T' := T33) (F' := (mkF m 134 #[.val (.int x0), .val (.long x1), .second, .val (.long x2), .second, .val (.long x3), .second, .val (.int (2 : Int32)), .val (.ref b14), .val (.ref r19)] [(.long x1), (.long r33)])) (fun _ k => XS.lloadN X33.here hx rfl (hb hby at_133) rfl  k) ?_
      refine own_st (T' := T33) (F' := (mkF m 135 #[.val (.int x0), .val (.long x1), .second, .val (.long x2), .second, .val (.long x3), .second, .val (.int (2 : Int32)), .val (.ref b14), .val (.ref r19)] [(.int (lcmpW r33 x1))])) (fun _ k => XS.lcmp X33.here hx rfl (hb hby at_134) rfl k) ?_
      refine own_iflc X33 hx (pc' := 140) (pc2 := 138) (hb hby at_135) (by decide) (by decide) rfl (fun (hc135 : r33 = x1) => ?_) (fun (hc135 : ¬ (r33 = x1)) => ?_)
      ·
        refine own_st (T' := T33) (F' := (mkF m 142 #[.val (.int x0), .val (.long x1), .second, .val (.long x2), .second, .val (.long x3), .second, .val (.int (2 : Int32)), .val (.ref b14), .val (.ref r19)] [(.int (2 : Int32))])) (fun _ k => XS.iload X33.here hx rfl (hb hby at_140) rfl  k) ?_
        refine own_st (T' := T33) (F' := (mkF m 143 #[.val (.int x0), .val (.long x1), .second, .val (.long x2), .second, .val (.long x3), .second, .val (.int (2 : Int32)), .val (.ref b14), .val (.ref r19)] [(.int (2 : Int32)), (.int (2 : Int32))])) (fun _ k => XS.iconst X33.here hx rfl (hb hby at_142) k) ?_
        refine own_icmp X33 hx (pc' := 159) (pc2 := 146) (hb hby at_143) (by decide) (by decide) rfl (fun (hc143 : (2 : Int32) < (2 : Int32)) => ?_) (fun (hc143 : ¬ ((2 : Int32) < (2 : Int32))) => ?_)
        · exact absurd hc143 (by decide)
        refine own_st (T' := T33) (F' := (mkF m 148 #[.val (.int x0), .val (.long x1), .second, .val (.long x2), .second, .val (.long x3), .second, .val (.int (2 : Int32)), .val (.ref b14), .val (.ref r19)] [(.ref r19)])) (fun _ k => XS.aload X33.here hx rfl (hb hby at_146) rfl rfl k) ?_
        refine own_st (T' := T33) (F' := (mkF m 149 #[.val (.int x0), .val (.long x1), .second, .val (.long x2), .second, .val (.long x3), .second, .val (.int (2 : Int32)), .val (.ref b14), .val (.ref r19)] [(.int (1 : Int32)), (.ref r19)])) (fun _ k => XS.iconst X33.here hx rfl (hb hby at_148) k) ?_
        obtain ⟨cq34, kq34, q34a, q34b, q34c⟩ := isOf hZ eq33 f29
        obtain ⟨_, _, ⟨T34, L34, k34, n34⟩, -, X34, ⟨Lc34, hQ34, l34, y34, z34⟩, st34⟩ := X33.virtualBack hx (y := (⟨"com/example/macaque/macaque/Value", "key", "(I)J"⟩ : MethodName)) (z := (⟨"com/example/macaque/macaque/Value", "key", "(I)J"⟩ : MethodName)) hown (mvT hZ (hw _ (List.mem_of_getElem? (i := 31) rfl))) (mvT hZ (hw _ (List.mem_of_getElem? (i := 32) rfl))) (notFace_of_selects (args := #[]) (mvT hZ (hw _ (List.mem_of_getElem? (i := 34) rfl)))) (mvT hZ (hw _ (List.mem_of_getElem? (i := 34) rfl))) (mvT hZ (hw _ (List.mem_of_getElem? (i := 33) rfl))) (by decide) (backOf (W := 0) (rm5 l Z a0 hw [] r19 (1 : Int32) bk19 k14 (2 : Int32) ([(.long x1), (.long x2)]) x2 h27 n0 Zs27 f30 f31 ⟨by decide, by decide⟩ rfl) hZ (hw _ (List.mem_of_getElem? (i := 35) rfl)) (hw _ (List.mem_of_getElem? (i := 4) rfl)) (by decide) (by decide)) q34a q34c (g := (mkF m 149 #[.val (.int x0), .val (.long x1), .second, .val (.long x2), .second, .val (.long x3), .second, .val (.int (2 : Int32)), .val (.ref b14), .val (.ref r19)] [(.int (1 : Int32)), (.ref r19)])) rfl (by rw [hml]; rfl) (Steps.refl _) (argsL := [(.int (1 : Int32))]) (rest := []) (lenOf own_pd3 rfl) rfl (by show 2 * 0 + _ ≤ _; exact Nat.le_of_eq rfl) (hb hby at_149) (fun _ _ => ⟨rfl, eq33, (by decide : 3 + 0 ≤ _), (by decide : 6 + 0 ≤ _)⟩)
        dsimp only [Pt.U, Pt.locs, Pt.cells, Pt.slots] at X34 l34 y34 z34 st34 hQ34
        subst l34 y34 z34
        obtain ⟨⟨r34, rfl, hr34⟩, Nq34, eq34⟩ := hQ34
        have N34 := Fr.app N33 Nq34
        refine own_tr (T' := T34) (F' := (mkF m 152 #[.val (.int x0), .val (.long x1), .second, .val (.long x2), .second, .val (.long x3), .second, .val (.int (2 : Int32)), .val (.ref b14), .val (.ref r19)] [(.long r34)])) st34 ?_
        refine own_st (T' := T34) (F' := (mkF m 153 #[.val (.int x0), .val (.long x1), .second, .val (.long x2), .second, .val (.long x3), .second, .val (.int (2 : Int32)), .val (.ref b14), .val (.ref r19)] [(.long x2), (.long r34)])) (fun _ k => XS.lloadN X34.here hx rfl (hb hby at_152) rfl  k) ?_
        refine own_st (T' := T34) (F' := (mkF m 154 #[.val (.int x0), .val (.long x1), .second, .val (.long x2), .second, .val (.long x3), .second, .val (.int (2 : Int32)), .val (.ref b14), .val (.ref r19)] [(.int (lcmpW r34 x2))])) (fun _ k => XS.lcmp X34.here hx rfl (hb hby at_153) rfl k) ?_
        refine own_iflc X34 hx (pc' := 159) (pc2 := 157) (hb hby at_154) (by decide) (by decide) rfl (fun (hc154 : r34 = x2) => ?_) (fun (hc154 : ¬ (r34 = x2)) => ?_)
        ·
          refine own_st (T' := T34) (F' := (mkF m 161 #[.val (.int x0), .val (.long x1), .second, .val (.long x2), .second, .val (.long x3), .second, .val (.int (2 : Int32)), .val (.ref b14), .val (.ref r19)] [(.int (2 : Int32))])) (fun _ k => XS.iload X34.here hx rfl (hb hby at_159) rfl  k) ?_
          refine own_st (T' := T34) (F' := (mkF m 162 #[.val (.int x0), .val (.long x1), .second, .val (.long x2), .second, .val (.long x3), .second, .val (.int (2 : Int32)), .val (.ref b14), .val (.ref r19)] [(.int (3 : Int32)), (.int (2 : Int32))])) (fun _ k => XS.iconst X34.here hx rfl (hb hby at_161) k) ?_
          refine own_icmp X34 hx (pc' := 179) (pc2 := 165) (hb hby at_162) (by decide) (by decide) rfl (fun (hc162 : ¬ ((2 : Int32) = (3 : Int32))) => ?_) (fun (hc162 : (2 : Int32) = (3 : Int32)) => ?_)
          rotate_left
          · exact absurd hc162 (by decide)
          refine own_st (T' := T34) (F' := (mkF m 180 #[.val (.int x0), .val (.long x1), .second, .val (.long x2), .second, .val (.long x3), .second, .val (.int (2 : Int32)), .val (.ref b14), .val (.ref r19)] [(.int (1 : Int32))])) (fun _ k => XS.iconst X34.here hx rfl (hb hby at_179) k) ?_
          refine own_retN X34 hx hlk (t := .boolean) Bd.returns (by simp) (hb hby at_180) ?_ (by decide) (by decide)
          rw [eq34]
          refine ⟨⟨_, rfl, ?_⟩, N34⟩
          rfl
        ·
          refine own_st (T' := T34) (F' := (mkF m 158 #[.val (.int x0), .val (.long x1), .second, .val (.long x2), .second, .val (.long x3), .second, .val (.int (2 : Int32)), .val (.ref b14), .val (.ref r19)] [(.int (0 : Int32))])) (fun _ k => XS.iconst X34.here hx rfl (hb hby at_157) k) ?_
          refine own_retN X34 hx hlk (t := .boolean) Bd.returns (by simp) (hb hby at_158) ?_ (by decide) (by decide)
          rw [eq34]
          refine ⟨⟨_, rfl, ?_⟩, N34⟩
          exact absurd hr34 hc154
      ·
        refine own_st (T' := T33) (F' := (mkF m 139 #[.val (.int x0), .val (.long x1), .second, .val (.long x2), .second, .val (.long x3), .second, .val (.int (2 : Int32)), .val (.ref b14), .val (.ref r19)] [(.int (0 : Int32))])) (fun _ k => XS.iconst X33.here hx rfl (hb hby at_138) k) ?_
        refine own_retN X33 hx hlk (t := .boolean) Bd.returns (by simp) (hb hby at_139) ?_ (by decide) (by decide)
        rw [eq33]
        refine ⟨⟨_, rfl, ?_⟩, N33⟩
        exact absurd hr33 hc135
    ·
      refine own_st (T' := T32) (F' := (mkF m 126 #[.val (.int x0), .val (.long x1), .second, .val (.long x2), .second, .val (.long x3), .second, .val (.int (2 : Int32)), .val (.ref b14), .val (.ref r19)] [(.int (0 : Int32))])) (fun _ k => XS.iconst X32.here hx rfl (hb hby at_125) k) ?_
      refine own_retN X32 hx hlk (t := .boolean) Bd.returns (by simp) (hb hby at_126) ?_ (by decide) (by decide)
      rw [eq32]
      refine ⟨⟨_, rfl, ?_⟩, N32⟩
      exact absurd hr32 hc122
  ·
    rw [hn3]
    show own_Go p e below s (Q0 Z x0 x1 x2 x3  h0 n0) room_1.cells room_1.slots s₁ (mkF m 10 #[.val (.int x0), .val (.long x1), .second, .val (.long x2), .second, .val (.long x3), .second, .val (.int (3 : Int32)), .unset, .unset] [])
    refine own_st (T' := s₁) (F' := (mkF m 12 #[.val (.int x0), .val (.long x1), .second, .val (.long x2), .second, .val (.long x3), .second, .val (.int (3 : Int32)), .unset, .unset] [(.int (3 : Int32))])) (fun _ k => XS.iload X0.here hx rfl (hb hby at_10) rfl  k) ?_
    refine own_st (T' := s₁) (F' := (mkF m 13 #[.val (.int x0), .val (.long x1), .second, .val (.long x2), .second, .val (.long x3), .second, .val (.int (3 : Int32)), .unset, .unset] [(.int (1 : Int32)), (.int (3 : Int32))])) (fun _ k => XS.iconst X0.here hx rfl (hb hby at_12) k) ?_
    refine own_icmp X0 hx (pc' := 28) (pc2 := 16) (hb hby at_13) (by decide) (by decide) rfl (fun (hc13 : ¬ ((3 : Int32) = (1 : Int32))) => ?_) (fun (hc13 : (3 : Int32) = (1 : Int32)) => ?_)
    rotate_left
    · exact absurd hc13 (by decide)
    refine own_st (T' := s₁) (F' := (mkF m 30 #[.val (.int x0), .val (.long x1), .second, .val (.long x2), .second, .val (.long x3), .second, .val (.int (3 : Int32)), .unset, .unset] [(.int (3 : Int32))])) (fun _ k => XS.iload X0.here hx rfl (hb hby at_28) rfl  k) ?_
    refine own_st (T' := s₁) (F' := (mkF m 31 #[.val (.int x0), .val (.long x1), .second, .val (.long x2), .second, .val (.long x3), .second, .val (.int (3 : Int32)), .unset, .unset] [(.int (2 : Int32)), (.int (3 : Int32))])) (fun _ k => XS.iconst X0.here hx rfl (hb hby at_30) k) ?_
    refine own_icmp X0 hx (pc' := 50) (pc2 := 34) (hb hby at_31) (by decide) (by decide) rfl (fun (hc31 : ¬ ((3 : Int32) = (2 : Int32))) => ?_) (fun (hc31 : (3 : Int32) = (2 : Int32)) => ?_)
    rotate_left
    · exact absurd hc31 (by decide)
    refine own_st (T' := s₁) (F' := (mkF m 51 #[.val (.int x0), .val (.long x1), .second, .val (.long x2), .second, .val (.long x3), .second, .val (.int (3 : Int32)), .unset, .unset] [(.int (3 : Int32))])) (fun _ k => XS.iconst X0.here hx rfl (hb hby at_50) k) ?_
    obtain ⟨T35, h35, k35, X35, e35, E35, A35, AE35, st35⟩ := newPE X0 hx hZ (hw _ (List.mem_of_getElem? (i := 1) rfl)) e0 (g := (mkF m 51 #[.val (.int x0), .val (.long x1), .second, .val (.long x2), .second, .val (.long x3), .second, .val (.int (3 : Int32)), .unset, .unset] [(.int (3 : Int32))])) rfl (hb hby at_51) rfl (by decide) (cap := 3) (by decide) (by decide) (by decide) (by decide) (ad := "[J") (by decide)
    obtain ⟨b35, g35⟩ : ∃ z, z = h0.size := ⟨_, rfl⟩
    rw [← g35] at A35 AE35 st35
    have ge35 : n0 ≤ b35 := by rw [g35]; exact Z0
    have hge35 : h0.size ≤ b35 := by rw [g35]; exact (Keep.refl h0 []).1
    have K35 : Keep h0 h35 [] := (Keep.refl h0 []).ext E35
    have Zs35 : n0 ≤ h35.size := Nat.le_trans Z0 K35.1
    have V35 : Arv Z h35 b35 k35 .long (3 : Int32) [(.long (0 : Int64)), (.long (0 : Int64)), (.long (0 : Int64))] (.long (0 : Int64)) := (Arv.new A35 (by decide)).pad (pad_rep [] (.long (0 : Int64)) 3)
    refine own_st (T' := T35) (F' := (mkF m 53 #[.val (.int x0), .val (.long x1), .second, .val (.long x2), .second, .val (.long x3), .second, .val (.int (3 : Int32)), .unset, .unset] [(.ref b35)])) (fun _ k => st35 _ k) ?_
    refine own_st (T' := T35) (F' := (mkF m 54 #[.val (.int x0), .val (.long x1), .second, .val (.long x2), .second, .val (.long x3), .second, .val (.int (3 : Int32)), .unset, .unset] [(.ref b35), (.ref b35)])) (fun _ k => XS.dup X35.here hx rfl (hb hby at_53) rfl rfl k) ?_
    refine own_st (T' := T35) (F' := (mkF m 55 #[.val (.int x0), .val (.long x1), .second, .val (.long x2), .second, .val (.long x3), .second, .val (.int (3 : Int32)), .unset, .unset] [(.int (0 : Int32)), (.ref b35), (.ref b35)])) (fun _ k => XS.iconst X35.here hx rfl (hb hby at_54) k) ?_
    refine own_st (T' := T35) (F' := (mkF m 56 #[.val (.int x0), .val (.long x1), .second, .val (.long x2), .second, .val (.long x3), .second, .val (.int (3 : Int32)), .unset, .unset] [(.long x1), (.int (0 : Int32)), (.ref b35), (.ref b35)])) (fun _ k => XS.lloadN X35.here hx rfl (hb hby at_55) rfl  k) ?_
    obtain ⟨cl36, Ar36, Aq36, As36, Am36, Ah36, Au36⟩ := id V35
    have hin36 : ¬ ((0 : Int32) < 0 ∨ cl36.slots.size ≤ ((0 : Int32)).toNatClampNeg) := inb_of As36 ⟨by decide, by decide⟩
    obtain ⟨T36, h36, X36, e36, W36, st36⟩ := stJ X35 hx hZ e35 Ar36 (j := (0 : Int32)) hin36 (g := (mkF m 56 #[.val (.int x0), .val (.long x1), .second, .val (.long x2), .second, .val (.long x3), .second, .val (.int (3 : Int32)), .unset, .unset] [(.long x1), (.int (0 : Int32)), (.ref b35), (.ref b35)])) rfl rfl (hb hby at_56)
    have V36 : Arv Z h36 b35 k35 .long (3 : Int32) [(.long x1), (.long (0 : Int64)), (.long (0 : Int64))] (.long (0 : Int64)) := Arv.set Ar36 Aq36 As36 Am36 Ah36 Au36 rfl W36 0 rfl (show 0 < 3 by decide)
    have N36 := Fr.snoc X36 N0 ge35
    have f37 : Exa Z h36 b35 "[J" := AE35.wr W36
    have K36 : Keep h0 h36 [] := K35.wr W36 (Or.inr hge35)
    have Zs36 : n0 ≤ h36.size := Nat.le_trans Z0 K36.1
    refine own_st (T' := T36) (F' := (mkF m 57 #[.val (.int x0), .val (.long x1), .second, .val (.long x2), .second, .val (.long x3), .second, .val (.int (3 : Int32)), .unset, .unset] [(.ref b35)])) (fun _ k => st36 _ k) ?_
    refine own_st (T' := T36) (F' := (mkF m 58 #[.val (.int x0), .val (.long x1), .second, .val (.long x2), .second, .val (.long x3), .second, .val (.int (3 : Int32)), .unset, .unset] [(.ref b35), (.ref b35)])) (fun _ k => XS.dup X36.here hx rfl (hb hby at_57) rfl rfl k) ?_
    refine own_st (T' := T36) (F' := (mkF m 59 #[.val (.int x0), .val (.long x1), .second, .val (.long x2), .second, .val (.long x3), .second, .val (.int (3 : Int32)), .unset, .unset] [(.int (1 : Int32)), (.ref b35), (.ref b35)])) (fun _ k => XS.iconst X36.here hx rfl (hb hby at_58) k) ?_
    refine own_st (T' := T36) (F' := (mkF m 60 #[.val (.int x0), .val (.long x1), .second, .val (.long x2), .second, .val (.long x3), .second, .val (.int (3 : Int32)), .unset, .unset] [(.long x2), (.int (1 : Int32)), (.ref b35), (.ref b35)])) (fun _ k => XS.lloadN X36.here hx rfl (hb hby at_59) rfl  k) ?_
    obtain ⟨cl38, Ar38, Aq38, As38, Am38, Ah38, Au38⟩ := id V36
    have hin38 : ¬ ((1 : Int32) < 0 ∨ cl38.slots.size ≤ ((1 : Int32)).toNatClampNeg) := inb_of As38 ⟨by decide, by decide⟩
    obtain ⟨T38, h38, X38, e38, W38, st38⟩ := stJ X36 hx hZ e36 Ar38 (j := (1 : Int32)) hin38 (g := (mkF m 60 #[.val (.int x0), .val (.long x1), .second, .val (.long x2), .second, .val (.long x3), .second, .val (.int (3 : Int32)), .unset, .unset] [(.long x2), (.int (1 : Int32)), (.ref b35), (.ref b35)])) rfl rfl (hb hby at_60)
    have V38 : Arv Z h38 b35 k35 .long (3 : Int32) [(.long x1), (.long x2), (.long (0 : Int64))] (.long (0 : Int64)) := Arv.set Ar38 Aq38 As38 Am38 Ah38 Au38 rfl W38 1 rfl (show 1 < 3 by decide)
    have N38 := Fr.snoc X38 N36 ge35
    have f39 : Exa Z h38 b35 "[J" := f37.wr W38
    have K38 : Keep h0 h38 [] := K36.wr W38 (Or.inr hge35)
    have Zs38 : n0 ≤ h38.size := Nat.le_trans Z0 K38.1
    refine own_st (T' := T38) (F' := (mkF m 61 #[.val (.int x0), .val (.long x1), .second, .val (.long x2), .second, .val (.long x3), .second, .val (.int (3 : Int32)), .unset, .unset] [(.ref b35)])) (fun _ k => st38 _ k) ?_
    refine own_st (T' := T38) (F' := (mkF m 62 #[.val (.int x0), .val (.long x1), .second, .val (.long x2), .second, .val (.long x3), .second, .val (.int (3 : Int32)), .unset, .unset] [(.ref b35), (.ref b35)])) (fun _ k => XS.dup X38.here hx rfl (hb hby at_61) rfl rfl k) ?_
    refine own_st (T' := T38) (F' := (mkF m 63 #[.val (.int x0), .val (.long x1), .second, .val (.long x2), .second, .val (.long x3), .second, .val (.int (3 : Int32)), .unset, .unset] [(.int (2 : Int32)), (.ref b35), (.ref b35)])) (fun _ k => XS.iconst X38.here hx rfl (hb hby at_62) k) ?_
    refine own_st (T' := T38) (F' := (mkF m 65 #[.val (.int x0), .val (.long x1), .second, .val (.long x2), .second, .val (.long x3), .second, .val (.int (3 : Int32)), .unset, .unset] [(.long x3), (.int (2 : Int32)), (.ref b35), (.ref b35)])) (fun _ k => XS.lload X38.here hx rfl (hb hby at_63) rfl  k) ?_
    obtain ⟨cl40, Ar40, Aq40, As40, Am40, Ah40, Au40⟩ := id V38
    have hin40 : ¬ ((2 : Int32) < 0 ∨ cl40.slots.size ≤ ((2 : Int32)).toNatClampNeg) := inb_of As40 ⟨by decide, by decide⟩
    obtain ⟨T40, h40, X40, e40, W40, st40⟩ := stJ X38 hx hZ e38 Ar40 (j := (2 : Int32)) hin40 (g := (mkF m 65 #[.val (.int x0), .val (.long x1), .second, .val (.long x2), .second, .val (.long x3), .second, .val (.int (3 : Int32)), .unset, .unset] [(.long x3), (.int (2 : Int32)), (.ref b35), (.ref b35)])) rfl rfl (hb hby at_65)
    have V40 : Arv Z h40 b35 k35 .long (3 : Int32) [(.long x1), (.long x2), (.long x3)] (.long (0 : Int64)) := Arv.set Ar40 Aq40 As40 Am40 Ah40 Au40 rfl W40 2 rfl (show 2 < 3 by decide)
    have N40 := Fr.snoc X40 N38 ge35
    have f41 : Exa Z h40 b35 "[J" := f39.wr W40
    have K40 : Keep h0 h40 [] := K38.wr W40 (Or.inr hge35)
    have Zs40 : n0 ≤ h40.size := Nat.le_trans Z0 K40.1
    refine own_st (T' := T40) (F' := (mkF m 66 #[.val (.int x0), .val (.long x1), .second, .val (.long x2), .second, .val (.long x3), .second, .val (.int (3 : Int32)), .unset, .unset] [(.ref b35)])) (fun _ k => st40 _ k) ?_
    refine own_st (T' := T40) (F' := (mkF m 68 #[.val (.int x0), .val (.long x1), .second, .val (.long x2), .second, .val (.long x3), .second, .val (.int (3 : Int32)), .val (.ref b35), .unset] [])) (fun _ k => XS.astore X40.here hx rfl (hb hby at_66) rfl rfl (l' := #[.val (.int x0), .val (.long x1), .second, .val (.long x2), .second, .val (.long x3), .second, .val (.int (3 : Int32)), .val (.ref b35), .unset]) rfl k) ?_
    refine own_st (T' := T40) (F' := (mkF m 70 #[.val (.int x0), .val (.long x1), .second, .val (.long x2), .second, .val (.long x3), .second, .val (.int (3 : Int32)), .val (.ref b35), .unset] [(.ref b35)])) (fun _ k => XS.aload X40.here hx rfl (hb hby at_68) rfl rfl k) ?_
    obtain ⟨_, _, ⟨T42, L42, k42, n42⟩, -, X42, ⟨Lc42, hQ42, l42, y42, z42⟩, st42⟩ := Jvm.LawKit.callS X40 hx (y := (⟨"com/example/macaque/macaque/Value", "of", "([J)Lcom/example/macaque/macaque/Value;"⟩ : MethodName)) hown (mvT hZ (hw _ (List.mem_of_getElem? (i := 2) rfl))) (mvT hZ (hw _ (List.mem_of_getElem? (i := 3) rfl))) (mvT hZ (hw _ (List.mem_of_getElem? (i := 4) rfl))) (mvT hZ (hw _ (List.mem_of_getElem? (i := 5) rfl))) (by decide) (backOf (W := 0) (rm1 l Z a0 hw [] b35 k35 (3 : Int32) ([(.long x1), (.long x2), (.long x3)]) h40 n0 Zs40 V40 f41 (by decide) (by decide)) hZ (hw _ (List.mem_of_getElem? (i := 5) rfl)) (hw _ (List.mem_of_getElem? (i := 4) rfl)) (by decide) (by decide)) (g := (mkF m 70 #[.val (.int x0), .val (.long x1), .second, .val (.long x2), .second, .val (.long x3), .second, .val (.int (3 : Int32)), .val (.ref b35), .unset] [(.ref b35)])) rfl (by rw [hml]; rfl) (argsL := [(.ref b35)]) (rest := []) (lenOf own_pd1 rfl) rfl (by show 2 * 0 + _ ≤ _; exact Nat.le_of_eq rfl) (hb hby at_70) (fun _ _ => ⟨rfl, e40, (by decide : 1 + 2 ≤ _), (by decide : 3 + 4 ≤ _)⟩)
    dsimp only [Pt.U, Pt.locs, Pt.cells, Pt.slots] at X42 l42 y42 z42 st42 hQ42
    subst l42 y42 z42
    obtain ⟨⟨r42, rfl, hr42⟩, Nq42, g42_0⟩ := hQ42
    have N42 := Fr.app N40 Nq42
    have f43 : Exa Z T42.heap b35 "[J" := f41.keep g42_0
    have f44 : Arv Z T42.heap b35 k35 .long (3 : Int32) [(.long x1), (.long x2), (.long x3)] (.long (0 : Int64)) := V40.keep g42_0 nin0
    have K42 : Keep h0 T42.heap [] := K40.trans g42_0 all0
    have Zs42 : n0 ≤ T42.heap.size := Nat.le_trans Z0 K42.1
    obtain ⟨zge42, zE42, bk42, bge42, zF42, zA42⟩ := hr42
    have bne42 : b35 ≠ bk42 := Nat.ne_of_lt (Nat.lt_of_lt_of_le V40.lt bge42)
    have zne42 : b35 ≠ r42 := Nat.ne_of_lt (Nat.lt_of_lt_of_le V40.lt zge42)
    refine own_st (T' := T42) (F' := (mkF m 73 #[.val (.int x0), .val (.long x1), .second, .val (.long x2), .second, .val (.long x3), .second, .val (.int (3 : Int32)), .val (.ref b35), .unset] [(.ref r42)])) (fun _ k => st42 _ k) ?_
    refine own_st (T' := T42) (F' := (mkF m 75 #[.val (.int x0), .val (.long x1), .second, .val (.long x2), .second, .val (.long x3), .second, .val (.int (3 : Int32)), .val (.ref b35), .val (.ref r42)] [])) (fun _ k => XS.astore X42.here hx rfl (hb hby at_73) rfl rfl (l' := #[.val (.int x0), .val (.long x1), .second, .val (.long x2), .second, .val (.long x3), .second, .val (.int (3 : Int32)), .val (.ref b35), .val (.ref r42)]) rfl k) ?_
    refine own_st (T' := T42) (F' := (mkF m 77 #[.val (.int x0), .val (.long x1), .second, .val (.long x2), .second, .val (.long x3), .second, .val (.int (3 : Int32)), .val (.ref b35), .val (.ref r42)] [(.ref b35)])) (fun _ k => XS.aload X42.here hx rfl (hb hby at_75) rfl rfl k) ?_
    refine own_st (T' := T42) (F' := (mkF m 78 #[.val (.int x0), .val (.long x1), .second, .val (.long x2), .second, .val (.long x3), .second, .val (.int (3 : Int32)), .val (.ref b35), .val (.ref r42)] [(.int (0 : Int32)), (.ref b35)])) (fun _ k => XS.iconst X42.here hx rfl (hb hby at_77) k) ?_
    refine own_st (T' := T42) (F' := (mkF m 79 #[.val (.int x0), .val (.long x1), .second, .val (.long x2), .second, .val (.long x3), .second, .val (.int (3 : Int32)), .val (.ref b35), .val (.ref r42)] [(.long x1), (.int (0 : Int32)), (.ref b35)])) (fun _ k => XS.lloadN X42.here hx rfl (hb hby at_78) rfl  k) ?_
    refine own_st (T' := T42) (F' := (mkF m 82 #[.val (.int x0), .val (.long x1), .second, .val (.long x2), .second, .val (.long x3), .second, .val (.int (3 : Int32)), .val (.ref b35), .val (.ref r42)] [(.long (-1 : Int64)), (.long x1), (.int (0 : Int32)), (.ref b35)])) (fun _ k => X42.ldc2Long hx hown (mvT hZ (hw _ (List.mem_of_getElem? (i := 25) rfl))) (g := (mkF m 79 #[.val (.int x0), .val (.long x1), .second, .val (.long x2), .second, .val (.long x3), .second, .val (.int (3 : Int32)), .val (.ref b35), .val (.ref r42)] [(.long x1), (.int (0 : Int32)), (.ref b35)])) rfl (hb hby at_79) _ k) ?_
    refine own_st (T' := T42) (F' := (mkF m 83 #[.val (.int x0), .val (.long x1), .second, .val (.long x2), .second, .val (.long x3), .second, .val (.int (3 : Int32)), .val (.ref b35), .val (.ref r42)] [(.long (x1 ^^^ (-1 : Int64))), (.int (0 : Int32)), (.ref b35)])) (fun _ k => XS.lxor X42.here hx rfl (hb hby at_82) rfl k) ?_
    obtain ⟨cl45, Ar45, Aq45, As45, Am45, Ah45, Au45⟩ := id f44
    have hin45 : ¬ ((0 : Int32) < 0 ∨ cl45.slots.size ≤ ((0 : Int32)).toNatClampNeg) := inb_of As45 ⟨by decide, by decide⟩
    obtain ⟨T45, h45, X45, e45, W45, st45⟩ := stJ X42 hx hZ rfl Ar45 (j := (0 : Int32)) hin45 (g := (mkF m 83 #[.val (.int x0), .val (.long x1), .second, .val (.long x2), .second, .val (.long x3), .second, .val (.int (3 : Int32)), .val (.ref b35), .val (.ref r42)] [(.long (x1 ^^^ (-1 : Int64))), (.int (0 : Int32)), (.ref b35)])) rfl rfl (hb hby at_83)
    have V45 : Arv Z h45 b35 k35 .long (3 : Int32) [(.long (x1 ^^^ (-1 : Int64))), (.long x2), (.long x3)] (.long (0 : Int64)) := Arv.set Ar45 Aq45 As45 Am45 Ah45 Au45 rfl W45 0 rfl (show 0 < 3 by decide)
    have N45 := Fr.snoc X45 N42 ge35
    have f46 : Exa Z h45 b35 "[J" := f43.wr W45
    have f47 : Exa Z h45 r42 "com/example/macaque/macaque/Value" := zE42.wr W45
    have f48 : Fld Z h45 r42 "com/example/macaque/macaque/Value" "keys" "[J" (.ref bk42) := zF42.other W45 (Or.inl (Ne.symm zne42))
    have f49 : Arv Z h45 bk42 k35 .long (3 : Int32) [(.long x1), (.long x2), (.long x3)] (.long (0 : Int64)) := zA42.other W45 (Ne.symm bne42)
    have K45 : Keep h0 h45 [] := K42.wr W45 (Or.inr hge35)
    have Zs45 : n0 ≤ h45.size := Nat.le_trans Z0 K45.1
    refine own_st (T' := T45) (F' := (mkF m 84 #[.val (.int x0), .val (.long x1), .second, .val (.long x2), .second, .val (.long x3), .second, .val (.int (3 : Int32)), .val (.ref b35), .val (.ref r42)] [])) (fun _ k => st45 _ k) ?_
    refine own_st (T' := T45) (F' := (mkF m 86 #[.val (.int x0), .val (.long x1), .second, .val (.long x2), .second, .val (.long x3), .second, .val (.int (3 : Int32)), .val (.ref b35), .val (.ref r42)] [(.int (3 : Int32))])) (fun _ k => XS.iload X45.here hx rfl (hb hby at_84) rfl  k) ?_
    refine own_st (T' := T45) (F' := (mkF m 87 #[.val (.int x0), .val (.long x1), .second, .val (.long x2), .second, .val (.long x3), .second, .val (.int (3 : Int32)), .val (.ref b35), .val (.ref r42)] [(.int (2 : Int32)), (.int (3 : Int32))])) (fun _ k => XS.iconst X45.here hx rfl (hb hby at_86) k) ?_
    refine own_icmp X45 hx (pc' := 99) (pc2 := 90) (hb hby at_87) (by decide) (by decide) rfl (fun (hc87 : (3 : Int32) < (2 : Int32)) => ?_) (fun (hc87 : ¬ ((3 : Int32) < (2 : Int32))) => ?_)
    · exact absurd hc87 (by decide)
    refine own_st (T' := T45) (F' := (mkF m 92 #[.val (.int x0), .val (.long x1), .second, .val (.long x2), .second, .val (.long x3), .second, .val (.int (3 : Int32)), .val (.ref b35), .val (.ref r42)] [(.ref b35)])) (fun _ k => XS.aload X45.here hx rfl (hb hby at_90) rfl rfl k) ?_
    refine own_st (T' := T45) (F' := (mkF m 93 #[.val (.int x0), .val (.long x1), .second, .val (.long x2), .second, .val (.long x3), .second, .val (.int (3 : Int32)), .val (.ref b35), .val (.ref r42)] [(.int (1 : Int32)), (.ref b35)])) (fun _ k => XS.iconst X45.here hx rfl (hb hby at_92) k) ?_
    refine own_st (T' := T45) (F' := (mkF m 94 #[.val (.int x0), .val (.long x1), .second, .val (.long x2), .second, .val (.long x3), .second, .val (.int (3 : Int32)), .val (.ref b35), .val (.ref r42)] [(.long x2), (.int (1 : Int32)), (.ref b35)])) (fun _ k => XS.lloadN X45.here hx rfl (hb hby at_93) rfl  k) ?_
    refine own_st (T' := T45) (F' := (mkF m 97 #[.val (.int x0), .val (.long x1), .second, .val (.long x2), .second, .val (.long x3), .second, .val (.int (3 : Int32)), .val (.ref b35), .val (.ref r42)] [(.long (-1 : Int64)), (.long x2), (.int (1 : Int32)), (.ref b35)])) (fun _ k => X45.ldc2Long hx hown (mvT hZ (hw _ (List.mem_of_getElem? (i := 25) rfl))) (g := (mkF m 94 #[.val (.int x0), .val (.long x1), .second, .val (.long x2), .second, .val (.long x3), .second, .val (.int (3 : Int32)), .val (.ref b35), .val (.ref r42)] [(.long x2), (.int (1 : Int32)), (.ref b35)])) rfl (hb hby at_94) _ k) ?_
    refine own_st (T' := T45) (F' := (mkF m 98 #[.val (.int x0), .val (.long x1), .second, .val (.long x2), .second, .val (.long x3), .second, .val (.int (3 : Int32)), .val (.ref b35), .val (.ref r42)] [(.long (x2 ^^^ (-1 : Int64))), (.int (1 : Int32)), (.ref b35)])) (fun _ k => XS.lxor X45.here hx rfl (hb hby at_97) rfl k) ?_
    obtain ⟨cl50, Ar50, Aq50, As50, Am50, Ah50, Au50⟩ := id V45
    have hin50 : ¬ ((1 : Int32) < 0 ∨ cl50.slots.size ≤ ((1 : Int32)).toNatClampNeg) := inb_of As50 ⟨by decide, by decide⟩
    obtain ⟨T50, h50, X50, e50, W50, st50⟩ := stJ X45 hx hZ e45 Ar50 (j := (1 : Int32)) hin50 (g := (mkF m 98 #[.val (.int x0), .val (.long x1), .second, .val (.long x2), .second, .val (.long x3), .second, .val (.int (3 : Int32)), .val (.ref b35), .val (.ref r42)] [(.long (x2 ^^^ (-1 : Int64))), (.int (1 : Int32)), (.ref b35)])) rfl rfl (hb hby at_98)
    have V50 : Arv Z h50 b35 k35 .long (3 : Int32) [(.long (x1 ^^^ (-1 : Int64))), (.long (x2 ^^^ (-1 : Int64))), (.long x3)] (.long (0 : Int64)) := Arv.set Ar50 Aq50 As50 Am50 Ah50 Au50 rfl W50 1 rfl (show 1 < 3 by decide)
    have N50 := Fr.snoc X50 N45 ge35
    have f51 : Exa Z h50 b35 "[J" := f46.wr W50
    have f52 : Exa Z h50 r42 "com/example/macaque/macaque/Value" := f47.wr W50
    have f53 : Fld Z h50 r42 "com/example/macaque/macaque/Value" "keys" "[J" (.ref bk42) := f48.other W50 (Or.inl (Ne.symm zne42))
    have f54 : Arv Z h50 bk42 k35 .long (3 : Int32) [(.long x1), (.long x2), (.long x3)] (.long (0 : Int64)) := f49.other W50 (Ne.symm bne42)
    have K50 : Keep h0 h50 [] := K45.wr W50 (Or.inr hge35)
    have Zs50 : n0 ≤ h50.size := Nat.le_trans Z0 K50.1
    refine own_st (T' := T50) (F' := (mkF m 99 #[.val (.int x0), .val (.long x1), .second, .val (.long x2), .second, .val (.long x3), .second, .val (.int (3 : Int32)), .val (.ref b35), .val (.ref r42)] [])) (fun _ k => st50 _ k) ?_
    refine own_st (T' := T50) (F' := (mkF m 101 #[.val (.int x0), .val (.long x1), .second, .val (.long x2), .second, .val (.long x3), .second, .val (.int (3 : Int32)), .val (.ref b35), .val (.ref r42)] [(.int (3 : Int32))])) (fun _ k => XS.iload X50.here hx rfl (hb hby at_99) rfl  k) ?_
    refine own_st (T' := T50) (F' := (mkF m 102 #[.val (.int x0), .val (.long x1), .second, .val (.long x2), .second, .val (.long x3), .second, .val (.int (3 : Int32)), .val (.ref b35), .val (.ref r42)] [(.int (3 : Int32)), (.int (3 : Int32))])) (fun _ k => XS.iconst X50.here hx rfl (hb hby at_101) k) ?_
    refine own_icmp X50 hx (pc' := 115) (pc2 := 105) (hb hby at_102) (by decide) (by decide) rfl (fun (hc102 : ¬ ((3 : Int32) = (3 : Int32))) => ?_) (fun (hc102 : (3 : Int32) = (3 : Int32)) => ?_)
    · exact absurd hc102 (by decide)
    refine own_st (T' := T50) (F' := (mkF m 107 #[.val (.int x0), .val (.long x1), .second, .val (.long x2), .second, .val (.long x3), .second, .val (.int (3 : Int32)), .val (.ref b35), .val (.ref r42)] [(.ref b35)])) (fun _ k => XS.aload X50.here hx rfl (hb hby at_105) rfl rfl k) ?_
    refine own_st (T' := T50) (F' := (mkF m 108 #[.val (.int x0), .val (.long x1), .second, .val (.long x2), .second, .val (.long x3), .second, .val (.int (3 : Int32)), .val (.ref b35), .val (.ref r42)] [(.int (2 : Int32)), (.ref b35)])) (fun _ k => XS.iconst X50.here hx rfl (hb hby at_107) k) ?_
    refine own_st (T' := T50) (F' := (mkF m 110 #[.val (.int x0), .val (.long x1), .second, .val (.long x2), .second, .val (.long x3), .second, .val (.int (3 : Int32)), .val (.ref b35), .val (.ref r42)] [(.long x3), (.int (2 : Int32)), (.ref b35)])) (fun _ k => XS.lload X50.here hx rfl (hb hby at_108) rfl  k) ?_
    refine own_st (T' := T50) (F' := (mkF m 113 #[.val (.int x0), .val (.long x1), .second, .val (.long x2), .second, .val (.long x3), .second, .val (.int (3 : Int32)), .val (.ref b35), .val (.ref r42)] [(.long (-1 : Int64)), (.long x3), (.int (2 : Int32)), (.ref b35)])) (fun _ k => X50.ldc2Long hx hown (mvT hZ (hw _ (List.mem_of_getElem? (i := 25) rfl))) (g := (mkF m 110 #[.val (.int x0), .val (.long x1), .second, .val (.long x2), .second, .val (.long x3), .second, .val (.int (3 : Int32)), .val (.ref b35), .val (.ref r42)] [(.long x3), (.int (2 : Int32)), (.ref b35)])) rfl (hb hby at_110) _ k) ?_
    refine own_st (T' := T50) (F' := (mkF m 114 #[.val (.int x0), .val (.long x1), .second, .val (.long x2), .second, .val (.long x3), .second, .val (.int (3 : Int32)), .val (.ref b35), .val (.ref r42)] [(.long (x3 ^^^ (-1 : Int64))), (.int (2 : Int32)), (.ref b35)])) (fun _ k => XS.lxor X50.here hx rfl (hb hby at_113) rfl k) ?_
    obtain ⟨cl55, Ar55, Aq55, As55, Am55, Ah55, Au55⟩ := id V50
    have hin55 : ¬ ((2 : Int32) < 0 ∨ cl55.slots.size ≤ ((2 : Int32)).toNatClampNeg) := inb_of As55 ⟨by decide, by decide⟩
    obtain ⟨T55, h55, X55, e55, W55, st55⟩ := stJ X50 hx hZ e50 Ar55 (j := (2 : Int32)) hin55 (g := (mkF m 114 #[.val (.int x0), .val (.long x1), .second, .val (.long x2), .second, .val (.long x3), .second, .val (.int (3 : Int32)), .val (.ref b35), .val (.ref r42)] [(.long (x3 ^^^ (-1 : Int64))), (.int (2 : Int32)), (.ref b35)])) rfl rfl (hb hby at_114)
    have V55 : Arv Z h55 b35 k35 .long (3 : Int32) [(.long (x1 ^^^ (-1 : Int64))), (.long (x2 ^^^ (-1 : Int64))), (.long (x3 ^^^ (-1 : Int64)))] (.long (0 : Int64)) := Arv.set Ar55 Aq55 As55 Am55 Ah55 Au55 rfl W55 2 rfl (show 2 < 3 by decide)
    have N55 := Fr.snoc X55 N50 ge35
    have f56 : Exa Z h55 b35 "[J" := f51.wr W55
    have f57 : Exa Z h55 r42 "com/example/macaque/macaque/Value" := f52.wr W55
    have f58 : Fld Z h55 r42 "com/example/macaque/macaque/Value" "keys" "[J" (.ref bk42) := f53.other W55 (Or.inl (Ne.symm zne42))
    have f59 : Arv Z h55 bk42 k35 .long (3 : Int32) [(.long x1), (.long x2), (.long x3)] (.long (0 : Int64)) := f54.other W55 (Ne.symm bne42)
    have K55 : Keep h0 h55 [] := K50.wr W55 (Or.inr hge35)
    have Zs55 : n0 ≤ h55.size := Nat.le_trans Z0 K55.1
    refine own_st (T' := T55) (F' := (mkF m 115 #[.val (.int x0), .val (.long x1), .second, .val (.long x2), .second, .val (.long x3), .second, .val (.int (3 : Int32)), .val (.ref b35), .val (.ref r42)] [])) (fun _ k => st55 _ k) ?_
    refine own_st (T' := T55) (F' := (mkF m 117 #[.val (.int x0), .val (.long x1), .second, .val (.long x2), .second, .val (.long x3), .second, .val (.int (3 : Int32)), .val (.ref b35), .val (.ref r42)] [(.ref r42)])) (fun _ k => XS.aload X55.here hx rfl (hb hby at_115) rfl rfl k) ?_
    obtain ⟨cq60, kq60, q60a, q60b, q60c⟩ := isOf hZ e55 f57
    obtain ⟨_, _, ⟨T60, L60, k60, n60⟩, -, X60, ⟨Lc60, hQ60, l60, y60, z60⟩, st60⟩ := X55.virtualBack hx (y := (⟨"com/example/macaque/macaque/Value", "size", "()I"⟩ : MethodName)) (z := (⟨"com/example/macaque/macaque/Value", "size", "()I"⟩ : MethodName)) hown (mvT hZ (hw _ (List.mem_of_getElem? (i := 26) rfl))) (mvT hZ (hw _ (List.mem_of_getElem? (i := 27) rfl))) (notFace_of_selects (args := #[]) (mvT hZ (hw _ (List.mem_of_getElem? (i := 29) rfl)))) (mvT hZ (hw _ (List.mem_of_getElem? (i := 29) rfl))) (mvT hZ (hw _ (List.mem_of_getElem? (i := 28) rfl))) (by decide) (backOf (W := 0) (rm4 l Z a0 hw [] r42 bk42 k35 (3 : Int32) ([(.long x1), (.long x2), (.long x3)]) h55 n0 Zs55 f58 f59) hZ (hw _ (List.mem_of_getElem? (i := 30) rfl)) (hw _ (List.mem_of_getElem? (i := 4) rfl)) (by decide) (by decide)) q60a q60c (g := (mkF m 117 #[.val (.int x0), .val (.long x1), .second, .val (.long x2), .second, .val (.long x3), .second, .val (.int (3 : Int32)), .val (.ref b35), .val (.ref r42)] [(.ref r42)])) rfl (by rw [hml]; rfl) (Steps.refl _) (argsL := []) (rest := []) (lenOf own_pd2 rfl) rfl (by show 2 * 0 + _ ≤ _; exact Nat.le_of_eq rfl) (hb hby at_117) (fun _ _ => ⟨rfl, e55, (by decide : 3 + 0 ≤ _), (by decide : 7 + 0 ≤ _)⟩)
    dsimp only [Pt.U, Pt.locs, Pt.cells, Pt.slots] at X60 l60 y60 z60 st60 hQ60
    subst l60 y60 z60
    obtain ⟨⟨r60, rfl, hr60⟩, Nq60, eq60⟩ := hQ60
    have N60 := Fr.app N55 Nq60
    refine own_tr (T' := T60) (F' := (mkF m 120 #[.val (.int x0), .val (.long x1), .second, .val (.long x2), .second, .val (.long x3), .second, .val (.int (3 : Int32)), .val (.ref b35), .val (.ref r42)] [(.int r60)])) st60 ?_
    refine own_st (T' := T60) (F' := (mkF m 122 #[.val (.int x0), .val (.long x1), .second, .val (.long x2), .second, .val (.long x3), .second, .val (.int (3 : Int32)), .val (.ref b35), .val (.ref r42)] [(.int (3 : Int32)), (.int r60)])) (fun _ k => XS.iload X60.here hx rfl (hb hby at_120) rfl  k) ?_
    refine own_icmp X60 hx (pc' := 127) (pc2 := 125) (hb hby at_122) (by decide) (by decide) rfl (fun (hc122 : r60 = (3 : Int32)) => ?_) (fun (hc122 : ¬ (r60 = (3 : Int32))) => ?_)
    ·
      refine own_st (T' := T60) (F' := (mkF m 129 #[.val (.int x0), .val (.long x1), .second, .val (.long x2), .second, .val (.long x3), .second, .val (.int (3 : Int32)), .val (.ref b35), .val (.ref r42)] [(.ref r42)])) (fun _ k => XS.aload X60.here hx rfl (hb hby at_127) rfl rfl k) ?_
      refine own_st (T' := T60) (F' := (mkF m 130 #[.val (.int x0), .val (.long x1), .second, .val (.long x2), .second, .val (.long x3), .second, .val (.int (3 : Int32)), .val (.ref b35), .val (.ref r42)] [(.int (0 : Int32)), (.ref r42)])) (fun _ k => XS.iconst X60.here hx rfl (hb hby at_129) k) ?_
      obtain ⟨cq61, kq61, q61a, q61b, q61c⟩ := isOf hZ eq60 f57
      obtain ⟨_, _, ⟨T61, L61, k61, n61⟩, -, X61, ⟨Lc61, hQ61, l61, y61, z61⟩, st61⟩ := X60.virtualBack hx (y := (⟨"com/example/macaque/macaque/Value", "key", "(I)J"⟩ : MethodName)) (z := (⟨"com/example/macaque/macaque/Value", "key", "(I)J"⟩ : MethodName)) hown (mvT hZ (hw _ (List.mem_of_getElem? (i := 31) rfl))) (mvT hZ (hw _ (List.mem_of_getElem? (i := 32) rfl))) (notFace_of_selects (args := #[]) (mvT hZ (hw _ (List.mem_of_getElem? (i := 34) rfl)))) (mvT hZ (hw _ (List.mem_of_getElem? (i := 34) rfl))) (mvT hZ (hw _ (List.mem_of_getElem? (i := 33) rfl))) (by decide) (backOf (W := 0) (rm5 l Z a0 hw [] r42 (0 : Int32) bk42 k35 (3 : Int32) ([(.long x1), (.long x2), (.long x3)]) x1 h55 n0 Zs55 f58 f59 ⟨by decide, by decide⟩ rfl) hZ (hw _ (List.mem_of_getElem? (i := 35) rfl)) (hw _ (List.mem_of_getElem? (i := 4) rfl)) (by decide) (by decide)) q61a q61c (g := (mkF m 130 #[.val (.int x0), .val (.long x1), .second, .val (.long x2), .second, .val (.long x3), .second, .val (.int (3 : Int32)), .val (.ref b35), .val (.ref r42)] [(.int (0 : Int32)), (.ref r42)])) rfl (by rw [hml]; rfl) (Steps.refl _) (argsL := [(.int (0 : Int32))]) (rest := []) (lenOf own_pd3 rfl) rfl (by show 2 * 0 + _ ≤ _; exact Nat.le_of_eq rfl) (hb hby at_130) (fun _ _ => ⟨rfl, eq60, (by decide : 3 + 0 ≤ _), (by decide : 7 + 0 ≤ _)⟩)
      dsimp only [Pt.U, Pt.locs, Pt.cells, Pt.slots] at X61 l61 y61 z61 st61 hQ61
      subst l61 y61 z61
      obtain ⟨⟨r61, rfl, hr61⟩, Nq61, eq61⟩ := hQ61
      have N61 := Fr.app N60 Nq61
      refine own_tr (T' := T61) (F' := (mkF m 133 #[.val (.int x0), .val (.long x1), .second, .val (.long x2), .second, .val (.long x3), .second, .val (.int (3 : Int32)), .val (.ref b35), .val (.ref r42)] [(.long r61)])) st61 ?_
      refine own_st (T' := T61) (F' := (mkF m 134 #[.val (.int x0), .val (.long x1), .second, .val (.long x2), .second, .val (.long x3), .second, .val (.int (3 : Int32)), .val (.ref b35), .val (.ref r42)] [(.long x1), (.long r61)])) (fun _ k => XS.lloadN X61.here hx rfl (hb hby at_133) rfl  k) ?_
      refine own_st (T' := T61) (F' := (mkF m 135 #[.val (.int x0), .val (.long x1), .second, .val (.long x2), .second, .val (.long x3), .second, .val (.int (3 : Int32)), .val (.ref b35), .val (.ref r42)] [(.int (lcmpW r61 x1))])) (fun _ k => XS.lcmp X61.here hx rfl (hb hby at_134) rfl k) ?_
      refine own_iflc X61 hx (pc' := 140) (pc2 := 138) (hb hby at_135) (by decide) (by decide) rfl (fun (hc135 : r61 = x1) => ?_) (fun (hc135 : ¬ (r61 = x1)) => ?_)
      ·
        refine own_st (T' := T61) (F' := (mkF m 142 #[.val (.int x0), .val (.long x1), .second, .val (.long x2), .second, .val (.long x3), .second, .val (.int (3 : Int32)), .val (.ref b35), .val (.ref r42)] [(.int (3 : Int32))])) (fun _ k => XS.iload X61.here hx rfl (hb hby at_140) rfl  k) ?_
        refine own_st (T' := T61) (F' := (mkF m 143 #[.val (.int x0), .val (.long x1), .second, .val (.long x2), .second, .val (.long x3), .second, .val (.int (3 : Int32)), .val (.ref b35), .val (.ref r42)] [(.int (2 : Int32)), (.int (3 : Int32))])) (fun _ k => XS.iconst X61.here hx rfl (hb hby at_142) k) ?_
        refine own_icmp X61 hx (pc' := 159) (pc2 := 146) (hb hby at_143) (by decide) (by decide) rfl (fun (hc143 : (3 : Int32) < (2 : Int32)) => ?_) (fun (hc143 : ¬ ((3 : Int32) < (2 : Int32))) => ?_)
        · exact absurd hc143 (by decide)
        refine own_st (T' := T61) (F' := (mkF m 148 #[.val (.int x0), .val (.long x1), .second, .val (.long x2), .second, .val (.long x3), .second, .val (.int (3 : Int32)), .val (.ref b35), .val (.ref r42)] [(.ref r42)])) (fun _ k => XS.aload X61.here hx rfl (hb hby at_146) rfl rfl k) ?_
        refine own_st (T' := T61) (F' := (mkF m 149 #[.val (.int x0), .val (.long x1), .second, .val (.long x2), .second, .val (.long x3), .second, .val (.int (3 : Int32)), .val (.ref b35), .val (.ref r42)] [(.int (1 : Int32)), (.ref r42)])) (fun _ k => XS.iconst X61.here hx rfl (hb hby at_148) k) ?_
        obtain ⟨cq62, kq62, q62a, q62b, q62c⟩ := isOf hZ eq61 f57
        obtain ⟨_, _, ⟨T62, L62, k62, n62⟩, -, X62, ⟨Lc62, hQ62, l62, y62, z62⟩, st62⟩ := X61.virtualBack hx (y := (⟨"com/example/macaque/macaque/Value", "key", "(I)J"⟩ : MethodName)) (z := (⟨"com/example/macaque/macaque/Value", "key", "(I)J"⟩ : MethodName)) hown (mvT hZ (hw _ (List.mem_of_getElem? (i := 31) rfl))) (mvT hZ (hw _ (List.mem_of_getElem? (i := 32) rfl))) (notFace_of_selects (args := #[]) (mvT hZ (hw _ (List.mem_of_getElem? (i := 34) rfl)))) (mvT hZ (hw _ (List.mem_of_getElem? (i := 34) rfl))) (mvT hZ (hw _ (List.mem_of_getElem? (i := 33) rfl))) (by decide) (backOf (W := 0) (rm5 l Z a0 hw [] r42 (1 : Int32) bk42 k35 (3 : Int32) ([(.long x1), (.long x2), (.long x3)]) x2 h55 n0 Zs55 f58 f59 ⟨by decide, by decide⟩ rfl) hZ (hw _ (List.mem_of_getElem? (i := 35) rfl)) (hw _ (List.mem_of_getElem? (i := 4) rfl)) (by decide) (by decide)) q62a q62c (g := (mkF m 149 #[.val (.int x0), .val (.long x1), .second, .val (.long x2), .second, .val (.long x3), .second, .val (.int (3 : Int32)), .val (.ref b35), .val (.ref r42)] [(.int (1 : Int32)), (.ref r42)])) rfl (by rw [hml]; rfl) (Steps.refl _) (argsL := [(.int (1 : Int32))]) (rest := []) (lenOf own_pd3 rfl) rfl (by show 2 * 0 + _ ≤ _; exact Nat.le_of_eq rfl) (hb hby at_149) (fun _ _ => ⟨rfl, eq61, (by decide : 3 + 0 ≤ _), (by decide : 7 + 0 ≤ _)⟩)
        dsimp only [Pt.U, Pt.locs, Pt.cells, Pt.slots] at X62 l62 y62 z62 st62 hQ62
        subst l62 y62 z62
        obtain ⟨⟨r62, rfl, hr62⟩, Nq62, eq62⟩ := hQ62
        have N62 := Fr.app N61 Nq62
        refine own_tr (T' := T62) (F' := (mkF m 152 #[.val (.int x0), .val (.long x1), .second, .val (.long x2), .second, .val (.long x3), .second, .val (.int (3 : Int32)), .val (.ref b35), .val (.ref r42)] [(.long r62)])) st62 ?_
        refine own_st (T' := T62) (F' := (mkF m 153 #[.val (.int x0), .val (.long x1), .second, .val (.long x2), .second, .val (.long x3), .second, .val (.int (3 : Int32)), .val (.ref b35), .val (.ref r42)] [(.long x2), (.long r62)])) (fun _ k => XS.lloadN X62.here hx rfl (hb hby at_152) rfl  k) ?_
        refine own_st (T' := T62) (F' := (mkF m 154 #[.val (.int x0), .val (.long x1), .second, .val (.long x2), .second, .val (.long x3), .second, .val (.int (3 : Int32)), .val (.ref b35), .val (.ref r42)] [(.int (lcmpW r62 x2))])) (fun _ k => XS.lcmp X62.here hx rfl (hb hby at_153) rfl k) ?_
        refine own_iflc X62 hx (pc' := 159) (pc2 := 157) (hb hby at_154) (by decide) (by decide) rfl (fun (hc154 : r62 = x2) => ?_) (fun (hc154 : ¬ (r62 = x2)) => ?_)
        ·
          refine own_st (T' := T62) (F' := (mkF m 161 #[.val (.int x0), .val (.long x1), .second, .val (.long x2), .second, .val (.long x3), .second, .val (.int (3 : Int32)), .val (.ref b35), .val (.ref r42)] [(.int (3 : Int32))])) (fun _ k => XS.iload X62.here hx rfl (hb hby at_159) rfl  k) ?_
          refine own_st (T' := T62) (F' := (mkF m 162 #[.val (.int x0), .val (.long x1), .second, .val (.long x2), .second, .val (.long x3), .second, .val (.int (3 : Int32)), .val (.ref b35), .val (.ref r42)] [(.int (3 : Int32)), (.int (3 : Int32))])) (fun _ k => XS.iconst X62.here hx rfl (hb hby at_161) k) ?_
          refine own_icmp X62 hx (pc' := 179) (pc2 := 165) (hb hby at_162) (by decide) (by decide) rfl (fun (hc162 : ¬ ((3 : Int32) = (3 : Int32))) => ?_) (fun (hc162 : (3 : Int32) = (3 : Int32)) => ?_)
          · exact absurd hc162 (by decide)
          refine own_st (T' := T62) (F' := (mkF m 167 #[.val (.int x0), .val (.long x1), .second, .val (.long x2), .second, .val (.long x3), .second, .val (.int (3 : Int32)), .val (.ref b35), .val (.ref r42)] [(.ref r42)])) (fun _ k => XS.aload X62.here hx rfl (hb hby at_165) rfl rfl k) ?_
          refine own_st (T' := T62) (F' := (mkF m 168 #[.val (.int x0), .val (.long x1), .second, .val (.long x2), .second, .val (.long x3), .second, .val (.int (3 : Int32)), .val (.ref b35), .val (.ref r42)] [(.int (2 : Int32)), (.ref r42)])) (fun _ k => XS.iconst X62.here hx rfl (hb hby at_167) k) ?_
          obtain ⟨cq63, kq63, q63a, q63b, q63c⟩ := isOf hZ eq62 f57
          obtain ⟨_, _, ⟨T63, L63, k63, n63⟩, -, X63, ⟨Lc63, hQ63, l63, y63, z63⟩, st63⟩ := X62.virtualBack hx (y := (⟨"com/example/macaque/macaque/Value", "key", "(I)J"⟩ : MethodName)) (z := (⟨"com/example/macaque/macaque/Value", "key", "(I)J"⟩ : MethodName)) hown (mvT hZ (hw _ (List.mem_of_getElem? (i := 31) rfl))) (mvT hZ (hw _ (List.mem_of_getElem? (i := 32) rfl))) (notFace_of_selects (args := #[]) (mvT hZ (hw _ (List.mem_of_getElem? (i := 34) rfl)))) (mvT hZ (hw _ (List.mem_of_getElem? (i := 34) rfl))) (mvT hZ (hw _ (List.mem_of_getElem? (i := 33) rfl))) (by decide) (backOf (W := 0) (rm5 l Z a0 hw [] r42 (2 : Int32) bk42 k35 (3 : Int32) ([(.long x1), (.long x2), (.long x3)]) x3 h55 n0 Zs55 f58 f59 ⟨by decide, by decide⟩ rfl) hZ (hw _ (List.mem_of_getElem? (i := 35) rfl)) (hw _ (List.mem_of_getElem? (i := 4) rfl)) (by decide) (by decide)) q63a q63c (g := (mkF m 168 #[.val (.int x0), .val (.long x1), .second, .val (.long x2), .second, .val (.long x3), .second, .val (.int (3 : Int32)), .val (.ref b35), .val (.ref r42)] [(.int (2 : Int32)), (.ref r42)])) rfl (by rw [hml]; rfl) (Steps.refl _) (argsL := [(.int (2 : Int32))]) (rest := []) (lenOf own_pd3 rfl) rfl (by show 2 * 0 + _ ≤ _; exact Nat.le_of_eq rfl) (hb hby at_168) (fun _ _ => ⟨rfl, eq62, (by decide : 3 + 0 ≤ _), (by decide : 7 + 0 ≤ _)⟩)
          dsimp only [Pt.U, Pt.locs, Pt.cells, Pt.slots] at X63 l63 y63 z63 st63 hQ63
          subst l63 y63 z63
          obtain ⟨⟨r63, rfl, hr63⟩, Nq63, eq63⟩ := hQ63
          have N63 := Fr.app N62 Nq63
          refine own_tr (T' := T63) (F' := (mkF m 171 #[.val (.int x0), .val (.long x1), .second, .val (.long x2), .second, .val (.long x3), .second, .val (.int (3 : Int32)), .val (.ref b35), .val (.ref r42)] [(.long r63)])) st63 ?_
          refine own_st (T' := T63) (F' := (mkF m 173 #[.val (.int x0), .val (.long x1), .second, .val (.long x2), .second, .val (.long x3), .second, .val (.int (3 : Int32)), .val (.ref b35), .val (.ref r42)] [(.long x3), (.long r63)])) (fun _ k => XS.lload X63.here hx rfl (hb hby at_171) rfl  k) ?_
          refine own_st (T' := T63) (F' := (mkF m 174 #[.val (.int x0), .val (.long x1), .second, .val (.long x2), .second, .val (.long x3), .second, .val (.int (3 : Int32)), .val (.ref b35), .val (.ref r42)] [(.int (lcmpW r63 x3))])) (fun _ k => XS.lcmp X63.here hx rfl (hb hby at_173) rfl k) ?_
          refine own_iflc X63 hx (pc' := 179) (pc2 := 177) (hb hby at_174) (by decide) (by decide) rfl (fun (hc174 : r63 = x3) => ?_) (fun (hc174 : ¬ (r63 = x3)) => ?_)
          ·
            refine own_st (T' := T63) (F' := (mkF m 180 #[.val (.int x0), .val (.long x1), .second, .val (.long x2), .second, .val (.long x3), .second, .val (.int (3 : Int32)), .val (.ref b35), .val (.ref r42)] [(.int (1 : Int32))])) (fun _ k => XS.iconst X63.here hx rfl (hb hby at_179) k) ?_
            refine own_retN X63 hx hlk (t := .boolean) Bd.returns (by simp) (hb hby at_180) ?_ (by decide) (by decide)
            rw [eq63]
            refine ⟨⟨_, rfl, ?_⟩, N63⟩
            rfl
          ·
            refine own_st (T' := T63) (F' := (mkF m 178 #[.val (.int x0), .val (.long x1), .second, .val (.long x2), .second, .val (.long x3), .second, .val (.int (3 : Int32)), .val (.ref b35), .val (.ref r42)] [(.int (0 : Int32))])) (fun _ k => XS.iconst X63.here hx rfl (hb hby at_177) k) ?_
            refine own_retN X63 hx hlk (t := .boolean) Bd.returns (by simp) (hb hby at_178) ?_ (by decide) (by decide)
            rw [eq63]
            refine ⟨⟨_, rfl, ?_⟩, N63⟩
            exact absurd hr63 hc174
        ·
          refine own_st (T' := T62) (F' := (mkF m 158 #[.val (.int x0), .val (.long x1), .second, .val (.long x2), .second, .val (.long x3), .second, .val (.int (3 : Int32)), .val (.ref b35), .val (.ref r42)] [(.int (0 : Int32))])) (fun _ k => XS.iconst X62.here hx rfl (hb hby at_157) k) ?_
          refine own_retN X62 hx hlk (t := .boolean) Bd.returns (by simp) (hb hby at_158) ?_ (by decide) (by decide)
          rw [eq62]
          refine ⟨⟨_, rfl, ?_⟩, N62⟩
          exact absurd hr62 hc154
      ·
        refine own_st (T' := T61) (F' := (mkF m 139 #[.val (.int x0), .val (.long x1), .second, .val (.long x2), .second, .val (.long x3), .second, .val (.int (3 : Int32)), .val (.ref b35), .val (.ref r42)] [(.int (0 : Int32))])) (fun _ k => XS.iconst X61.here hx rfl (hb hby at_138) k) ?_
        refine own_retN X61 hx hlk (t := .boolean) Bd.returns (by simp) (hb hby at_139) ?_ (by decide) (by decide)
        rw [eq61]
        refine ⟨⟨_, rfl, ?_⟩, N61⟩
        exact absurd hr61 hc135
    ·
      refine own_st (T' := T60) (F' := (mkF m 126 #[.val (.int x0), .val (.long x1), .second, .val (.long x2), .second, .val (.long x3), .second, .val (.int (3 : Int32)), .val (.ref b35), .val (.ref r42)] [(.int (0 : Int32))])) (fun _ k => XS.iconst X60.here hx rfl (hb hby at_125) k) ?_
      refine own_retN X60 hx hlk (t := .boolean) Bd.returns (by simp) (hb hby at_126) ?_ (by decide) (by decide)
      rw [eq60]
      refine ⟨⟨_, rfl, ?_⟩, N60⟩
      exact absurd hr60 hc122
set_option maxRecDepth 65536 in
set_option maxHeartbeats 40000000 in
theorem comes_1 {Post : Tables → Env → Array Value → State → Outcome → State → Prop} (hpost : ∀ tb e args s v u, (limb_1_1.after args s (.returned v) u = true ∧ limb_1_2.after args s (.returned v) u = true ∧ True) → FrameEnd s (.returned v) u (Jvm.fieldLocs frame_1_writes args s ++ Jvm.arrayLocs frame_1_arrays args s ++ Jvm.staticLocs frame_1_statics s) 16 128 → Post tb e args s (.returned v) u) :
    ArmFor flags0 classFile x code maxLocals ret World_1 tables_1 room_1 Calls_1 rest_1 Pre_1 Post := by
  intro l hfl _ _ p e ha hc hk s m args below hf hA hF happ hP
  obtain ⟨hcalls, hrest, hpre⟩ := hP
  obtain ⟨-, -, -, hnamed, -, -, -, hat⟩ := (Spec.applies_iff hf).mp happ
  obtain ⟨hg, hn⟩ := and_e (Cond.before_iff.mp (show (Jvm.Cond.and given_1 narrow_1).before args s = true from hpre))
  obtain ⟨g0, hg0⟩ := and_e hg
  obtain ⟨g1, hg1⟩ := and_e hg0
  obtain ⟨g2, hg2⟩ := and_e hg1
  obtain ⟨g3, hg3⟩ := and_e hg2
  obtain ⟨w0, w1, w2, w3, rfl⟩ : ∃ w0 w1 w2 w3 : Value, args = #[w0, w1, w2, w3] := by
    have hs : args.size = 4 := by simpa [Cond.value, given_1] using g0
    obtain ⟨L⟩ := args
    match L, hs with
    | [w0, w1, w2, w3], _ => exact ⟨w0, w1, w2, w3, rfl⟩
  have hw := fun d (hd : d ∈ tables_1) => atoms_spec (ws := Jvm.Cond.code x code maxLocals ret :: tables_1) hat d (List.mem_cons_of_mem _ hd)
  have hfit : Fit s := fun {y c} hc i hi => by
    obtain ⟨ha, rfl⟩ := Array.getElem?_eq_some_iff.mp hc
    have q := List.all_eq_true.mp ((Array.all_eq_true_iff_forall_mem.mp hF) _ (Array.getElem_mem ha)) i (List.mem_range.mpr hi)
    simpa [Array.getElem?_eq_getElem hi] using q
  obtain ⟨i0, ei0⟩ := is_v g1
  obtain rfl : w0 = (.int i0) := Option.some.inj ei0
  obtain ⟨i1, ei1⟩ := isL_v g2
  obtain rfl : w1 = (.long i1) := Option.some.inj ei1
  obtain ⟨i2, ei2⟩ := isL_v g3
  obtain rfl : w2 = (.long i2) := Option.some.inj ei2
  obtain ⟨i3, ei3⟩ := isL_v hg3
  obtain rfl : w3 = (.long i3) := Option.some.inj ei3
  obtain ⟨n, o, h1, h2, h3, _, L, rfl, ⟨⟨_, rfl, rfl⟩, N⟩, hq⟩ := rm0 l s _ hw tables_1 i0 i1 i2 i3  s.heap s.heap.size (Nat.le_refl _)  p e ha hc hk s m _ below hf ((Spec.applies_iff_loose hf).mp happ).1 ⟨rfl, State.Warmed39.refl s, rfl⟩ trivial
  refine ⟨n, _, h1, h2, h3, hpost _ _ _ _ _ _ ⟨Cond.after_iff.mpr rfl, Cond.after_iff.mpr (eq_i res_at (Term.int_eval (1)) rfl), trivial⟩ ⟨hq.1, hq.2.1, (hq.2.2.sift fun y hy => Or.inr (N y hy)).mono (by decide) (by decide)⟩⟩
theorem main_1_1 : Claimed_1_1 := comes_1 fun _ _ _ _ _ _ h hF => ⟨h.1, hF⟩
theorem main_1_2 : Claimed_1_2 := comes_1 fun _ _ _ _ _ _ h hF => ⟨h.2.1, hF⟩
end Jvm.Pilot.@@N@@
namespace Jvm.Pilot.@@N@@
open Jvm Jvm.ClassFile Sem Op Lib Jvm.Free Jvm.Stand Jvm.Pilot.@@N@@.Jvm.D
/-! MADE BY PROGRAM (witnessworld.py) out of the Statement's table words and the real class files: 11 classes; the members and pool entries that the words name. The judged class is class 1, her method 1. -/
namespace start1
open Jvm.ClassFile
def u (s : String) : CpInfo := .utf8 (stringToUtf16 s)
/-- a pool by its gaps: so many unusable entries, then the entry; so many at the end -/
def gap : Nat → List CpInfo → List CpInfo
  | 0, r => r
  | n + 1, r => .unusable :: gap n r
def poolList (es : List (Nat × CpInfo)) (last : Nat) : List CpInfo := es.foldr (fun e r => gap e.1 (e.2 :: r)) (gap last [])
def pool (es : List (Nat × CpInfo)) (last : Nat) : Array CpInfo := ⟨poolList es last⟩
def fileOf (pool : Array CpInfo) (this : Nat) (attrs : Array Attribute := #[]) (ms : Array MethodInfo := #[]) (fl : Nat := 33) (sup : Nat := 0) (ifs : Array Nat := #[]) (fds : Array FieldInfo := #[]) : ClassFile where
  minorVersion := 0
  majorVersion := 65
  constantPool := pool
  accessFlags := fl
  thisClass := this
  superClass := sup
  interfaces := ifs
  fields := fds
  methods := ms
  attributes := attrs
def plain (name : String) (sup : Option ClassId) : Class where
  name := name
  kind := .ordinary
  loader := none
  accessFlags := 33
  super := sup
  interfaces := #[]
  cf := none
  fields := #[]
  methods := #[]
  instanceTypes := #[]
  staticTypes := #[]
  resolved := #[]
  callSites := []
  init := .initialized
  statics := none
  mirror := none

def pool0 : Array CpInfo := pool [(5, u "<init>"), (0, u "()V"), (1, .class_ 10), (1, u "java/lang/Object"), (85, u "clone"), (0, u "()Ljava/lang/Object;")] 26

def k0c0 : Code := { maxStack := 0, maxLocals := 1, code := object_method_1_code, exceptionTable := #[], attributes := #[] }
def k0m0 : Method := { name := "<init>", desc := "()V", sig := { parameters := [], returnType := none }, accessFlags := 1, code := some k0c0 }
def k0m1 : Method := { name := "clone", desc := "()Ljava/lang/Object;", sig := { parameters := [], returnType := some (.object "java/lang/Object") }, accessFlags := 260, code := none }
/-- java/lang/Object -/
def k0 : Class := { plain "java/lang/Object" none with
  accessFlags := 33
  interfaces := #[]
  cf := some (fileOf pool0 8 #[] #[{ accessFlags := 1, nameIndex := 5, descriptorIndex := 6, attributes := #[] }, { accessFlags := 260, nameIndex := 96, descriptorIndex := 97, attributes := #[] }] 33 0 #[] #[])
  fields := #[]
  methods := #[k0m0, k0m1]
  instanceTypes := #[]
  staticTypes := #[]
  resolved := Array.replicate 124 none
  statics := none }

def pool1 : Array CpInfo := pool [(2, .class_ 4), (1, u "java/lang/Object"), (0, u "<init>"), (0, u "()V"), (0, .integer 2147483647), (0, .methodref 9 10), (0, .class_ 11), (0, .nameAndType 12 13), (0, u "com/example/macaque/macaque/Value"), (0, u "of"), (0, u "([J)Lcom/example/macaque/macaque/Value;"), (0, .long 18446744073709551615), (1, .methodref 9 17), (0, .nameAndType 18 19), (0, u "size"), (0, u "()I"), (0, .methodref 9 21), (0, .nameAndType 22 23), (0, u "key"), (0, u "(I)J"), (0, .class_ 25), (0, u "com/example/macaque/macaque/ValueOfPinLaw"), (2, u "law"), (0, u "(IJJJ)Z")] 5

def k1m0 : Method := { name := "<init>", desc := "()V", sig := { parameters := [], returnType := none }, accessFlags := 1, code := none }
def k1c1 : Code := { maxStack := 6, maxLocals := 10, code := code, exceptionTable := #[], attributes := #[] }
def k1m1 : Method := { name := "law", desc := "(IJJJ)Z", sig := { parameters := [.int, .long, .long, .long], returnType := some .boolean }, accessFlags := 9, code := some k1c1 }
/-- com/example/macaque/macaque/ValueOfPinLaw -/
def k1 : Class := { plain "com/example/macaque/macaque/ValueOfPinLaw" (some 0) with
  accessFlags := 49
  interfaces := #[]
  cf := some (fileOf pool1 24 #[] #[{ accessFlags := 1, nameIndex := 5, descriptorIndex := 6, attributes := #[] }, { accessFlags := 9, nameIndex := 28, descriptorIndex := 29, attributes := #[] }] 49 2 #[] #[])
  fields := #[]
  methods := #[k1m0, k1m1]
  instanceTypes := #[]
  staticTypes := #[]
  resolved := Array.replicate 35 none
  statics := none }

def pool2 : Array CpInfo := pool [(1, .methodref 2 3), (0, .class_ 4), (0, .nameAndType 5 6), (0, u "java/lang/Object"), (0, u "<init>"), (0, u "()V"), (0, .fieldref 8 9), (0, .class_ 10), (0, .nameAndType 11 12), (0, u "com/example/macaque/macaque/Value"), (0, u "keys"), (0, u "[J"), (7, .methodref 21 22), (0, .class_ 12), (0, .nameAndType 23 24), (0, u "clone"), (0, u "()Ljava/lang/Object;"), (0, .methodref 8 26), (0, .nameAndType 5 27), (0, u "([J)V"), (32, u "of"), (0, u "([J)Lcom/example/macaque/macaque/Value;"), (1, u "size"), (0, u "()I"), (0, u "key"), (0, u "(I)J")] 3

def k2c0 : Code := { maxStack := 2, maxLocals := 2, code := prog_37_method_1_code, exceptionTable := #[], attributes := #[] }
def k2m0 : Method := { name := "<init>", desc := "([J)V", sig := { parameters := [(.array .long)], returnType := none }, accessFlags := 2, code := some k2c0 }
def k2c1 : Code := { maxStack := 3, maxLocals := 1, code := prog_37_method_2_code, exceptionTable := #[], attributes := #[] }
def k2m1 : Method := { name := "of", desc := "([J)Lcom/example/macaque/macaque/Value;", sig := { parameters := [(.array .long)], returnType := some (.object "com/example/macaque/macaque/Value") }, accessFlags := 136, code := some k2c1 }
def k2c2 : Code := { maxStack := 1, maxLocals := 1, code := prog_37_method_3_code, exceptionTable := #[], attributes := #[] }
def k2m2 : Method := { name := "size", desc := "()I", sig := { parameters := [], returnType := some .int }, accessFlags := 0, code := some k2c2 }
def k2c3 : Code := { maxStack := 2, maxLocals := 2, code := prog_37_method_4_code, exceptionTable := #[], attributes := #[] }
def k2m3 : Method := { name := "key", desc := "(I)J", sig := { parameters := [.int], returnType := some .long }, accessFlags := 0, code := some k2c3 }
/-- com/example/macaque/macaque/Value -/
def k2 : Class := { plain "com/example/macaque/macaque/Value" (some 0) with
  accessFlags := 48
  interfaces := #[]
  cf := some (fileOf pool2 8 #[] #[{ accessFlags := 2, nameIndex := 5, descriptorIndex := 27, attributes := #[] }, { accessFlags := 136, nameIndex := 60, descriptorIndex := 61, attributes := #[] }, { accessFlags := 0, nameIndex := 63, descriptorIndex := 64, attributes := #[] }, { accessFlags := 0, nameIndex := 65, descriptorIndex := 66, attributes := #[] }] 48 2 #[] #[{ accessFlags := 18, nameIndex := 11, descriptorIndex := 12, attributes := #[] }])
  fields := #[{ name := "keys", type := (.array .long), accessFlags := 18, slot := 0, constantValue := 0 }]
  methods := #[k2m0, k2m1, k2m2, k2m3]
  instanceTypes := #[(.array .long)]
  staticTypes := #[]
  resolved := Array.replicate 70 none
  statics := none }

def pool3 : Array CpInfo := pool [(1, .class_ 2), (0, u "java/lang/Cloneable"), (0, .class_ 4), (0, u "java/lang/Object")] 2

/-- java/lang/Cloneable -/
def k3 : Class := { plain "java/lang/Cloneable" (some 0) with
  accessFlags := 1537
  interfaces := #[]
  cf := some (fileOf pool3 1 #[] #[] 1537 3 #[] #[])
  fields := #[]
  methods := #[]
  instanceTypes := #[]
  staticTypes := #[]
  resolved := Array.replicate 7 none
  statics := none }

def pool4 : Array CpInfo := pool [(1, u "java/io/Serializable"), (0, .class_ 1), (0, u "java/lang/Object"), (0, .class_ 3)] 3

/-- java/io/Serializable -/
def k4 : Class := { plain "java/io/Serializable" (some 0) with
  accessFlags := 1537
  interfaces := #[]
  cf := some (fileOf pool4 2 #[] #[] 1537 4 #[] #[])
  fields := #[]
  methods := #[]
  instanceTypes := #[]
  staticTypes := #[]
  resolved := Array.replicate 8 none
  statics := none }

/-- the primitive byte -/
def k5 : Class := { plain "byte" none with kind := .primitive 'B', accessFlags := 0x411 }
/-- [B -/
def k6 : Class := { plain "[B" (some 0) with kind := .array 5 .byte, interfaces := #[3, 4], accessFlags := 1041 }

/-- the primitive int -/
def k7 : Class := { plain "int" none with kind := .primitive 'I', accessFlags := 0x411 }
/-- [I -/
def k8 : Class := { plain "[I" (some 0) with kind := .array 7 .int, interfaces := #[3, 4], accessFlags := 1041 }

/-- the primitive long -/
def k9 : Class := { plain "long" none with kind := .primitive 'J', accessFlags := 0x411 }
/-- [J -/
def k10 : Class := { plain "[J" (some 0) with kind := .array 9 .long, interfaces := #[3, 4], accessFlags := 1041 }

def heap : Heap := #[]
def classes : Array Class := #[k0, k1, k2, k3, k4, k5, k6, k7, k8, k9, k10]
def interned : List (Array UInt16 × Addr) := []
def slotsUsed : Nat := 0
def theMethod : MethodId := ⟨1, 1⟩
def args0 : Array Value := #[.int 5, .long 1, .long 2, .long 3]
def aboutOver (below : List Frame) : State where
  vm := { classes := classes, interned := interned.toArray }
  heap := heap
  slotsUsed := slotsUsed
  threads := #[{ frames := .invoking theMethod args0 :: below }]
def below0 : List Frame := [.native { method := ⟨0, 0⟩, args := #[] }]
def about1 : State := aboutOver below0
def p0 : Program := .bare "" "" ""
def e0 : Env := launch0.env 0 0 0
theorem w_frames : about1.frames = Frame.invoking theMethod args0 :: below0 := rfl
set_option maxRecDepth 65536 in
theorem w_args : argsFit about1.vm theMethod args0 = true := by decide +kernel
set_option maxRecDepth 65536 in
theorem w_heap : heapFits about1 = true := by decide +kernel
set_option maxRecDepth 65536 in
theorem w_runnable : about1.curStatus? = some .runnable := by decide +kernel
set_option maxRecDepth 65536 in
theorem w_alone : about1.alone = true := by decide +kernel
set_option maxRecDepth 65536 in
theorem w_named : about1.methodNamed? x = some theMethod := by decide +kernel
set_option maxRecDepth 65536 in
theorem w_hears : about1.hears theMethod below0 = true := by decide +kernel
set_option maxRecDepth 65536 in
theorem w_ripe : about1.ripe theMethod args0 below0 = true := by decide +kernel
theorem w_running : about1.status = .running := rfl
set_option maxRecDepth 65536 in
theorem w_room : about1.hasRoom e0.platform room_1 = true :=
  launch0.hasRoom_least _ room_1 (by decide +kernel) (by decide +kernel) (by decide +kernel) (by decide +kernel) (by decide +kernel) (by decide +kernel)
theorem allAtoms_all (ts : List Jvm.Cond) (a : Array Jvm.Value) (st : Jvm.State) : (allAtoms ts).before a st = ts.all (fun c => c.before a st) := by
  induction ts with
  | nil => rfl
  | cons c t ih =>
    show (Jvm.Cond.and c (allAtoms t)).before a st = _
    rw [Jvm.Cond.before_and, ih, List.all_cons]
def words1 : List Jvm.Cond := Jvm.Cond.code x code maxLocals ret :: tables_1
/-- a 'code' word, met by the world's own term for the bytes: nothing is compared byte by byte -/
theorem code_word {y : MethodName} {bytes : ByteArray} {mx : Nat} {rt : Option FieldType} {a : Array Value} {s : State} {m : MethodId} {meth : Method} {c : Code} (h1 : s.methodNamed? y = some m) (h2 : s.vm.method? m = some meth) (h3 : meth.code = some c) (h4 : c.code = bytes)
    (h5 : (c.maxLocals == mx && c.exceptionTable.isEmpty && decide (c.maxStack ≤ mostOperands) && decide (meth.sig.returnType = rt) && !meth.locks && decide (parseMethodDescriptor y.desc = some meth.sig)) = true) : (Jvm.Cond.code y bytes mx rt).before a s = true := by
  simp only [Bool.and_eq_true, beq_iff_eq, Bool.not_eq_true', decide_eq_true_eq] at h5
  obtain ⟨⟨⟨⟨⟨g1, g2⟩, g3⟩, g4⟩, g5⟩, g6⟩ := h5
  simp [Cond.before, Cond.holds, Cond.value, h1, h2, h3, h4, g1, g2, g3, g4, g5, g6]
def isCode : Jvm.Cond → Bool
  | .code _ _ _ _ => true
  | _ => false
theorem all_split {L : List Jvm.Cond} {P : Jvm.Cond → Bool} (h1 : L.all (fun c => isCode c || P c) = true) (h2 : ∀ c ∈ L.filter isCode, P c = true) : L.all P = true := by
  refine List.all_eq_true.mpr fun c hc => ?_
  have h := List.all_eq_true.mp h1 c hc
  rcases Bool.eq_false_or_eq_true (isCode c) with hi | hi
  · exact h2 c (List.mem_filter.mpr ⟨hc, hi⟩)
  · simpa [hi] using h
set_option maxRecDepth 65536 in
theorem w_c0 : (Jvm.Cond.code x code maxLocals ret).before args0 about1 = true := code_word (m := ⟨1, 1⟩) (meth := k1m1) (c := k1c1) (by decide +kernel) rfl rfl rfl (by decide +kernel)
set_option maxRecDepth 65536 in
theorem w_c1 : (Jvm.Cond.code ({ cls := "com/example/macaque/macaque/Value", name := "of", desc := "([J)Lcom/example/macaque/macaque/Value;" } : Jvm.MethodName) prog_37_method_2_code (1 : Nat) (Option.some (Jvm.ClassFile.FieldType.object "com/example/macaque/macaque/Value"))).before args0 about1 = true := code_word (m := ⟨2, 1⟩) (meth := k2m1) (c := k2c1) (by decide +kernel) rfl rfl rfl (by decide +kernel)
set_option maxRecDepth 65536 in
theorem w_c2 : (Jvm.Cond.code ({ cls := "com/example/macaque/macaque/Value", name := "<init>", desc := "([J)V" } : Jvm.MethodName) prog_37_method_1_code (2 : Nat) (Option.none : Option Jvm.ClassFile.FieldType)).before args0 about1 = true := code_word (m := ⟨2, 0⟩) (meth := k2m0) (c := k2c0) (by decide +kernel) rfl rfl rfl (by decide +kernel)
set_option maxRecDepth 65536 in
theorem w_c3 : (Jvm.Cond.code ({ cls := "java/lang/Object", name := "<init>", desc := "()V" } : Jvm.MethodName) object_method_1_code (1 : Nat) (Option.none : Option Jvm.ClassFile.FieldType)).before args0 about1 = true := code_word (m := ⟨0, 0⟩) (meth := k0m0) (c := k0c0) (by decide +kernel) rfl rfl rfl (by decide +kernel)
set_option maxRecDepth 65536 in
theorem w_c4 : (Jvm.Cond.code ({ cls := "com/example/macaque/macaque/Value", name := "size", desc := "()I" } : Jvm.MethodName) prog_37_method_3_code (1 : Nat) (Option.some Jvm.ClassFile.FieldType.int)).before args0 about1 = true := code_word (m := ⟨2, 2⟩) (meth := k2m2) (c := k2c2) (by decide +kernel) rfl rfl rfl (by decide +kernel)
set_option maxRecDepth 65536 in
theorem w_c5 : (Jvm.Cond.code ({ cls := "com/example/macaque/macaque/Value", name := "key", desc := "(I)J" } : Jvm.MethodName) prog_37_method_4_code (2 : Nat) (Option.some Jvm.ClassFile.FieldType.long)).before args0 about1 = true := code_word (m := ⟨2, 3⟩) (meth := k2m3) (c := k2c3) (by decide +kernel) rfl rfl rfl (by decide +kernel)
def codes1 : List Jvm.Cond := [Jvm.Cond.code x code maxLocals ret, Jvm.Cond.code ({ cls := "com/example/macaque/macaque/Value", name := "of", desc := "([J)Lcom/example/macaque/macaque/Value;" } : Jvm.MethodName) prog_37_method_2_code (1 : Nat) (Option.some (Jvm.ClassFile.FieldType.object "com/example/macaque/macaque/Value")), Jvm.Cond.code ({ cls := "com/example/macaque/macaque/Value", name := "<init>", desc := "([J)V" } : Jvm.MethodName) prog_37_method_1_code (2 : Nat) (Option.none : Option Jvm.ClassFile.FieldType), Jvm.Cond.code ({ cls := "java/lang/Object", name := "<init>", desc := "()V" } : Jvm.MethodName) object_method_1_code (1 : Nat) (Option.none : Option Jvm.ClassFile.FieldType), Jvm.Cond.code ({ cls := "com/example/macaque/macaque/Value", name := "size", desc := "()I" } : Jvm.MethodName) prog_37_method_3_code (1 : Nat) (Option.some Jvm.ClassFile.FieldType.int), Jvm.Cond.code ({ cls := "com/example/macaque/macaque/Value", name := "key", desc := "(I)J" } : Jvm.MethodName) prog_37_method_4_code (2 : Nat) (Option.some Jvm.ClassFile.FieldType.long)]
set_option maxRecDepth 65536 in
theorem codes_eq : words1.filter isCode = codes1 := rfl
theorem w_codes : ∀ c ∈ words1.filter isCode, c.before args0 about1 = true := by
  rw [codes_eq]
  intro c hc
  simp only [codes1, List.mem_cons, List.not_mem_nil, or_false] at hc
  rcases hc with rfl | rfl | rfl | rfl | rfl | rfl
  · exact w_c0
  · exact w_c1
  · exact w_c2
  · exact w_c3
  · exact w_c4
  · exact w_c5
set_option maxRecDepth 65536 in
theorem w_t1 : (words1.take 24).all (fun c => isCode c || c.before args0 about1) = true := by decide +kernel
set_option maxRecDepth 65536 in
theorem w_t2 : (words1.drop 24).all (fun c => isCode c || c.before args0 about1) = true := by decide +kernel
theorem w_tables : (allAtoms (Jvm.Cond.code x code maxLocals ret :: tables_1)).before args0 about1 = true := by
  rw [allAtoms_all]
  show words1.all (fun c => c.before args0 about1) = true
  refine all_split ?_ w_codes
  rw [← List.take_append_drop 24 words1, List.all_append, w_t1, w_t2]
  rfl
set_option maxRecDepth 65536 in
theorem w_case : (Jvm.Cond.and given_1 narrow_1).before args0 about1 = true := by decide +kernel
theorem w_applies : (headSpec (Jvm.Cond.code x code maxLocals ret :: tables_1) room_1).applies x e0.platform about1 = true :=
  (Spec.applies_iff w_frames).mpr ⟨w_running, w_runnable, w_alone, w_named, w_hears, w_ripe, w_room, w_tables⟩
theorem atStart : AtStart classFile x code maxLocals ret World_1 tables_1 room_1 Calls_1 rest_1 Pre_1 launch0 p0 e0 about1 theMethod args0 below0 :=
  ⟨lists_1, trivial, launch0.admits_env _ _ _, launch0.least_env, fairChoices_fair.cas, fairChoices_fair.clock, w_frames, w_args, w_heap, w_applies, trivial, trivial, w_case⟩
end start1
theorem witness_1 : WitnessClaimed_1 := ⟨start1.p0, start1.e0, start1.about1, start1.theMethod, start1.args0, start1.below0, start1.atStart⟩
end Jvm.Pilot.@@N@@
