import JvmDerived
import JvmDerived.Pilot.@@N@@Statement
import JvmDerived.Pilot.@@N@@Code
set_option linter.unusedVariables false
set_option linter.unusedSimpArgs false
namespace Jvm.Pilot.@@N@@
open Jvm Jvm.ClassFile Sem Op Lib Jvm.Free Jvm.Stand Jvm.LawKit Jvm.RoadKit Bundle Jvm.Pilot.@@N@@.Jvm.D
section Own
variable {p : Program} {l : Launch} {e : Env} {R : Room} {s : State} {m : MethodId} {args : Array Value} {below : List Frame} {meth : Method} {c : Code} {T T' : State} {locs : List Loc} {cells slots : Nat} {Qf : Option Value → Heap → List Loc → Prop} {C S : Nat} {F F' : JFrame}
/-- from the state T with the frame F on top the invocation ends as Qf says -/
def own_Go (p : Program) (e : Env) (below : List Frame) (s : State) (Qf : Option Value → Heap → List Loc → Prop) (C S : Nat) (T : State) (F : JFrame) : Prop :=
  ∃ s₂ o, Steps p.tables e below (T.setTop F) s₂ ∧ s₂.status = .running ∧ Ended s₂ below o ∧ ∃ v L, o = .returned v ∧ Qf v s₂.heap L ∧ FrameEnd s o s₂ L C S
theorem own_enter (q : F = F') (hr : own_Go p e below s Qf C S T F') : ∃ s₂ o, Steps p.tables e below (T.setTop F) s₂ ∧ s₂.status = .running ∧ Ended s₂ below o ∧ ∃ v L, o = .returned v ∧ Qf v s₂.heap L ∧ FrameEnd s o s₂ L C S := by
  subst q; exact hr
theorem own_st (st : ∀ t, Steps p.tables e below (T'.setTop F') t → Steps p.tables e below (T.setTop F) t) (hr : own_Go p e below s Qf C S T' F') : own_Go p e below s Qf C S T F := by
  obtain ⟨s2, o, h1, h2⟩ := hr
  exact ⟨s2, o, st _ h1, h2⟩
theorem own_tr (st : Steps p.tables e below (T.setTop F) (T'.setTop F')) (hr : own_Go p e below s Qf C S T' F') : own_Go p e below s Qf C S T F := by
  obtain ⟨s2, o, h1, h2⟩ := hr
  exact ⟨s2, o, st.trans h1, h2⟩
theorem own_ret (X : Stand p l e R s m args below meth c T locs cells slots) (hlk : meth.locks = false) {v : Option Value} (hv : meth.sig.returnType = none → v = none)
    (st : ∀ fs, (∀ (f : JFrame) (acts : List Action), f.method = m → f.locked = none → f.entered = [] → (doReturn e (T.setTop f) acts v).1 = T.setFrames fs) → Steps p.tables e below (T.setTop F) (T.setFrames fs))
    (hQ : Qf v T.heap locs) (hC : cells ≤ C) (hS : slots ≤ S) : own_Go p e below s Qf C S T F := by
  obtain ⟨fs, hr, hrun, hended, hW, hsame⟩ := X.leave (v := v) hv hlk
  exact ⟨_, _, st fs hr, hrun, hended, _, _, rfl, hQ, ⟨_, rfl⟩, hW, hsame.mono hC hS⟩
theorem own_retN (X : Stand p l e R s m args below meth c T locs cells slots) (hx : p.tables.exec = Jvm.exec) (hlk : meth.locks = false) {pc : Nat} {Ls : Array Slot} {z : Int32} {t : FieldType} {rest : List Value} (hret : meth.sig.returnType = some t) (ht : t = .boolean ∨ t = .byte ∨ t = .char ∨ t = .short) (hd : decode c.code pc = .ok (.ireturn, 1))
    (hQ : Qf (some (.int (nar t z))) T.heap locs) (hC : cells ≤ C) (hS : slots ≤ S) : own_Go p e below s Qf C S T (mkF m pc Ls (.int z :: rest)) :=
  own_ret X hlk (fun h => by rw [hret] at h; cases h) (fun _ hr => retN X hx hret ht hd hr) hQ hC hS
theorem own_retI (X : Stand p l e R s m args below meth c T locs cells slots) (hx : p.tables.exec = Jvm.exec) (hlk : meth.locks = false) {pc : Nat} {Ls : Array Slot} {z : Int32} {rest : List Value} (hret : meth.sig.returnType = some .int) (hd : decode c.code pc = .ok (.ireturn, 1))
    (hQ : Qf (some (.int z)) T.heap locs) (hC : cells ≤ C) (hS : slots ≤ S) : own_Go p e below s Qf C S T (mkF m pc Ls (.int z :: rest)) :=
  own_ret X hlk (fun h => by rw [hret] at h; cases h) (fun _ hr => retOut X hx hret rfl (Or.inl ⟨rfl, Or.inl rfl, _, rfl⟩) hd hr) hQ hC hS
theorem own_retJ (X : Stand p l e R s m args below meth c T locs cells slots) (hx : p.tables.exec = Jvm.exec) (hlk : meth.locks = false) {pc : Nat} {Ls : Array Slot} {z : Int64} {rest : List Value} (hret : meth.sig.returnType = some .long) (hd : decode c.code pc = .ok (.lreturn, 1))
    (hQ : Qf (some (.long z)) T.heap locs) (hC : cells ≤ C) (hS : slots ≤ S) : own_Go p e below s Qf C S T (mkF m pc Ls (.long z :: rest)) :=
  own_ret X hlk (fun h => by rw [hret] at h; cases h) (fun _ hr => retOut X hx hret rfl (Or.inr (Or.inl ⟨rfl, rfl, _, rfl⟩)) hd hr) hQ hC hS
theorem own_retA (X : Stand p l e R s m args below meth c T locs cells slots) (hx : p.tables.exec = Jvm.exec) (hlk : meth.locks = false) {pc : Nat} {Ls : Array Slot} {w : Value} {t : FieldType} {rest : List Value} (hret : meth.sig.returnType = some t) (ht : t.isReference = true) (hw : w.isRef = true) (hn : narrow t w = w) (hd : decode c.code pc = .ok (.areturn, 1))
    (hQ : Qf (some w) T.heap locs) (hC : cells ≤ C) (hS : slots ≤ S) : own_Go p e below s Qf C S T (mkF m pc Ls (w :: rest)) :=
  own_ret X hlk (fun h => by rw [hret] at h; cases h) (fun _ hr => retOut X hx hret hn (Or.inr (Or.inr (Or.inr (Or.inr ⟨rfl, ht, hw⟩)))) hd hr) hQ hC hS
theorem own_retV (X : Stand p l e R s m args below meth c T locs cells slots) (hx : p.tables.exec = Jvm.exec) (hlk : meth.locks = false) {pc : Nat} {Ls : Array Slot} (hret : meth.sig.returnType = none) (hd : decode c.code pc = .ok (.return_, 1))
    (hQ : Qf none T.heap locs) (hC : cells ≤ C) (hS : slots ≤ S) : own_Go p e below s Qf C S T (mkF m pc Ls []) :=
  own_ret X hlk (fun _ => rfl) (fun _ hr => X.returnOut hx hret hd hr) hQ hC hS
def own_cc : ClassFile.Cond → Int32 → Int32 → Prop
  | .eq, x, y => x = y
  | .ne, x, y => ¬ x = y
  | .lt, x, y => x < y
  | .ge, x, y => ¬ x < y
  | .gt, x, y => y < x
  | .le, x, y => ¬ y < x
def own_nn : ClassFile.Cond → Int32 → Int32 → Prop
  | .eq, x, y => ¬ x = y
  | .ne, x, y => x = y
  | .lt, x, y => ¬ x < y
  | .ge, x, y => x < y
  | .gt, x, y => ¬ y < x
  | .le, x, y => y < x
theorem own_split (cd : ClassFile.Cond) (x y : Int32) : (own_cc cd x y ∧ if_icmp.holds cd x y = true) ∨ (own_nn cd x y ∧ if_icmp.holds cd x y = false) := by
  cases cd
  · by_cases h : x = y
    · exact Or.inl ⟨h, (teq h).1⟩
    · exact Or.inr ⟨h, (feq h).1⟩
  · by_cases h : x = y
    · exact Or.inr ⟨h, (teq h).2⟩
    · exact Or.inl ⟨h, (feq h).2⟩
  · by_cases h : x < y
    · exact Or.inl ⟨h, (tlt h).1⟩
    · exact Or.inr ⟨h, (flt h).1⟩
  · by_cases h : x < y
    · exact Or.inr ⟨h, (tlt h).2.1⟩
    · exact Or.inl ⟨h, (flt h).2.1⟩
  · by_cases h : y < x
    · exact Or.inl ⟨h, (tlt h).2.2.1⟩
    · exact Or.inr ⟨h, (flt h).2.2.1⟩
  · by_cases h : y < x
    · exact Or.inr ⟨h, (tlt h).2.2.2⟩
    · exact Or.inl ⟨h, (flt h).2.2.2⟩
theorem own_icmp (X : Stand p l e R s m args below meth c T locs cells slots) (hx : p.tables.exec = Jvm.exec) {pc pc' pc2 : Nat} {Ls : Array Slot} {st : List Value} {x y : Int32} {cd : ClassFile.Cond} {o : Int} (hd : decode c.code pc = .ok (.if_icmp cd o, 3)) (ho : 0 ≤ (pc : Int) + o) (hp : ((pc : Int) + o).toNat = pc') (h2 : pc + 3 = pc2)
    (hY : own_cc cd x y → own_Go p e below s Qf C S T (mkF m pc' Ls st)) (hN : own_nn cd x y → own_Go p e below s Qf C S T (mkF m pc2 Ls st)) : own_Go p e below s Qf C S T (mkF m pc Ls (.int y :: .int x :: st)) := by
  subst h2
  rcases own_split cd x y with ⟨h, q⟩ | ⟨h, q⟩
  · exact own_st (fun _ k => XS.icmpYes X.here hx rfl (pc0 := pc) (pc' := pc') rfl hd rfl q ho hp k) (hY h)
  · exact own_st (fun _ k => XS.icmpNo X.here hx rfl hd rfl q k) (hN h)
theorem own_ifc (X : Stand p l e R s m args below meth c T locs cells slots) (hx : p.tables.exec = Jvm.exec) {pc pc' pc2 : Nat} {Ls : Array Slot} {st : List Value} {x : Int32} {cd : ClassFile.Cond} {o : Int} (hd : decode c.code pc = .ok (.ifCond cd o, 3)) (ho : 0 ≤ (pc : Int) + o) (hp : ((pc : Int) + o).toNat = pc') (h2 : pc + 3 = pc2)
    (hY : own_cc cd x 0 → own_Go p e below s Qf C S T (mkF m pc' Ls st)) (hN : own_nn cd x 0 → own_Go p e below s Qf C S T (mkF m pc2 Ls st)) : own_Go p e below s Qf C S T (mkF m pc Ls (.int x :: st)) := by
  subst h2
  rcases own_split cd x 0 with ⟨h, q⟩ | ⟨h, q⟩
  · exact own_st (fun _ k => XS.ifYes X.here hx rfl (pc0 := pc) (pc' := pc') rfl hd rfl ((if0 _ _).trans q) ho hp k) (hY h)
  · exact own_st (fun _ k => XS.ifNo X.here hx rfl hd rfl ((if0 _ _).trans q) k) (hN h)
def own_ccL : ClassFile.Cond → Int64 → Int64 → Prop
  | .eq, x, y => x = y
  | .ne, x, y => ¬ x = y
  | .lt, x, y => x < y
  | .ge, x, y => ¬ x < y
  | .gt, x, y => y < x
  | .le, x, y => ¬ y < x
def own_nnL : ClassFile.Cond → Int64 → Int64 → Prop
  | .eq, x, y => ¬ x = y
  | .ne, x, y => x = y
  | .lt, x, y => ¬ x < y
  | .ge, x, y => x < y
  | .gt, x, y => ¬ y < x
  | .le, x, y => y < x
theorem own_lc (cd : ClassFile.Cond) (x y : Int64) : (own_cc cd (lcmpW x y) 0 → own_ccL cd x y) ∧ (own_nn cd (lcmpW x y) 0 → own_nnL cd x y) := by
  have h1 : x > y → lcmpW x y = 1 := fun h => by simp [lcmpW, h]
  have h2 : x = y → lcmpW x y = 0 := fun h => by subst h; simp [lcmpW, Int64.lt_irrefl]
  have h3 : ¬ x > y → ¬ x = y → lcmpW x y = -1 := fun h h' => by simp [lcmpW, h, h']
  have lt : x < y ↔ lcmpW x y < 0 := by
    by_cases a : x > y
    · rw [h1 a]; exact ⟨fun b => absurd (Int64.lt_trans a b) (Int64.lt_irrefl), fun b => absurd b (by decide)⟩
    · by_cases b : x = y
      · rw [h2 b, b]; exact ⟨fun q => absurd q (Int64.lt_irrefl), fun q => absurd q (by decide)⟩
      · rw [h3 a b]; exact ⟨fun _ => by decide, fun _ => by
          rw [Int64.lt_iff_toInt_lt]; simp only [gt_iff_lt, Int64.lt_iff_toInt_lt] at a
          have : x.toInt ≠ y.toInt := fun q => b (Int64.toInt_inj.mp q)
          omega⟩
  have gt : y < x ↔ 0 < lcmpW x y := by
    by_cases a : x > y
    · rw [h1 a]; exact ⟨fun _ => by decide, fun _ => a⟩
    · by_cases b : x = y
      · rw [h2 b]; exact ⟨fun q => absurd q a, fun q => absurd q (by decide)⟩
      · rw [h3 a b]; exact ⟨fun q => absurd q a, fun q => absurd q (by decide)⟩
  have eq : x = y ↔ lcmpW x y = 0 := by
    by_cases a : x > y
    · rw [h1 a]; exact ⟨fun b => absurd a (by rw [b]; exact Int64.lt_irrefl), fun b => absurd b (by decide)⟩
    · by_cases b : x = y
      · exact ⟨fun _ => h2 b, fun _ => b⟩
      · rw [h3 a b]; exact ⟨fun q => absurd q b, fun q => absurd q (by decide)⟩
  cases cd
  · exact ⟨fun h => eq.mpr h, fun h q => h (eq.mp q)⟩
  · exact ⟨fun h q => h (eq.mp q), fun h => eq.mpr h⟩
  · exact ⟨fun h => lt.mpr h, fun h q => h (lt.mp q)⟩
  · exact ⟨fun h q => h (lt.mp q), fun h => lt.mpr h⟩
  · exact ⟨fun h => gt.mpr h, fun h q => h (gt.mp q)⟩
  · exact ⟨fun h q => h (gt.mp q), fun h => gt.mpr h⟩
theorem own_iflc (X : Stand p l e R s m args below meth c T locs cells slots) (hx : p.tables.exec = Jvm.exec) {pc pc' pc2 : Nat} {Ls : Array Slot} {st : List Value} {x y : Int64} {cd : ClassFile.Cond} {o : Int} (hd : decode c.code pc = .ok (.ifCond cd o, 3)) (ho : 0 ≤ (pc : Int) + o) (hp : ((pc : Int) + o).toNat = pc') (h2 : pc + 3 = pc2)
    (hY : own_ccL cd x y → own_Go p e below s Qf C S T (mkF m pc' Ls st)) (hN : own_nnL cd x y → own_Go p e below s Qf C S T (mkF m pc2 Ls st)) : own_Go p e below s Qf C S T (mkF m pc Ls (.int (lcmpW x y) :: st)) :=
  own_ifc X hx hd ho hp h2 (fun h => hY ((own_lc cd x y).1 h)) (fun h => hN ((own_lc cd x y).2 h))
theorem own_acmp (X : Stand p l e R s m args below meth c T locs cells slots) (hx : p.tables.exec = Jvm.exec) {pc pc' pc2 : Nat} {Ls : Array Slot} {st : List Value} {x y : Addr} {o : Int} {cd : ACond} (hd : decode c.code pc = .ok (.if_acmp cd o, 3)) (ho : 0 ≤ (pc : Int) + o) (hp : ((pc : Int) + o).toNat = pc') (h2 : pc + 3 = pc2)
    (hE : x = y → own_Go p e below s Qf C S T (mkF m (if acV cd true = true then pc' else pc2) Ls st)) (hN : ¬ x = y → own_Go p e below s Qf C S T (mkF m (if acV cd false = true then pc' else pc2) Ls st)) : own_Go p e below s Qf C S T (mkF m pc Ls (.ref y :: .ref x :: st)) := by
  subst h2 hp
  by_cases h : x = y
  · exact own_st (fun _ k => Jvm.RoadKit.acmp (g := mkF m pc Ls (.ref y :: .ref x :: st)) X hx rfl rfl rfl (pc0 := pc) (same := true) rfl hd rfl (decide_eq_true (congrArg Value.ref h)) ho rfl k) (hE h)
  · exact own_st (fun _ k => Jvm.RoadKit.acmp (g := mkF m pc Ls (.ref y :: .ref x :: st)) X hx rfl rfl rfl (pc0 := pc) (same := false) rfl hd rfl (decide_eq_false fun q => h (Value.ref.inj q)) ho rfl k) (hN h)
theorem own_ord {Z : State} {a0 : Array Value} {t : Term} {a : Addr} {C n d : String} {k : Int32} (ev : t.eval a0 Z none [] Z = some (.ref a)) (h : (Cond.eq (Term.field t C n d) (Term.int k)).value a0 Z none Z [] = some true) : Fld Z Z.heap a C n d (.int k) := by
  have e1 : (Term.field t C n d).eval a0 Z none [] Z = Z.fieldOf? a C n d := fld_at ev
  simp only [Cond.value, e1] at h
  cases hq : Z.fieldOf? a C n d with
  | none => simp [hq] at h
  | some v =>
    rw [hq] at h
    cases v <;> simp [Term.eval] at h
    subst h
    exact Fld.start hq
theorem own_narb {z : Int32} (h : z = 0 ∨ z = 1) : nar .boolean z = z := by rcases h with rfl | rfl <;> rfl
theorem own_stk {Z : State} {h h' : Heap} {C n d : String} {v : Value} {ws : List Addr} (F : Sta Z h C n d v) (K : Keep h h' ws) (q : ∀ x ∈ ws, ∀ c : Cell, h[x]? = some c → c.vm.isStatics = false) : Sta Z h' C n d v := by
  obtain ⟨cf, i, k, f, st, cell, h1, h2, h3, h4, h5, h6, h7⟩ := F
  exact ⟨cf, i, k, f, st, cell, h1, h2, h3, h4, K.2.1 st cell h5 (fun z => by rw [q st z cell h5] at h6; cases h6), h6, h7⟩
theorem own_npE {Z : State} {h : Heap} {a : Addr} {C : String} (E : Exa Z h a C) : ∀ c : Cell, h[a]? = some c → c.vm.isStatics = false := fun c hc => by
  obtain ⟨cell, k, h1, h2, h3, h4, h5⟩ := E
  cases h1.symm.trans hc
  exact h4
theorem own_npA {Z : State} {h : Heap} {a : Addr} {k : ClassId} {ty : FieldType} {z : Int32} {vs : List Value} {dv : Value} (V : Arv Z h a k ty z vs dv) : ∀ c : Cell, h[a]? = some c → c.vm.isStatics = false := fun c hc => by
  obtain ⟨cl, A, r⟩ := V
  cases A.1.symm.trans hc
  exact A.plain
theorem own_len {Z : State} {a0 : Array Value} {t : Term} {a : Addr} {cl : Cell} {ty : FieldType} {k : Int32} (ev : t.eval a0 Z none [] Z = some (.ref a)) (A : Arr Z Z.heap a cl ty) (h : (Cond.eq (Term.length t) (Term.int k)).value a0 Z none Z [] = some true) : cl.slots.size < 2 ^ 31 ∧ cl.slots.size.toInt32 = k := by
  have ha : Z.arrayAt? a = some cl := IntBox.arrayAt_of A.1 A.2.1 A.2.2
  simp only [Cond.value, Term.eval, ev, Option.bind_eq_bind, Option.bind_some, ha] at h
  by_cases q : cl.slots.size < 2 ^ 31
  · simp [q] at h; exact ⟨q, h⟩
  · simp [q] at h
theorem own_elem {Z : State} {a0 : Array Value} {t : Term} {a : Addr} {cl : Cell} {ty : FieldType} {j v : Int32} (ev : t.eval a0 Z none [] Z = some (.ref a)) (A : Arr Z Z.heap a cl ty) (hj : ¬ j < 0) (h : (Cond.eq (Term.elem t (Term.int j)) (Term.int v)).value a0 Z none Z [] = some true) : cl.slots[j.toNatClampNeg]? = some (.int v) := by
  have ha : Z.arrayAt? a = some cl := IntBox.arrayAt_of A.1 A.2.1 A.2.2
  have e1 : (Term.elem t (Term.int j)).eval a0 Z none [] Z = cl.slots[j.toNatClampNeg]? := elem_f ev rfl ha hj
  simp only [Cond.value, e1] at h
  cases hq : cl.slots[j.toNatClampNeg]? with
  | none => simp [hq] at h
  | some w =>
    rw [hq] at h
    cases w <;> simp [Term.eval] at h
    rw [h]
theorem own_arvex {Z : State} {a : Addr} {cl : Cell} {ty : FieldType} {z : Int32} {dv : Value} (hf : Fit Z) (A : Arr Z Z.heap a cl ty) (q : cl.slots.size < 2 ^ 31) (e : cl.slots.size.toInt32 = z) (hz : ¬ z < 0) : ∃ vs, Arv Z Z.heap a cl.cls ty z vs dv := by
  have S : cl.slots.size = z.toNatClampNeg := by rw [← e]; simp only [Int32.toNatClampNeg, len_toInt q]; rfl
  have H : Has cl cl.slots.toList dv := fun k hk => by
    rw [List.getD_eq_getElem?_getD, Array.getElem?_toList, Array.getElem?_eq_getElem hk]; rfl
  refine ⟨cl.slots.toList, cl, A, rfl, S, hz, H, fun j hj => ?_⟩
  have e1 : (Nat.toInt32 j).toNatClampNeg = j := by simp only [Int32.toNatClampNeg, len_toInt (Nat.lt_trans hj q)]; rfl
  exact elem_fits (j := Nat.toInt32 j) hf A (idx_in hj q) (by rw [e1]; exact H j hj)
theorem own_selp {s : State} {args : Array Value} {y : MethodName} {n : Nat} (wi : (Cond.instantiable y.cls n).before args s = true) (hp : s.PrivateAt y) (hi : (Cond.instanceMethod y).before args s = true) (hy : y.cls ≠ "java/lang/invoke/MethodHandle" ∧ y.cls ≠ "java/lang/invoke/VarHandle") : (Cond.selects y.cls y y).before args s = true := by
  obtain ⟨c, k, hc, hk, -, hf, -⟩ := Cond.instantiable_spec wi
  exact selects_self_of_private hc hk (by simp only [Bool.or_eq_false_iff] at hf; exact hf.1) hp hi hy
theorem own_nar0 : nar .boolean (0 : Int32) = 0 := rfl
theorem own_nar1 : nar .boolean (1 : Int32) = 1 := rfl
end Own

theorem own_c255 (x : Int32) : ¬ ((255 : Int32) < ((x &&& (255 : Int32)).toUInt32.toUInt16.toUInt32.toInt32)) := by
  rw [i2c_mask]
  have h := (c_and x 255 (by decide)).2
  rw [Int32.lt_iff_toInt_lt]
  omega

theorem d2_0 : decode jdk_43_method_3_code 0 = .ok (.iload_n 0, 1) := by decide +kernel
theorem d2_1 : decode jdk_43_method_3_code 1 = .ok (.sipush 255, 3) := by decide +kernel
theorem d2_4 : decode jdk_43_method_3_code 4 = .ok (.if_icmp .gt 7, 3) := by decide +kernel
theorem d2_7 : decode jdk_43_method_3_code 7 = .ok (.iconst 1, 1) := by decide +kernel
theorem d2_8 : decode jdk_43_method_3_code 8 = .ok (.goto 4, 3) := by decide +kernel
theorem d2_11 : decode jdk_43_method_3_code 11 = .ok (.iconst 0, 1) := by decide +kernel
theorem d2_12 : decode jdk_43_method_3_code 12 = .ok (.ireturn, 1) := by decide +kernel
theorem own_pn2 : plainName "java/lang/StringLatin1" = true := by first | (simp [plainName, overriddenIn]; done) | decide +kernel
theorem own_ef2 (m : MethodId) (x0 : Int32) : entryFrame m #[(.int x0)] 1 = (mkF m 0 #[.val (.int x0)] []) := by first | (simp [entryFrame, mkF, argsToLocals, Value.category]; done) | rfl
def Q2 (Z : State) (x0 : Int32)  (h0 : Heap) (n0 : Nat) (v : Option Value) (h : Heap) (L : List Loc) : Prop := (∃ z : Int32, v = some (.int z) ∧ (z = 1)) ∧ Fr n0 L ∧ h = h0
set_option maxRecDepth 65536 in
set_option maxHeartbeats 40000000 in
theorem rm2 (l : Launch) (Z : State) (a0 : Array Value) (hw : ∀ d ∈ tables_1, d.before a0 Z = true) (ws : List Jvm.Cond) (x0 : Int32)  (h0 : Heap) (n0 : Nat) (Z0 : n0 ≤ h0.size) (hc : ¬ ((255 : Int32) < x0)) :
    MetFree l (⟨"java/lang/StringLatin1", "canEncode", "(C)Z"⟩ : MethodName) (head1 (Jvm.Cond.code (⟨"java/lang/StringLatin1", "canEncode", "(C)Z"⟩ : MethodName) jdk_43_method_3_code 1 (some .boolean) :: ws) ({ frames := 0, cells := 0, slots := 0, locals := 0 } : Room)) (fun a U => a = #[(.int x0)] ∧ Z.Warmed39 U.vm ∧ U.heap = h0) (fun _ _ _ _ _ => True) (fun _ U oc U' => ∃ v L, oc = .returned v ∧ Q2 Z x0  h0 n0 v U'.heap L ∧ FrameEnd U oc U' L ({ frames := 0, cells := 0, slots := 0, locals := 0 } : Room).cells ({ frames := 0, cells := 0, slots := 0, locals := 0 } : Room).slots) := by
  refine MetFree.of_bodySF (plainFor_of_name own_pn2) hisR ?_
  intro p e s m args below meth c s₁ Bd hml0 hP hK
  obtain ⟨rfl, hZ, hh⟩ := hP
  have hx := Bd.exec
  have hby := Bd.bytes
  have hlk : meth.locks = false := BodyLoose.notSynchronized Bd
  have hml : c.maxLocals = 1 := hml0
  have hown : s.vm.findClass "java/lang/StringLatin1" = some m.cls := findClass_of_methodNamed Bd.named
  have hnm := (name_of_methodNamed Bd.named Bd.method).1
  have X0 : Stand p l e ({ frames := 0, cells := 0, slots := 0, locals := 0 } : Room) s m #[(.int x0)] below meth c s₁ [] 0 0 := Stand.of_body Bd
  have e0 : s₁.heap = h0 := by rw [← hh, Bd.state]; rfl
  have N0 := Fr.nil n0
  refine own_enter (own_ef2 m x0) ?_
  show own_Go p e below s (Q2 Z x0  h0 n0) ({ frames := 0, cells := 0, slots := 0, locals := 0 } : Room).cells ({ frames := 0, cells := 0, slots := 0, locals := 0 } : Room).slots s₁ (mkF m 0 #[.val (.int x0)] [])
  refine own_st (T' := s₁) (F' := (mkF m 1 #[.val (.int x0)] [(.int x0)])) (fun _ k => XS.iloadN X0.here hx rfl (hb hby d2_0) rfl  k) ?_
  refine own_st (T' := s₁) (F' := (mkF m 4 #[.val (.int x0)] [(.int (255 : Int32)), (.int x0)])) (fun _ k => XS.sipush X0.here hx rfl (hb hby d2_1) k) ?_
  have J12_1 : ∀ (j12_1 : Int32), ((((255 : Int32) < x0) ∧ j12_1 = (0 : Int32)) ∨ ((¬ ((255 : Int32) < x0)) ∧ j12_1 = (1 : Int32))) → own_Go p e below s (Q2 Z x0  h0 n0) ({ frames := 0, cells := 0, slots := 0, locals := 0 } : Room).cells ({ frames := 0, cells := 0, slots := 0, locals := 0 } : Room).slots s₁ (mkF m 12 #[.val (.int x0)] [(.int j12_1)]) := by
    intro j12_1 hJ12_1
    refine own_retN X0 hx hlk (t := .boolean) Bd.returns (by simp) (hb hby d2_12) ?_ (by decide) (by decide)
    rw [e0]
    refine ⟨⟨_, rfl, ?_⟩, N0, rfl⟩
    rcases hJ12_1 with ⟨h, rfl⟩ | ⟨h, rfl⟩
    · exact absurd h hc
    · rfl
  refine own_icmp X0 hx (pc' := 11) (pc2 := 7) (hb hby d2_4) (by decide) (by decide) rfl (fun (hc4 : (255 : Int32) < x0) => ?_) (fun (hc4 : ¬ ((255 : Int32) < x0)) => ?_)
  ·
    refine own_st (T' := s₁) (F' := (mkF m 12 #[.val (.int x0)] [(.int (0 : Int32))])) (fun _ k => XS.iconst X0.here hx rfl (hb hby d2_11) k) ?_
    exact J12_1 (0 : Int32) (Or.inl (⟨hc4, rfl⟩))
  ·
    refine own_st (T' := s₁) (F' := (mkF m 8 #[.val (.int x0)] [(.int (1 : Int32))])) (fun _ k => XS.iconst X0.here hx rfl (hb hby d2_7) k) ?_
    refine own_st (T' := s₁) (F' := (mkF m 12 #[.val (.int x0)] [(.int (1 : Int32))])) (fun _ k => XS.goto X0.here hx rfl (pc0 := 8) (pc' := 12) rfl (hb hby d2_8) (by decide) (by decide) k) ?_
    exact J12_1 (1 : Int32) (Or.inr (⟨hc4, rfl⟩))
theorem d3_0 : decode jdk_43_method_46_code 0 = .ok (.iconst 1, 1) := by decide +kernel
theorem d3_1 : decode jdk_43_method_46_code 1 = .ok (.newarray .byte, 2) := by decide +kernel
theorem d3_3 : decode jdk_43_method_46_code 3 = .ok (.dup, 1) := by decide +kernel
theorem d3_4 : decode jdk_43_method_46_code 4 = .ok (.iconst 0, 1) := by decide +kernel
theorem d3_5 : decode jdk_43_method_46_code 5 = .ok (.iload_n 0, 1) := by decide +kernel
theorem d3_6 : decode jdk_43_method_46_code 6 = .ok (.i2b, 1) := by decide +kernel
theorem d3_7 : decode jdk_43_method_46_code 7 = .ok (.bastore, 1) := by decide +kernel
theorem d3_8 : decode jdk_43_method_46_code 8 = .ok (.areturn, 1) := by decide +kernel
theorem own_pn3 : plainName "java/lang/StringLatin1" = true := by first | (simp [plainName, overriddenIn]; done) | decide +kernel
theorem own_ef3 (m : MethodId) (x0 : Int32) : entryFrame m #[(.int x0)] 1 = (mkF m 0 #[.val (.int x0)] []) := by first | (simp [entryFrame, mkF, argsToLocals, Value.category]; done) | rfl
def Q3 (Z : State) (x0 : Int32)  (h0 : Heap) (n0 : Nat) (v : Option Value) (h : Heap) (L : List Loc) : Prop := (∃ z : Addr, v = some (.ref z) ∧ (h0.size ≤ z)) ∧ Fr n0 L ∧ Keep h0 h []
set_option maxRecDepth 65536 in
set_option maxHeartbeats 40000000 in
theorem rm3 (l : Launch) (Z : State) (a0 : Array Value) (hw : ∀ d ∈ tables_1, d.before a0 Z = true) (ws : List Jvm.Cond) (x0 : Int32)  (h0 : Heap) (n0 : Nat) (Z0 : n0 ≤ h0.size)  :
    MetFree l (⟨"java/lang/StringLatin1", "toBytes", "(C)[B"⟩ : MethodName) (head1 (Jvm.Cond.code (⟨"java/lang/StringLatin1", "toBytes", "(C)[B"⟩ : MethodName) jdk_43_method_46_code 1 (some (.array .byte)) :: ws) ({ frames := 0, cells := 1, slots := 1, locals := 0 } : Room)) (fun a U => a = #[(.int x0)] ∧ Z.Warmed39 U.vm ∧ U.heap = h0) (fun _ _ _ _ _ => True) (fun _ U oc U' => ∃ v L, oc = .returned v ∧ Q3 Z x0  h0 n0 v U'.heap L ∧ FrameEnd U oc U' L ({ frames := 0, cells := 1, slots := 1, locals := 0 } : Room).cells ({ frames := 0, cells := 1, slots := 1, locals := 0 } : Room).slots) := by
  refine MetFree.of_bodySF (plainFor_of_name own_pn3) hisR ?_
  intro p e s m args below meth c s₁ Bd hml0 hP hK
  obtain ⟨rfl, hZ, hh⟩ := hP
  have hx := Bd.exec
  have hby := Bd.bytes
  have hlk : meth.locks = false := BodyLoose.notSynchronized Bd
  have hml : c.maxLocals = 1 := hml0
  have hown : s.vm.findClass "java/lang/StringLatin1" = some m.cls := findClass_of_methodNamed Bd.named
  have hnm := (name_of_methodNamed Bd.named Bd.method).1
  have X0 : Stand p l e ({ frames := 0, cells := 1, slots := 1, locals := 0 } : Room) s m #[(.int x0)] below meth c s₁ [] 0 0 := Stand.of_body Bd
  have e0 : s₁.heap = h0 := by rw [← hh, Bd.state]; rfl
  have N0 := Fr.nil n0
  refine own_enter (own_ef3 m x0) ?_
  show own_Go p e below s (Q3 Z x0  h0 n0) ({ frames := 0, cells := 1, slots := 1, locals := 0 } : Room).cells ({ frames := 0, cells := 1, slots := 1, locals := 0 } : Room).slots s₁ (mkF m 0 #[.val (.int x0)] [])
  refine own_st (T' := s₁) (F' := (mkF m 1 #[.val (.int x0)] [(.int (1 : Int32))])) (fun _ k => XS.iconst X0.here hx rfl (hb hby d3_0) k) ?_
  obtain ⟨T1, h1, k1, X1, e1, E1, A1, AE1, st1⟩ := newPE X0 hx hZ (hw _ (List.mem_of_getElem? (i := 14) rfl)) e0 (g := (mkF m 1 #[.val (.int x0)] [(.int (1 : Int32))])) rfl (hb hby d3_1) rfl (by decide) (cap := 1) (by decide) (by decide) (by decide) (by decide) (ad := "[B") (by decide)
  obtain ⟨b1, g1⟩ : ∃ z, z = h0.size := ⟨_, rfl⟩
  rw [← g1] at A1 AE1 st1
  have ge1 : n0 ≤ b1 := by rw [g1]; exact Z0
  have hge1 : h0.size ≤ b1 := by rw [g1]; exact (Keep.refl h0 []).1
  have K1 : Keep h0 h1 [] := (Keep.refl h0 []).ext E1
  have Zs1 : n0 ≤ h1.size := Nat.le_trans Z0 K1.1
  have V1 : Arv Z h1 b1 k1 .byte (1 : Int32) [(.int (0 : Int32))] (.int (0 : Int32)) := (Arv.new A1 (by decide)).pad (pad_rep [] (.int (0 : Int32)) 1)
  refine own_st (T' := T1) (F' := (mkF m 3 #[.val (.int x0)] [(.ref b1)])) (fun _ k => st1 _ k) ?_
  refine own_st (T' := T1) (F' := (mkF m 4 #[.val (.int x0)] [(.ref b1), (.ref b1)])) (fun _ k => XS.dup X1.here hx rfl (hb hby d3_3) rfl rfl k) ?_
  refine own_st (T' := T1) (F' := (mkF m 5 #[.val (.int x0)] [(.int (0 : Int32)), (.ref b1), (.ref b1)])) (fun _ k => XS.iconst X1.here hx rfl (hb hby d3_4) k) ?_
  refine own_st (T' := T1) (F' := (mkF m 6 #[.val (.int x0)] [(.int x0), (.int (0 : Int32)), (.ref b1), (.ref b1)])) (fun _ k => XS.iloadN X1.here hx rfl (hb hby d3_5) rfl  k) ?_
  refine own_st (T' := T1) (F' := (mkF m 7 #[.val (.int x0)] [(.int (x0.toInt8.toInt32)), (.int (0 : Int32)), (.ref b1), (.ref b1)])) (fun _ k => XS.i2b X1.here hx rfl (hb hby d3_6) rfl k) ?_
  obtain ⟨cl2, Ar2, Aq2, As2, Am2, Ah2, Au2⟩ := id V1
  have hin2 : ¬ ((0 : Int32) < 0 ∨ cl2.slots.size ≤ ((0 : Int32)).toNatClampNeg) := inb_of As2 ⟨by decide, by decide⟩
  obtain ⟨T2, h2, X2, e2, W2, st2⟩ := stB X1 hx hZ e1 Ar2 (j := (0 : Int32)) hin2 (g := (mkF m 7 #[.val (.int x0)] [(.int (x0.toInt8.toInt32)), (.int (0 : Int32)), (.ref b1), (.ref b1)])) rfl rfl (hb hby d3_7)
  have V2 : Arv Z h2 b1 k1 .byte (1 : Int32) [(.int ((x0.toInt8.toInt32).toInt8.toInt32))] (.int (0 : Int32)) := Arv.set Ar2 Aq2 As2 Am2 Ah2 Au2 (fits_nar_byte _) W2 0 rfl (show 0 < 1 by decide)
  have N2 := Fr.snoc X2 N0 ge1
  have f3 : Exa Z h2 b1 "[B" := AE1.wr W2
  have K2 : Keep h0 h2 [] := K1.wr W2 (Or.inr hge1)
  have Zs2 : n0 ≤ h2.size := Nat.le_trans Z0 K2.1
  refine own_st (T' := T2) (F' := (mkF m 8 #[.val (.int x0)] [(.ref b1)])) (fun _ k => st2 _ k) ?_
  refine own_retA X2 hx hlk (t := (.array .byte)) Bd.returns rfl rfl rfl (hb hby d3_8) ?_ (by decide) (by decide)
  rw [e2]
  refine ⟨⟨_, rfl, ?_⟩, N2, K2⟩
  exact hge1
theorem d4_0 : decode jdk_42_method_151_code 0 = .ok (.aload_n 0, 1) := by decide +kernel
theorem d4_1 : decode jdk_42_method_151_code 1 = .ok (.invokespecial 1, 3) := by decide +kernel
theorem d4_4 : decode jdk_42_method_151_code 4 = .ok (.aload_n 0, 1) := by decide +kernel
theorem d4_5 : decode jdk_42_method_151_code 5 = .ok (.aload_n 1, 1) := by decide +kernel
theorem d4_6 : decode jdk_42_method_151_code 6 = .ok (.putfield 9, 3) := by decide +kernel
theorem d4_9 : decode jdk_42_method_151_code 9 = .ok (.aload_n 0, 1) := by decide +kernel
theorem d4_10 : decode jdk_42_method_151_code 10 = .ok (.iload_n 2, 1) := by decide +kernel
theorem d4_11 : decode jdk_42_method_151_code 11 = .ok (.putfield 15, 3) := by decide +kernel
theorem d4_14 : decode jdk_42_method_151_code 14 = .ok (.return_, 1) := by decide +kernel
theorem own_pn4 : plainName "java/lang/String" = true := by first | (simp [plainName, overriddenIn]; done) | decide +kernel
theorem own_ef4 (m : MethodId) (o : Addr) (x0 : Addr) (x1 : Int32) : entryFrame m #[(.ref o), (.ref x0), (.int x1)] 3 = (mkF m 0 #[.val (.ref o), .val (.ref x0), .val (.int x1)] []) := by first | (simp [entryFrame, mkF, argsToLocals, Value.category]; done) | rfl
def Q4 (Z : State) (o : Addr) (x0 : Addr) (x1 : Int32) (u0 : Value) (u1 : Value) (h0 : Heap) (n0 : Nat) (v : Option Value) (h : Heap) (L : List Loc) : Prop := v = none ∧ Fr n0 L ∧ Keep h0 h [o] ∧ Exa Z h o "java/lang/String"
set_option maxRecDepth 65536 in
set_option maxHeartbeats 40000000 in
theorem rm4 (l : Launch) (Z : State) (a0 : Array Value) (hw : ∀ d ∈ tables_1, d.before a0 Z = true) (ws : List Jvm.Cond) (o : Addr) (x0 : Addr) (x1 : Int32) (u0 : Value) (u1 : Value) (h0 : Heap) (n0 : Nat) (Z0 : n0 ≤ h0.size) (hge : n0 ≤ o) (hE : Exa Z h0 o "java/lang/String") (hF0 : Fld Z h0 o "java/lang/String" "value" "[B" u0) (hF1 : Fld Z h0 o "java/lang/String" "coder" "B" u1) :
    MetFree l (⟨"java/lang/String", "<init>", "([BB)V"⟩ : MethodName) (head1 (Jvm.Cond.code (⟨"java/lang/String", "<init>", "([BB)V"⟩ : MethodName) jdk_42_method_151_code 3 none :: ws) ({ frames := 1, cells := 0, slots := 0, locals := 12 } : Room)) (fun a U => a = #[(.ref o), (.ref x0), (.int x1)] ∧ Z.Warmed39 U.vm ∧ U.heap = h0) (fun _ _ _ _ _ => True) (fun _ U oc U' => ∃ v L, oc = .returned v ∧ Q4 Z o x0 x1 u0 u1 h0 n0 v U'.heap L ∧ FrameEnd U oc U' L ({ frames := 1, cells := 0, slots := 0, locals := 12 } : Room).cells ({ frames := 1, cells := 0, slots := 0, locals := 12 } : Room).slots) := by
  refine MetFree.of_bodySF (plainFor_of_name own_pn4) hisR ?_
  intro p e s m args below meth c s₁ Bd hml0 hP hK
  obtain ⟨rfl, hZ, hh⟩ := hP
  have hx := Bd.exec
  have hby := Bd.bytes
  have hlk : meth.locks = false := BodyLoose.notSynchronized Bd
  have hml : c.maxLocals = 3 := hml0
  have hown : s.vm.findClass "java/lang/String" = some m.cls := findClass_of_methodNamed Bd.named
  have hnm := (name_of_methodNamed Bd.named Bd.method).1
  have X0 : Stand p l e ({ frames := 1, cells := 0, slots := 0, locals := 12 } : Room) s m #[(.ref o), (.ref x0), (.int x1)] below meth c s₁ [] 0 0 := Stand.of_body Bd
  have e0 : s₁.heap = h0 := by rw [← hh, Bd.state]; rfl
  have N0 := Fr.nil n0
  refine own_enter (own_ef4 m o x0 x1) ?_
  show own_Go p e below s (Q4 Z o x0 x1 u0 u1 h0 n0) ({ frames := 1, cells := 0, slots := 0, locals := 12 } : Room).cells ({ frames := 1, cells := 0, slots := 0, locals := 12 } : Room).slots s₁ (mkF m 0 #[.val (.ref o), .val (.ref x0), .val (.int x1)] [])
  refine own_st (T' := s₁) (F' := (mkF m 1 #[.val (.ref o), .val (.ref x0), .val (.int x1)] [(.ref o)])) (fun _ k => XS.aloadN X0.here hx rfl (hb hby d4_0) rfl rfl k) ?_
  obtain ⟨T1, X1, e1, st1⟩ := initO X0 hx hZ hown (hw _ (List.mem_of_getElem? (i := 19) rfl)) (hw _ (List.mem_of_getElem? (i := 20) rfl)) (hw _ (List.mem_of_getElem? (i := 21) rfl)) e0 (g := (mkF m 1 #[.val (.ref o), .val (.ref x0), .val (.int x1)] [(.ref o)])) rfl (by rw [hml]; rfl) rfl (hb hby d4_1) (by decide) (W := 0) (by show 2 * 0 + _ ≤ _; exact Nat.le_of_eq rfl) (by decide)
  refine own_st (T' := T1) (F' := (mkF m 4 #[.val (.ref o), .val (.ref x0), .val (.int x1)] [])) (fun _ k => st1 _ k) ?_
  refine own_st (T' := T1) (F' := (mkF m 5 #[.val (.ref o), .val (.ref x0), .val (.int x1)] [(.ref o)])) (fun _ k => XS.aloadN X1.here hx rfl (hb hby d4_4) rfl rfl k) ?_
  refine own_st (T' := T1) (F' := (mkF m 6 #[.val (.ref o), .val (.ref x0), .val (.int x1)] [(.ref x0), (.ref o)])) (fun _ k => XS.aloadN X1.here hx rfl (hb hby d4_5) rfl rfl k) ?_
  obtain ⟨T2, h2, X2, e2, W2, st2⟩ := putF X1 hx hZ hown (host := "") (Or.inl (hw _ (List.mem_of_getElem? (i := 22) rfl))) Via.refl e1 hF0 hE (Or.inr ⟨(hw _ (List.mem_of_getElem? (i := 23) rfl)), rfl, hnm⟩) (hw _ (List.mem_of_getElem? (i := 10) rfl)) (ty := (.array .byte)) (by decide) rfl rfl (g := (mkF m 6 #[.val (.ref o), .val (.ref x0), .val (.int x1)] [(.ref x0), (.ref o)])) rfl rfl (hb hby d4_6)
  have N2 := Fr.snoc X2 N0 hge
  have f3 : Exa Z h2 o "java/lang/String" := hE.wr W2
  have f4 : Fld Z h2 o "java/lang/String" "value" "[B" (.ref x0) := hF0.same W2
  have f5 : Fld Z h2 o "java/lang/String" "coder" "B" u1 := hF1.other W2 (Or.inr (slot_ne (Or.inr (hw _ (List.mem_of_getElem? (i := 25) rfl))) (Or.inr (hw _ (List.mem_of_getElem? (i := 23) rfl))) (by decide) (t := .byte) (t' := (.array .byte)) (by decide) (by decide)))
  have K2 : Keep h0 h2 [o] := (Keep.refl h0 [o]).wr W2 (Or.inl (List.mem_of_getElem? (i := 0) rfl))
  have Zs2 : n0 ≤ h2.size := Nat.le_trans Z0 K2.1
  refine own_st (T' := T2) (F' := (mkF m 9 #[.val (.ref o), .val (.ref x0), .val (.int x1)] [])) (fun _ k => st2 _ k) ?_
  refine own_st (T' := T2) (F' := (mkF m 10 #[.val (.ref o), .val (.ref x0), .val (.int x1)] [(.ref o)])) (fun _ k => XS.aloadN X2.here hx rfl (hb hby d4_9) rfl rfl k) ?_
  refine own_st (T' := T2) (F' := (mkF m 11 #[.val (.ref o), .val (.ref x0), .val (.int x1)] [(.int x1), (.ref o)])) (fun _ k => XS.iloadN X2.here hx rfl (hb hby d4_10) rfl  k) ?_
  obtain ⟨T6, h6, X6, e6, W6, st6⟩ := putFN X2 hx hZ hown (hw _ (List.mem_of_getElem? (i := 24) rfl)) Via.refl e2 f5 f3 (Or.inr ⟨(hw _ (List.mem_of_getElem? (i := 25) rfl)), rfl, hnm⟩) (hw _ (List.mem_of_getElem? (i := 10) rfl)) (ty := .byte) (v' := (.int (nar .byte x1))) (by decide) rfl (fits_nar_byte _) (g := (mkF m 11 #[.val (.ref o), .val (.ref x0), .val (.int x1)] [(.int x1), (.ref o)])) rfl rfl (hb hby d4_11)
  have N6 := Fr.snoc X6 N2 hge
  have f7 : Exa Z h6 o "java/lang/String" := f3.wr W6
  have f8 : Fld Z h6 o "java/lang/String" "value" "[B" (.ref x0) := f4.other W6 (Or.inr (slot_ne (Or.inr (hw _ (List.mem_of_getElem? (i := 23) rfl))) (Or.inr (hw _ (List.mem_of_getElem? (i := 25) rfl))) (by decide) (t := (.array .byte)) (t' := .byte) (by decide) (by decide)))
  have f9 : Fld Z h6 o "java/lang/String" "coder" "B" (.int (nar .byte x1)) := f5.same W6
  have K6 : Keep h0 h6 [o] := K2.wr W6 (Or.inl (List.mem_of_getElem? (i := 0) rfl))
  have Zs6 : n0 ≤ h6.size := Nat.le_trans Z0 K6.1
  refine own_st (T' := T6) (F' := (mkF m 14 #[.val (.ref o), .val (.ref x0), .val (.int x1)] [])) (fun _ k => st6 _ k) ?_
  refine own_retV X6 hx hlk Bd.returns (hb hby d4_14) ?_ (by decide) (by decide)
  rw [e6]
  refine ⟨rfl, N6, K6, f7⟩
theorem own_pd0 : parseMethodDescriptor "(C)Z" = some ⟨[.char], some .boolean⟩ := by decide +kernel
theorem own_pd1 : parseMethodDescriptor "(C)[B" = some ⟨[.char], some (.array .byte)⟩ := by decide +kernel
theorem own_pd2 : parseMethodDescriptor "([BB)V" = some ⟨[(.array .byte), .byte], none⟩ := by decide +kernel
theorem d1_0 : decode jdk_42_method_139_code 0 = .ok (.getstatic 38, 3) := by decide +kernel
theorem d1_3 : decode jdk_42_method_139_code 3 = .ok (.ifCond .eq 23, 3) := by decide +kernel
theorem d1_6 : decode jdk_42_method_139_code 6 = .ok (.iload_n 0, 1) := by decide +kernel
theorem d1_7 : decode jdk_42_method_139_code 7 = .ok (.invokestatic 1015, 3) := by decide +kernel
theorem d1_10 : decode jdk_42_method_139_code 10 = .ok (.ifCond .eq 16, 3) := by decide +kernel
theorem d1_13 : decode jdk_42_method_139_code 13 = .ok (.new 10, 3) := by decide +kernel
theorem d1_16 : decode jdk_42_method_139_code 16 = .ok (.dup, 1) := by decide +kernel
theorem d1_17 : decode jdk_42_method_139_code 17 = .ok (.iload_n 0, 1) := by decide +kernel
theorem d1_18 : decode jdk_42_method_139_code 18 = .ok (.invokestatic 1018, 3) := by decide +kernel
theorem d1_21 : decode jdk_42_method_139_code 21 = .ok (.iconst 0, 1) := by decide +kernel
theorem d1_22 : decode jdk_42_method_139_code 22 = .ok (.invokespecial 209, 3) := by decide +kernel
theorem d1_25 : decode jdk_42_method_139_code 25 = .ok (.areturn, 1) := by decide +kernel
theorem own_pn1 : plainName "java/lang/String" = true := by first | (simp [plainName, overriddenIn]; done) | decide +kernel
theorem own_ef1 (m : MethodId) (x0 : Int32) : entryFrame m #[(.int x0)] 1 = (mkF m 0 #[.val (.int x0)] []) := by first | (simp [entryFrame, mkF, argsToLocals, Value.category]; done) | rfl
def Q1 (Z : State) (x0 : Int32) (cs : Int32) (h0 : Heap) (n0 : Nat) (v : Option Value) (h : Heap) (L : List Loc) : Prop := (∃ z : Addr, v = some (.ref z) ∧ ((h0.size ≤ z ∧ Exa Z h z "java/lang/String"))) ∧ Fr n0 L ∧ Keep h0 h []
set_option maxRecDepth 65536 in
set_option maxHeartbeats 40000000 in
theorem rm1 (l : Launch) (Z : State) (a0 : Array Value) (hw : ∀ d ∈ tables_1, d.before a0 Z = true) (ws : List Jvm.Cond) (x0 : Int32) (cs : Int32) (h0 : Heap) (n0 : Nat) (Z0 : n0 ≤ h0.size) (S_cs : Sta Z h0 "java/lang/String" "COMPACT_STRINGS" "Z" (.int cs)) (hcs : ¬ (cs = 0)) (hc : ¬ ((255 : Int32) < x0)) :
    MetFree l (⟨"java/lang/String", "valueOf", "(C)Ljava/lang/String;"⟩ : MethodName) (head1 (Jvm.Cond.code (⟨"java/lang/String", "valueOf", "(C)Ljava/lang/String;"⟩ : MethodName) jdk_42_method_139_code 1 (some (.object "java/lang/String")) :: ws) ({ frames := 2, cells := 2, slots := 5, locals := 27 } : Room)) (fun a U => a = #[(.int x0)] ∧ Z.Warmed39 U.vm ∧ U.heap = h0) (fun _ _ _ _ _ => True) (fun _ U oc U' => ∃ v L, oc = .returned v ∧ Q1 Z x0 cs h0 n0 v U'.heap L ∧ FrameEnd U oc U' L ({ frames := 2, cells := 2, slots := 5, locals := 27 } : Room).cells ({ frames := 2, cells := 2, slots := 5, locals := 27 } : Room).slots) := by
  refine MetFree.of_bodySF (plainFor_of_name own_pn1) hisR ?_
  intro p e s m args below meth c s₁ Bd hml0 hP hK
  obtain ⟨rfl, hZ, hh⟩ := hP
  have hx := Bd.exec
  have hby := Bd.bytes
  have hlk : meth.locks = false := BodyLoose.notSynchronized Bd
  have hml : c.maxLocals = 1 := hml0
  have hown : s.vm.findClass "java/lang/String" = some m.cls := findClass_of_methodNamed Bd.named
  have hnm := (name_of_methodNamed Bd.named Bd.method).1
  have X0 : Stand p l e ({ frames := 2, cells := 2, slots := 5, locals := 27 } : Room) s m #[(.int x0)] below meth c s₁ [] 0 0 := Stand.of_body Bd
  have e0 : s₁.heap = h0 := by rw [← hh, Bd.state]; rfl
  have N0 := Fr.nil n0
  refine own_enter (own_ef1 m x0) ?_
  show own_Go p e below s (Q1 Z x0 cs h0 n0) ({ frames := 2, cells := 2, slots := 5, locals := 27 } : Room).cells ({ frames := 2, cells := 2, slots := 5, locals := 27 } : Room).slots s₁ (mkF m 0 #[.val (.int x0)] [])
  obtain ⟨T1, X1, e1, st1⟩ := getS2 X0 hx hZ hown (host := "") (Or.inl (hw _ (List.mem_of_getElem? (i := 4) rfl))) Via.refl e0 S_cs (g := (mkF m 0 #[.val (.int x0)] [])) rfl (hb hby d1_0)
  refine own_st (T' := T1) (F' := (mkF m 3 #[.val (.int x0)] [(.int cs)])) (fun _ k => st1 _ k) ?_
  refine own_ifc X1 hx (pc' := 26) (pc2 := 6) (hb hby d1_3) (by decide) (by decide) rfl (fun (hc3 : cs = (0 : Int32)) => ?_) (fun (hc3 : ¬ (cs = (0 : Int32))) => ?_)
  ·
    exact absurd hc3 hcs
  ·
    refine own_st (T' := T1) (F' := (mkF m 7 #[.val (.int x0)] [(.int x0)])) (fun _ k => XS.iloadN X1.here hx rfl (hb hby d1_6) rfl  k) ?_
    obtain ⟨_, _, ⟨T2, L2, k2, n2⟩, -, X2, ⟨Lc2, hQ2, l2, y2, z2⟩, st2⟩ := Jvm.LawKit.callS X1 hx (y := (⟨"java/lang/StringLatin1", "canEncode", "(C)Z"⟩ : MethodName)) hown (mvT hZ (hw _ (List.mem_of_getElem? (i := 5) rfl))) (mvT hZ (hw _ (List.mem_of_getElem? (i := 6) rfl))) (mvT hZ (hw _ (List.mem_of_getElem? (i := 7) rfl))) (mvT hZ (hw _ (List.mem_of_getElem? (i := 8) rfl))) (by decide) (backOf (W := 0) (rm2 l Z a0 hw [] x0  h0 n0 Z0 hc) hZ (hw _ (List.mem_of_getElem? (i := 8) rfl)) (hw _ (List.mem_of_getElem? (i := 7) rfl)) (by decide) (by decide)) (g := (mkF m 7 #[.val (.int x0)] [(.int x0)])) rfl (by rw [hml]; rfl) (argsL := [(.int x0)]) (rest := []) (lenOf own_pd0 rfl) rfl (by show 2 * 0 + _ ≤ _; exact Nat.le_of_eq rfl) (hb hby d1_7) (fun _ _ => ⟨rfl, e1, (by decide : 0 + 0 ≤ _), (by decide : 0 + 0 ≤ _)⟩)
    dsimp only [Pt.U, Pt.locs, Pt.cells, Pt.slots] at X2 l2 y2 z2 st2 hQ2
    subst l2 y2 z2
    obtain ⟨⟨r2, rfl, hr2⟩, Nq2, eq2⟩ := hQ2
    have N2 := Fr.app N0 Nq2
    refine own_st (T' := T2) (F' := (mkF m 10 #[.val (.int x0)] [(.int r2)])) (fun _ k => st2 _ k) ?_
    refine own_ifc X2 hx (pc' := 26) (pc2 := 13) (hb hby d1_10) (by decide) (by decide) rfl (fun (hc10 : r2 = (0 : Int32)) => ?_) (fun (hc10 : ¬ (r2 = (0 : Int32))) => ?_)
    ·
      exact absurd (hr2.symm.trans hc10) (by decide)
    ·
      obtain ⟨T3, h3, X3, e3, E3, A3, D3, -, st3⟩ := newO X2 hx hZ hown (hw _ (List.mem_of_getElem? (i := 9) rfl)) (hw _ (List.mem_of_getElem? (i := 10) rfl)) (hw _ (List.mem_of_getElem? (i := 2) rfl)) eq2 (g := (mkF m 13 #[.val (.int x0)] [])) rfl (hb hby d1_13) (by decide) (by decide)
      obtain ⟨b3, g3⟩ : ∃ z, z = h0.size := ⟨_, rfl⟩
      rw [← g3] at A3 D3 st3
      have ge3 : n0 ≤ b3 := by rw [g3]; exact Z0
      have hge3 : h0.size ≤ b3 := by rw [g3]; exact (Keep.refl h0 []).1
      have f4 : Sta Z h3 "java/lang/String" "COMPACT_STRINGS" "Z" (.int cs) := S_cs.ext E3
      have K3 : Keep h0 h3 [] := (Keep.refl h0 []).ext E3
      have Zs3 : n0 ≤ h3.size := Nat.le_trans Z0 K3.1
      have f5 : Fld Z h3 b3 "java/lang/String" "value" "[B" .null := D3 (Or.inr (hw _ (List.mem_of_getElem? (i := 23) rfl))) (ty := (.array .byte)) (by decide)
      have f6 : Fld Z h3 b3 "java/lang/String" "coder" "B" (.int (0 : Int32)) := D3 (Or.inr (hw _ (List.mem_of_getElem? (i := 25) rfl))) (ty := .byte) (by decide)
      refine own_st (T' := T3) (F' := (mkF m 16 #[.val (.int x0)] [(.ref b3)])) (fun _ k => st3 _ k) ?_
      refine own_st (T' := T3) (F' := (mkF m 17 #[.val (.int x0)] [(.ref b3), (.ref b3)])) (fun _ k => XS.dup X3.here hx rfl (hb hby d1_16) rfl rfl k) ?_
      refine own_st (T' := T3) (F' := (mkF m 18 #[.val (.int x0)] [(.int x0), (.ref b3), (.ref b3)])) (fun _ k => XS.iloadN X3.here hx rfl (hb hby d1_17) rfl  k) ?_
      obtain ⟨_, _, ⟨T7, L7, k7, n7⟩, -, X7, ⟨Lc7, hQ7, l7, y7, z7⟩, st7⟩ := Jvm.LawKit.callS X3 hx (y := (⟨"java/lang/StringLatin1", "toBytes", "(C)[B"⟩ : MethodName)) hown (mvT hZ (hw _ (List.mem_of_getElem? (i := 11) rfl))) (mvT hZ (hw _ (List.mem_of_getElem? (i := 12) rfl))) (mvT hZ (hw _ (List.mem_of_getElem? (i := 7) rfl))) (mvT hZ (hw _ (List.mem_of_getElem? (i := 13) rfl))) (by decide) (backOf (W := 2) (rm3 l Z a0 hw [] x0  h3 n0 Zs3 ) hZ (hw _ (List.mem_of_getElem? (i := 13) rfl)) (hw _ (List.mem_of_getElem? (i := 7) rfl)) (by decide) (by decide)) (g := (mkF m 18 #[.val (.int x0)] [(.int x0), (.ref b3), (.ref b3)])) rfl (by rw [hml]; rfl) (argsL := [(.int x0)]) (rest := [(.ref b3), (.ref b3)]) (lenOf own_pd1 rfl) rfl (by show 2 * 0 + _ ≤ _; exact Nat.le_of_eq rfl) (hb hby d1_18) (fun _ _ => ⟨rfl, e3, (by decide : 1 + 1 ≤ _), (by decide : 4 + 1 ≤ _)⟩)
      dsimp only [Pt.U, Pt.locs, Pt.cells, Pt.slots] at X7 l7 y7 z7 st7 hQ7
      subst l7 y7 z7
      obtain ⟨⟨r7, rfl, hr7⟩, Nq7, g7_0⟩ := hQ7
      have N7 := Fr.app N2 Nq7
      have f8 : Sta Z T7.heap "java/lang/String" "COMPACT_STRINGS" "Z" (.int cs) := own_stk f4 g7_0 all0
      have f9 : Exa Z T7.heap b3 "java/lang/String" := A3.keep g7_0
      have f10 : Fld Z T7.heap b3 "java/lang/String" "value" "[B" .null := f5.keep g7_0 nin0
      have f11 : Fld Z T7.heap b3 "java/lang/String" "coder" "B" (.int (0 : Int32)) := f6.keep g7_0 nin0
      have K7 : Keep h0 T7.heap [] := K3.trans g7_0 all0
      have Zs7 : n0 ≤ T7.heap.size := Nat.le_trans Z0 K7.1
      refine own_st (T' := T7) (F' := (mkF m 21 #[.val (.int x0)] [(.ref r7), (.ref b3), (.ref b3)])) (fun _ k => st7 _ k) ?_
      refine own_st (T' := T7) (F' := (mkF m 22 #[.val (.int x0)] [(.int (0 : Int32)), (.ref r7), (.ref b3), (.ref b3)])) (fun _ k => XS.iconst X7.here hx rfl (hb hby d1_21) k) ?_
      obtain ⟨_, _, ⟨T12, L12, k12, n12⟩, -, X12, ⟨Lc12, hQ12, l12, y12, z12⟩, st12⟩ := X7.specialBack hx (y := (⟨"java/lang/String", "<init>", "([BB)V"⟩ : MethodName)) rfl hown (mvT hZ (hw _ (List.mem_of_getElem? (i := 15) rfl))) (mvT hZ (hw _ (List.mem_of_getElem? (i := 16) rfl))) (mvT hZ (hw _ (List.mem_of_getElem? (i := 18) rfl))) (by decide) (backOf (W := 1) (rm4 l Z a0 hw [] b3 r7 (0 : Int32) (.null) (.int (0 : Int32)) T7.heap n0 Zs7 ge3 f9 f10 f11) hZ (hw _ (List.mem_of_getElem? (i := 18) rfl)) (hw _ (List.mem_of_getElem? (i := 2) rfl)) (by decide) (by decide)) (g := (mkF m 22 #[.val (.int x0)] [(.int (0 : Int32)), (.ref r7), (.ref b3), (.ref b3)])) rfl (by rw [hml]; rfl) (Steps.refl _) (a := b3) (argsL := [(.ref r7), (.int (0 : Int32))]) (rest := [(.ref b3)]) (lenOf own_pd2 rfl) rfl (by show 2 * 0 + _ ≤ _; exact Nat.le_of_eq rfl) (hb hby d1_22) (fun _ _ => ⟨rfl, rfl, (by decide : 2 + 0 ≤ _), (by decide : 5 + 0 ≤ _)⟩)
      dsimp only [Pt.U, Pt.locs, Pt.cells, Pt.slots] at X12 l12 y12 z12 st12 hQ12
      subst l12 y12 z12
      obtain ⟨rfl, Nq12, g12_0, g12_1⟩ := hQ12
      have N12 := Fr.app N7 Nq12
      have f13 : Sta Z T12.heap "java/lang/String" "COMPACT_STRINGS" "Z" (.int cs) := own_stk f8 g12_0 (allS (own_npE f9) all0)
      have K12 : Keep h0 T12.heap [] := K7.trans g12_0 (allS (Or.inr hge3) all0)
      have Zs12 : n0 ≤ T12.heap.size := Nat.le_trans Z0 K12.1
      refine own_tr (T' := T12) (F' := (mkF m 25 #[.val (.int x0)] [(.ref b3)])) st12 ?_
      refine own_retA X12 hx hlk (t := (.object "java/lang/String")) Bd.returns rfl rfl rfl (hb hby d1_25) ?_ (by decide) (by decide)
      show Q1 Z x0 cs h0 n0 _ T12.heap _
      refine ⟨⟨_, rfl, ?_⟩, N12, K12⟩
      exact ⟨hge3, g12_1⟩
theorem d7_0 : decode jdk_30_method_1_code 0 = .ok (.aload_n 0, 1) := by decide +kernel
theorem d7_1 : decode jdk_30_method_1_code 1 = .ok (.invokespecial 1, 3) := by decide +kernel
theorem d7_4 : decode jdk_30_method_1_code 4 = .ok (.return_, 1) := by decide +kernel
theorem own_pn7 : plainName "java/lang/Record" = true := by first | (simp [plainName, overriddenIn]; done) | decide +kernel
theorem own_ef7 (m : MethodId) (o : Addr) : entryFrame m #[(.ref o)] 1 = (mkF m 0 #[.val (.ref o)] []) := by first | (simp [entryFrame, mkF, argsToLocals, Value.category]; done) | rfl
def Q7 (Z : State) (o : Addr)  (h0 : Heap) (n0 : Nat) (v : Option Value) (h : Heap) (L : List Loc) : Prop := v = none ∧ Fr n0 L ∧ h = h0
set_option maxRecDepth 65536 in
set_option maxHeartbeats 40000000 in
theorem rm7 (l : Launch) (Z : State) (a0 : Array Value) (hw : ∀ d ∈ tables_1, d.before a0 Z = true) (ws : List Jvm.Cond) (o : Addr)  (h0 : Heap) (n0 : Nat) (Z0 : n0 ≤ h0.size)  :
    MetFree l (⟨"java/lang/Record", "<init>", "()V"⟩ : MethodName) (head1 (Jvm.Cond.code (⟨"java/lang/Record", "<init>", "()V"⟩ : MethodName) jdk_30_method_1_code 1 none :: ws) ({ frames := 1, cells := 0, slots := 0, locals := 12 } : Room)) (fun a U => a = #[(.ref o)] ∧ Z.Warmed39 U.vm ∧ U.heap = h0) (fun _ _ _ _ _ => True) (fun _ U oc U' => ∃ v L, oc = .returned v ∧ Q7 Z o  h0 n0 v U'.heap L ∧ FrameEnd U oc U' L ({ frames := 1, cells := 0, slots := 0, locals := 12 } : Room).cells ({ frames := 1, cells := 0, slots := 0, locals := 12 } : Room).slots) := by
  refine MetFree.of_bodySF (plainFor_of_name own_pn7) hisR ?_
  intro p e s m args below meth c s₁ Bd hml0 hP hK
  obtain ⟨rfl, hZ, hh⟩ := hP
  have hx := Bd.exec
  have hby := Bd.bytes
  have hlk : meth.locks = false := BodyLoose.notSynchronized Bd
  have hml : c.maxLocals = 1 := hml0
  have hown : s.vm.findClass "java/lang/Record" = some m.cls := findClass_of_methodNamed Bd.named
  have hnm := (name_of_methodNamed Bd.named Bd.method).1
  have X0 : Stand p l e ({ frames := 1, cells := 0, slots := 0, locals := 12 } : Room) s m #[(.ref o)] below meth c s₁ [] 0 0 := Stand.of_body Bd
  have e0 : s₁.heap = h0 := by rw [← hh, Bd.state]; rfl
  have N0 := Fr.nil n0
  refine own_enter (own_ef7 m o) ?_
  show own_Go p e below s (Q7 Z o  h0 n0) ({ frames := 1, cells := 0, slots := 0, locals := 12 } : Room).cells ({ frames := 1, cells := 0, slots := 0, locals := 12 } : Room).slots s₁ (mkF m 0 #[.val (.ref o)] [])
  refine own_st (T' := s₁) (F' := (mkF m 1 #[.val (.ref o)] [(.ref o)])) (fun _ k => XS.aloadN X0.here hx rfl (hb hby d7_0) rfl rfl k) ?_
  obtain ⟨T1, X1, e1, st1⟩ := initO X0 hx hZ hown (hw _ (List.mem_of_getElem? (i := 37) rfl)) (hw _ (List.mem_of_getElem? (i := 20) rfl)) (hw _ (List.mem_of_getElem? (i := 21) rfl)) e0 (g := (mkF m 1 #[.val (.ref o)] [(.ref o)])) rfl (by rw [hml]; rfl) rfl (hb hby d7_1) (by decide) (W := 0) (by show 2 * 0 + _ ≤ _; exact Nat.le_of_eq rfl) (by decide)
  refine own_st (T' := T1) (F' := (mkF m 4 #[.val (.ref o)] [])) (fun _ k => st1 _ k) ?_
  refine own_retV X1 hx hlk Bd.returns (hb hby d7_4) ?_ (by decide) (by decide)
  rw [e1]
  refine ⟨rfl, N0, rfl⟩
theorem own_pd3 : parseMethodDescriptor "()V" = some ⟨[], none⟩ := by decide +kernel
theorem d6_0 : decode prog_8_method_1_code 0 = .ok (.aload_n 0, 1) := by decide +kernel
theorem d6_1 : decode prog_8_method_1_code 1 = .ok (.invokespecial 1, 3) := by decide +kernel
theorem d6_4 : decode prog_8_method_1_code 4 = .ok (.aload_n 0, 1) := by decide +kernel
theorem d6_5 : decode prog_8_method_1_code 5 = .ok (.iload_n 1, 1) := by decide +kernel
theorem d6_6 : decode prog_8_method_1_code 6 = .ok (.putfield 7, 3) := by decide +kernel
theorem d6_9 : decode prog_8_method_1_code 9 = .ok (.aload_n 0, 1) := by decide +kernel
theorem d6_10 : decode prog_8_method_1_code 10 = .ok (.iload_n 2, 1) := by decide +kernel
theorem d6_11 : decode prog_8_method_1_code 11 = .ok (.putfield 13, 3) := by decide +kernel
theorem d6_14 : decode prog_8_method_1_code 14 = .ok (.aload_n 0, 1) := by decide +kernel
theorem d6_15 : decode prog_8_method_1_code 15 = .ok (.aload_n 3, 1) := by decide +kernel
theorem d6_16 : decode prog_8_method_1_code 16 = .ok (.putfield 17, 3) := by decide +kernel
theorem d6_19 : decode prog_8_method_1_code 19 = .ok (.aload_n 0, 1) := by decide +kernel
theorem d6_20 : decode prog_8_method_1_code 20 = .ok (.iload 4, 2) := by decide +kernel
theorem d6_22 : decode prog_8_method_1_code 22 = .ok (.putfield 21, 3) := by decide +kernel
theorem d6_25 : decode prog_8_method_1_code 25 = .ok (.return_, 1) := by decide +kernel
theorem own_pn6 : plainName "sundrywick/calendar/LocalTimeType" = true := by first | (simp [plainName, overriddenIn]; done) | decide +kernel
theorem own_ef6 (m : MethodId) (o : Addr) (x0 : Int32) (x1 : Int32) (x2 : Addr) (x3 : Int32) : entryFrame m #[(.ref o), (.int x0), (.int x1), (.ref x2), (.int x3)] 5 = (mkF m 0 #[.val (.ref o), .val (.int x0), .val (.int x1), .val (.ref x2), .val (.int x3)] []) := by first | (simp [entryFrame, mkF, argsToLocals, Value.category]; done) | rfl
def Q6 (Z : State) (o : Addr) (x0 : Int32) (x1 : Int32) (x2 : Addr) (x3 : Int32) (u0 : Value) (u1 : Value) (u2 : Value) (u3 : Value) (h0 : Heap) (n0 : Nat) (v : Option Value) (h : Heap) (L : List Loc) : Prop := v = none ∧ Fr n0 L ∧ Keep h0 h [o] ∧ Exa Z h o "sundrywick/calendar/LocalTimeType" ∧ Fld Z h o "sundrywick/calendar/LocalTimeType" "offset" "I" (.int x0) ∧ Fld Z h o "sundrywick/calendar/LocalTimeType" "daylight" "Z" (.int (nar .boolean x1)) ∧ Fld Z h o "sundrywick/calendar/LocalTimeType" "abbreviation" "Ljava/lang/String;" (.ref x2) ∧ Fld Z h o "sundrywick/calendar/LocalTimeType" "standardOffset" "I" (.int x3)
set_option maxRecDepth 65536 in
set_option maxHeartbeats 40000000 in
theorem rm6 (l : Launch) (Z : State) (a0 : Array Value) (hw : ∀ d ∈ tables_1, d.before a0 Z = true) (ws : List Jvm.Cond) (o : Addr) (x0 : Int32) (x1 : Int32) (x2 : Addr) (x3 : Int32) (u0 : Value) (u1 : Value) (u2 : Value) (u3 : Value) (h0 : Heap) (n0 : Nat) (Z0 : n0 ≤ h0.size) (hge : n0 ≤ o) (hE : Exa Z h0 o "sundrywick/calendar/LocalTimeType") (hF0 : Fld Z h0 o "sundrywick/calendar/LocalTimeType" "offset" "I" u0) (hF1 : Fld Z h0 o "sundrywick/calendar/LocalTimeType" "daylight" "Z" u1) (hF2 : Fld Z h0 o "sundrywick/calendar/LocalTimeType" "abbreviation" "Ljava/lang/String;" u2) (hF3 : Fld Z h0 o "sundrywick/calendar/LocalTimeType" "standardOffset" "I" u3) :
    MetFree l (⟨"sundrywick/calendar/LocalTimeType", "<init>", "(IZLjava/lang/String;I)V"⟩ : MethodName) (head1 (Jvm.Cond.code (⟨"sundrywick/calendar/LocalTimeType", "<init>", "(IZLjava/lang/String;I)V"⟩ : MethodName) prog_8_method_1_code 5 none :: ws) ({ frames := 2, cells := 0, slots := 0, locals := 24 } : Room)) (fun a U => a = #[(.ref o), (.int x0), (.int x1), (.ref x2), (.int x3)] ∧ Z.Warmed39 U.vm ∧ U.heap = h0) (fun _ _ _ _ _ => True) (fun _ U oc U' => ∃ v L, oc = .returned v ∧ Q6 Z o x0 x1 x2 x3 u0 u1 u2 u3 h0 n0 v U'.heap L ∧ FrameEnd U oc U' L ({ frames := 2, cells := 0, slots := 0, locals := 24 } : Room).cells ({ frames := 2, cells := 0, slots := 0, locals := 24 } : Room).slots) := by
  refine MetFree.of_bodySF (plainFor_of_name own_pn6) hisR ?_
  intro p e s m args below meth c s₁ Bd hml0 hP hK
  obtain ⟨rfl, hZ, hh⟩ := hP
  have hx := Bd.exec
  have hby := Bd.bytes
  have hlk : meth.locks = false := BodyLoose.notSynchronized Bd
  have hml : c.maxLocals = 5 := hml0
  have hown : s.vm.findClass "sundrywick/calendar/LocalTimeType" = some m.cls := findClass_of_methodNamed Bd.named
  have hnm := (name_of_methodNamed Bd.named Bd.method).1
  have X0 : Stand p l e ({ frames := 2, cells := 0, slots := 0, locals := 24 } : Room) s m #[(.ref o), (.int x0), (.int x1), (.ref x2), (.int x3)] below meth c s₁ [] 0 0 := Stand.of_body Bd
  have e0 : s₁.heap = h0 := by rw [← hh, Bd.state]; rfl
  have N0 := Fr.nil n0
  refine own_enter (own_ef6 m o x0 x1 x2 x3) ?_
  show own_Go p e below s (Q6 Z o x0 x1 x2 x3 u0 u1 u2 u3 h0 n0) ({ frames := 2, cells := 0, slots := 0, locals := 24 } : Room).cells ({ frames := 2, cells := 0, slots := 0, locals := 24 } : Room).slots s₁ (mkF m 0 #[.val (.ref o), .val (.int x0), .val (.int x1), .val (.ref x2), .val (.int x3)] [])
  refine own_st (T' := s₁) (F' := (mkF m 1 #[.val (.ref o), .val (.int x0), .val (.int x1), .val (.ref x2), .val (.int x3)] [(.ref o)])) (fun _ k => XS.aloadN X0.here hx rfl (hb hby d6_0) rfl rfl k) ?_
  obtain ⟨_, _, ⟨T1, L1, k1, n1⟩, -, X1, ⟨Lc1, hQ1, l1, y1, z1⟩, st1⟩ := X0.specialBack hx (y := (⟨"java/lang/Record", "<init>", "()V"⟩ : MethodName)) rfl hown (mvT hZ (hw _ (List.mem_of_getElem? (i := 32) rfl))) (mvT hZ (hw _ (List.mem_of_getElem? (i := 33) rfl))) (mvT hZ (hw _ (List.mem_of_getElem? (i := 36) rfl))) (by decide) (backOf (W := 0) (rm7 l Z a0 hw [] o  h0 n0 Z0 ) hZ (hw _ (List.mem_of_getElem? (i := 36) rfl)) (hw _ (List.mem_of_getElem? (i := 35) rfl)) (by decide) (by decide)) (g := (mkF m 1 #[.val (.ref o), .val (.int x0), .val (.int x1), .val (.ref x2), .val (.int x3)] [(.ref o)])) rfl (by rw [hml]; rfl) (Steps.refl _) (a := o) (argsL := []) (rest := []) (lenOf own_pd3 rfl) rfl (by show 2 * 0 + _ ≤ _; exact Nat.le_of_eq rfl) (hb hby d6_1) (fun _ _ => ⟨rfl, e0, (by decide : 0 + 0 ≤ _), (by decide : 0 + 0 ≤ _)⟩)
  dsimp only [Pt.U, Pt.locs, Pt.cells, Pt.slots] at X1 l1 y1 z1 st1 hQ1
  subst l1 y1 z1
  obtain ⟨rfl, Nq1, eq1⟩ := hQ1
  have N1 := Fr.app N0 Nq1
  refine own_tr (T' := T1) (F' := (mkF m 4 #[.val (.ref o), .val (.int x0), .val (.int x1), .val (.ref x2), .val (.int x3)] [])) st1 ?_
  refine own_st (T' := T1) (F' := (mkF m 5 #[.val (.ref o), .val (.int x0), .val (.int x1), .val (.ref x2), .val (.int x3)] [(.ref o)])) (fun _ k => XS.aloadN X1.here hx rfl (hb hby d6_4) rfl rfl k) ?_
  refine own_st (T' := T1) (F' := (mkF m 6 #[.val (.ref o), .val (.int x0), .val (.int x1), .val (.ref x2), .val (.int x3)] [(.int x0), (.ref o)])) (fun _ k => XS.iloadN X1.here hx rfl (hb hby d6_5) rfl  k) ?_
  obtain ⟨T2, h2, X2, e2, W2, st2⟩ := putF X1 hx hZ hown (host := "") (Or.inl (hw _ (List.mem_of_getElem? (i := 38) rfl))) Via.refl eq1 hF0 hE (Or.inr ⟨(hw _ (List.mem_of_getElem? (i := 39) rfl)), rfl, hnm⟩) (hw _ (List.mem_of_getElem? (i := 27) rfl)) (ty := .int) (by decide) rfl rfl (g := (mkF m 6 #[.val (.ref o), .val (.int x0), .val (.int x1), .val (.ref x2), .val (.int x3)] [(.int x0), (.ref o)])) rfl rfl (hb hby d6_6)
  have N2 := Fr.snoc X2 N1 hge
  have f3 : Exa Z h2 o "sundrywick/calendar/LocalTimeType" := hE.wr W2
  have f4 : Fld Z h2 o "sundrywick/calendar/LocalTimeType" "offset" "I" (.int x0) := hF0.same W2
  have f5 : Fld Z h2 o "sundrywick/calendar/LocalTimeType" "daylight" "Z" u1 := hF1.other W2 (Or.inr (slot_ne (Or.inr (hw _ (List.mem_of_getElem? (i := 41) rfl))) (Or.inr (hw _ (List.mem_of_getElem? (i := 39) rfl))) (by decide) (t := .boolean) (t' := .int) (by decide) (by decide)))
  have f6 : Fld Z h2 o "sundrywick/calendar/LocalTimeType" "abbreviation" "Ljava/lang/String;" u2 := hF2.other W2 (Or.inr (slot_ne (Or.inr (hw _ (List.mem_of_getElem? (i := 43) rfl))) (Or.inr (hw _ (List.mem_of_getElem? (i := 39) rfl))) (by decide) (t := (.object "java/lang/String")) (t' := .int) (by decide) (by decide)))
  have f7 : Fld Z h2 o "sundrywick/calendar/LocalTimeType" "standardOffset" "I" u3 := hF3.other W2 (Or.inr (slot_ne (Or.inr (hw _ (List.mem_of_getElem? (i := 45) rfl))) (Or.inr (hw _ (List.mem_of_getElem? (i := 39) rfl))) (by decide) (t := .int) (t' := .int) (by decide) (by decide)))
  have K2 : Keep h0 h2 [o] := (Keep.refl h0 [o]).wr W2 (Or.inl (List.mem_of_getElem? (i := 0) rfl))
  have Zs2 : n0 ≤ h2.size := Nat.le_trans Z0 K2.1
  refine own_st (T' := T2) (F' := (mkF m 9 #[.val (.ref o), .val (.int x0), .val (.int x1), .val (.ref x2), .val (.int x3)] [])) (fun _ k => st2 _ k) ?_
  refine own_st (T' := T2) (F' := (mkF m 10 #[.val (.ref o), .val (.int x0), .val (.int x1), .val (.ref x2), .val (.int x3)] [(.ref o)])) (fun _ k => XS.aloadN X2.here hx rfl (hb hby d6_9) rfl rfl k) ?_
  refine own_st (T' := T2) (F' := (mkF m 11 #[.val (.ref o), .val (.int x0), .val (.int x1), .val (.ref x2), .val (.int x3)] [(.int x1), (.ref o)])) (fun _ k => XS.iloadN X2.here hx rfl (hb hby d6_10) rfl  k) ?_
  obtain ⟨T8, h8, X8, e8, W8, st8⟩ := putFN X2 hx hZ hown (hw _ (List.mem_of_getElem? (i := 40) rfl)) Via.refl e2 f5 f3 (Or.inr ⟨(hw _ (List.mem_of_getElem? (i := 41) rfl)), rfl, hnm⟩) (hw _ (List.mem_of_getElem? (i := 27) rfl)) (ty := .boolean) (v' := (.int (nar .boolean x1))) (by decide) rfl (fits_nar_bool _) (g := (mkF m 11 #[.val (.ref o), .val (.int x0), .val (.int x1), .val (.ref x2), .val (.int x3)] [(.int x1), (.ref o)])) rfl rfl (hb hby d6_11)
  have N8 := Fr.snoc X8 N2 hge
  have f9 : Exa Z h8 o "sundrywick/calendar/LocalTimeType" := f3.wr W8
  have f10 : Fld Z h8 o "sundrywick/calendar/LocalTimeType" "offset" "I" (.int x0) := f4.other W8 (Or.inr (slot_ne (Or.inr (hw _ (List.mem_of_getElem? (i := 39) rfl))) (Or.inr (hw _ (List.mem_of_getElem? (i := 41) rfl))) (by decide) (t := .int) (t' := .boolean) (by decide) (by decide)))
  have f11 : Fld Z h8 o "sundrywick/calendar/LocalTimeType" "daylight" "Z" (.int (nar .boolean x1)) := f5.same W8
  have f12 : Fld Z h8 o "sundrywick/calendar/LocalTimeType" "abbreviation" "Ljava/lang/String;" u2 := f6.other W8 (Or.inr (slot_ne (Or.inr (hw _ (List.mem_of_getElem? (i := 43) rfl))) (Or.inr (hw _ (List.mem_of_getElem? (i := 41) rfl))) (by decide) (t := (.object "java/lang/String")) (t' := .boolean) (by decide) (by decide)))
  have f13 : Fld Z h8 o "sundrywick/calendar/LocalTimeType" "standardOffset" "I" u3 := f7.other W8 (Or.inr (slot_ne (Or.inr (hw _ (List.mem_of_getElem? (i := 45) rfl))) (Or.inr (hw _ (List.mem_of_getElem? (i := 41) rfl))) (by decide) (t := .int) (t' := .boolean) (by decide) (by decide)))
  have K8 : Keep h0 h8 [o] := K2.wr W8 (Or.inl (List.mem_of_getElem? (i := 0) rfl))
  have Zs8 : n0 ≤ h8.size := Nat.le_trans Z0 K8.1
  refine own_st (T' := T8) (F' := (mkF m 14 #[.val (.ref o), .val (.int x0), .val (.int x1), .val (.ref x2), .val (.int x3)] [])) (fun _ k => st8 _ k) ?_
  refine own_st (T' := T8) (F' := (mkF m 15 #[.val (.ref o), .val (.int x0), .val (.int x1), .val (.ref x2), .val (.int x3)] [(.ref o)])) (fun _ k => XS.aloadN X8.here hx rfl (hb hby d6_14) rfl rfl k) ?_
  refine own_st (T' := T8) (F' := (mkF m 16 #[.val (.ref o), .val (.int x0), .val (.int x1), .val (.ref x2), .val (.int x3)] [(.ref x2), (.ref o)])) (fun _ k => XS.aloadN X8.here hx rfl (hb hby d6_15) rfl rfl k) ?_
  obtain ⟨T14, h14, X14, e14, W14, st14⟩ := putF X8 hx hZ hown (host := "") (Or.inl (hw _ (List.mem_of_getElem? (i := 42) rfl))) Via.refl e8 f12 f9 (Or.inr ⟨(hw _ (List.mem_of_getElem? (i := 43) rfl)), rfl, hnm⟩) (hw _ (List.mem_of_getElem? (i := 27) rfl)) (ty := (.object "java/lang/String")) (by decide) rfl rfl (g := (mkF m 16 #[.val (.ref o), .val (.int x0), .val (.int x1), .val (.ref x2), .val (.int x3)] [(.ref x2), (.ref o)])) rfl rfl (hb hby d6_16)
  have N14 := Fr.snoc X14 N8 hge
  have f15 : Exa Z h14 o "sundrywick/calendar/LocalTimeType" := f9.wr W14
  have f16 : Fld Z h14 o "sundrywick/calendar/LocalTimeType" "offset" "I" (.int x0) := f10.other W14 (Or.inr (slot_ne (Or.inr (hw _ (List.mem_of_getElem? (i := 39) rfl))) (Or.inr (hw _ (List.mem_of_getElem? (i := 43) rfl))) (by decide) (t := .int) (t' := (.object "java/lang/String")) (by decide) (by decide)))
  have f17 : Fld Z h14 o "sundrywick/calendar/LocalTimeType" "daylight" "Z" (.int (nar .boolean x1)) := f11.other W14 (Or.inr (slot_ne (Or.inr (hw _ (List.mem_of_getElem? (i := 41) rfl))) (Or.inr (hw _ (List.mem_of_getElem? (i := 43) rfl))) (by decide) (t := .boolean) (t' := (.object "java/lang/String")) (by decide) (by decide)))
  have f18 : Fld Z h14 o "sundrywick/calendar/LocalTimeType" "abbreviation" "Ljava/lang/String;" (.ref x2) := f12.same W14
  have f19 : Fld Z h14 o "sundrywick/calendar/LocalTimeType" "standardOffset" "I" u3 := f13.other W14 (Or.inr (slot_ne (Or.inr (hw _ (List.mem_of_getElem? (i := 45) rfl))) (Or.inr (hw _ (List.mem_of_getElem? (i := 43) rfl))) (by decide) (t := .int) (t' := (.object "java/lang/String")) (by decide) (by decide)))
  have K14 : Keep h0 h14 [o] := K8.wr W14 (Or.inl (List.mem_of_getElem? (i := 0) rfl))
  have Zs14 : n0 ≤ h14.size := Nat.le_trans Z0 K14.1
  refine own_st (T' := T14) (F' := (mkF m 19 #[.val (.ref o), .val (.int x0), .val (.int x1), .val (.ref x2), .val (.int x3)] [])) (fun _ k => st14 _ k) ?_
  refine own_st (T' := T14) (F' := (mkF m 20 #[.val (.ref o), .val (.int x0), .val (.int x1), .val (.ref x2), .val (.int x3)] [(.ref o)])) (fun _ k => XS.aloadN X14.here hx rfl (hb hby d6_19) rfl rfl k) ?_
  refine own_st (T' := T14) (F' := (mkF m 22 #[.val (.ref o), .val (.int x0), .val (.int x1), .val (.ref x2), .val (.int x3)] [(.int x3), (.ref o)])) (fun _ k => XS.iload X14.here hx rfl (hb hby d6_20) rfl  k) ?_
  obtain ⟨T20, h20, X20, e20, W20, st20⟩ := putF X14 hx hZ hown (host := "") (Or.inl (hw _ (List.mem_of_getElem? (i := 44) rfl))) Via.refl e14 f19 f15 (Or.inr ⟨(hw _ (List.mem_of_getElem? (i := 45) rfl)), rfl, hnm⟩) (hw _ (List.mem_of_getElem? (i := 27) rfl)) (ty := .int) (by decide) rfl rfl (g := (mkF m 22 #[.val (.ref o), .val (.int x0), .val (.int x1), .val (.ref x2), .val (.int x3)] [(.int x3), (.ref o)])) rfl rfl (hb hby d6_22)
  have N20 := Fr.snoc X20 N14 hge
  have f21 : Exa Z h20 o "sundrywick/calendar/LocalTimeType" := f15.wr W20
  have f22 : Fld Z h20 o "sundrywick/calendar/LocalTimeType" "offset" "I" (.int x0) := f16.other W20 (Or.inr (slot_ne (Or.inr (hw _ (List.mem_of_getElem? (i := 39) rfl))) (Or.inr (hw _ (List.mem_of_getElem? (i := 45) rfl))) (by decide) (t := .int) (t' := .int) (by decide) (by decide)))
  have f23 : Fld Z h20 o "sundrywick/calendar/LocalTimeType" "daylight" "Z" (.int (nar .boolean x1)) := f17.other W20 (Or.inr (slot_ne (Or.inr (hw _ (List.mem_of_getElem? (i := 41) rfl))) (Or.inr (hw _ (List.mem_of_getElem? (i := 45) rfl))) (by decide) (t := .boolean) (t' := .int) (by decide) (by decide)))
  have f24 : Fld Z h20 o "sundrywick/calendar/LocalTimeType" "abbreviation" "Ljava/lang/String;" (.ref x2) := f18.other W20 (Or.inr (slot_ne (Or.inr (hw _ (List.mem_of_getElem? (i := 43) rfl))) (Or.inr (hw _ (List.mem_of_getElem? (i := 45) rfl))) (by decide) (t := (.object "java/lang/String")) (t' := .int) (by decide) (by decide)))
  have f25 : Fld Z h20 o "sundrywick/calendar/LocalTimeType" "standardOffset" "I" (.int x3) := f19.same W20
  have K20 : Keep h0 h20 [o] := K14.wr W20 (Or.inl (List.mem_of_getElem? (i := 0) rfl))
  have Zs20 : n0 ≤ h20.size := Nat.le_trans Z0 K20.1
  refine own_st (T' := T20) (F' := (mkF m 25 #[.val (.ref o), .val (.int x0), .val (.int x1), .val (.ref x2), .val (.int x3)] [])) (fun _ k => st20 _ k) ?_
  refine own_retV X20 hx hlk Bd.returns (hb hby d6_25) ?_ (by decide) (by decide)
  rw [e20]
  refine ⟨rfl, N20, K20, f21, f22, f23, f24, f25⟩
theorem d8_0 : decode prog_8_method_2_code 0 = .ok (.aload_n 0, 1) := by decide +kernel
theorem d8_1 : decode prog_8_method_2_code 1 = .ok (.getfield 7, 3) := by decide +kernel
theorem d8_4 : decode prog_8_method_2_code 4 = .ok (.aload_n 1, 1) := by decide +kernel
theorem d8_5 : decode prog_8_method_2_code 5 = .ok (.getfield 7, 3) := by decide +kernel
theorem d8_8 : decode prog_8_method_2_code 8 = .ok (.if_icmp .ne 29, 3) := by decide +kernel
theorem d8_11 : decode prog_8_method_2_code 11 = .ok (.aload_n 0, 1) := by decide +kernel
theorem d8_12 : decode prog_8_method_2_code 12 = .ok (.getfield 13, 3) := by decide +kernel
theorem d8_15 : decode prog_8_method_2_code 15 = .ok (.aload_n 1, 1) := by decide +kernel
theorem d8_16 : decode prog_8_method_2_code 16 = .ok (.getfield 13, 3) := by decide +kernel
theorem d8_19 : decode prog_8_method_2_code 19 = .ok (.if_icmp .ne 18, 3) := by decide +kernel
theorem d8_22 : decode prog_8_method_2_code 22 = .ok (.aload_n 0, 1) := by decide +kernel
theorem d8_23 : decode prog_8_method_2_code 23 = .ok (.getfield 21, 3) := by decide +kernel
theorem d8_26 : decode prog_8_method_2_code 26 = .ok (.aload_n 1, 1) := by decide +kernel
theorem d8_27 : decode prog_8_method_2_code 27 = .ok (.getfield 21, 3) := by decide +kernel
theorem d8_30 : decode prog_8_method_2_code 30 = .ok (.if_icmp .ne 7, 3) := by decide +kernel
theorem d8_33 : decode prog_8_method_2_code 33 = .ok (.iconst 1, 1) := by decide +kernel
theorem d8_34 : decode prog_8_method_2_code 34 = .ok (.goto 4, 3) := by decide +kernel
theorem d8_37 : decode prog_8_method_2_code 37 = .ok (.iconst 0, 1) := by decide +kernel
theorem d8_38 : decode prog_8_method_2_code 38 = .ok (.ireturn, 1) := by decide +kernel
theorem own_pn8 : plainName "sundrywick/calendar/LocalTimeType" = true := by first | (simp [plainName, overriddenIn]; done) | decide +kernel
theorem own_ef8 (m : MethodId) (o : Addr) (x0 : Addr) : entryFrame m #[(.ref o), (.ref x0)] 2 = (mkF m 0 #[.val (.ref o), .val (.ref x0)] []) := by first | (simp [entryFrame, mkF, argsToLocals, Value.category]; done) | rfl
def Q8 (Z : State) (o : Addr) (x0 : Addr) (p0 : Int32) (p1 : Int32) (p3 : Int32) (q0 : Int32) (q1 : Int32) (q3 : Int32) (h0 : Heap) (n0 : Nat) (v : Option Value) (h : Heap) (L : List Loc) : Prop := (∃ z : Int32, v = some (.int z) ∧ ((z = 1 ∧ p0 = q0 ∧ p1 = q1 ∧ p3 = q3) ∨ (z = 0 ∧ ¬ (p0 = q0 ∧ p1 = q1 ∧ p3 = q3)))) ∧ Fr n0 L ∧ h = h0
set_option maxRecDepth 65536 in
set_option maxHeartbeats 40000000 in
theorem rm8 (l : Launch) (Z : State) (a0 : Array Value) (hw : ∀ d ∈ tables_1, d.before a0 Z = true) (ws : List Jvm.Cond) (o : Addr) (x0 : Addr) (p0 : Int32) (p1 : Int32) (p3 : Int32) (q0 : Int32) (q1 : Int32) (q3 : Int32) (h0 : Heap) (n0 : Nat) (Z0 : n0 ≤ h0.size) (hF0 : Fld Z h0 o "sundrywick/calendar/LocalTimeType" "offset" "I" (.int p0)) (hF1 : Fld Z h0 o "sundrywick/calendar/LocalTimeType" "daylight" "Z" (.int p1)) (hF3 : Fld Z h0 o "sundrywick/calendar/LocalTimeType" "standardOffset" "I" (.int p3)) (hG0 : Fld Z h0 x0 "sundrywick/calendar/LocalTimeType" "offset" "I" (.int q0)) (hG1 : Fld Z h0 x0 "sundrywick/calendar/LocalTimeType" "daylight" "Z" (.int q1)) (hG3 : Fld Z h0 x0 "sundrywick/calendar/LocalTimeType" "standardOffset" "I" (.int q3)) :
    MetFree l (⟨"sundrywick/calendar/LocalTimeType", "sameClock", "(Lsundrywick/calendar/LocalTimeType;)Z"⟩ : MethodName) (head1 (Jvm.Cond.code (⟨"sundrywick/calendar/LocalTimeType", "sameClock", "(Lsundrywick/calendar/LocalTimeType;)Z"⟩ : MethodName) prog_8_method_2_code 2 (some .boolean) :: ws) ({ frames := 0, cells := 0, slots := 0, locals := 0 } : Room)) (fun a U => a = #[(.ref o), (.ref x0)] ∧ Z.Warmed39 U.vm ∧ U.heap = h0) (fun _ _ _ _ _ => True) (fun _ U oc U' => ∃ v L, oc = .returned v ∧ Q8 Z o x0 p0 p1 p3 q0 q1 q3 h0 n0 v U'.heap L ∧ FrameEnd U oc U' L ({ frames := 0, cells := 0, slots := 0, locals := 0 } : Room).cells ({ frames := 0, cells := 0, slots := 0, locals := 0 } : Room).slots) := by
  refine MetFree.of_bodySF (plainFor_of_name own_pn8) hisR ?_
  intro p e s m args below meth c s₁ Bd hml0 hP hK
  obtain ⟨rfl, hZ, hh⟩ := hP
  have hx := Bd.exec
  have hby := Bd.bytes
  have hlk : meth.locks = false := BodyLoose.notSynchronized Bd
  have hml : c.maxLocals = 2 := hml0
  have hown : s.vm.findClass "sundrywick/calendar/LocalTimeType" = some m.cls := findClass_of_methodNamed Bd.named
  have hnm := (name_of_methodNamed Bd.named Bd.method).1
  have X0 : Stand p l e ({ frames := 0, cells := 0, slots := 0, locals := 0 } : Room) s m #[(.ref o), (.ref x0)] below meth c s₁ [] 0 0 := Stand.of_body Bd
  have e0 : s₁.heap = h0 := by rw [← hh, Bd.state]; rfl
  have N0 := Fr.nil n0
  refine own_enter (own_ef8 m o x0) ?_
  show own_Go p e below s (Q8 Z o x0 p0 p1 p3 q0 q1 q3 h0 n0) ({ frames := 0, cells := 0, slots := 0, locals := 0 } : Room).cells ({ frames := 0, cells := 0, slots := 0, locals := 0 } : Room).slots s₁ (mkF m 0 #[.val (.ref o), .val (.ref x0)] [])
  refine own_st (T' := s₁) (F' := (mkF m 1 #[.val (.ref o), .val (.ref x0)] [(.ref o)])) (fun _ k => XS.aloadN X0.here hx rfl (hb hby d8_0) rfl rfl k) ?_
  obtain ⟨T1, X1, e1, st1⟩ := getF X0 hx hZ hown (host := "") (Or.inl (hw _ (List.mem_of_getElem? (i := 38) rfl))) Via.refl e0 hF0 (g := (mkF m 1 #[.val (.ref o), .val (.ref x0)] [(.ref o)])) rfl rfl (hb hby d8_1)
  refine own_st (T' := T1) (F' := (mkF m 4 #[.val (.ref o), .val (.ref x0)] [(.int p0)])) (fun _ k => st1 _ k) ?_
  refine own_st (T' := T1) (F' := (mkF m 5 #[.val (.ref o), .val (.ref x0)] [(.ref x0), (.int p0)])) (fun _ k => XS.aloadN X1.here hx rfl (hb hby d8_4) rfl rfl k) ?_
  obtain ⟨T2, X2, e2, st2⟩ := getF X1 hx hZ hown (host := "") (Or.inl (hw _ (List.mem_of_getElem? (i := 38) rfl))) Via.refl e1 hG0 (g := (mkF m 5 #[.val (.ref o), .val (.ref x0)] [(.ref x0), (.int p0)])) rfl rfl (hb hby d8_5)
  refine own_st (T' := T2) (F' := (mkF m 8 #[.val (.ref o), .val (.ref x0)] [(.int q0), (.int p0)])) (fun _ k => st2 _ k) ?_
  have J38_3 : ∀ (j38_1 : Int32) (TJ3 : State) (LJ3 : List Loc) (XJ3 : Stand p l e ({ frames := 0, cells := 0, slots := 0, locals := 0 } : Room) s m #[(.ref o), (.ref x0)] below meth c TJ3 LJ3 0 0) (NJ3 : Fr n0 LJ3) (eJ3 : TJ3.heap = h0), (((¬ (p0 = q0)) ∧ j38_1 = (0 : Int32)) ∨ ((p0 = q0) ∧ (¬ (p1 = q1)) ∧ j38_1 = (0 : Int32)) ∨ ((p0 = q0) ∧ (p1 = q1) ∧ (¬ (p3 = q3)) ∧ j38_1 = (0 : Int32)) ∨ ((p0 = q0) ∧ (p1 = q1) ∧ (p3 = q3) ∧ j38_1 = (1 : Int32))) → own_Go p e below s (Q8 Z o x0 p0 p1 p3 q0 q1 q3 h0 n0) ({ frames := 0, cells := 0, slots := 0, locals := 0 } : Room).cells ({ frames := 0, cells := 0, slots := 0, locals := 0 } : Room).slots TJ3 (mkF m 38 #[.val (.ref o), .val (.ref x0)] [(.int j38_1)]) := by
    intro j38_1 TJ3 LJ3 XJ3 NJ3 eJ3 hJ38_3
    refine own_retN XJ3 hx hlk (t := .boolean) Bd.returns (by simp) (hb hby d8_38) ?_ (by decide) (by decide)
    rw [eJ3]
    refine ⟨⟨_, rfl, ?_⟩, NJ3, rfl⟩
    rcases hJ38_3 with ⟨h1, rfl⟩ | ⟨h1, h2, rfl⟩ | ⟨h1, h2, h3, rfl⟩ | ⟨h1, h2, h3, rfl⟩ <;> simp_all [own_nar0, own_nar1]
  refine own_icmp X2 hx (pc' := 37) (pc2 := 11) (hb hby d8_8) (by decide) (by decide) rfl (fun (hc8 : ¬ (p0 = q0)) => ?_) (fun (hc8 : p0 = q0) => ?_)
  ·
    refine own_st (T' := T2) (F' := (mkF m 38 #[.val (.ref o), .val (.ref x0)] [(.int (0 : Int32))])) (fun _ k => XS.iconst X2.here hx rfl (hb hby d8_37) k) ?_
    exact J38_3 (0 : Int32) T2 _ X2 N0 e2 (Or.inl (⟨hc8, rfl⟩))
  ·
    refine own_st (T' := T2) (F' := (mkF m 12 #[.val (.ref o), .val (.ref x0)] [(.ref o)])) (fun _ k => XS.aloadN X2.here hx rfl (hb hby d8_11) rfl rfl k) ?_
    obtain ⟨T4, X4, e4, st4⟩ := getF X2 hx hZ hown (host := "") (Or.inl (hw _ (List.mem_of_getElem? (i := 40) rfl))) Via.refl e2 hF1 (g := (mkF m 12 #[.val (.ref o), .val (.ref x0)] [(.ref o)])) rfl rfl (hb hby d8_12)
    refine own_st (T' := T4) (F' := (mkF m 15 #[.val (.ref o), .val (.ref x0)] [(.int p1)])) (fun _ k => st4 _ k) ?_
    refine own_st (T' := T4) (F' := (mkF m 16 #[.val (.ref o), .val (.ref x0)] [(.ref x0), (.int p1)])) (fun _ k => XS.aloadN X4.here hx rfl (hb hby d8_15) rfl rfl k) ?_
    obtain ⟨T5, X5, e5, st5⟩ := getF X4 hx hZ hown (host := "") (Or.inl (hw _ (List.mem_of_getElem? (i := 40) rfl))) Via.refl e4 hG1 (g := (mkF m 16 #[.val (.ref o), .val (.ref x0)] [(.ref x0), (.int p1)])) rfl rfl (hb hby d8_16)
    refine own_st (T' := T5) (F' := (mkF m 19 #[.val (.ref o), .val (.ref x0)] [(.int q1), (.int p1)])) (fun _ k => st5 _ k) ?_
    refine own_icmp X5 hx (pc' := 37) (pc2 := 22) (hb hby d8_19) (by decide) (by decide) rfl (fun (hc19 : ¬ (p1 = q1)) => ?_) (fun (hc19 : p1 = q1) => ?_)
    ·
      refine own_st (T' := T5) (F' := (mkF m 38 #[.val (.ref o), .val (.ref x0)] [(.int (0 : Int32))])) (fun _ k => XS.iconst X5.here hx rfl (hb hby d8_37) k) ?_
      exact J38_3 (0 : Int32) T5 _ X5 N0 e5 (Or.inr (Or.inl (⟨hc8, hc19, rfl⟩)))
    ·
      refine own_st (T' := T5) (F' := (mkF m 23 #[.val (.ref o), .val (.ref x0)] [(.ref o)])) (fun _ k => XS.aloadN X5.here hx rfl (hb hby d8_22) rfl rfl k) ?_
      obtain ⟨T6, X6, e6, st6⟩ := getF X5 hx hZ hown (host := "") (Or.inl (hw _ (List.mem_of_getElem? (i := 44) rfl))) Via.refl e5 hF3 (g := (mkF m 23 #[.val (.ref o), .val (.ref x0)] [(.ref o)])) rfl rfl (hb hby d8_23)
      refine own_st (T' := T6) (F' := (mkF m 26 #[.val (.ref o), .val (.ref x0)] [(.int p3)])) (fun _ k => st6 _ k) ?_
      refine own_st (T' := T6) (F' := (mkF m 27 #[.val (.ref o), .val (.ref x0)] [(.ref x0), (.int p3)])) (fun _ k => XS.aloadN X6.here hx rfl (hb hby d8_26) rfl rfl k) ?_
      obtain ⟨T7, X7, e7, st7⟩ := getF X6 hx hZ hown (host := "") (Or.inl (hw _ (List.mem_of_getElem? (i := 44) rfl))) Via.refl e6 hG3 (g := (mkF m 27 #[.val (.ref o), .val (.ref x0)] [(.ref x0), (.int p3)])) rfl rfl (hb hby d8_27)
      refine own_st (T' := T7) (F' := (mkF m 30 #[.val (.ref o), .val (.ref x0)] [(.int q3), (.int p3)])) (fun _ k => st7 _ k) ?_
      refine own_icmp X7 hx (pc' := 37) (pc2 := 33) (hb hby d8_30) (by decide) (by decide) rfl (fun (hc30 : ¬ (p3 = q3)) => ?_) (fun (hc30 : p3 = q3) => ?_)
      ·
        refine own_st (T' := T7) (F' := (mkF m 38 #[.val (.ref o), .val (.ref x0)] [(.int (0 : Int32))])) (fun _ k => XS.iconst X7.here hx rfl (hb hby d8_37) k) ?_
        exact J38_3 (0 : Int32) T7 _ X7 N0 e7 (Or.inr (Or.inr (Or.inl (⟨hc8, hc19, hc30, rfl⟩))))
      ·
        refine own_st (T' := T7) (F' := (mkF m 34 #[.val (.ref o), .val (.ref x0)] [(.int (1 : Int32))])) (fun _ k => XS.iconst X7.here hx rfl (hb hby d8_33) k) ?_
        refine own_st (T' := T7) (F' := (mkF m 38 #[.val (.ref o), .val (.ref x0)] [(.int (1 : Int32))])) (fun _ k => XS.goto X7.here hx rfl (pc0 := 34) (pc' := 38) rfl (hb hby d8_34) (by decide) (by decide) k) ?_
        exact J38_3 (1 : Int32) T7 _ X7 N0 e7 (Or.inr (Or.inr (Or.inr (⟨hc8, hc19, hc30, rfl⟩))))
theorem own_pd4 : parseMethodDescriptor "(C)Ljava/lang/String;" = some ⟨[.char], some (.object "java/lang/String")⟩ := by decide +kernel
theorem own_pd5 : parseMethodDescriptor "(IZLjava/lang/String;I)V" = some ⟨[.int, .boolean, (.object "java/lang/String"), .int], none⟩ := by decide +kernel
theorem own_pd6 : parseMethodDescriptor "(Lsundrywick/calendar/LocalTimeType;)Z" = some ⟨[(.object "sundrywick/calendar/LocalTimeType")], some .boolean⟩ := by decide +kernel
theorem own_pn0 : plainName "sundrywick/calendar/LocalTimeTypeSameClockPinLaw" = true := by first | (simp [plainName, overriddenIn]; done) | decide +kernel
theorem own_ef0 (m : MethodId) (x0 : Int32) (x1 : Int32) (x2 : Int32) (x3 : Int32) (x4 : Int32) (x5 : Int32) : entryFrame m #[(.int x0), (.int x1), (.int x2), (.int x3), (.int x4), (.int x5)] maxLocals = (mkF m 0 #[.val (.int x0), .val (.int x1), .val (.int x2), .val (.int x3), .val (.int x4), .val (.int x5), .unset, .unset, .unset, .unset, .unset, .unset, .unset, .unset, .unset, .unset, .unset, .unset] []) := by first | (simp [entryFrame, mkF, argsToLocals, Value.category, maxLocals]; done) | rfl
def Q0 (Z : State) (x0 : Int32) (x1 : Int32) (x2 : Int32) (x3 : Int32) (x4 : Int32) (x5 : Int32) (cs : Int32) (h0 : Heap) (n0 : Nat) (v : Option Value) (h : Heap) (L : List Loc) : Prop := (∃ z : Int32, v = some (.int z) ∧ (z = 1)) ∧ Fr n0 L
set_option maxRecDepth 65536 in
set_option maxHeartbeats 40000000 in
theorem rm0 (l : Launch) (Z : State) (a0 : Array Value) (hw : ∀ d ∈ tables_1, d.before a0 Z = true) (ws : List Jvm.Cond) (x0 : Int32) (x1 : Int32) (x2 : Int32) (x3 : Int32) (x4 : Int32) (x5 : Int32) (cs : Int32) (h0 : Heap) (n0 : Nat) (Z0 : n0 ≤ h0.size) (S_cs : Sta Z h0 "java/lang/String" "COMPACT_STRINGS" "Z" (.int cs)) (hcs : ¬ (cs = 0)) :
    MetFree l x (head1 (Jvm.Cond.code x code maxLocals ret :: ws) room_1) (fun a U => a = #[(.int x0), (.int x1), (.int x2), (.int x3), (.int x4), (.int x5)] ∧ Z.Warmed39 U.vm ∧ U.heap = h0) (fun _ _ _ _ _ => True) (fun _ U oc U' => ∃ v L, oc = .returned v ∧ Q0 Z x0 x1 x2 x3 x4 x5 cs h0 n0 v U'.heap L ∧ FrameEnd U oc U' L room_1.cells room_1.slots) := by
  refine MetFree.of_bodySF (plainFor_of_name own_pn0) hisR ?_
  intro p e s m args below meth c s₁ Bd hml0 hP hK
  obtain ⟨rfl, hZ, hh⟩ := hP
  have hx := Bd.exec
  have hby := Bd.bytes
  have hlk : meth.locks = false := BodyLoose.notSynchronized Bd
  have hml : c.maxLocals = 18 := hml0
  have hown : s.vm.findClass "sundrywick/calendar/LocalTimeTypeSameClockPinLaw" = some m.cls := findClass_of_methodNamed Bd.named
  have hnm := (name_of_methodNamed Bd.named Bd.method).1
  have X0 : Stand p l e room_1 s m #[(.int x0), (.int x1), (.int x2), (.int x3), (.int x4), (.int x5)] below meth c s₁ [] 0 0 := Stand.of_body Bd
  have e0 : s₁.heap = h0 := by rw [← hh, Bd.state]; rfl
  have N0 := Fr.nil n0
  refine own_enter (own_ef0 m x0 x1 x2 x3 x4 x5) ?_
  show own_Go p e below s (Q0 Z x0 x1 x2 x3 x4 x5 cs h0 n0) room_1.cells room_1.slots s₁ (mkF m 0 #[.val (.int x0), .val (.int x1), .val (.int x2), .val (.int x3), .val (.int x4), .val (.int x5), .unset, .unset, .unset, .unset, .unset, .unset, .unset, .unset, .unset, .unset, .unset, .unset] [])
  refine own_st (T' := s₁) (F' := (mkF m 2 #[.val (.int x0), .val (.int x1), .val (.int x2), .val (.int x3), .val (.int x4), .val (.int x5), .unset, .unset, .unset, .unset, .unset, .unset, .unset, .unset, .unset, .unset, .unset, .unset] [(.int x4)])) (fun _ k => XS.iload X0.here hx rfl (hb hby at_0) rfl  k) ?_
  refine own_st (T' := s₁) (F' := (mkF m 3 #[.val (.int x0), .val (.int x1), .val (.int x2), .val (.int x3), .val (.int x4), .val (.int x5), .unset, .unset, .unset, .unset, .unset, .unset, .unset, .unset, .unset, .unset, .unset, .unset] [(.int (1 : Int32)), (.int x4)])) (fun _ k => XS.iconst X0.here hx rfl (hb hby at_2) k) ?_
  refine own_st (T' := s₁) (F' := (mkF m 4 #[.val (.int x0), .val (.int x1), .val (.int x2), .val (.int x3), .val (.int x4), .val (.int x5), .unset, .unset, .unset, .unset, .unset, .unset, .unset, .unset, .unset, .unset, .unset, .unset] [(.int (x4 &&& (1 : Int32)))])) (fun _ k => XS.iand X0.here hx rfl (hb hby at_3) rfl k) ?_
  have J12_1 : ∀ (j12_1 : Int32), ((((x4 &&& (1 : Int32)) = (0 : Int32)) ∧ j12_1 = (0 : Int32)) ∨ ((¬ ((x4 &&& (1 : Int32)) = (0 : Int32))) ∧ j12_1 = (1 : Int32))) → own_Go p e below s (Q0 Z x0 x1 x2 x3 x4 x5 cs h0 n0) room_1.cells room_1.slots s₁ (mkF m 12 #[.val (.int x0), .val (.int x1), .val (.int x2), .val (.int x3), .val (.int x4), .val (.int x5), .unset, .unset, .unset, .unset, .unset, .unset, .unset, .unset, .unset, .unset, .unset, .unset] [(.int j12_1)]) := by
    intro j12_1 hJ12_1
    refine own_st (T' := s₁) (F' := (mkF m 14 #[.val (.int x0), .val (.int x1), .val (.int x2), .val (.int x3), .val (.int x4), .val (.int x5), .val (.int j12_1), .unset, .unset, .unset, .unset, .unset, .unset, .unset, .unset, .unset, .unset, .unset] [])) (fun _ k => XS.istore X0.here hx rfl (hb hby at_12) rfl (l' := #[.val (.int x0), .val (.int x1), .val (.int x2), .val (.int x3), .val (.int x4), .val (.int x5), .val (.int j12_1), .unset, .unset, .unset, .unset, .unset, .unset, .unset, .unset, .unset, .unset, .unset]) rfl k) ?_
    refine own_st (T' := s₁) (F' := (mkF m 16 #[.val (.int x0), .val (.int x1), .val (.int x2), .val (.int x3), .val (.int x4), .val (.int x5), .val (.int j12_1), .unset, .unset, .unset, .unset, .unset, .unset, .unset, .unset, .unset, .unset, .unset] [(.int x4)])) (fun _ k => XS.iload X0.here hx rfl (hb hby at_14) rfl  k) ?_
    refine own_st (T' := s₁) (F' := (mkF m 17 #[.val (.int x0), .val (.int x1), .val (.int x2), .val (.int x3), .val (.int x4), .val (.int x5), .val (.int j12_1), .unset, .unset, .unset, .unset, .unset, .unset, .unset, .unset, .unset, .unset, .unset] [(.int (2 : Int32)), (.int x4)])) (fun _ k => XS.iconst X0.here hx rfl (hb hby at_16) k) ?_
    refine own_st (T' := s₁) (F' := (mkF m 18 #[.val (.int x0), .val (.int x1), .val (.int x2), .val (.int x3), .val (.int x4), .val (.int x5), .val (.int j12_1), .unset, .unset, .unset, .unset, .unset, .unset, .unset, .unset, .unset, .unset, .unset] [(.int (x4 &&& (2 : Int32)))])) (fun _ k => XS.iand X0.here hx rfl (hb hby at_17) rfl k) ?_
    have J26_2 : ∀ (j26_1 : Int32), ((((x4 &&& (2 : Int32)) = (0 : Int32)) ∧ j26_1 = x2) ∨ ((¬ ((x4 &&& (2 : Int32)) = (0 : Int32))) ∧ j26_1 = x0)) → own_Go p e below s (Q0 Z x0 x1 x2 x3 x4 x5 cs h0 n0) room_1.cells room_1.slots s₁ (mkF m 26 #[.val (.int x0), .val (.int x1), .val (.int x2), .val (.int x3), .val (.int x4), .val (.int x5), .val (.int j12_1), .unset, .unset, .unset, .unset, .unset, .unset, .unset, .unset, .unset, .unset, .unset] [(.int j26_1)]) := by
      intro j26_1 hJ26_2
      refine own_st (T' := s₁) (F' := (mkF m 28 #[.val (.int x0), .val (.int x1), .val (.int x2), .val (.int x3), .val (.int x4), .val (.int x5), .val (.int j12_1), .val (.int j26_1), .unset, .unset, .unset, .unset, .unset, .unset, .unset, .unset, .unset, .unset] [])) (fun _ k => XS.istore X0.here hx rfl (hb hby at_26) rfl (l' := #[.val (.int x0), .val (.int x1), .val (.int x2), .val (.int x3), .val (.int x4), .val (.int x5), .val (.int j12_1), .val (.int j26_1), .unset, .unset, .unset, .unset, .unset, .unset, .unset, .unset, .unset, .unset]) rfl k) ?_
      refine own_st (T' := s₁) (F' := (mkF m 30 #[.val (.int x0), .val (.int x1), .val (.int x2), .val (.int x3), .val (.int x4), .val (.int x5), .val (.int j12_1), .val (.int j26_1), .unset, .unset, .unset, .unset, .unset, .unset, .unset, .unset, .unset, .unset] [(.int x4)])) (fun _ k => XS.iload X0.here hx rfl (hb hby at_28) rfl  k) ?_
      refine own_st (T' := s₁) (F' := (mkF m 31 #[.val (.int x0), .val (.int x1), .val (.int x2), .val (.int x3), .val (.int x4), .val (.int x5), .val (.int j12_1), .val (.int j26_1), .unset, .unset, .unset, .unset, .unset, .unset, .unset, .unset, .unset, .unset] [(.int (4 : Int32)), (.int x4)])) (fun _ k => XS.iconst X0.here hx rfl (hb hby at_30) k) ?_
      refine own_st (T' := s₁) (F' := (mkF m 32 #[.val (.int x0), .val (.int x1), .val (.int x2), .val (.int x3), .val (.int x4), .val (.int x5), .val (.int j12_1), .val (.int j26_1), .unset, .unset, .unset, .unset, .unset, .unset, .unset, .unset, .unset, .unset] [(.int (x4 &&& (4 : Int32)))])) (fun _ k => XS.iand X0.here hx rfl (hb hby at_31) rfl k) ?_
      have J50_3 : ∀ (j50_1 : Int32), ((((x4 &&& (4 : Int32)) = (0 : Int32)) ∧ (¬ (j12_1 = (0 : Int32))) ∧ j50_1 = (0 : Int32)) ∨ (((x4 &&& (4 : Int32)) = (0 : Int32)) ∧ (j12_1 = (0 : Int32)) ∧ j50_1 = (1 : Int32)) ∨ ((¬ ((x4 &&& (4 : Int32)) = (0 : Int32))) ∧ j50_1 = j12_1)) → own_Go p e below s (Q0 Z x0 x1 x2 x3 x4 x5 cs h0 n0) room_1.cells room_1.slots s₁ (mkF m 50 #[.val (.int x0), .val (.int x1), .val (.int x2), .val (.int x3), .val (.int x4), .val (.int x5), .val (.int j12_1), .val (.int j26_1), .unset, .unset, .unset, .unset, .unset, .unset, .unset, .unset, .unset, .unset] [(.int j50_1)]) := by
        intro j50_1 hJ50_3
        refine own_st (T' := s₁) (F' := (mkF m 52 #[.val (.int x0), .val (.int x1), .val (.int x2), .val (.int x3), .val (.int x4), .val (.int x5), .val (.int j12_1), .val (.int j26_1), .val (.int j50_1), .unset, .unset, .unset, .unset, .unset, .unset, .unset, .unset, .unset] [])) (fun _ k => XS.istore X0.here hx rfl (hb hby at_50) rfl (l' := #[.val (.int x0), .val (.int x1), .val (.int x2), .val (.int x3), .val (.int x4), .val (.int x5), .val (.int j12_1), .val (.int j26_1), .val (.int j50_1), .unset, .unset, .unset, .unset, .unset, .unset, .unset, .unset, .unset]) rfl k) ?_
        refine own_st (T' := s₁) (F' := (mkF m 54 #[.val (.int x0), .val (.int x1), .val (.int x2), .val (.int x3), .val (.int x4), .val (.int x5), .val (.int j12_1), .val (.int j26_1), .val (.int j50_1), .unset, .unset, .unset, .unset, .unset, .unset, .unset, .unset, .unset] [(.int x4)])) (fun _ k => XS.iload X0.here hx rfl (hb hby at_52) rfl  k) ?_
        refine own_st (T' := s₁) (F' := (mkF m 56 #[.val (.int x0), .val (.int x1), .val (.int x2), .val (.int x3), .val (.int x4), .val (.int x5), .val (.int j12_1), .val (.int j26_1), .val (.int j50_1), .unset, .unset, .unset, .unset, .unset, .unset, .unset, .unset, .unset] [(.int (8 : Int32)), (.int x4)])) (fun _ k => XS.bipush X0.here hx rfl (hb hby at_54) k) ?_
        refine own_st (T' := s₁) (F' := (mkF m 57 #[.val (.int x0), .val (.int x1), .val (.int x2), .val (.int x3), .val (.int x4), .val (.int x5), .val (.int j12_1), .val (.int j26_1), .val (.int j50_1), .unset, .unset, .unset, .unset, .unset, .unset, .unset, .unset, .unset] [(.int (x4 &&& (8 : Int32)))])) (fun _ k => XS.iand X0.here hx rfl (hb hby at_56) rfl k) ?_
        have J65_4 : ∀ (j65_1 : Int32), ((((x4 &&& (8 : Int32)) = (0 : Int32)) ∧ j65_1 = x3) ∨ ((¬ ((x4 &&& (8 : Int32)) = (0 : Int32))) ∧ j65_1 = x1)) → own_Go p e below s (Q0 Z x0 x1 x2 x3 x4 x5 cs h0 n0) room_1.cells room_1.slots s₁ (mkF m 65 #[.val (.int x0), .val (.int x1), .val (.int x2), .val (.int x3), .val (.int x4), .val (.int x5), .val (.int j12_1), .val (.int j26_1), .val (.int j50_1), .unset, .unset, .unset, .unset, .unset, .unset, .unset, .unset, .unset] [(.int j65_1)]) := by
          intro j65_1 hJ65_4
          refine own_st (T' := s₁) (F' := (mkF m 67 #[.val (.int x0), .val (.int x1), .val (.int x2), .val (.int x3), .val (.int x4), .val (.int x5), .val (.int j12_1), .val (.int j26_1), .val (.int j50_1), .val (.int j65_1), .unset, .unset, .unset, .unset, .unset, .unset, .unset, .unset] [])) (fun _ k => XS.istore X0.here hx rfl (hb hby at_65) rfl (l' := #[.val (.int x0), .val (.int x1), .val (.int x2), .val (.int x3), .val (.int x4), .val (.int x5), .val (.int j12_1), .val (.int j26_1), .val (.int j50_1), .val (.int j65_1), .unset, .unset, .unset, .unset, .unset, .unset, .unset, .unset]) rfl k) ?_
          refine own_st (T' := s₁) (F' := (mkF m 69 #[.val (.int x0), .val (.int x1), .val (.int x2), .val (.int x3), .val (.int x4), .val (.int x5), .val (.int j12_1), .val (.int j26_1), .val (.int j50_1), .val (.int j65_1), .unset, .unset, .unset, .unset, .unset, .unset, .unset, .unset] [(.int x5)])) (fun _ k => XS.iload X0.here hx rfl (hb hby at_67) rfl  k) ?_
          refine own_st (T' := s₁) (F' := (mkF m 72 #[.val (.int x0), .val (.int x1), .val (.int x2), .val (.int x3), .val (.int x4), .val (.int x5), .val (.int j12_1), .val (.int j26_1), .val (.int j50_1), .val (.int j65_1), .unset, .unset, .unset, .unset, .unset, .unset, .unset, .unset] [(.int (255 : Int32)), (.int x5)])) (fun _ k => XS.sipush X0.here hx rfl (hb hby at_69) k) ?_
          refine own_st (T' := s₁) (F' := (mkF m 73 #[.val (.int x0), .val (.int x1), .val (.int x2), .val (.int x3), .val (.int x4), .val (.int x5), .val (.int j12_1), .val (.int j26_1), .val (.int j50_1), .val (.int j65_1), .unset, .unset, .unset, .unset, .unset, .unset, .unset, .unset] [(.int (x5 &&& (255 : Int32)))])) (fun _ k => XS.iand X0.here hx rfl (hb hby at_72) rfl k) ?_
          refine own_st (T' := s₁) (F' := (mkF m 74 #[.val (.int x0), .val (.int x1), .val (.int x2), .val (.int x3), .val (.int x4), .val (.int x5), .val (.int j12_1), .val (.int j26_1), .val (.int j50_1), .val (.int j65_1), .unset, .unset, .unset, .unset, .unset, .unset, .unset, .unset] [(.int ((x5 &&& (255 : Int32)).toUInt32.toUInt16.toUInt32.toInt32))])) (fun _ k => XS.i2c X0.here hx rfl (hb hby at_73) rfl k) ?_
          obtain ⟨_, _, ⟨T5, L5, k5, n5⟩, -, X5, ⟨Lc5, hQ5, l5, y5, z5⟩, st5⟩ := Jvm.LawKit.callS X0 hx (y := (⟨"java/lang/String", "valueOf", "(C)Ljava/lang/String;"⟩ : MethodName)) hown (mvT hZ (hw _ (List.mem_of_getElem? (i := 0) rfl))) (mvT hZ (hw _ (List.mem_of_getElem? (i := 1) rfl))) (mvT hZ (hw _ (List.mem_of_getElem? (i := 2) rfl))) (mvT hZ (hw _ (List.mem_of_getElem? (i := 3) rfl))) (by decide) (backOf (W := 0) (rm1 l Z a0 hw [] ((x5 &&& (255 : Int32)).toUInt32.toUInt16.toUInt32.toInt32) cs h0 n0 Z0 S_cs hcs (own_c255 _)) hZ (hw _ (List.mem_of_getElem? (i := 3) rfl)) (hw _ (List.mem_of_getElem? (i := 2) rfl)) (by decide) (by decide)) (g := (mkF m 74 #[.val (.int x0), .val (.int x1), .val (.int x2), .val (.int x3), .val (.int x4), .val (.int x5), .val (.int j12_1), .val (.int j26_1), .val (.int j50_1), .val (.int j65_1), .unset, .unset, .unset, .unset, .unset, .unset, .unset, .unset] [(.int ((x5 &&& (255 : Int32)).toUInt32.toUInt16.toUInt32.toInt32))])) rfl (by rw [hml]; rfl) (argsL := [(.int ((x5 &&& (255 : Int32)).toUInt32.toUInt16.toUInt32.toInt32))]) (rest := []) (lenOf own_pd4 rfl) rfl (by show 2 * 0 + _ ≤ _; exact Nat.le_of_eq rfl) (hb hby at_74) (fun _ _ => ⟨rfl, e0, (by decide : 0 + 2 ≤ _), (by decide : 0 + 5 ≤ _)⟩)
          dsimp only [Pt.U, Pt.locs, Pt.cells, Pt.slots] at X5 l5 y5 z5 st5 hQ5
          subst l5 y5 z5
          obtain ⟨⟨r5, rfl, hr5⟩, Nq5, g5_0⟩ := hQ5
          have N5 := Fr.app N0 Nq5
          have f6 : Sta Z T5.heap "java/lang/String" "COMPACT_STRINGS" "Z" (.int cs) := own_stk S_cs g5_0 all0
          have K5 : Keep h0 T5.heap [] := (Keep.refl h0 []).trans g5_0 all0
          have Zs5 : n0 ≤ T5.heap.size := Nat.le_trans Z0 K5.1
          obtain ⟨zge5, zE5⟩ := hr5
          refine own_st (T' := T5) (F' := (mkF m 77 #[.val (.int x0), .val (.int x1), .val (.int x2), .val (.int x3), .val (.int x4), .val (.int x5), .val (.int j12_1), .val (.int j26_1), .val (.int j50_1), .val (.int j65_1), .unset, .unset, .unset, .unset, .unset, .unset, .unset, .unset] [(.ref r5)])) (fun _ k => st5 _ k) ?_
          refine own_st (T' := T5) (F' := (mkF m 79 #[.val (.int x0), .val (.int x1), .val (.int x2), .val (.int x3), .val (.int x4), .val (.int x5), .val (.int j12_1), .val (.int j26_1), .val (.int j50_1), .val (.int j65_1), .val (.ref r5), .unset, .unset, .unset, .unset, .unset, .unset, .unset] [])) (fun _ k => XS.astore X5.here hx rfl (hb hby at_77) rfl rfl (l' := #[.val (.int x0), .val (.int x1), .val (.int x2), .val (.int x3), .val (.int x4), .val (.int x5), .val (.int j12_1), .val (.int j26_1), .val (.int j50_1), .val (.int j65_1), .val (.ref r5), .unset, .unset, .unset, .unset, .unset, .unset, .unset]) rfl k) ?_
          refine own_st (T' := T5) (F' := (mkF m 81 #[.val (.int x0), .val (.int x1), .val (.int x2), .val (.int x3), .val (.int x4), .val (.int x5), .val (.int j12_1), .val (.int j26_1), .val (.int j50_1), .val (.int j65_1), .val (.ref r5), .unset, .unset, .unset, .unset, .unset, .unset, .unset] [(.int x4)])) (fun _ k => XS.iload X5.here hx rfl (hb hby at_79) rfl  k) ?_
          refine own_st (T' := T5) (F' := (mkF m 83 #[.val (.int x0), .val (.int x1), .val (.int x2), .val (.int x3), .val (.int x4), .val (.int x5), .val (.int j12_1), .val (.int j26_1), .val (.int j50_1), .val (.int j65_1), .val (.ref r5), .unset, .unset, .unset, .unset, .unset, .unset, .unset] [(.int (16 : Int32)), (.int x4)])) (fun _ k => XS.bipush X5.here hx rfl (hb hby at_81) k) ?_
          refine own_st (T' := T5) (F' := (mkF m 84 #[.val (.int x0), .val (.int x1), .val (.int x2), .val (.int x3), .val (.int x4), .val (.int x5), .val (.int j12_1), .val (.int j26_1), .val (.int j50_1), .val (.int j65_1), .val (.ref r5), .unset, .unset, .unset, .unset, .unset, .unset, .unset] [(.int (x4 &&& (16 : Int32)))])) (fun _ k => XS.iand X5.here hx rfl (hb hby at_83) rfl k) ?_
          have J105_7 : ∀ (j105_1 : Addr) (TJ7 : State) (LJ7 : List Loc) (XJ7 : Stand p l e room_1 s m #[(.int x0), (.int x1), (.int x2), (.int x3), (.int x4), (.int x5)] below meth c TJ7 LJ7 4 10) (NJ7 : Fr n0 LJ7) (hJ7 : Heap) (eJ7 : TJ7.heap = hJ7) (zJ7 : n0 ≤ hJ7.size) (kJ7 : Keep h0 hJ7 []) (fJ7_0 : Sta Z hJ7 "java/lang/String" "COMPACT_STRINGS" "Z" (.int cs)) (fJ7_1 : Exa Z hJ7 r5 "java/lang/String"), ((((x4 &&& (16 : Int32)) = (0 : Int32)) ∧ ∃ r7 : Addr, j105_1 = r7) ∨ ((¬ ((x4 &&& (16 : Int32)) = (0 : Int32))) ∧ j105_1 = r5)) → own_Go p e below s (Q0 Z x0 x1 x2 x3 x4 x5 cs h0 n0) room_1.cells room_1.slots TJ7 (mkF m 105 #[.val (.int x0), .val (.int x1), .val (.int x2), .val (.int x3), .val (.int x4), .val (.int x5), .val (.int j12_1), .val (.int j26_1), .val (.int j50_1), .val (.int j65_1), .val (.ref r5), .unset, .unset, .unset, .unset, .unset, .unset, .unset] [(.ref j105_1)]) := by
            intro j105_1 TJ7 LJ7 XJ7 NJ7 hJ7 eJ7 zJ7 kJ7 fJ7_0 fJ7_1 hJ105_7
            refine own_st (T' := TJ7) (F' := (mkF m 107 #[.val (.int x0), .val (.int x1), .val (.int x2), .val (.int x3), .val (.int x4), .val (.int x5), .val (.int j12_1), .val (.int j26_1), .val (.int j50_1), .val (.int j65_1), .val (.ref r5), .val (.ref j105_1), .unset, .unset, .unset, .unset, .unset, .unset] [])) (fun _ k => XS.astore XJ7.here hx rfl (hb hby at_105) rfl rfl (l' := #[.val (.int x0), .val (.int x1), .val (.int x2), .val (.int x3), .val (.int x4), .val (.int x5), .val (.int j12_1), .val (.int j26_1), .val (.int j50_1), .val (.int j65_1), .val (.ref r5), .val (.ref j105_1), .unset, .unset, .unset, .unset, .unset, .unset]) rfl k) ?_
            obtain ⟨T8, h8, X8, e8, E8, A8, D8, -, st8⟩ := newO XJ7 hx hZ hown (hw _ (List.mem_of_getElem? (i := 26) rfl)) (hw _ (List.mem_of_getElem? (i := 27) rfl)) (hw _ (List.mem_of_getElem? (i := 28) rfl)) eJ7 (g := (mkF m 107 #[.val (.int x0), .val (.int x1), .val (.int x2), .val (.int x3), .val (.int x4), .val (.int x5), .val (.int j12_1), .val (.int j26_1), .val (.int j50_1), .val (.int j65_1), .val (.ref r5), .val (.ref j105_1), .unset, .unset, .unset, .unset, .unset, .unset] [])) rfl (hb hby at_107) (by decide) (by decide)
            obtain ⟨b8, g8⟩ : ∃ z, z = hJ7.size := ⟨_, rfl⟩
            rw [← g8] at A8 D8 st8
            have ge8 : n0 ≤ b8 := by rw [g8]; exact zJ7
            have hge8 : h0.size ≤ b8 := by rw [g8]; exact kJ7.1
            have ne8_1 : r5 ≠ b8 := by rw [g8]; exact Nat.ne_of_lt fJ7_1.lt
            have f9 : Sta Z h8 "java/lang/String" "COMPACT_STRINGS" "Z" (.int cs) := fJ7_0.ext E8
            have f10 : Exa Z h8 r5 "java/lang/String" := fJ7_1.ext E8
            have K8 : Keep h0 h8 [] := kJ7.ext E8
            have Zs8 : n0 ≤ h8.size := Nat.le_trans Z0 K8.1
            have f11 : Fld Z h8 b8 "sundrywick/calendar/LocalTimeType" "offset" "I" (.int (0 : Int32)) := D8 (Or.inr (hw _ (List.mem_of_getElem? (i := 39) rfl))) (ty := .int) (by decide)
            have f12 : Fld Z h8 b8 "sundrywick/calendar/LocalTimeType" "daylight" "Z" (.int (0 : Int32)) := D8 (Or.inr (hw _ (List.mem_of_getElem? (i := 41) rfl))) (ty := .boolean) (by decide)
            have f13 : Fld Z h8 b8 "sundrywick/calendar/LocalTimeType" "abbreviation" "Ljava/lang/String;" .null := D8 (Or.inr (hw _ (List.mem_of_getElem? (i := 43) rfl))) (ty := (.object "java/lang/String")) (by decide)
            have f14 : Fld Z h8 b8 "sundrywick/calendar/LocalTimeType" "standardOffset" "I" (.int (0 : Int32)) := D8 (Or.inr (hw _ (List.mem_of_getElem? (i := 45) rfl))) (ty := .int) (by decide)
            refine own_st (T' := T8) (F' := (mkF m 110 #[.val (.int x0), .val (.int x1), .val (.int x2), .val (.int x3), .val (.int x4), .val (.int x5), .val (.int j12_1), .val (.int j26_1), .val (.int j50_1), .val (.int j65_1), .val (.ref r5), .val (.ref j105_1), .unset, .unset, .unset, .unset, .unset, .unset] [(.ref b8)])) (fun _ k => st8 _ k) ?_
            refine own_st (T' := T8) (F' := (mkF m 111 #[.val (.int x0), .val (.int x1), .val (.int x2), .val (.int x3), .val (.int x4), .val (.int x5), .val (.int j12_1), .val (.int j26_1), .val (.int j50_1), .val (.int j65_1), .val (.ref r5), .val (.ref j105_1), .unset, .unset, .unset, .unset, .unset, .unset] [(.ref b8), (.ref b8)])) (fun _ k => XS.dup X8.here hx rfl (hb hby at_110) rfl rfl k) ?_
            refine own_st (T' := T8) (F' := (mkF m 112 #[.val (.int x0), .val (.int x1), .val (.int x2), .val (.int x3), .val (.int x4), .val (.int x5), .val (.int j12_1), .val (.int j26_1), .val (.int j50_1), .val (.int j65_1), .val (.ref r5), .val (.ref j105_1), .unset, .unset, .unset, .unset, .unset, .unset] [(.int x0), (.ref b8), (.ref b8)])) (fun _ k => XS.iloadN X8.here hx rfl (hb hby at_111) rfl  k) ?_
            refine own_st (T' := T8) (F' := (mkF m 114 #[.val (.int x0), .val (.int x1), .val (.int x2), .val (.int x3), .val (.int x4), .val (.int x5), .val (.int j12_1), .val (.int j26_1), .val (.int j50_1), .val (.int j65_1), .val (.ref r5), .val (.ref j105_1), .unset, .unset, .unset, .unset, .unset, .unset] [(.int j12_1), (.int x0), (.ref b8), (.ref b8)])) (fun _ k => XS.iload X8.here hx rfl (hb hby at_112) rfl  k) ?_
            refine own_st (T' := T8) (F' := (mkF m 116 #[.val (.int x0), .val (.int x1), .val (.int x2), .val (.int x3), .val (.int x4), .val (.int x5), .val (.int j12_1), .val (.int j26_1), .val (.int j50_1), .val (.int j65_1), .val (.ref r5), .val (.ref j105_1), .unset, .unset, .unset, .unset, .unset, .unset] [(.ref r5), (.int j12_1), (.int x0), (.ref b8), (.ref b8)])) (fun _ k => XS.aload X8.here hx rfl (hb hby at_114) rfl rfl k) ?_
            refine own_st (T' := T8) (F' := (mkF m 117 #[.val (.int x0), .val (.int x1), .val (.int x2), .val (.int x3), .val (.int x4), .val (.int x5), .val (.int j12_1), .val (.int j26_1), .val (.int j50_1), .val (.int j65_1), .val (.ref r5), .val (.ref j105_1), .unset, .unset, .unset, .unset, .unset, .unset] [(.int x1), (.ref r5), (.int j12_1), (.int x0), (.ref b8), (.ref b8)])) (fun _ k => XS.iloadN X8.here hx rfl (hb hby at_116) rfl  k) ?_
            obtain ⟨_, _, ⟨T15, L15, k15, n15⟩, -, X15, ⟨Lc15, hQ15, l15, y15, z15⟩, st15⟩ := X8.specialBack hx (y := (⟨"sundrywick/calendar/LocalTimeType", "<init>", "(IZLjava/lang/String;I)V"⟩ : MethodName)) rfl hown (mvT hZ (hw _ (List.mem_of_getElem? (i := 29) rfl))) (mvT hZ (hw _ (List.mem_of_getElem? (i := 30) rfl))) (mvT hZ (hw _ (List.mem_of_getElem? (i := 31) rfl))) (by decide) (backOf (W := 1) (rm6 l Z a0 hw [] b8 x0 j12_1 r5 x1 (.int (0 : Int32)) (.int (0 : Int32)) (.null) (.int (0 : Int32)) h8 n0 Zs8 ge8 A8 f11 f12 f13 f14) hZ (hw _ (List.mem_of_getElem? (i := 31) rfl)) (hw _ (List.mem_of_getElem? (i := 28) rfl)) (by decide) (by decide)) (g := (mkF m 117 #[.val (.int x0), .val (.int x1), .val (.int x2), .val (.int x3), .val (.int x4), .val (.int x5), .val (.int j12_1), .val (.int j26_1), .val (.int j50_1), .val (.int j65_1), .val (.ref r5), .val (.ref j105_1), .unset, .unset, .unset, .unset, .unset, .unset] [(.int x1), (.ref r5), (.int j12_1), (.int x0), (.ref b8), (.ref b8)])) rfl (by rw [hml]; rfl) (Steps.refl _) (a := b8) (argsL := [(.int x0), (.int j12_1), (.ref r5), (.int x1)]) (rest := [(.ref b8)]) (lenOf own_pd5 rfl) rfl (by show 2 * 0 + _ ≤ _; exact Nat.le_of_eq rfl) (hb hby at_117) (fun _ _ => ⟨rfl, e8, (by decide : 5 + 0 ≤ _), (by decide : 14 + 0 ≤ _)⟩)
            dsimp only [Pt.U, Pt.locs, Pt.cells, Pt.slots] at X15 l15 y15 z15 st15 hQ15
            subst l15 y15 z15
            obtain ⟨rfl, Nq15, g15_0, g15_1, g15_2, g15_3, g15_4, g15_5⟩ := hQ15
            have N15 := Fr.app NJ7 Nq15
            have f16 : Sta Z T15.heap "java/lang/String" "COMPACT_STRINGS" "Z" (.int cs) := own_stk f9 g15_0 (allS (own_npE A8) all0)
            have f17 : Exa Z T15.heap r5 "java/lang/String" := f10.keep g15_0
            have K15 : Keep h0 T15.heap [] := K8.trans g15_0 (allS (Or.inr hge8) all0)
            have Zs15 : n0 ≤ T15.heap.size := Nat.le_trans Z0 K15.1
            refine own_tr (T' := T15) (F' := (mkF m 120 #[.val (.int x0), .val (.int x1), .val (.int x2), .val (.int x3), .val (.int x4), .val (.int x5), .val (.int j12_1), .val (.int j26_1), .val (.int j50_1), .val (.int j65_1), .val (.ref r5), .val (.ref j105_1), .unset, .unset, .unset, .unset, .unset, .unset] [(.ref b8)])) st15 ?_
            refine own_st (T' := T15) (F' := (mkF m 122 #[.val (.int x0), .val (.int x1), .val (.int x2), .val (.int x3), .val (.int x4), .val (.int x5), .val (.int j12_1), .val (.int j26_1), .val (.int j50_1), .val (.int j65_1), .val (.ref r5), .val (.ref j105_1), .val (.ref b8), .unset, .unset, .unset, .unset, .unset] [])) (fun _ k => XS.astore X15.here hx rfl (hb hby at_120) rfl rfl (l' := #[.val (.int x0), .val (.int x1), .val (.int x2), .val (.int x3), .val (.int x4), .val (.int x5), .val (.int j12_1), .val (.int j26_1), .val (.int j50_1), .val (.int j65_1), .val (.ref r5), .val (.ref j105_1), .val (.ref b8), .unset, .unset, .unset, .unset, .unset]) rfl k) ?_
            obtain ⟨T18, h18, X18, e18, E18, A18, D18, -, st18⟩ := newO X15 hx hZ hown (hw _ (List.mem_of_getElem? (i := 26) rfl)) (hw _ (List.mem_of_getElem? (i := 27) rfl)) (hw _ (List.mem_of_getElem? (i := 28) rfl)) rfl (g := (mkF m 122 #[.val (.int x0), .val (.int x1), .val (.int x2), .val (.int x3), .val (.int x4), .val (.int x5), .val (.int j12_1), .val (.int j26_1), .val (.int j50_1), .val (.int j65_1), .val (.ref r5), .val (.ref j105_1), .val (.ref b8), .unset, .unset, .unset, .unset, .unset] [])) rfl (hb hby at_122) (by decide) (by decide)
            obtain ⟨b18, g18⟩ : ∃ z, z = T15.heap.size := ⟨_, rfl⟩
            rw [← g18] at A18 D18 st18
            have ge18 : n0 ≤ b18 := by rw [g18]; exact Zs15
            have hge18 : h0.size ≤ b18 := by rw [g18]; exact K15.1
            have ne18_1 : r5 ≠ b18 := by rw [g18]; exact Nat.ne_of_lt f17.lt
            have ne18_2 : b8 ≠ b18 := by rw [g18]; exact Nat.ne_of_lt g15_1.lt
            have f19 : Sta Z h18 "java/lang/String" "COMPACT_STRINGS" "Z" (.int cs) := f16.ext E18
            have f20 : Exa Z h18 r5 "java/lang/String" := f17.ext E18
            have f21 : Exa Z h18 b8 "sundrywick/calendar/LocalTimeType" := g15_1.ext E18
            have f22 : Fld Z h18 b8 "sundrywick/calendar/LocalTimeType" "offset" "I" (.int x0) := g15_2.ext E18
            have f23 : Fld Z h18 b8 "sundrywick/calendar/LocalTimeType" "daylight" "Z" (.int (nar .boolean j12_1)) := g15_3.ext E18
            have f24 : Fld Z h18 b8 "sundrywick/calendar/LocalTimeType" "abbreviation" "Ljava/lang/String;" (.ref r5) := g15_4.ext E18
            have f25 : Fld Z h18 b8 "sundrywick/calendar/LocalTimeType" "standardOffset" "I" (.int x1) := g15_5.ext E18
            have K18 : Keep h0 h18 [] := K15.ext E18
            have Zs18 : n0 ≤ h18.size := Nat.le_trans Z0 K18.1
            have f26 : Fld Z h18 b18 "sundrywick/calendar/LocalTimeType" "offset" "I" (.int (0 : Int32)) := D18 (Or.inr (hw _ (List.mem_of_getElem? (i := 39) rfl))) (ty := .int) (by decide)
            have f27 : Fld Z h18 b18 "sundrywick/calendar/LocalTimeType" "daylight" "Z" (.int (0 : Int32)) := D18 (Or.inr (hw _ (List.mem_of_getElem? (i := 41) rfl))) (ty := .boolean) (by decide)
            have f28 : Fld Z h18 b18 "sundrywick/calendar/LocalTimeType" "abbreviation" "Ljava/lang/String;" .null := D18 (Or.inr (hw _ (List.mem_of_getElem? (i := 43) rfl))) (ty := (.object "java/lang/String")) (by decide)
            have f29 : Fld Z h18 b18 "sundrywick/calendar/LocalTimeType" "standardOffset" "I" (.int (0 : Int32)) := D18 (Or.inr (hw _ (List.mem_of_getElem? (i := 45) rfl))) (ty := .int) (by decide)
            refine own_st (T' := T18) (F' := (mkF m 125 #[.val (.int x0), .val (.int x1), .val (.int x2), .val (.int x3), .val (.int x4), .val (.int x5), .val (.int j12_1), .val (.int j26_1), .val (.int j50_1), .val (.int j65_1), .val (.ref r5), .val (.ref j105_1), .val (.ref b8), .unset, .unset, .unset, .unset, .unset] [(.ref b18)])) (fun _ k => st18 _ k) ?_
            refine own_st (T' := T18) (F' := (mkF m 126 #[.val (.int x0), .val (.int x1), .val (.int x2), .val (.int x3), .val (.int x4), .val (.int x5), .val (.int j12_1), .val (.int j26_1), .val (.int j50_1), .val (.int j65_1), .val (.ref r5), .val (.ref j105_1), .val (.ref b8), .unset, .unset, .unset, .unset, .unset] [(.ref b18), (.ref b18)])) (fun _ k => XS.dup X18.here hx rfl (hb hby at_125) rfl rfl k) ?_
            refine own_st (T' := T18) (F' := (mkF m 128 #[.val (.int x0), .val (.int x1), .val (.int x2), .val (.int x3), .val (.int x4), .val (.int x5), .val (.int j12_1), .val (.int j26_1), .val (.int j50_1), .val (.int j65_1), .val (.ref r5), .val (.ref j105_1), .val (.ref b8), .unset, .unset, .unset, .unset, .unset] [(.int j26_1), (.ref b18), (.ref b18)])) (fun _ k => XS.iload X18.here hx rfl (hb hby at_126) rfl  k) ?_
            refine own_st (T' := T18) (F' := (mkF m 130 #[.val (.int x0), .val (.int x1), .val (.int x2), .val (.int x3), .val (.int x4), .val (.int x5), .val (.int j12_1), .val (.int j26_1), .val (.int j50_1), .val (.int j65_1), .val (.ref r5), .val (.ref j105_1), .val (.ref b8), .unset, .unset, .unset, .unset, .unset] [(.int j50_1), (.int j26_1), (.ref b18), (.ref b18)])) (fun _ k => XS.iload X18.here hx rfl (hb hby at_128) rfl  k) ?_
            refine own_st (T' := T18) (F' := (mkF m 132 #[.val (.int x0), .val (.int x1), .val (.int x2), .val (.int x3), .val (.int x4), .val (.int x5), .val (.int j12_1), .val (.int j26_1), .val (.int j50_1), .val (.int j65_1), .val (.ref r5), .val (.ref j105_1), .val (.ref b8), .unset, .unset, .unset, .unset, .unset] [(.ref j105_1), (.int j50_1), (.int j26_1), (.ref b18), (.ref b18)])) (fun _ k => XS.aload X18.here hx rfl (hb hby at_130) rfl rfl k) ?_
            refine own_st (T' := T18) (F' := (mkF m 134 #[.val (.int x0), .val (.int x1), .val (.int x2), .val (.int x3), .val (.int x4), .val (.int x5), .val (.int j12_1), .val (.int j26_1), .val (.int j50_1), .val (.int j65_1), .val (.ref r5), .val (.ref j105_1), .val (.ref b8), .unset, .unset, .unset, .unset, .unset] [(.int j65_1), (.ref j105_1), (.int j50_1), (.int j26_1), (.ref b18), (.ref b18)])) (fun _ k => XS.iload X18.here hx rfl (hb hby at_132) rfl  k) ?_
            obtain ⟨_, _, ⟨T30, L30, k30, n30⟩, -, X30, ⟨Lc30, hQ30, l30, y30, z30⟩, st30⟩ := X18.specialBack hx (y := (⟨"sundrywick/calendar/LocalTimeType", "<init>", "(IZLjava/lang/String;I)V"⟩ : MethodName)) rfl hown (mvT hZ (hw _ (List.mem_of_getElem? (i := 29) rfl))) (mvT hZ (hw _ (List.mem_of_getElem? (i := 30) rfl))) (mvT hZ (hw _ (List.mem_of_getElem? (i := 31) rfl))) (by decide) (backOf (W := 1) (rm6 l Z a0 hw [] b18 j26_1 j50_1 j105_1 j65_1 (.int (0 : Int32)) (.int (0 : Int32)) (.null) (.int (0 : Int32)) h18 n0 Zs18 ge18 A18 f26 f27 f28 f29) hZ (hw _ (List.mem_of_getElem? (i := 31) rfl)) (hw _ (List.mem_of_getElem? (i := 28) rfl)) (by decide) (by decide)) (g := (mkF m 134 #[.val (.int x0), .val (.int x1), .val (.int x2), .val (.int x3), .val (.int x4), .val (.int x5), .val (.int j12_1), .val (.int j26_1), .val (.int j50_1), .val (.int j65_1), .val (.ref r5), .val (.ref j105_1), .val (.ref b8), .unset, .unset, .unset, .unset, .unset] [(.int j65_1), (.ref j105_1), (.int j50_1), (.int j26_1), (.ref b18), (.ref b18)])) rfl (by rw [hml]; rfl) (Steps.refl _) (a := b18) (argsL := [(.int j26_1), (.int j50_1), (.ref j105_1), (.int j65_1)]) (rest := [(.ref b18)]) (lenOf own_pd5 rfl) rfl (by show 2 * 0 + _ ≤ _; exact Nat.le_of_eq rfl) (hb hby at_134) (fun _ _ => ⟨rfl, e18, (by decide : 6 + 0 ≤ _), (by decide : 18 + 0 ≤ _)⟩)
            dsimp only [Pt.U, Pt.locs, Pt.cells, Pt.slots] at X30 l30 y30 z30 st30 hQ30
            subst l30 y30 z30
            obtain ⟨rfl, Nq30, g30_0, g30_1, g30_2, g30_3, g30_4, g30_5⟩ := hQ30
            have N30 := Fr.app N15 Nq30
            have f31 : Sta Z T30.heap "java/lang/String" "COMPACT_STRINGS" "Z" (.int cs) := own_stk f19 g30_0 (allS (own_npE A18) all0)
            have f32 : Exa Z T30.heap r5 "java/lang/String" := f20.keep g30_0
            have f33 : Exa Z T30.heap b8 "sundrywick/calendar/LocalTimeType" := f21.keep g30_0
            have f34 : Fld Z T30.heap b8 "sundrywick/calendar/LocalTimeType" "offset" "I" (.int x0) := f22.keep g30_0 (ninS ne18_2 nin0)
            have f35 : Fld Z T30.heap b8 "sundrywick/calendar/LocalTimeType" "daylight" "Z" (.int (nar .boolean j12_1)) := f23.keep g30_0 (ninS ne18_2 nin0)
            have f36 : Fld Z T30.heap b8 "sundrywick/calendar/LocalTimeType" "abbreviation" "Ljava/lang/String;" (.ref r5) := f24.keep g30_0 (ninS ne18_2 nin0)
            have f37 : Fld Z T30.heap b8 "sundrywick/calendar/LocalTimeType" "standardOffset" "I" (.int x1) := f25.keep g30_0 (ninS ne18_2 nin0)
            have K30 : Keep h0 T30.heap [] := K18.trans g30_0 (allS (Or.inr hge18) all0)
            have Zs30 : n0 ≤ T30.heap.size := Nat.le_trans Z0 K30.1
            refine own_tr (T' := T30) (F' := (mkF m 137 #[.val (.int x0), .val (.int x1), .val (.int x2), .val (.int x3), .val (.int x4), .val (.int x5), .val (.int j12_1), .val (.int j26_1), .val (.int j50_1), .val (.int j65_1), .val (.ref r5), .val (.ref j105_1), .val (.ref b8), .unset, .unset, .unset, .unset, .unset] [(.ref b18)])) st30 ?_
            refine own_st (T' := T30) (F' := (mkF m 139 #[.val (.int x0), .val (.int x1), .val (.int x2), .val (.int x3), .val (.int x4), .val (.int x5), .val (.int j12_1), .val (.int j26_1), .val (.int j50_1), .val (.int j65_1), .val (.ref r5), .val (.ref j105_1), .val (.ref b8), .val (.ref b18), .unset, .unset, .unset, .unset] [])) (fun _ k => XS.astore X30.here hx rfl (hb hby at_137) rfl rfl (l' := #[.val (.int x0), .val (.int x1), .val (.int x2), .val (.int x3), .val (.int x4), .val (.int x5), .val (.int j12_1), .val (.int j26_1), .val (.int j50_1), .val (.int j65_1), .val (.ref r5), .val (.ref j105_1), .val (.ref b8), .val (.ref b18), .unset, .unset, .unset, .unset]) rfl k) ?_
            refine own_st (T' := T30) (F' := (mkF m 141 #[.val (.int x0), .val (.int x1), .val (.int x2), .val (.int x3), .val (.int x4), .val (.int x5), .val (.int j12_1), .val (.int j26_1), .val (.int j50_1), .val (.int j65_1), .val (.ref r5), .val (.ref j105_1), .val (.ref b8), .val (.ref b18), .unset, .unset, .unset, .unset] [(.int x4)])) (fun _ k => XS.iload X30.here hx rfl (hb hby at_139) rfl  k) ?_
            refine own_st (T' := T30) (F' := (mkF m 142 #[.val (.int x0), .val (.int x1), .val (.int x2), .val (.int x3), .val (.int x4), .val (.int x5), .val (.int j12_1), .val (.int j26_1), .val (.int j50_1), .val (.int j65_1), .val (.ref r5), .val (.ref j105_1), .val (.ref b8), .val (.ref b18), .unset, .unset, .unset, .unset] [(.int (2 : Int32)), (.int x4)])) (fun _ k => XS.iconst X30.here hx rfl (hb hby at_141) k) ?_
            refine own_st (T' := T30) (F' := (mkF m 143 #[.val (.int x0), .val (.int x1), .val (.int x2), .val (.int x3), .val (.int x4), .val (.int x5), .val (.int j12_1), .val (.int j26_1), .val (.int j50_1), .val (.int j65_1), .val (.ref r5), .val (.ref j105_1), .val (.ref b8), .val (.ref b18), .unset, .unset, .unset, .unset] [(.int (x4 &&& (2 : Int32)))])) (fun _ k => XS.iand X30.here hx rfl (hb hby at_142) rfl k) ?_
            have J176_38 : ∀ (j176_1 : Int32), (((¬ ((x4 &&& (2 : Int32)) = (0 : Int32))) ∧ ((x4 &&& (4 : Int32)) = (0 : Int32)) ∧ j176_1 = (0 : Int32)) ∨ ((¬ ((x4 &&& (2 : Int32)) = (0 : Int32))) ∧ (¬ ((x4 &&& (4 : Int32)) = (0 : Int32))) ∧ (¬ ((x4 &&& (8 : Int32)) = (0 : Int32))) ∧ j176_1 = (1 : Int32)) ∨ ((¬ ((x4 &&& (2 : Int32)) = (0 : Int32))) ∧ (¬ ((x4 &&& (4 : Int32)) = (0 : Int32))) ∧ ((x4 &&& (8 : Int32)) = (0 : Int32)) ∧ (¬ (x3 = x1)) ∧ j176_1 = (0 : Int32)) ∨ ((¬ ((x4 &&& (2 : Int32)) = (0 : Int32))) ∧ (¬ ((x4 &&& (4 : Int32)) = (0 : Int32))) ∧ ((x4 &&& (8 : Int32)) = (0 : Int32)) ∧ (x3 = x1) ∧ j176_1 = (1 : Int32)) ∨ (((x4 &&& (2 : Int32)) = (0 : Int32)) ∧ (¬ (x2 = x0)) ∧ j176_1 = (0 : Int32)) ∨ (((x4 &&& (2 : Int32)) = (0 : Int32)) ∧ (x2 = x0) ∧ ((x4 &&& (4 : Int32)) = (0 : Int32)) ∧ j176_1 = (0 : Int32)) ∨ (((x4 &&& (2 : Int32)) = (0 : Int32)) ∧ (x2 = x0) ∧ (¬ ((x4 &&& (4 : Int32)) = (0 : Int32))) ∧ (¬ ((x4 &&& (8 : Int32)) = (0 : Int32))) ∧ j176_1 = (1 : Int32)) ∨ (((x4 &&& (2 : Int32)) = (0 : Int32)) ∧ (x2 = x0) ∧ (¬ ((x4 &&& (4 : Int32)) = (0 : Int32))) ∧ ((x4 &&& (8 : Int32)) = (0 : Int32)) ∧ (¬ (x3 = x1)) ∧ j176_1 = (0 : Int32)) ∨ (((x4 &&& (2 : Int32)) = (0 : Int32)) ∧ (x2 = x0) ∧ (¬ ((x4 &&& (4 : Int32)) = (0 : Int32))) ∧ ((x4 &&& (8 : Int32)) = (0 : Int32)) ∧ (x3 = x1) ∧ j176_1 = (1 : Int32))) → own_Go p e below s (Q0 Z x0 x1 x2 x3 x4 x5 cs h0 n0) room_1.cells room_1.slots T30 (mkF m 176 #[.val (.int x0), .val (.int x1), .val (.int x2), .val (.int x3), .val (.int x4), .val (.int x5), .val (.int j12_1), .val (.int j26_1), .val (.int j50_1), .val (.int j65_1), .val (.ref r5), .val (.ref j105_1), .val (.ref b8), .val (.ref b18), .unset, .unset, .unset, .unset] [(.int j176_1)]) := by
              intro j176_1 hJ176_38
              refine own_st (T' := T30) (F' := (mkF m 178 #[.val (.int x0), .val (.int x1), .val (.int x2), .val (.int x3), .val (.int x4), .val (.int x5), .val (.int j12_1), .val (.int j26_1), .val (.int j50_1), .val (.int j65_1), .val (.ref r5), .val (.ref j105_1), .val (.ref b8), .val (.ref b18), .val (.int j176_1), .unset, .unset, .unset] [])) (fun _ k => XS.istore X30.here hx rfl (hb hby at_176) rfl (l' := #[.val (.int x0), .val (.int x1), .val (.int x2), .val (.int x3), .val (.int x4), .val (.int x5), .val (.int j12_1), .val (.int j26_1), .val (.int j50_1), .val (.int j65_1), .val (.ref r5), .val (.ref j105_1), .val (.ref b8), .val (.ref b18), .val (.int j176_1), .unset, .unset, .unset]) rfl k) ?_
              refine own_st (T' := T30) (F' := (mkF m 180 #[.val (.int x0), .val (.int x1), .val (.int x2), .val (.int x3), .val (.int x4), .val (.int x5), .val (.int j12_1), .val (.int j26_1), .val (.int j50_1), .val (.int j65_1), .val (.ref r5), .val (.ref j105_1), .val (.ref b8), .val (.ref b18), .val (.int j176_1), .unset, .unset, .unset] [(.ref b8)])) (fun _ k => XS.aload X30.here hx rfl (hb hby at_178) rfl rfl k) ?_
              refine own_st (T' := T30) (F' := (mkF m 182 #[.val (.int x0), .val (.int x1), .val (.int x2), .val (.int x3), .val (.int x4), .val (.int x5), .val (.int j12_1), .val (.int j26_1), .val (.int j50_1), .val (.int j65_1), .val (.ref r5), .val (.ref j105_1), .val (.ref b8), .val (.ref b18), .val (.int j176_1), .unset, .unset, .unset] [(.ref b18), (.ref b8)])) (fun _ k => XS.aload X30.here hx rfl (hb hby at_180) rfl rfl k) ?_
              obtain ⟨cq39, kq39, q39a, q39b, q39c⟩ := isOf hZ rfl f33
              obtain ⟨_, _, ⟨T39, L39, k39, n39⟩, -, X39, ⟨Lc39, hQ39, l39, y39, z39⟩, st39⟩ := X30.virtualBack hx (y := (⟨"sundrywick/calendar/LocalTimeType", "sameClock", "(Lsundrywick/calendar/LocalTimeType;)Z"⟩ : MethodName)) (z := (⟨"sundrywick/calendar/LocalTimeType", "sameClock", "(Lsundrywick/calendar/LocalTimeType;)Z"⟩ : MethodName)) hown (mvT hZ (hw _ (List.mem_of_getElem? (i := 46) rfl))) (mvT hZ (hw _ (List.mem_of_getElem? (i := 47) rfl))) (notFace_of_selects (args := #[]) (mvT hZ (hw _ (List.mem_of_getElem? (i := 49) rfl)))) (mvT hZ (hw _ (List.mem_of_getElem? (i := 49) rfl))) (mvT hZ (hw _ (List.mem_of_getElem? (i := 48) rfl))) (by decide) (backOf (W := 0) (rm8 l Z a0 hw [] b8 b18 x0 (nar .boolean j12_1) x1 j26_1 (nar .boolean j50_1) j65_1 T30.heap n0 Zs30 f34 f35 f37 g30_2 g30_3 g30_5) hZ (hw _ (List.mem_of_getElem? (i := 50) rfl)) (hw _ (List.mem_of_getElem? (i := 28) rfl)) (by decide) (by decide)) q39a q39c (g := (mkF m 182 #[.val (.int x0), .val (.int x1), .val (.int x2), .val (.int x3), .val (.int x4), .val (.int x5), .val (.int j12_1), .val (.int j26_1), .val (.int j50_1), .val (.int j65_1), .val (.ref r5), .val (.ref j105_1), .val (.ref b8), .val (.ref b18), .val (.int j176_1), .unset, .unset, .unset] [(.ref b18), (.ref b8)])) rfl (by rw [hml]; rfl) (Steps.refl _) (argsL := [(.ref b18)]) (rest := []) (lenOf own_pd6 rfl) rfl (by show 2 * 0 + _ ≤ _; exact Nat.le_of_eq rfl) (hb hby at_182) (fun _ _ => ⟨rfl, rfl, (by decide : 6 + 0 ≤ _), (by decide : 18 + 0 ≤ _)⟩)
              dsimp only [Pt.U, Pt.locs, Pt.cells, Pt.slots] at X39 l39 y39 z39 st39 hQ39
              subst l39 y39 z39
              obtain ⟨⟨r39, rfl, hr39⟩, Nq39, eq39⟩ := hQ39
              have N39 := Fr.app N30 Nq39
              refine own_tr (T' := T39) (F' := (mkF m 185 #[.val (.int x0), .val (.int x1), .val (.int x2), .val (.int x3), .val (.int x4), .val (.int x5), .val (.int j12_1), .val (.int j26_1), .val (.int j50_1), .val (.int j65_1), .val (.ref r5), .val (.ref j105_1), .val (.ref b8), .val (.ref b18), .val (.int j176_1), .unset, .unset, .unset] [(.int r39)])) st39 ?_
              refine own_st (T' := T39) (F' := (mkF m 187 #[.val (.int x0), .val (.int x1), .val (.int x2), .val (.int x3), .val (.int x4), .val (.int x5), .val (.int j12_1), .val (.int j26_1), .val (.int j50_1), .val (.int j65_1), .val (.ref r5), .val (.ref j105_1), .val (.ref b8), .val (.ref b18), .val (.int j176_1), .val (.int r39), .unset, .unset] [])) (fun _ k => XS.istore X39.here hx rfl (hb hby at_185) rfl (l' := #[.val (.int x0), .val (.int x1), .val (.int x2), .val (.int x3), .val (.int x4), .val (.int x5), .val (.int j12_1), .val (.int j26_1), .val (.int j50_1), .val (.int j65_1), .val (.ref r5), .val (.ref j105_1), .val (.ref b8), .val (.ref b18), .val (.int j176_1), .val (.int r39), .unset, .unset]) rfl k) ?_
              refine own_st (T' := T39) (F' := (mkF m 189 #[.val (.int x0), .val (.int x1), .val (.int x2), .val (.int x3), .val (.int x4), .val (.int x5), .val (.int j12_1), .val (.int j26_1), .val (.int j50_1), .val (.int j65_1), .val (.ref r5), .val (.ref j105_1), .val (.ref b8), .val (.ref b18), .val (.int j176_1), .val (.int r39), .unset, .unset] [(.ref b18)])) (fun _ k => XS.aload X39.here hx rfl (hb hby at_187) rfl rfl k) ?_
              refine own_st (T' := T39) (F' := (mkF m 191 #[.val (.int x0), .val (.int x1), .val (.int x2), .val (.int x3), .val (.int x4), .val (.int x5), .val (.int j12_1), .val (.int j26_1), .val (.int j50_1), .val (.int j65_1), .val (.ref r5), .val (.ref j105_1), .val (.ref b8), .val (.ref b18), .val (.int j176_1), .val (.int r39), .unset, .unset] [(.ref b8), (.ref b18)])) (fun _ k => XS.aload X39.here hx rfl (hb hby at_189) rfl rfl k) ?_
              obtain ⟨cq40, kq40, q40a, q40b, q40c⟩ := isOf hZ eq39 g30_1
              obtain ⟨_, _, ⟨T40, L40, k40, n40⟩, -, X40, ⟨Lc40, hQ40, l40, y40, z40⟩, st40⟩ := X39.virtualBack hx (y := (⟨"sundrywick/calendar/LocalTimeType", "sameClock", "(Lsundrywick/calendar/LocalTimeType;)Z"⟩ : MethodName)) (z := (⟨"sundrywick/calendar/LocalTimeType", "sameClock", "(Lsundrywick/calendar/LocalTimeType;)Z"⟩ : MethodName)) hown (mvT hZ (hw _ (List.mem_of_getElem? (i := 46) rfl))) (mvT hZ (hw _ (List.mem_of_getElem? (i := 47) rfl))) (notFace_of_selects (args := #[]) (mvT hZ (hw _ (List.mem_of_getElem? (i := 49) rfl)))) (mvT hZ (hw _ (List.mem_of_getElem? (i := 49) rfl))) (mvT hZ (hw _ (List.mem_of_getElem? (i := 48) rfl))) (by decide) (backOf (W := 0) (rm8 l Z a0 hw [] b18 b8 j26_1 (nar .boolean j50_1) j65_1 x0 (nar .boolean j12_1) x1 T30.heap n0 Zs30 g30_2 g30_3 g30_5 f34 f35 f37) hZ (hw _ (List.mem_of_getElem? (i := 50) rfl)) (hw _ (List.mem_of_getElem? (i := 28) rfl)) (by decide) (by decide)) q40a q40c (g := (mkF m 191 #[.val (.int x0), .val (.int x1), .val (.int x2), .val (.int x3), .val (.int x4), .val (.int x5), .val (.int j12_1), .val (.int j26_1), .val (.int j50_1), .val (.int j65_1), .val (.ref r5), .val (.ref j105_1), .val (.ref b8), .val (.ref b18), .val (.int j176_1), .val (.int r39), .unset, .unset] [(.ref b8), (.ref b18)])) rfl (by rw [hml]; rfl) (Steps.refl _) (argsL := [(.ref b8)]) (rest := []) (lenOf own_pd6 rfl) rfl (by show 2 * 0 + _ ≤ _; exact Nat.le_of_eq rfl) (hb hby at_191) (fun _ _ => ⟨rfl, eq39, (by decide : 6 + 0 ≤ _), (by decide : 18 + 0 ≤ _)⟩)
              dsimp only [Pt.U, Pt.locs, Pt.cells, Pt.slots] at X40 l40 y40 z40 st40 hQ40
              subst l40 y40 z40
              obtain ⟨⟨r40, rfl, hr40⟩, Nq40, eq40⟩ := hQ40
              have N40 := Fr.app N39 Nq40
              refine own_tr (T' := T40) (F' := (mkF m 194 #[.val (.int x0), .val (.int x1), .val (.int x2), .val (.int x3), .val (.int x4), .val (.int x5), .val (.int j12_1), .val (.int j26_1), .val (.int j50_1), .val (.int j65_1), .val (.ref r5), .val (.ref j105_1), .val (.ref b8), .val (.ref b18), .val (.int j176_1), .val (.int r39), .unset, .unset] [(.int r40)])) st40 ?_
              refine own_st (T' := T40) (F' := (mkF m 196 #[.val (.int x0), .val (.int x1), .val (.int x2), .val (.int x3), .val (.int x4), .val (.int x5), .val (.int j12_1), .val (.int j26_1), .val (.int j50_1), .val (.int j65_1), .val (.ref r5), .val (.ref j105_1), .val (.ref b8), .val (.ref b18), .val (.int j176_1), .val (.int r39), .val (.int r40), .unset] [])) (fun _ k => XS.istore X40.here hx rfl (hb hby at_194) rfl (l' := #[.val (.int x0), .val (.int x1), .val (.int x2), .val (.int x3), .val (.int x4), .val (.int x5), .val (.int j12_1), .val (.int j26_1), .val (.int j50_1), .val (.int j65_1), .val (.ref r5), .val (.ref j105_1), .val (.ref b8), .val (.ref b18), .val (.int j176_1), .val (.int r39), .val (.int r40), .unset]) rfl k) ?_
              refine own_st (T' := T40) (F' := (mkF m 198 #[.val (.int x0), .val (.int x1), .val (.int x2), .val (.int x3), .val (.int x4), .val (.int x5), .val (.int j12_1), .val (.int j26_1), .val (.int j50_1), .val (.int j65_1), .val (.ref r5), .val (.ref j105_1), .val (.ref b8), .val (.ref b18), .val (.int j176_1), .val (.int r39), .val (.int r40), .unset] [(.ref b8)])) (fun _ k => XS.aload X40.here hx rfl (hb hby at_196) rfl rfl k) ?_
              refine own_st (T' := T40) (F' := (mkF m 200 #[.val (.int x0), .val (.int x1), .val (.int x2), .val (.int x3), .val (.int x4), .val (.int x5), .val (.int j12_1), .val (.int j26_1), .val (.int j50_1), .val (.int j65_1), .val (.ref r5), .val (.ref j105_1), .val (.ref b8), .val (.ref b18), .val (.int j176_1), .val (.int r39), .val (.int r40), .unset] [(.ref b8), (.ref b8)])) (fun _ k => XS.aload X40.here hx rfl (hb hby at_198) rfl rfl k) ?_
              obtain ⟨cq41, kq41, q41a, q41b, q41c⟩ := isOf hZ eq40 f33
              obtain ⟨_, _, ⟨T41, L41, k41, n41⟩, -, X41, ⟨Lc41, hQ41, l41, y41, z41⟩, st41⟩ := X40.virtualBack hx (y := (⟨"sundrywick/calendar/LocalTimeType", "sameClock", "(Lsundrywick/calendar/LocalTimeType;)Z"⟩ : MethodName)) (z := (⟨"sundrywick/calendar/LocalTimeType", "sameClock", "(Lsundrywick/calendar/LocalTimeType;)Z"⟩ : MethodName)) hown (mvT hZ (hw _ (List.mem_of_getElem? (i := 46) rfl))) (mvT hZ (hw _ (List.mem_of_getElem? (i := 47) rfl))) (notFace_of_selects (args := #[]) (mvT hZ (hw _ (List.mem_of_getElem? (i := 49) rfl)))) (mvT hZ (hw _ (List.mem_of_getElem? (i := 49) rfl))) (mvT hZ (hw _ (List.mem_of_getElem? (i := 48) rfl))) (by decide) (backOf (W := 0) (rm8 l Z a0 hw [] b8 b8 x0 (nar .boolean j12_1) x1 x0 (nar .boolean j12_1) x1 T30.heap n0 Zs30 f34 f35 f37 f34 f35 f37) hZ (hw _ (List.mem_of_getElem? (i := 50) rfl)) (hw _ (List.mem_of_getElem? (i := 28) rfl)) (by decide) (by decide)) q41a q41c (g := (mkF m 200 #[.val (.int x0), .val (.int x1), .val (.int x2), .val (.int x3), .val (.int x4), .val (.int x5), .val (.int j12_1), .val (.int j26_1), .val (.int j50_1), .val (.int j65_1), .val (.ref r5), .val (.ref j105_1), .val (.ref b8), .val (.ref b18), .val (.int j176_1), .val (.int r39), .val (.int r40), .unset] [(.ref b8), (.ref b8)])) rfl (by rw [hml]; rfl) (Steps.refl _) (argsL := [(.ref b8)]) (rest := []) (lenOf own_pd6 rfl) rfl (by show 2 * 0 + _ ≤ _; exact Nat.le_of_eq rfl) (hb hby at_200) (fun _ _ => ⟨rfl, eq40, (by decide : 6 + 0 ≤ _), (by decide : 18 + 0 ≤ _)⟩)
              dsimp only [Pt.U, Pt.locs, Pt.cells, Pt.slots] at X41 l41 y41 z41 st41 hQ41
              subst l41 y41 z41
              obtain ⟨⟨r41, rfl, hr41⟩, Nq41, eq41⟩ := hQ41
              have N41 := Fr.app N40 Nq41
              refine own_tr (T' := T41) (F' := (mkF m 203 #[.val (.int x0), .val (.int x1), .val (.int x2), .val (.int x3), .val (.int x4), .val (.int x5), .val (.int j12_1), .val (.int j26_1), .val (.int j50_1), .val (.int j65_1), .val (.ref r5), .val (.ref j105_1), .val (.ref b8), .val (.ref b18), .val (.int j176_1), .val (.int r39), .val (.int r40), .unset] [(.int r41)])) st41 ?_
              refine own_st (T' := T41) (F' := (mkF m 205 #[.val (.int x0), .val (.int x1), .val (.int x2), .val (.int x3), .val (.int x4), .val (.int x5), .val (.int j12_1), .val (.int j26_1), .val (.int j50_1), .val (.int j65_1), .val (.ref r5), .val (.ref j105_1), .val (.ref b8), .val (.ref b18), .val (.int j176_1), .val (.int r39), .val (.int r40), .val (.int r41)] [])) (fun _ k => XS.istore X41.here hx rfl (hb hby at_203) rfl (l' := #[.val (.int x0), .val (.int x1), .val (.int x2), .val (.int x3), .val (.int x4), .val (.int x5), .val (.int j12_1), .val (.int j26_1), .val (.int j50_1), .val (.int j65_1), .val (.ref r5), .val (.ref j105_1), .val (.ref b8), .val (.ref b18), .val (.int j176_1), .val (.int r39), .val (.int r40), .val (.int r41)]) rfl k) ?_
              refine own_st (T' := T41) (F' := (mkF m 207 #[.val (.int x0), .val (.int x1), .val (.int x2), .val (.int x3), .val (.int x4), .val (.int x5), .val (.int j12_1), .val (.int j26_1), .val (.int j50_1), .val (.int j65_1), .val (.ref r5), .val (.ref j105_1), .val (.ref b8), .val (.ref b18), .val (.int j176_1), .val (.int r39), .val (.int r40), .val (.int r41)] [(.int r39)])) (fun _ k => XS.iload X41.here hx rfl (hb hby at_205) rfl  k) ?_
              refine own_st (T' := T41) (F' := (mkF m 209 #[.val (.int x0), .val (.int x1), .val (.int x2), .val (.int x3), .val (.int x4), .val (.int x5), .val (.int j12_1), .val (.int j26_1), .val (.int j50_1), .val (.int j65_1), .val (.ref r5), .val (.ref j105_1), .val (.ref b8), .val (.ref b18), .val (.int j176_1), .val (.int r39), .val (.int r40), .val (.int r41)] [(.int j176_1), (.int r39)])) (fun _ k => XS.iload X41.here hx rfl (hb hby at_207) rfl  k) ?_
              have J229_42 : ∀ (j229_1 : Int32), (((¬ (r39 = j176_1)) ∧ j229_1 = (0 : Int32)) ∨ ((r39 = j176_1) ∧ (¬ (r40 = j176_1)) ∧ j229_1 = (0 : Int32)) ∨ ((r39 = j176_1) ∧ (r40 = j176_1) ∧ (r41 = (0 : Int32)) ∧ j229_1 = (0 : Int32)) ∨ ((r39 = j176_1) ∧ (r40 = j176_1) ∧ (¬ (r41 = (0 : Int32))) ∧ j229_1 = (1 : Int32))) → own_Go p e below s (Q0 Z x0 x1 x2 x3 x4 x5 cs h0 n0) room_1.cells room_1.slots T41 (mkF m 229 #[.val (.int x0), .val (.int x1), .val (.int x2), .val (.int x3), .val (.int x4), .val (.int x5), .val (.int j12_1), .val (.int j26_1), .val (.int j50_1), .val (.int j65_1), .val (.ref r5), .val (.ref j105_1), .val (.ref b8), .val (.ref b18), .val (.int j176_1), .val (.int r39), .val (.int r40), .val (.int r41)] [(.int j229_1)]) := by
                intro j229_1 hJ229_42
                refine own_retN X41 hx hlk (t := .boolean) Bd.returns (by simp) (hb hby at_229) ?_ (by decide) (by decide)
                rw [eq41]
                refine ⟨⟨_, rfl, ?_⟩, N41⟩
                have e1 : (x0 = j26_1) ↔ (¬ ((x4 &&& (2 : Int32)) = (0 : Int32)) ∨ x2 = x0) := by
                  rcases hJ26_2 with ⟨a, rfl⟩ | ⟨a, rfl⟩ <;> simp [a, eq_comm]
                have e2 : (nar .boolean j12_1 = nar .boolean j50_1) ↔ ¬ ((x4 &&& (4 : Int32)) = (0 : Int32)) := by
                  rcases hJ12_1 with ⟨a, rfl⟩ | ⟨a, rfl⟩ <;> rcases hJ50_3 with ⟨b, c, rfl⟩ | ⟨b, c, rfl⟩ | ⟨b, rfl⟩ <;> simp_all [own_nar0, own_nar1]
                have e3 : (x1 = j65_1) ↔ (¬ ((x4 &&& (8 : Int32)) = (0 : Int32)) ∨ x3 = x1) := by
                  rcases hJ65_4 with ⟨a, rfl⟩ | ⟨a, rfl⟩ <;> simp [a, eq_comm]
                have eE : (j176_1 = 1 ∧ (x0 = j26_1 ∧ nar .boolean j12_1 = nar .boolean j50_1 ∧ x1 = j65_1)) ∨ (j176_1 = 0 ∧ ¬ (x0 = j26_1 ∧ nar .boolean j12_1 = nar .boolean j50_1 ∧ x1 = j65_1)) := by
                  rw [e1, e2, e3]
                  rcases hJ176_38 with h | h | h | h | h | h | h | h | h <;> simp_all
                have a1 : r39 = j176_1 := by
                  rcases hr39 with ⟨q, c⟩ | ⟨q, c⟩ <;> rcases eE with ⟨e, d⟩ | ⟨e, d⟩
                  · rw [q, e]
                  · exact absurd c d
                  · exact absurd d c
                  · rw [q, e]
                have a2 : r40 = j176_1 := by
                  rcases hr40 with ⟨q, c1, c2, c3⟩ | ⟨q, c⟩ <;> rcases eE with ⟨e, d⟩ | ⟨e, d⟩
                  · rw [q, e]
                  · exact absurd ⟨c1.symm, c2.symm, c3.symm⟩ d
                  · exact absurd ⟨d.1.symm, d.2.1.symm, d.2.2.symm⟩ c
                  · rw [q, e]
                have a3 : r41 = 1 := by
                  rcases hr41 with ⟨q, _⟩ | ⟨_, c⟩
                  · exact q
                  · exact absurd ⟨rfl, rfl, rfl⟩ c
                rcases hJ229_42 with ⟨h, _⟩ | ⟨_, h, _⟩ | ⟨_, _, h, _⟩ | ⟨_, _, _, rfl⟩
                · exact absurd a1 h
                · exact absurd a2 h
                · exact absurd (a3.symm.trans h) (by decide)
                · rfl
              refine own_icmp X41 hx (pc' := 228) (pc2 := 212) (hb hby at_209) (by decide) (by decide) rfl (fun (hc209 : ¬ (r39 = j176_1)) => ?_) (fun (hc209 : r39 = j176_1) => ?_)
              ·
                refine own_st (T' := T41) (F' := (mkF m 229 #[.val (.int x0), .val (.int x1), .val (.int x2), .val (.int x3), .val (.int x4), .val (.int x5), .val (.int j12_1), .val (.int j26_1), .val (.int j50_1), .val (.int j65_1), .val (.ref r5), .val (.ref j105_1), .val (.ref b8), .val (.ref b18), .val (.int j176_1), .val (.int r39), .val (.int r40), .val (.int r41)] [(.int (0 : Int32))])) (fun _ k => XS.iconst X41.here hx rfl (hb hby at_228) k) ?_
                exact J229_42 (0 : Int32) (Or.inl (⟨hc209, rfl⟩))
              ·
                refine own_st (T' := T41) (F' := (mkF m 214 #[.val (.int x0), .val (.int x1), .val (.int x2), .val (.int x3), .val (.int x4), .val (.int x5), .val (.int j12_1), .val (.int j26_1), .val (.int j50_1), .val (.int j65_1), .val (.ref r5), .val (.ref j105_1), .val (.ref b8), .val (.ref b18), .val (.int j176_1), .val (.int r39), .val (.int r40), .val (.int r41)] [(.int r40)])) (fun _ k => XS.iload X41.here hx rfl (hb hby at_212) rfl  k) ?_
                refine own_st (T' := T41) (F' := (mkF m 216 #[.val (.int x0), .val (.int x1), .val (.int x2), .val (.int x3), .val (.int x4), .val (.int x5), .val (.int j12_1), .val (.int j26_1), .val (.int j50_1), .val (.int j65_1), .val (.ref r5), .val (.ref j105_1), .val (.ref b8), .val (.ref b18), .val (.int j176_1), .val (.int r39), .val (.int r40), .val (.int r41)] [(.int j176_1), (.int r40)])) (fun _ k => XS.iload X41.here hx rfl (hb hby at_214) rfl  k) ?_
                refine own_icmp X41 hx (pc' := 228) (pc2 := 219) (hb hby at_216) (by decide) (by decide) rfl (fun (hc216 : ¬ (r40 = j176_1)) => ?_) (fun (hc216 : r40 = j176_1) => ?_)
                ·
                  refine own_st (T' := T41) (F' := (mkF m 229 #[.val (.int x0), .val (.int x1), .val (.int x2), .val (.int x3), .val (.int x4), .val (.int x5), .val (.int j12_1), .val (.int j26_1), .val (.int j50_1), .val (.int j65_1), .val (.ref r5), .val (.ref j105_1), .val (.ref b8), .val (.ref b18), .val (.int j176_1), .val (.int r39), .val (.int r40), .val (.int r41)] [(.int (0 : Int32))])) (fun _ k => XS.iconst X41.here hx rfl (hb hby at_228) k) ?_
                  exact J229_42 (0 : Int32) (Or.inr (Or.inl (⟨hc209, hc216, rfl⟩)))
                ·
                  refine own_st (T' := T41) (F' := (mkF m 221 #[.val (.int x0), .val (.int x1), .val (.int x2), .val (.int x3), .val (.int x4), .val (.int x5), .val (.int j12_1), .val (.int j26_1), .val (.int j50_1), .val (.int j65_1), .val (.ref r5), .val (.ref j105_1), .val (.ref b8), .val (.ref b18), .val (.int j176_1), .val (.int r39), .val (.int r40), .val (.int r41)] [(.int r41)])) (fun _ k => XS.iload X41.here hx rfl (hb hby at_219) rfl  k) ?_
                  refine own_ifc X41 hx (pc' := 228) (pc2 := 224) (hb hby at_221) (by decide) (by decide) rfl (fun (hc221 : r41 = (0 : Int32)) => ?_) (fun (hc221 : ¬ (r41 = (0 : Int32))) => ?_)
                  ·
                    refine own_st (T' := T41) (F' := (mkF m 229 #[.val (.int x0), .val (.int x1), .val (.int x2), .val (.int x3), .val (.int x4), .val (.int x5), .val (.int j12_1), .val (.int j26_1), .val (.int j50_1), .val (.int j65_1), .val (.ref r5), .val (.ref j105_1), .val (.ref b8), .val (.ref b18), .val (.int j176_1), .val (.int r39), .val (.int r40), .val (.int r41)] [(.int (0 : Int32))])) (fun _ k => XS.iconst X41.here hx rfl (hb hby at_228) k) ?_
                    exact J229_42 (0 : Int32) (Or.inr (Or.inr (Or.inl (⟨hc209, hc216, hc221, rfl⟩))))
                  ·
                    refine own_st (T' := T41) (F' := (mkF m 225 #[.val (.int x0), .val (.int x1), .val (.int x2), .val (.int x3), .val (.int x4), .val (.int x5), .val (.int j12_1), .val (.int j26_1), .val (.int j50_1), .val (.int j65_1), .val (.ref r5), .val (.ref j105_1), .val (.ref b8), .val (.ref b18), .val (.int j176_1), .val (.int r39), .val (.int r40), .val (.int r41)] [(.int (1 : Int32))])) (fun _ k => XS.iconst X41.here hx rfl (hb hby at_224) k) ?_
                    refine own_st (T' := T41) (F' := (mkF m 229 #[.val (.int x0), .val (.int x1), .val (.int x2), .val (.int x3), .val (.int x4), .val (.int x5), .val (.int j12_1), .val (.int j26_1), .val (.int j50_1), .val (.int j65_1), .val (.ref r5), .val (.ref j105_1), .val (.ref b8), .val (.ref b18), .val (.int j176_1), .val (.int r39), .val (.int r40), .val (.int r41)] [(.int (1 : Int32))])) (fun _ k => XS.goto X41.here hx rfl (pc0 := 225) (pc' := 229) rfl (hb hby at_225) (by decide) (by decide) k) ?_
                    exact J229_42 (1 : Int32) (Or.inr (Or.inr (Or.inr (⟨hc209, hc216, hc221, rfl⟩))))
            refine own_ifc X30 hx (pc' := 151) (pc2 := 146) (hb hby at_143) (by decide) (by decide) rfl (fun (hc143 : ¬ ((x4 &&& (2 : Int32)) = (0 : Int32))) => ?_) (fun (hc143 : (x4 &&& (2 : Int32)) = (0 : Int32)) => ?_)
            ·
              refine own_st (T' := T30) (F' := (mkF m 153 #[.val (.int x0), .val (.int x1), .val (.int x2), .val (.int x3), .val (.int x4), .val (.int x5), .val (.int j12_1), .val (.int j26_1), .val (.int j50_1), .val (.int j65_1), .val (.ref r5), .val (.ref j105_1), .val (.ref b8), .val (.ref b18), .unset, .unset, .unset, .unset] [(.int x4)])) (fun _ k => XS.iload X30.here hx rfl (hb hby at_151) rfl  k) ?_
              refine own_st (T' := T30) (F' := (mkF m 154 #[.val (.int x0), .val (.int x1), .val (.int x2), .val (.int x3), .val (.int x4), .val (.int x5), .val (.int j12_1), .val (.int j26_1), .val (.int j50_1), .val (.int j65_1), .val (.ref r5), .val (.ref j105_1), .val (.ref b8), .val (.ref b18), .unset, .unset, .unset, .unset] [(.int (4 : Int32)), (.int x4)])) (fun _ k => XS.iconst X30.here hx rfl (hb hby at_153) k) ?_
              refine own_st (T' := T30) (F' := (mkF m 155 #[.val (.int x0), .val (.int x1), .val (.int x2), .val (.int x3), .val (.int x4), .val (.int x5), .val (.int j12_1), .val (.int j26_1), .val (.int j50_1), .val (.int j65_1), .val (.ref r5), .val (.ref j105_1), .val (.ref b8), .val (.ref b18), .unset, .unset, .unset, .unset] [(.int (x4 &&& (4 : Int32)))])) (fun _ k => XS.iand X30.here hx rfl (hb hby at_154) rfl k) ?_
              refine own_ifc X30 hx (pc' := 175) (pc2 := 158) (hb hby at_155) (by decide) (by decide) rfl (fun (hc155 : (x4 &&& (4 : Int32)) = (0 : Int32)) => ?_) (fun (hc155 : ¬ ((x4 &&& (4 : Int32)) = (0 : Int32))) => ?_)
              ·
                refine own_st (T' := T30) (F' := (mkF m 176 #[.val (.int x0), .val (.int x1), .val (.int x2), .val (.int x3), .val (.int x4), .val (.int x5), .val (.int j12_1), .val (.int j26_1), .val (.int j50_1), .val (.int j65_1), .val (.ref r5), .val (.ref j105_1), .val (.ref b8), .val (.ref b18), .unset, .unset, .unset, .unset] [(.int (0 : Int32))])) (fun _ k => XS.iconst X30.here hx rfl (hb hby at_175) k) ?_
                exact J176_38 (0 : Int32) (Or.inl (⟨hc143, hc155, rfl⟩))
              ·
                refine own_st (T' := T30) (F' := (mkF m 160 #[.val (.int x0), .val (.int x1), .val (.int x2), .val (.int x3), .val (.int x4), .val (.int x5), .val (.int j12_1), .val (.int j26_1), .val (.int j50_1), .val (.int j65_1), .val (.ref r5), .val (.ref j105_1), .val (.ref b8), .val (.ref b18), .unset, .unset, .unset, .unset] [(.int x4)])) (fun _ k => XS.iload X30.here hx rfl (hb hby at_158) rfl  k) ?_
                refine own_st (T' := T30) (F' := (mkF m 162 #[.val (.int x0), .val (.int x1), .val (.int x2), .val (.int x3), .val (.int x4), .val (.int x5), .val (.int j12_1), .val (.int j26_1), .val (.int j50_1), .val (.int j65_1), .val (.ref r5), .val (.ref j105_1), .val (.ref b8), .val (.ref b18), .unset, .unset, .unset, .unset] [(.int (8 : Int32)), (.int x4)])) (fun _ k => XS.bipush X30.here hx rfl (hb hby at_160) k) ?_
                refine own_st (T' := T30) (F' := (mkF m 163 #[.val (.int x0), .val (.int x1), .val (.int x2), .val (.int x3), .val (.int x4), .val (.int x5), .val (.int j12_1), .val (.int j26_1), .val (.int j50_1), .val (.int j65_1), .val (.ref r5), .val (.ref j105_1), .val (.ref b8), .val (.ref b18), .unset, .unset, .unset, .unset] [(.int (x4 &&& (8 : Int32)))])) (fun _ k => XS.iand X30.here hx rfl (hb hby at_162) rfl k) ?_
                refine own_ifc X30 hx (pc' := 171) (pc2 := 166) (hb hby at_163) (by decide) (by decide) rfl (fun (hc163 : ¬ ((x4 &&& (8 : Int32)) = (0 : Int32))) => ?_) (fun (hc163 : (x4 &&& (8 : Int32)) = (0 : Int32)) => ?_)
                ·
                  refine own_st (T' := T30) (F' := (mkF m 172 #[.val (.int x0), .val (.int x1), .val (.int x2), .val (.int x3), .val (.int x4), .val (.int x5), .val (.int j12_1), .val (.int j26_1), .val (.int j50_1), .val (.int j65_1), .val (.ref r5), .val (.ref j105_1), .val (.ref b8), .val (.ref b18), .unset, .unset, .unset, .unset] [(.int (1 : Int32))])) (fun _ k => XS.iconst X30.here hx rfl (hb hby at_171) k) ?_
                  refine own_st (T' := T30) (F' := (mkF m 176 #[.val (.int x0), .val (.int x1), .val (.int x2), .val (.int x3), .val (.int x4), .val (.int x5), .val (.int j12_1), .val (.int j26_1), .val (.int j50_1), .val (.int j65_1), .val (.ref r5), .val (.ref j105_1), .val (.ref b8), .val (.ref b18), .unset, .unset, .unset, .unset] [(.int (1 : Int32))])) (fun _ k => XS.goto X30.here hx rfl (pc0 := 172) (pc' := 176) rfl (hb hby at_172) (by decide) (by decide) k) ?_
                  exact J176_38 (1 : Int32) (Or.inr (Or.inl (⟨hc143, hc155, hc163, rfl⟩)))
                ·
                  refine own_st (T' := T30) (F' := (mkF m 167 #[.val (.int x0), .val (.int x1), .val (.int x2), .val (.int x3), .val (.int x4), .val (.int x5), .val (.int j12_1), .val (.int j26_1), .val (.int j50_1), .val (.int j65_1), .val (.ref r5), .val (.ref j105_1), .val (.ref b8), .val (.ref b18), .unset, .unset, .unset, .unset] [(.int x3)])) (fun _ k => XS.iloadN X30.here hx rfl (hb hby at_166) rfl  k) ?_
                  refine own_st (T' := T30) (F' := (mkF m 168 #[.val (.int x0), .val (.int x1), .val (.int x2), .val (.int x3), .val (.int x4), .val (.int x5), .val (.int j12_1), .val (.int j26_1), .val (.int j50_1), .val (.int j65_1), .val (.ref r5), .val (.ref j105_1), .val (.ref b8), .val (.ref b18), .unset, .unset, .unset, .unset] [(.int x1), (.int x3)])) (fun _ k => XS.iloadN X30.here hx rfl (hb hby at_167) rfl  k) ?_
                  refine own_icmp X30 hx (pc' := 175) (pc2 := 171) (hb hby at_168) (by decide) (by decide) rfl (fun (hc168 : ¬ (x3 = x1)) => ?_) (fun (hc168 : x3 = x1) => ?_)
                  ·
                    refine own_st (T' := T30) (F' := (mkF m 176 #[.val (.int x0), .val (.int x1), .val (.int x2), .val (.int x3), .val (.int x4), .val (.int x5), .val (.int j12_1), .val (.int j26_1), .val (.int j50_1), .val (.int j65_1), .val (.ref r5), .val (.ref j105_1), .val (.ref b8), .val (.ref b18), .unset, .unset, .unset, .unset] [(.int (0 : Int32))])) (fun _ k => XS.iconst X30.here hx rfl (hb hby at_175) k) ?_
                    exact J176_38 (0 : Int32) (Or.inr (Or.inr (Or.inl (⟨hc143, hc155, hc163, hc168, rfl⟩))))
                  ·
                    refine own_st (T' := T30) (F' := (mkF m 172 #[.val (.int x0), .val (.int x1), .val (.int x2), .val (.int x3), .val (.int x4), .val (.int x5), .val (.int j12_1), .val (.int j26_1), .val (.int j50_1), .val (.int j65_1), .val (.ref r5), .val (.ref j105_1), .val (.ref b8), .val (.ref b18), .unset, .unset, .unset, .unset] [(.int (1 : Int32))])) (fun _ k => XS.iconst X30.here hx rfl (hb hby at_171) k) ?_
                    refine own_st (T' := T30) (F' := (mkF m 176 #[.val (.int x0), .val (.int x1), .val (.int x2), .val (.int x3), .val (.int x4), .val (.int x5), .val (.int j12_1), .val (.int j26_1), .val (.int j50_1), .val (.int j65_1), .val (.ref r5), .val (.ref j105_1), .val (.ref b8), .val (.ref b18), .unset, .unset, .unset, .unset] [(.int (1 : Int32))])) (fun _ k => XS.goto X30.here hx rfl (pc0 := 172) (pc' := 176) rfl (hb hby at_172) (by decide) (by decide) k) ?_
                    exact J176_38 (1 : Int32) (Or.inr (Or.inr (Or.inr (Or.inl (⟨hc143, hc155, hc163, hc168, rfl⟩)))))
            ·
              refine own_st (T' := T30) (F' := (mkF m 147 #[.val (.int x0), .val (.int x1), .val (.int x2), .val (.int x3), .val (.int x4), .val (.int x5), .val (.int j12_1), .val (.int j26_1), .val (.int j50_1), .val (.int j65_1), .val (.ref r5), .val (.ref j105_1), .val (.ref b8), .val (.ref b18), .unset, .unset, .unset, .unset] [(.int x2)])) (fun _ k => XS.iloadN X30.here hx rfl (hb hby at_146) rfl  k) ?_
              refine own_st (T' := T30) (F' := (mkF m 148 #[.val (.int x0), .val (.int x1), .val (.int x2), .val (.int x3), .val (.int x4), .val (.int x5), .val (.int j12_1), .val (.int j26_1), .val (.int j50_1), .val (.int j65_1), .val (.ref r5), .val (.ref j105_1), .val (.ref b8), .val (.ref b18), .unset, .unset, .unset, .unset] [(.int x0), (.int x2)])) (fun _ k => XS.iloadN X30.here hx rfl (hb hby at_147) rfl  k) ?_
              refine own_icmp X30 hx (pc' := 175) (pc2 := 151) (hb hby at_148) (by decide) (by decide) rfl (fun (hc148 : ¬ (x2 = x0)) => ?_) (fun (hc148 : x2 = x0) => ?_)
              ·
                refine own_st (T' := T30) (F' := (mkF m 176 #[.val (.int x0), .val (.int x1), .val (.int x2), .val (.int x3), .val (.int x4), .val (.int x5), .val (.int j12_1), .val (.int j26_1), .val (.int j50_1), .val (.int j65_1), .val (.ref r5), .val (.ref j105_1), .val (.ref b8), .val (.ref b18), .unset, .unset, .unset, .unset] [(.int (0 : Int32))])) (fun _ k => XS.iconst X30.here hx rfl (hb hby at_175) k) ?_
                exact J176_38 (0 : Int32) (Or.inr (Or.inr (Or.inr (Or.inr (Or.inl (⟨hc143, hc148, rfl⟩))))))
              ·
                refine own_st (T' := T30) (F' := (mkF m 153 #[.val (.int x0), .val (.int x1), .val (.int x2), .val (.int x3), .val (.int x4), .val (.int x5), .val (.int j12_1), .val (.int j26_1), .val (.int j50_1), .val (.int j65_1), .val (.ref r5), .val (.ref j105_1), .val (.ref b8), .val (.ref b18), .unset, .unset, .unset, .unset] [(.int x4)])) (fun _ k => XS.iload X30.here hx rfl (hb hby at_151) rfl  k) ?_
                refine own_st (T' := T30) (F' := (mkF m 154 #[.val (.int x0), .val (.int x1), .val (.int x2), .val (.int x3), .val (.int x4), .val (.int x5), .val (.int j12_1), .val (.int j26_1), .val (.int j50_1), .val (.int j65_1), .val (.ref r5), .val (.ref j105_1), .val (.ref b8), .val (.ref b18), .unset, .unset, .unset, .unset] [(.int (4 : Int32)), (.int x4)])) (fun _ k => XS.iconst X30.here hx rfl (hb hby at_153) k) ?_
                refine own_st (T' := T30) (F' := (mkF m 155 #[.val (.int x0), .val (.int x1), .val (.int x2), .val (.int x3), .val (.int x4), .val (.int x5), .val (.int j12_1), .val (.int j26_1), .val (.int j50_1), .val (.int j65_1), .val (.ref r5), .val (.ref j105_1), .val (.ref b8), .val (.ref b18), .unset, .unset, .unset, .unset] [(.int (x4 &&& (4 : Int32)))])) (fun _ k => XS.iand X30.here hx rfl (hb hby at_154) rfl k) ?_
                refine own_ifc X30 hx (pc' := 175) (pc2 := 158) (hb hby at_155) (by decide) (by decide) rfl (fun (hc155 : (x4 &&& (4 : Int32)) = (0 : Int32)) => ?_) (fun (hc155 : ¬ ((x4 &&& (4 : Int32)) = (0 : Int32))) => ?_)
                ·
                  refine own_st (T' := T30) (F' := (mkF m 176 #[.val (.int x0), .val (.int x1), .val (.int x2), .val (.int x3), .val (.int x4), .val (.int x5), .val (.int j12_1), .val (.int j26_1), .val (.int j50_1), .val (.int j65_1), .val (.ref r5), .val (.ref j105_1), .val (.ref b8), .val (.ref b18), .unset, .unset, .unset, .unset] [(.int (0 : Int32))])) (fun _ k => XS.iconst X30.here hx rfl (hb hby at_175) k) ?_
                  exact J176_38 (0 : Int32) (Or.inr (Or.inr (Or.inr (Or.inr (Or.inr (Or.inl (⟨hc143, hc148, hc155, rfl⟩)))))))
                ·
                  refine own_st (T' := T30) (F' := (mkF m 160 #[.val (.int x0), .val (.int x1), .val (.int x2), .val (.int x3), .val (.int x4), .val (.int x5), .val (.int j12_1), .val (.int j26_1), .val (.int j50_1), .val (.int j65_1), .val (.ref r5), .val (.ref j105_1), .val (.ref b8), .val (.ref b18), .unset, .unset, .unset, .unset] [(.int x4)])) (fun _ k => XS.iload X30.here hx rfl (hb hby at_158) rfl  k) ?_
                  refine own_st (T' := T30) (F' := (mkF m 162 #[.val (.int x0), .val (.int x1), .val (.int x2), .val (.int x3), .val (.int x4), .val (.int x5), .val (.int j12_1), .val (.int j26_1), .val (.int j50_1), .val (.int j65_1), .val (.ref r5), .val (.ref j105_1), .val (.ref b8), .val (.ref b18), .unset, .unset, .unset, .unset] [(.int (8 : Int32)), (.int x4)])) (fun _ k => XS.bipush X30.here hx rfl (hb hby at_160) k) ?_
                  refine own_st (T' := T30) (F' := (mkF m 163 #[.val (.int x0), .val (.int x1), .val (.int x2), .val (.int x3), .val (.int x4), .val (.int x5), .val (.int j12_1), .val (.int j26_1), .val (.int j50_1), .val (.int j65_1), .val (.ref r5), .val (.ref j105_1), .val (.ref b8), .val (.ref b18), .unset, .unset, .unset, .unset] [(.int (x4 &&& (8 : Int32)))])) (fun _ k => XS.iand X30.here hx rfl (hb hby at_162) rfl k) ?_
                  refine own_ifc X30 hx (pc' := 171) (pc2 := 166) (hb hby at_163) (by decide) (by decide) rfl (fun (hc163 : ¬ ((x4 &&& (8 : Int32)) = (0 : Int32))) => ?_) (fun (hc163 : (x4 &&& (8 : Int32)) = (0 : Int32)) => ?_)
                  ·
                    refine own_st (T' := T30) (F' := (mkF m 172 #[.val (.int x0), .val (.int x1), .val (.int x2), .val (.int x3), .val (.int x4), .val (.int x5), .val (.int j12_1), .val (.int j26_1), .val (.int j50_1), .val (.int j65_1), .val (.ref r5), .val (.ref j105_1), .val (.ref b8), .val (.ref b18), .unset, .unset, .unset, .unset] [(.int (1 : Int32))])) (fun _ k => XS.iconst X30.here hx rfl (hb hby at_171) k) ?_
                    refine own_st (T' := T30) (F' := (mkF m 176 #[.val (.int x0), .val (.int x1), .val (.int x2), .val (.int x3), .val (.int x4), .val (.int x5), .val (.int j12_1), .val (.int j26_1), .val (.int j50_1), .val (.int j65_1), .val (.ref r5), .val (.ref j105_1), .val (.ref b8), .val (.ref b18), .unset, .unset, .unset, .unset] [(.int (1 : Int32))])) (fun _ k => XS.goto X30.here hx rfl (pc0 := 172) (pc' := 176) rfl (hb hby at_172) (by decide) (by decide) k) ?_
                    exact J176_38 (1 : Int32) (Or.inr (Or.inr (Or.inr (Or.inr (Or.inr (Or.inr (Or.inl (⟨hc143, hc148, hc155, hc163, rfl⟩))))))))
                  ·
                    refine own_st (T' := T30) (F' := (mkF m 167 #[.val (.int x0), .val (.int x1), .val (.int x2), .val (.int x3), .val (.int x4), .val (.int x5), .val (.int j12_1), .val (.int j26_1), .val (.int j50_1), .val (.int j65_1), .val (.ref r5), .val (.ref j105_1), .val (.ref b8), .val (.ref b18), .unset, .unset, .unset, .unset] [(.int x3)])) (fun _ k => XS.iloadN X30.here hx rfl (hb hby at_166) rfl  k) ?_
                    refine own_st (T' := T30) (F' := (mkF m 168 #[.val (.int x0), .val (.int x1), .val (.int x2), .val (.int x3), .val (.int x4), .val (.int x5), .val (.int j12_1), .val (.int j26_1), .val (.int j50_1), .val (.int j65_1), .val (.ref r5), .val (.ref j105_1), .val (.ref b8), .val (.ref b18), .unset, .unset, .unset, .unset] [(.int x1), (.int x3)])) (fun _ k => XS.iloadN X30.here hx rfl (hb hby at_167) rfl  k) ?_
                    refine own_icmp X30 hx (pc' := 175) (pc2 := 171) (hb hby at_168) (by decide) (by decide) rfl (fun (hc168 : ¬ (x3 = x1)) => ?_) (fun (hc168 : x3 = x1) => ?_)
                    ·
                      refine own_st (T' := T30) (F' := (mkF m 176 #[.val (.int x0), .val (.int x1), .val (.int x2), .val (.int x3), .val (.int x4), .val (.int x5), .val (.int j12_1), .val (.int j26_1), .val (.int j50_1), .val (.int j65_1), .val (.ref r5), .val (.ref j105_1), .val (.ref b8), .val (.ref b18), .unset, .unset, .unset, .unset] [(.int (0 : Int32))])) (fun _ k => XS.iconst X30.here hx rfl (hb hby at_175) k) ?_
                      exact J176_38 (0 : Int32) (Or.inr (Or.inr (Or.inr (Or.inr (Or.inr (Or.inr (Or.inr (Or.inl (⟨hc143, hc148, hc155, hc163, hc168, rfl⟩)))))))))
                    ·
                      refine own_st (T' := T30) (F' := (mkF m 172 #[.val (.int x0), .val (.int x1), .val (.int x2), .val (.int x3), .val (.int x4), .val (.int x5), .val (.int j12_1), .val (.int j26_1), .val (.int j50_1), .val (.int j65_1), .val (.ref r5), .val (.ref j105_1), .val (.ref b8), .val (.ref b18), .unset, .unset, .unset, .unset] [(.int (1 : Int32))])) (fun _ k => XS.iconst X30.here hx rfl (hb hby at_171) k) ?_
                      refine own_st (T' := T30) (F' := (mkF m 176 #[.val (.int x0), .val (.int x1), .val (.int x2), .val (.int x3), .val (.int x4), .val (.int x5), .val (.int j12_1), .val (.int j26_1), .val (.int j50_1), .val (.int j65_1), .val (.ref r5), .val (.ref j105_1), .val (.ref b8), .val (.ref b18), .unset, .unset, .unset, .unset] [(.int (1 : Int32))])) (fun _ k => XS.goto X30.here hx rfl (pc0 := 172) (pc' := 176) rfl (hb hby at_172) (by decide) (by decide) k) ?_
                      exact J176_38 (1 : Int32) (Or.inr (Or.inr (Or.inr (Or.inr (Or.inr (Or.inr (Or.inr (Or.inr (⟨hc143, hc148, hc155, hc163, hc168, rfl⟩)))))))))
          refine own_ifc X5 hx (pc' := 92) (pc2 := 87) (hb hby at_84) (by decide) (by decide) rfl (fun (hc84 : (x4 &&& (16 : Int32)) = (0 : Int32)) => ?_) (fun (hc84 : ¬ ((x4 &&& (16 : Int32)) = (0 : Int32))) => ?_)
          ·
            refine own_st (T' := T5) (F' := (mkF m 94 #[.val (.int x0), .val (.int x1), .val (.int x2), .val (.int x3), .val (.int x4), .val (.int x5), .val (.int j12_1), .val (.int j26_1), .val (.int j50_1), .val (.int j65_1), .val (.ref r5), .unset, .unset, .unset, .unset, .unset, .unset, .unset] [(.int x5)])) (fun _ k => XS.iload X5.here hx rfl (hb hby at_92) rfl  k) ?_
            refine own_st (T' := T5) (F' := (mkF m 96 #[.val (.int x0), .val (.int x1), .val (.int x2), .val (.int x3), .val (.int x4), .val (.int x5), .val (.int j12_1), .val (.int j26_1), .val (.int j50_1), .val (.int j65_1), .val (.ref r5), .unset, .unset, .unset, .unset, .unset, .unset, .unset] [(.int (8 : Int32)), (.int x5)])) (fun _ k => XS.bipush X5.here hx rfl (hb hby at_94) k) ?_
            refine own_st (T' := T5) (F' := (mkF m 97 #[.val (.int x0), .val (.int x1), .val (.int x2), .val (.int x3), .val (.int x4), .val (.int x5), .val (.int j12_1), .val (.int j26_1), .val (.int j50_1), .val (.int j65_1), .val (.ref r5), .unset, .unset, .unset, .unset, .unset, .unset, .unset] [(.int ((x5.toUInt32 >>> ((8 : Int32) &&& 31).toUInt32).toInt32))])) (fun _ k => XS.iushr X5.here hx rfl (hb hby at_96) rfl k) ?_
            refine own_st (T' := T5) (F' := (mkF m 100 #[.val (.int x0), .val (.int x1), .val (.int x2), .val (.int x3), .val (.int x4), .val (.int x5), .val (.int j12_1), .val (.int j26_1), .val (.int j50_1), .val (.int j65_1), .val (.ref r5), .unset, .unset, .unset, .unset, .unset, .unset, .unset] [(.int (255 : Int32)), (.int ((x5.toUInt32 >>> ((8 : Int32) &&& 31).toUInt32).toInt32))])) (fun _ k => XS.sipush X5.here hx rfl (hb hby at_97) k) ?_
            refine own_st (T' := T5) (F' := (mkF m 101 #[.val (.int x0), .val (.int x1), .val (.int x2), .val (.int x3), .val (.int x4), .val (.int x5), .val (.int j12_1), .val (.int j26_1), .val (.int j50_1), .val (.int j65_1), .val (.ref r5), .unset, .unset, .unset, .unset, .unset, .unset, .unset] [(.int (((x5.toUInt32 >>> ((8 : Int32) &&& 31).toUInt32).toInt32) &&& (255 : Int32)))])) (fun _ k => XS.iand X5.here hx rfl (hb hby at_100) rfl k) ?_
            refine own_st (T' := T5) (F' := (mkF m 102 #[.val (.int x0), .val (.int x1), .val (.int x2), .val (.int x3), .val (.int x4), .val (.int x5), .val (.int j12_1), .val (.int j26_1), .val (.int j50_1), .val (.int j65_1), .val (.ref r5), .unset, .unset, .unset, .unset, .unset, .unset, .unset] [(.int ((((x5.toUInt32 >>> ((8 : Int32) &&& 31).toUInt32).toInt32) &&& (255 : Int32)).toUInt32.toUInt16.toUInt32.toInt32))])) (fun _ k => XS.i2c X5.here hx rfl (hb hby at_101) rfl k) ?_
            obtain ⟨_, _, ⟨T43, L43, k43, n43⟩, -, X43, ⟨Lc43, hQ43, l43, y43, z43⟩, st43⟩ := Jvm.LawKit.callS X5 hx (y := (⟨"java/lang/String", "valueOf", "(C)Ljava/lang/String;"⟩ : MethodName)) hown (mvT hZ (hw _ (List.mem_of_getElem? (i := 0) rfl))) (mvT hZ (hw _ (List.mem_of_getElem? (i := 1) rfl))) (mvT hZ (hw _ (List.mem_of_getElem? (i := 2) rfl))) (mvT hZ (hw _ (List.mem_of_getElem? (i := 3) rfl))) (by decide) (backOf (W := 0) (rm1 l Z a0 hw [] ((((x5.toUInt32 >>> ((8 : Int32) &&& 31).toUInt32).toInt32) &&& (255 : Int32)).toUInt32.toUInt16.toUInt32.toInt32) cs T5.heap n0 Zs5 f6 hcs (own_c255 _)) hZ (hw _ (List.mem_of_getElem? (i := 3) rfl)) (hw _ (List.mem_of_getElem? (i := 2) rfl)) (by decide) (by decide)) (g := (mkF m 102 #[.val (.int x0), .val (.int x1), .val (.int x2), .val (.int x3), .val (.int x4), .val (.int x5), .val (.int j12_1), .val (.int j26_1), .val (.int j50_1), .val (.int j65_1), .val (.ref r5), .unset, .unset, .unset, .unset, .unset, .unset, .unset] [(.int ((((x5.toUInt32 >>> ((8 : Int32) &&& 31).toUInt32).toInt32) &&& (255 : Int32)).toUInt32.toUInt16.toUInt32.toInt32))])) rfl (by rw [hml]; rfl) (argsL := [(.int ((((x5.toUInt32 >>> ((8 : Int32) &&& 31).toUInt32).toInt32) &&& (255 : Int32)).toUInt32.toUInt16.toUInt32.toInt32))]) (rest := []) (lenOf own_pd4 rfl) rfl (by show 2 * 0 + _ ≤ _; exact Nat.le_of_eq rfl) (hb hby at_102) (fun _ _ => ⟨rfl, rfl, (by decide : 2 + 2 ≤ _), (by decide : 5 + 5 ≤ _)⟩)
            dsimp only [Pt.U, Pt.locs, Pt.cells, Pt.slots] at X43 l43 y43 z43 st43 hQ43
            subst l43 y43 z43
            obtain ⟨⟨r43, rfl, hr43⟩, Nq43, g43_0⟩ := hQ43
            have N43 := Fr.app N5 Nq43
            have f44 : Sta Z T43.heap "java/lang/String" "COMPACT_STRINGS" "Z" (.int cs) := own_stk f6 g43_0 all0
            have f45 : Exa Z T43.heap r5 "java/lang/String" := zE5.keep g43_0
            have K43 : Keep h0 T43.heap [] := K5.trans g43_0 all0
            have Zs43 : n0 ≤ T43.heap.size := Nat.le_trans Z0 K43.1
            obtain ⟨zge43, zE43⟩ := hr43
            refine own_st (T' := T43) (F' := (mkF m 105 #[.val (.int x0), .val (.int x1), .val (.int x2), .val (.int x3), .val (.int x4), .val (.int x5), .val (.int j12_1), .val (.int j26_1), .val (.int j50_1), .val (.int j65_1), .val (.ref r5), .unset, .unset, .unset, .unset, .unset, .unset, .unset] [(.ref r43)])) (fun _ k => st43 _ k) ?_
            exact J105_7 r43 T43 _ X43 N43 T43.heap rfl Zs43 K43 f44 f45 (Or.inl (⟨hc84, r43, rfl⟩))
          ·
            refine own_st (T' := T5) (F' := (mkF m 89 #[.val (.int x0), .val (.int x1), .val (.int x2), .val (.int x3), .val (.int x4), .val (.int x5), .val (.int j12_1), .val (.int j26_1), .val (.int j50_1), .val (.int j65_1), .val (.ref r5), .unset, .unset, .unset, .unset, .unset, .unset, .unset] [(.ref r5)])) (fun _ k => XS.aload X5.here hx rfl (hb hby at_87) rfl rfl k) ?_
            refine own_st (T' := T5) (F' := (mkF m 105 #[.val (.int x0), .val (.int x1), .val (.int x2), .val (.int x3), .val (.int x4), .val (.int x5), .val (.int j12_1), .val (.int j26_1), .val (.int j50_1), .val (.int j65_1), .val (.ref r5), .unset, .unset, .unset, .unset, .unset, .unset, .unset] [(.ref r5)])) (fun _ k => XS.goto X5.here hx rfl (pc0 := 89) (pc' := 105) rfl (hb hby at_89) (by decide) (by decide) k) ?_
            exact J105_7 r5 T5 _ (X5.more (by decide) (by decide)) N5 T5.heap rfl Zs5 K5 f6 zE5 (Or.inr (⟨hc84, rfl⟩))
        refine own_ifc X0 hx (pc' := 64) (pc2 := 60) (hb hby at_57) (by decide) (by decide) rfl (fun (hc57 : (x4 &&& (8 : Int32)) = (0 : Int32)) => ?_) (fun (hc57 : ¬ ((x4 &&& (8 : Int32)) = (0 : Int32))) => ?_)
        ·
          refine own_st (T' := s₁) (F' := (mkF m 65 #[.val (.int x0), .val (.int x1), .val (.int x2), .val (.int x3), .val (.int x4), .val (.int x5), .val (.int j12_1), .val (.int j26_1), .val (.int j50_1), .unset, .unset, .unset, .unset, .unset, .unset, .unset, .unset, .unset] [(.int x3)])) (fun _ k => XS.iloadN X0.here hx rfl (hb hby at_64) rfl  k) ?_
          exact J65_4 x3 (Or.inl (⟨hc57, rfl⟩))
        ·
          refine own_st (T' := s₁) (F' := (mkF m 61 #[.val (.int x0), .val (.int x1), .val (.int x2), .val (.int x3), .val (.int x4), .val (.int x5), .val (.int j12_1), .val (.int j26_1), .val (.int j50_1), .unset, .unset, .unset, .unset, .unset, .unset, .unset, .unset, .unset] [(.int x1)])) (fun _ k => XS.iloadN X0.here hx rfl (hb hby at_60) rfl  k) ?_
          refine own_st (T' := s₁) (F' := (mkF m 65 #[.val (.int x0), .val (.int x1), .val (.int x2), .val (.int x3), .val (.int x4), .val (.int x5), .val (.int j12_1), .val (.int j26_1), .val (.int j50_1), .unset, .unset, .unset, .unset, .unset, .unset, .unset, .unset, .unset] [(.int x1)])) (fun _ k => XS.goto X0.here hx rfl (pc0 := 61) (pc' := 65) rfl (hb hby at_61) (by decide) (by decide) k) ?_
          exact J65_4 x1 (Or.inr (⟨hc57, rfl⟩))
      refine own_ifc X0 hx (pc' := 40) (pc2 := 35) (hb hby at_32) (by decide) (by decide) rfl (fun (hc32 : (x4 &&& (4 : Int32)) = (0 : Int32)) => ?_) (fun (hc32 : ¬ ((x4 &&& (4 : Int32)) = (0 : Int32))) => ?_)
      ·
        refine own_st (T' := s₁) (F' := (mkF m 42 #[.val (.int x0), .val (.int x1), .val (.int x2), .val (.int x3), .val (.int x4), .val (.int x5), .val (.int j12_1), .val (.int j26_1), .unset, .unset, .unset, .unset, .unset, .unset, .unset, .unset, .unset, .unset] [(.int j12_1)])) (fun _ k => XS.iload X0.here hx rfl (hb hby at_40) rfl  k) ?_
        refine own_ifc X0 hx (pc' := 49) (pc2 := 45) (hb hby at_42) (by decide) (by decide) rfl (fun (hc42 : ¬ (j12_1 = (0 : Int32))) => ?_) (fun (hc42 : j12_1 = (0 : Int32)) => ?_)
        ·
          refine own_st (T' := s₁) (F' := (mkF m 50 #[.val (.int x0), .val (.int x1), .val (.int x2), .val (.int x3), .val (.int x4), .val (.int x5), .val (.int j12_1), .val (.int j26_1), .unset, .unset, .unset, .unset, .unset, .unset, .unset, .unset, .unset, .unset] [(.int (0 : Int32))])) (fun _ k => XS.iconst X0.here hx rfl (hb hby at_49) k) ?_
          exact J50_3 (0 : Int32) (Or.inl (⟨hc32, hc42, rfl⟩))
        ·
          refine own_st (T' := s₁) (F' := (mkF m 46 #[.val (.int x0), .val (.int x1), .val (.int x2), .val (.int x3), .val (.int x4), .val (.int x5), .val (.int j12_1), .val (.int j26_1), .unset, .unset, .unset, .unset, .unset, .unset, .unset, .unset, .unset, .unset] [(.int (1 : Int32))])) (fun _ k => XS.iconst X0.here hx rfl (hb hby at_45) k) ?_
          refine own_st (T' := s₁) (F' := (mkF m 50 #[.val (.int x0), .val (.int x1), .val (.int x2), .val (.int x3), .val (.int x4), .val (.int x5), .val (.int j12_1), .val (.int j26_1), .unset, .unset, .unset, .unset, .unset, .unset, .unset, .unset, .unset, .unset] [(.int (1 : Int32))])) (fun _ k => XS.goto X0.here hx rfl (pc0 := 46) (pc' := 50) rfl (hb hby at_46) (by decide) (by decide) k) ?_
          exact J50_3 (1 : Int32) (Or.inr (Or.inl (⟨hc32, hc42, rfl⟩)))
      ·
        refine own_st (T' := s₁) (F' := (mkF m 37 #[.val (.int x0), .val (.int x1), .val (.int x2), .val (.int x3), .val (.int x4), .val (.int x5), .val (.int j12_1), .val (.int j26_1), .unset, .unset, .unset, .unset, .unset, .unset, .unset, .unset, .unset, .unset] [(.int j12_1)])) (fun _ k => XS.iload X0.here hx rfl (hb hby at_35) rfl  k) ?_
        refine own_st (T' := s₁) (F' := (mkF m 50 #[.val (.int x0), .val (.int x1), .val (.int x2), .val (.int x3), .val (.int x4), .val (.int x5), .val (.int j12_1), .val (.int j26_1), .unset, .unset, .unset, .unset, .unset, .unset, .unset, .unset, .unset, .unset] [(.int j12_1)])) (fun _ k => XS.goto X0.here hx rfl (pc0 := 37) (pc' := 50) rfl (hb hby at_37) (by decide) (by decide) k) ?_
        exact J50_3 j12_1 (Or.inr (Or.inr (⟨hc32, rfl⟩)))
    refine own_ifc X0 hx (pc' := 25) (pc2 := 21) (hb hby at_18) (by decide) (by decide) rfl (fun (hc18 : (x4 &&& (2 : Int32)) = (0 : Int32)) => ?_) (fun (hc18 : ¬ ((x4 &&& (2 : Int32)) = (0 : Int32))) => ?_)
    ·
      refine own_st (T' := s₁) (F' := (mkF m 26 #[.val (.int x0), .val (.int x1), .val (.int x2), .val (.int x3), .val (.int x4), .val (.int x5), .val (.int j12_1), .unset, .unset, .unset, .unset, .unset, .unset, .unset, .unset, .unset, .unset, .unset] [(.int x2)])) (fun _ k => XS.iloadN X0.here hx rfl (hb hby at_25) rfl  k) ?_
      exact J26_2 x2 (Or.inl (⟨hc18, rfl⟩))
    ·
      refine own_st (T' := s₁) (F' := (mkF m 22 #[.val (.int x0), .val (.int x1), .val (.int x2), .val (.int x3), .val (.int x4), .val (.int x5), .val (.int j12_1), .unset, .unset, .unset, .unset, .unset, .unset, .unset, .unset, .unset, .unset, .unset] [(.int x0)])) (fun _ k => XS.iloadN X0.here hx rfl (hb hby at_21) rfl  k) ?_
      refine own_st (T' := s₁) (F' := (mkF m 26 #[.val (.int x0), .val (.int x1), .val (.int x2), .val (.int x3), .val (.int x4), .val (.int x5), .val (.int j12_1), .unset, .unset, .unset, .unset, .unset, .unset, .unset, .unset, .unset, .unset, .unset] [(.int x0)])) (fun _ k => XS.goto X0.here hx rfl (pc0 := 22) (pc' := 26) rfl (hb hby at_22) (by decide) (by decide) k) ?_
      exact J26_2 x0 (Or.inr (⟨hc18, rfl⟩))
  refine own_ifc X0 hx (pc' := 11) (pc2 := 7) (hb hby at_4) (by decide) (by decide) rfl (fun (hc4 : (x4 &&& (1 : Int32)) = (0 : Int32)) => ?_) (fun (hc4 : ¬ ((x4 &&& (1 : Int32)) = (0 : Int32))) => ?_)
  ·
    refine own_st (T' := s₁) (F' := (mkF m 12 #[.val (.int x0), .val (.int x1), .val (.int x2), .val (.int x3), .val (.int x4), .val (.int x5), .unset, .unset, .unset, .unset, .unset, .unset, .unset, .unset, .unset, .unset, .unset, .unset] [(.int (0 : Int32))])) (fun _ k => XS.iconst X0.here hx rfl (hb hby at_11) k) ?_
    exact J12_1 (0 : Int32) (Or.inl (⟨hc4, rfl⟩))
  ·
    refine own_st (T' := s₁) (F' := (mkF m 8 #[.val (.int x0), .val (.int x1), .val (.int x2), .val (.int x3), .val (.int x4), .val (.int x5), .unset, .unset, .unset, .unset, .unset, .unset, .unset, .unset, .unset, .unset, .unset, .unset] [(.int (1 : Int32))])) (fun _ k => XS.iconst X0.here hx rfl (hb hby at_7) k) ?_
    refine own_st (T' := s₁) (F' := (mkF m 12 #[.val (.int x0), .val (.int x1), .val (.int x2), .val (.int x3), .val (.int x4), .val (.int x5), .unset, .unset, .unset, .unset, .unset, .unset, .unset, .unset, .unset, .unset, .unset, .unset] [(.int (1 : Int32))])) (fun _ k => XS.goto X0.here hx rfl (pc0 := 8) (pc' := 12) rfl (hb hby at_8) (by decide) (by decide) k) ?_
    exact J12_1 (1 : Int32) (Or.inr (⟨hc4, rfl⟩))
set_option maxRecDepth 65536 in
set_option maxHeartbeats 40000000 in
theorem comes_1 {Post : Tables → Env → Array Value → State → Outcome → State → Prop} (hpost : ∀ tb e args s v u, (limb_1_1.after args s (.returned v) u = true ∧ limb_1_2.after args s (.returned v) u = true ∧ True) → FrameEnd s (.returned v) u (Jvm.fieldLocs frame_1_writes args s ++ Jvm.arrayLocs frame_1_arrays args s ++ Jvm.staticLocs frame_1_statics s) 24 128 → Post tb e args s (.returned v) u) :
    ArmFor flags0 classFile x code maxLocals ret World_1 tables_1 room_1 Calls_1 rest_1 Pre_1 Post := by
  intro l hfl _ _ p e ha hc hk s m args below hf hA hF happ hP
  obtain ⟨hcalls, hrest, hpre⟩ := hP
  obtain ⟨-, -, -, hnamed, -, -, -, hat⟩ := (Spec.applies_iff hf).mp happ
  obtain ⟨hg, hn⟩ := and_e (Cond.before_iff.mp (show (Jvm.Cond.and given_1 narrow_1).before args s = true from hpre))
  obtain ⟨g0, hg0⟩ := and_e hg
  obtain ⟨g1, hg1⟩ := and_e hg0
  obtain ⟨g2, hg2⟩ := and_e hg1
  obtain ⟨g3, hg3⟩ := and_e hg2
  obtain ⟨g4, hg4⟩ := and_e hg3
  obtain ⟨g5, hg5⟩ := and_e hg4
  obtain ⟨w0, w1, w2, w3, w4, w5, rfl⟩ : ∃ w0 w1 w2 w3 w4 w5 : Value, args = #[w0, w1, w2, w3, w4, w5] := by
    have hs : args.size = 6 := by simpa [Cond.value, given_1] using g0
    obtain ⟨L⟩ := args
    match L, hs with
    | [w0, w1, w2, w3, w4, w5], _ => exact ⟨w0, w1, w2, w3, w4, w5, rfl⟩
  have hw := fun d (hd : d ∈ tables_1) => atoms_spec (ws := Jvm.Cond.code x code maxLocals ret :: tables_1) hat d (List.mem_cons_of_mem _ hd)
  have hfit : Fit s := fun {y c} hc i hi => by
    obtain ⟨ha, rfl⟩ := Array.getElem?_eq_some_iff.mp hc
    have q := List.all_eq_true.mp ((Array.all_eq_true_iff_forall_mem.mp hF) _ (Array.getElem_mem ha)) i (List.mem_range.mpr hi)
    simpa [Array.getElem?_eq_getElem hi] using q
  obtain ⟨i0, ei0⟩ := is_v g1
  obtain rfl : w0 = (.int i0) := Option.some.inj ei0
  obtain ⟨i1, ei1⟩ := is_v g2
  obtain rfl : w1 = (.int i1) := Option.some.inj ei1
  obtain ⟨i2, ei2⟩ := is_v g3
  obtain rfl : w2 = (.int i2) := Option.some.inj ei2
  obtain ⟨i3, ei3⟩ := is_v g4
  obtain rfl : w3 = (.int i3) := Option.some.inj ei3
  obtain ⟨i4, ei4⟩ := is_v g5
  obtain rfl : w4 = (.int i4) := Option.some.inj ei4
  obtain ⟨i5, ei5⟩ := is_v hg5
  obtain rfl : w5 = (.int i5) := Option.some.inj ei5
  obtain ⟨hsets, hown0⟩ := atoms_of _ (rest_1_c_eq ▸ (show rest_1_c.before _ s = true from hrest))
  obtain ⟨cs, ecs⟩ := is_v (Cond.before_iff.mp (hsets _ (List.mem_of_getElem? (i := 1) rfl)))
  have Scs : Sta s s.heap "java/lang/String" "COMPACT_STRINGS" "Z" (.int cs) := Sta.start ecs (Or.inl (hsets _ (List.mem_of_getElem? (i := 0) rfl)))
  have hcs : ¬ (cs = 0) := gotF (Cond.eq_ints ecs (Term.int_eval (0))) (not_v (Cond.before_iff.mp (hsets _ (List.mem_of_getElem? (i := 2) rfl))))
  obtain ⟨n, o, h1, h2, h3, _, L, rfl, ⟨⟨_, rfl, rfl⟩, N⟩, hq⟩ := rm0 l s _ hw tables_1 i0 i1 i2 i3 i4 i5 cs s.heap s.heap.size (Nat.le_refl _) Scs hcs p e ha hc hk s m _ below hf ((Spec.applies_iff_loose hf).mp happ).1 ⟨rfl, State.Warmed39.refl s, rfl⟩ trivial
  refine ⟨n, _, h1, h2, h3, hpost _ _ _ _ _ _ ⟨Cond.after_iff.mpr rfl, Cond.after_iff.mpr (eq_i res_at (Term.int_eval (1)) rfl), trivial⟩ ⟨hq.1, hq.2.1, (hq.2.2.sift fun y hy => Or.inr (N y hy)).mono (by decide) (by decide)⟩⟩
theorem main_1_1 : Claimed_1_1 := comes_1 fun _ _ _ _ _ _ h hF => ⟨h.1, hF⟩
theorem main_1_2 : Claimed_1_2 := comes_1 fun _ _ _ _ _ _ h hF => ⟨h.2.1, hF⟩
end Jvm.Pilot.@@N@@
namespace Jvm.Pilot.@@N@@
open Jvm Jvm.ClassFile Sem Op Lib Jvm.Free Jvm.Stand Jvm.Pilot.@@N@@.Jvm.D
/-! MADE BY PROGRAM (witnessworld.py) out of the Statement's table words and the real class files: 18 classes; the members and pool entries that the words name. The judged class is class 1, her method 1. -/
namespace start1
open Jvm.ClassFile
def u (s : String) : CpInfo := .utf8 (stringToUtf16 s)
/-- a pool by its gaps: so many unusable entries, then the entry; so many at the end -/
def gap : Nat → List CpInfo → List CpInfo
  | 0, r => r
  | n + 1, r => .unusable :: gap n r
def poolList (es : List (Nat × CpInfo)) (last : Nat) : List CpInfo := es.foldr (fun e r => gap e.1 (e.2 :: r)) (gap last [])
def pool (es : List (Nat × CpInfo)) (last : Nat) : Array CpInfo := ⟨poolList es last⟩
def fileOf (pool : Array CpInfo) (this : Nat) (attrs : Array Attribute := #[]) (ms : Array MethodInfo := #[]) (fl : Nat := 33) (sup : Nat := 0) (ifs : Array Nat := #[]) (fds : Array FieldInfo := #[]) : ClassFile where
  minorVersion := 0
  majorVersion := 65
  constantPool := pool
  accessFlags := fl
  thisClass := this
  superClass := sup
  interfaces := ifs
  fields := fds
  methods := ms
  attributes := attrs
def plain (name : String) (sup : Option ClassId) : Class where
  name := name
  kind := .ordinary
  loader := none
  accessFlags := 33
  super := sup
  interfaces := #[]
  cf := none
  fields := #[]
  methods := #[]
  instanceTypes := #[]
  staticTypes := #[]
  resolved := #[]
  callSites := []
  init := .initialized
  statics := none
  mirror := none

def pool0 : Array CpInfo := pool [(5, u "<init>"), (0, u "()V"), (1, .class_ 10), (1, u "java/lang/Object")] 113

def k0c0 : Code := { maxStack := 0, maxLocals := 1, code := object_method_1_code, exceptionTable := #[], attributes := #[] }
def k0m0 : Method := { name := "<init>", desc := "()V", sig := { parameters := [], returnType := none }, accessFlags := 1, code := some k0c0 }
/-- java/lang/Object -/
def k0 : Class := { plain "java/lang/Object" none with
  accessFlags := 33
  interfaces := #[]
  cf := some (fileOf pool0 8 #[] #[{ accessFlags := 1, nameIndex := 5, descriptorIndex := 6, attributes := #[] }] 33 0 #[] #[])
  fields := #[]
  methods := #[k0m0]
  instanceTypes := #[]
  staticTypes := #[]
  resolved := Array.replicate 124 none
  statics := none }

def pool1 : Array CpInfo := pool [(2, .class_ 4), (1, u "java/lang/Object"), (0, u "<init>"), (0, u "()V"), (0, .methodref 8 9), (0, .class_ 10), (0, .nameAndType 11 12), (0, u "java/lang/String"), (0, u "valueOf"), (0, u "(C)Ljava/lang/String;"), (0, .class_ 14), (0, u "sundrywick/calendar/LocalTimeType"), (0, .methodref 13 16), (0, .nameAndType 5 17), (0, u "(IZLjava/lang/String;I)V"), (0, .methodref 13 19), (0, .nameAndType 20 21), (0, u "sameClock"), (0, u "(Lsundrywick/calendar/LocalTimeType;)Z"), (0, .class_ 23), (0, u "sundrywick/calendar/LocalTimeTypeSameClockPinLaw"), (2, u "law"), (0, u "(IIIIII)Z")] 3

def k1m0 : Method := { name := "<init>", desc := "()V", sig := { parameters := [], returnType := none }, accessFlags := 1, code := none }
def k1c1 : Code := { maxStack := 6, maxLocals := 18, code := code, exceptionTable := #[], attributes := #[] }
def k1m1 : Method := { name := "law", desc := "(IIIIII)Z", sig := { parameters := [.int, .int, .int, .int, .int, .int], returnType := some .boolean }, accessFlags := 9, code := some k1c1 }
/-- sundrywick/calendar/LocalTimeTypeSameClockPinLaw -/
def k1 : Class := { plain "sundrywick/calendar/LocalTimeTypeSameClockPinLaw" (some 0) with
  accessFlags := 49
  interfaces := #[]
  cf := some (fileOf pool1 22 #[] #[{ accessFlags := 1, nameIndex := 5, descriptorIndex := 6, attributes := #[] }, { accessFlags := 9, nameIndex := 26, descriptorIndex := 27, attributes := #[] }] 49 2 #[] #[])
  fields := #[]
  methods := #[k1m0, k1m1]
  instanceTypes := #[]
  staticTypes := #[]
  resolved := Array.replicate 31 none
  statics := none }

def pool2 : Array CpInfo := pool [(1, .class_ 2), (0, u "java/io/Serializable"), (0, .class_ 4), (0, u "java/lang/Object")] 2

/-- java/io/Serializable -/
def k2 : Class := { plain "java/io/Serializable" (some 0) with
  accessFlags := 1537
  interfaces := #[]
  cf := some (fileOf pool2 1 #[] #[] 1537 3 #[] #[])
  fields := #[]
  methods := #[]
  instanceTypes := #[]
  staticTypes := #[]
  resolved := Array.replicate 7 none
  statics := none }

def pool3 : Array CpInfo := pool [(1, .class_ 2), (0, u "java/lang/Comparable"), (0, .class_ 4), (0, u "java/lang/Object")] 7

/-- java/lang/Comparable -/
def k3 : Class := { plain "java/lang/Comparable" (some 0) with
  accessFlags := 1537
  interfaces := #[]
  cf := some (fileOf pool3 1 #[] #[] 1537 3 #[] #[])
  fields := #[]
  methods := #[]
  instanceTypes := #[]
  staticTypes := #[]
  resolved := Array.replicate 12 none
  statics := none }

def pool4 : Array CpInfo := pool [(2, .class_ 4), (1, u "java/lang/CharSequence"), (42, .class_ 48), (0, u "java/lang/CharSequence$1CodePointIterator"), (10, .class_ 60), (0, u "java/lang/CharSequence$1CharIterator"), (5, .class_ 67), (0, u "java/lang/Object")] 63

/-- java/lang/CharSequence -/
def k4 : Class := { plain "java/lang/CharSequence" (some 0) with
  accessFlags := 1537
  interfaces := #[]
  cf := some (fileOf pool4 2 #[.nestMembers #[47, 59]] #[] 1537 66 #[] #[])
  fields := #[]
  methods := #[]
  instanceTypes := #[]
  staticTypes := #[]
  resolved := Array.replicate 131 none
  statics := none }

def pool5 : Array CpInfo := pool [(1, .class_ 2), (0, u "java/lang/constant/Constable"), (0, .class_ 4), (0, u "java/lang/Object")] 6

/-- java/lang/constant/Constable -/
def k5 : Class := { plain "java/lang/constant/Constable" (some 0) with
  accessFlags := 1537
  interfaces := #[]
  cf := some (fileOf pool5 1 #[] #[] 1537 3 #[] #[])
  fields := #[]
  methods := #[]
  instanceTypes := #[]
  staticTypes := #[]
  resolved := Array.replicate 11 none
  statics := none }

def pool6 : Array CpInfo := pool [(1, .class_ 2), (0, u "java/lang/constant/ConstantDesc"), (0, .class_ 4), (0, u "java/lang/Object")] 32

/-- java/lang/constant/ConstantDesc -/
def k6 : Class := { plain "java/lang/constant/ConstantDesc" (some 0) with
  accessFlags := 1537
  interfaces := #[]
  cf := some (fileOf pool6 1 #[] #[] 1537 3 #[] #[])
  fields := #[]
  methods := #[]
  instanceTypes := #[]
  staticTypes := #[]
  resolved := Array.replicate 37 none
  statics := none }

def pool7 : Array CpInfo := pool [(1, .methodref 2 3), (0, .class_ 4), (0, .nameAndType 5 6), (0, u "java/lang/Object"), (0, u "<init>"), (0, u "()V"), (2, .fieldref 10 11), (0, .class_ 12), (0, .nameAndType 13 14), (0, u "java/lang/String"), (0, u "value"), (0, u "[B"), (0, .fieldref 10 16), (0, .nameAndType 17 18), (0, u "coder"), (0, u "B"), (2, u "hash"), (0, u "I"), (2, u "hashIsZero"), (0, u "Z"), (11, .fieldref 10 39), (0, .nameAndType 40 26), (0, u "COMPACT_STRINGS"), (12, u "toBytes"), (53, .class_ 109), (1, u "java/lang/StringLatin1"), (99, .methodref 10 210), (0, .nameAndType 5 211), (0, u "([BB)V"), (157, u "(C)Z"), (205, .class_ 576), (0, u "java/lang/CharSequence"), (22, u "CASE_INSENSITIVE_ORDER"), (0, u "Ljava/util/Comparator;"), (181, u "valueOf"), (0, u "(C)Ljava/lang/String;"), (231, .methodref 107 1016), (0, .nameAndType 1017 369), (0, u "canEncode"), (0, .methodref 107 1019), (0, .nameAndType 53 1020), (0, u "(C)[B"), (80, u "serialPersistentFields"), (0, u "[Ljava/io/ObjectStreamField;"), (0, .class_ 1104), (0, u "java/lang/String$CaseInsensitiveComparator"), (1, .class_ 1107), (0, u "java/io/Serializable"), (0, .class_ 1109), (0, u "java/lang/Comparable"), (0, .class_ 1111), (0, u "java/lang/constant/Constable"), (0, .class_ 1113), (0, u "java/lang/constant/ConstantDesc"), (2, u "serialVersionUID"), (0, u "J"), (3, u "REPL"), (0, u "C"), (2, u "LATIN1"), (1, u "UTF16")] 323

def k7m0 : Method := { name := "<init>", desc := "()V", sig := { parameters := [], returnType := none }, accessFlags := 1, code := none }
def k7c1 : Code := { maxStack := 4, maxLocals := 1, code := jdk_42_method_139_code, exceptionTable := #[], attributes := #[] }
def k7m1 : Method := { name := "valueOf", desc := "(C)Ljava/lang/String;", sig := { parameters := [.char], returnType := some (.object "java/lang/String") }, accessFlags := 9, code := some k7c1 }
def k7c2 : Code := { maxStack := 2, maxLocals := 3, code := jdk_42_method_151_code, exceptionTable := #[], attributes := #[] }
def k7m2 : Method := { name := "<init>", desc := "([BB)V", sig := { parameters := [(.array .byte), .byte], returnType := none }, accessFlags := 0, code := some k7c2 }
/-- java/lang/String -/
def k7 : Class := { plain "java/lang/String" (some 0) with
  accessFlags := 49
  interfaces := #[2, 3, 4, 5, 6]
  cf := some (fileOf pool7 10 #[.nestMembers #[1103]] #[{ accessFlags := 1, nameIndex := 5, descriptorIndex := 6, attributes := #[] }, { accessFlags := 9, nameIndex := 782, descriptorIndex := 783, attributes := #[] }, { accessFlags := 0, nameIndex := 5, descriptorIndex := 211, attributes := #[] }] 49 2 #[1106, 1108, 575, 1110, 1112] #[{ accessFlags := 18, nameIndex := 13, descriptorIndex := 14, attributes := #[] }, { accessFlags := 18, nameIndex := 17, descriptorIndex := 18, attributes := #[] }, { accessFlags := 2, nameIndex := 21, descriptorIndex := 22, attributes := #[] }, { accessFlags := 2, nameIndex := 25, descriptorIndex := 26, attributes := #[] }, { accessFlags := 26, nameIndex := 1116, descriptorIndex := 1117, attributes := #[] }, { accessFlags := 24, nameIndex := 40, descriptorIndex := 26, attributes := #[] }, { accessFlags := 26, nameIndex := 1101, descriptorIndex := 1102, attributes := #[] }, { accessFlags := 26, nameIndex := 1121, descriptorIndex := 1122, attributes := #[] }, { accessFlags := 25, nameIndex := 599, descriptorIndex := 600, attributes := #[] }, { accessFlags := 24, nameIndex := 1125, descriptorIndex := 18, attributes := #[] }, { accessFlags := 24, nameIndex := 1127, descriptorIndex := 18, attributes := #[] }])
  fields := #[{ name := "value", type := (.array .byte), accessFlags := 18, slot := 0, constantValue := 0 }, { name := "coder", type := .byte, accessFlags := 18, slot := 1, constantValue := 0 }, { name := "hash", type := .int, accessFlags := 2, slot := 2, constantValue := 0 }, { name := "hashIsZero", type := .boolean, accessFlags := 2, slot := 3, constantValue := 0 }, { name := "serialVersionUID", type := .long, accessFlags := 26, slot := 0, constantValue := 0 }, { name := "COMPACT_STRINGS", type := .boolean, accessFlags := 24, slot := 1, constantValue := 0 }, { name := "serialPersistentFields", type := (.array (.object "java/io/ObjectStreamField")), accessFlags := 26, slot := 2, constantValue := 0 }, { name := "REPL", type := .char, accessFlags := 26, slot := 3, constantValue := 0 }, { name := "CASE_INSENSITIVE_ORDER", type := (.object "java/util/Comparator"), accessFlags := 25, slot := 4, constantValue := 0 }, { name := "LATIN1", type := .byte, accessFlags := 24, slot := 5, constantValue := 0 }, { name := "UTF16", type := .byte, accessFlags := 24, slot := 6, constantValue := 0 }]
  methods := #[k7m0, k7m1, k7m2]
  instanceTypes := #[(.array .byte), .byte, .int, .boolean]
  staticTypes := #[.long, .boolean, (.array (.object "java/io/ObjectStreamField")), .char, (.object "java/util/Comparator"), .byte, .byte]
  resolved := Array.replicate 1451 none
  statics := some 0 }

def pool8 : Array CpInfo := pool [(4, .class_ 6), (1, u "java/lang/Object"), (0, u "<init>"), (0, u "()V"), (5, .class_ 16), (1, u "java/lang/StringLatin1"), (73, u "canEncode"), (14, u "(C)Z"), (15, u "$assertionsDisabled"), (0, u "Z"), (98, .class_ 223), (1, u "java/lang/StringLatin1$LinesSpliterator"), (156, u "toBytes"), (1, u "(C)[B"), (7, .class_ 391), (0, u "java/lang/StringLatin1$CharsSpliterator")] 3

def k8m0 : Method := { name := "<init>", desc := "()V", sig := { parameters := [], returnType := none }, accessFlags := 0, code := none }
def k8c1 : Code := { maxStack := 2, maxLocals := 1, code := jdk_43_method_3_code, exceptionTable := #[], attributes := #[] }
def k8m1 : Method := { name := "canEncode", desc := "(C)Z", sig := { parameters := [.char], returnType := some .boolean }, accessFlags := 9, code := some k8c1 }
def k8c2 : Code := { maxStack := 4, maxLocals := 1, code := jdk_43_method_46_code, exceptionTable := #[], attributes := #[] }
def k8m2 : Method := { name := "toBytes", desc := "(C)[B", sig := { parameters := [.char], returnType := some (.array .byte) }, accessFlags := 9, code := some k8c2 }
/-- java/lang/StringLatin1 -/
def k8 : Class := { plain "java/lang/StringLatin1" (some 0) with
  accessFlags := 48
  interfaces := #[]
  cf := some (fileOf pool8 14 #[.nestMembers #[390, 221]] #[{ accessFlags := 0, nameIndex := 7, descriptorIndex := 8, attributes := #[] }, { accessFlags := 9, nameIndex := 90, descriptorIndex := 105, attributes := #[] }, { accessFlags := 9, nameIndex := 380, descriptorIndex := 382, attributes := #[] }] 48 4 #[] #[{ accessFlags := 4120, nameIndex := 121, descriptorIndex := 122, attributes := #[] }])
  fields := #[{ name := "$assertionsDisabled", type := .boolean, accessFlags := 4120, slot := 0, constantValue := 0 }]
  methods := #[k8m0, k8m1, k8m2]
  instanceTypes := #[]
  staticTypes := #[.boolean]
  resolved := Array.replicate 395 none
  statics := none }

def pool9 : Array CpInfo := pool [(1, .methodref 2 3), (0, .class_ 4), (0, .nameAndType 5 6), (0, u "java/lang/Object"), (0, u "<init>"), (0, u "()V"), (0, .class_ 8), (0, u "java/lang/Record")] 13

def k9c0 : Code := { maxStack := 1, maxLocals := 1, code := jdk_30_method_1_code, exceptionTable := #[], attributes := #[] }
def k9m0 : Method := { name := "<init>", desc := "()V", sig := { parameters := [], returnType := none }, accessFlags := 4, code := some k9c0 }
/-- java/lang/Record -/
def k9 : Class := { plain "java/lang/Record" (some 0) with
  accessFlags := 1057
  interfaces := #[]
  cf := some (fileOf pool9 7 #[] #[{ accessFlags := 4, nameIndex := 5, descriptorIndex := 6, attributes := #[] }] 1057 2 #[] #[])
  fields := #[]
  methods := #[k9m0]
  instanceTypes := #[]
  staticTypes := #[]
  resolved := Array.replicate 22 none
  statics := none }

def pool10 : Array CpInfo := pool [(1, .methodref 2 3), (0, .class_ 4), (0, .nameAndType 5 6), (0, u "java/lang/Record"), (0, u "<init>"), (0, u "()V"), (0, .fieldref 8 9), (0, .class_ 10), (0, .nameAndType 11 12), (0, u "sundrywick/calendar/LocalTimeType"), (0, u "offset"), (0, u "I"), (0, .fieldref 8 14), (0, .nameAndType 15 16), (0, u "daylight"), (0, u "Z"), (0, .fieldref 8 18), (0, .nameAndType 19 20), (0, u "abbreviation"), (0, u "Ljava/lang/String;"), (0, .fieldref 8 22), (0, .nameAndType 23 12), (0, u "standardOffset"), (12, u "(IZLjava/lang/String;I)V"), (3, u "sameClock"), (0, u "(Lsundrywick/calendar/LocalTimeType;)Z")] 29

def k10c0 : Code := { maxStack := 2, maxLocals := 5, code := prog_8_method_1_code, exceptionTable := #[], attributes := #[] }
def k10m0 : Method := { name := "<init>", desc := "(IZLjava/lang/String;I)V", sig := { parameters := [.int, .boolean, (.object "java/lang/String"), .int], returnType := none }, accessFlags := 0, code := some k10c0 }
def k10c1 : Code := { maxStack := 2, maxLocals := 2, code := prog_8_method_2_code, exceptionTable := #[], attributes := #[] }
def k10m1 : Method := { name := "sameClock", desc := "(Lsundrywick/calendar/LocalTimeType;)Z", sig := { parameters := [(.object "sundrywick/calendar/LocalTimeType")], returnType := some .boolean }, accessFlags := 0, code := some k10c1 }
/-- sundrywick/calendar/LocalTimeType -/
def k10 : Class := { plain "sundrywick/calendar/LocalTimeType" (some 9) with
  accessFlags := 48
  interfaces := #[]
  cf := some (fileOf pool10 8 #[] #[{ accessFlags := 0, nameIndex := 5, descriptorIndex := 36, attributes := #[] }, { accessFlags := 0, nameIndex := 40, descriptorIndex := 41, attributes := #[] }] 48 2 #[] #[{ accessFlags := 18, nameIndex := 11, descriptorIndex := 12, attributes := #[] }, { accessFlags := 18, nameIndex := 15, descriptorIndex := 16, attributes := #[] }, { accessFlags := 18, nameIndex := 19, descriptorIndex := 20, attributes := #[] }, { accessFlags := 18, nameIndex := 23, descriptorIndex := 12, attributes := #[] }])
  fields := #[{ name := "offset", type := .int, accessFlags := 18, slot := 0, constantValue := 0 }, { name := "daylight", type := .boolean, accessFlags := 18, slot := 1, constantValue := 0 }, { name := "abbreviation", type := (.object "java/lang/String"), accessFlags := 18, slot := 2, constantValue := 0 }, { name := "standardOffset", type := .int, accessFlags := 18, slot := 3, constantValue := 0 }]
  methods := #[k10m0, k10m1]
  instanceTypes := #[.int, .boolean, (.object "java/lang/String"), .int]
  staticTypes := #[]
  resolved := Array.replicate 71 none
  statics := none }

def pool11 : Array CpInfo := pool [(2, .class_ 4), (1, u "java/lang/Object"), (0, u "<init>"), (0, u "()V"), (17, .class_ 26), (1, u "jdk/internal/util/Preconditions"), (28, .class_ 56), (0, u "jdk/internal/util/Preconditions$4"), (57, .class_ 115), (0, u "jdk/internal/util/Preconditions$1"), (7, u "SIOOBE_FORMATTER"), (0, u "Ljava/util/function/BiFunction;"), (0, .class_ 126), (0, u "jdk/internal/util/Preconditions$2"), (3, u "AIOOBE_FORMATTER"), (0, .class_ 132), (0, u "jdk/internal/util/Preconditions$3"), (3, u "IOOBE_FORMATTER")] 57

def k11m0 : Method := { name := "<init>", desc := "()V", sig := { parameters := [], returnType := none }, accessFlags := 1, code := none }
/-- jdk/internal/util/Preconditions -/
def k11 : Class := { plain "jdk/internal/util/Preconditions" (some 0) with
  accessFlags := 33
  interfaces := #[]
  cf := some (fileOf pool11 24 #[.nestMembers #[55, 131, 125, 114]] #[{ accessFlags := 1, nameIndex := 5, descriptorIndex := 6, attributes := #[] }] 33 2 #[] #[{ accessFlags := 25, nameIndex := 123, descriptorIndex := 124, attributes := #[] }, { accessFlags := 25, nameIndex := 130, descriptorIndex := 124, attributes := #[] }, { accessFlags := 25, nameIndex := 136, descriptorIndex := 124, attributes := #[] }])
  fields := #[{ name := "SIOOBE_FORMATTER", type := (.object "java/util/function/BiFunction"), accessFlags := 25, slot := 0, constantValue := 0 }, { name := "AIOOBE_FORMATTER", type := (.object "java/util/function/BiFunction"), accessFlags := 25, slot := 1, constantValue := 0 }, { name := "IOOBE_FORMATTER", type := (.object "java/util/function/BiFunction"), accessFlags := 25, slot := 2, constantValue := 0 }]
  methods := #[k11m0]
  instanceTypes := #[]
  staticTypes := #[(.object "java/util/function/BiFunction"), (.object "java/util/function/BiFunction"), (.object "java/util/function/BiFunction")]
  resolved := Array.replicate 194 none
  statics := some 1 }

def pool12 : Array CpInfo := pool [(9, u "<init>"), (6, .class_ 18), (1, u "java/lang/Object"), (0, u "()V"), (1, .class_ 23), (1, u "jdk/internal/util/ArraysSupport"), (0, u "LOG2_ARRAY_LONG_INDEX_SCALE"), (0, u "I"), (2, u "U"), (0, u "Ljdk/internal/misc/Unsafe;"), (8, u "BIG_ENDIAN"), (0, u "Z"), (8, u "LOG2_BYTE_BIT_SIZE"), (4, u "LOG2_ARRAY_INT_INDEX_SCALE"), (54, u "JLA"), (0, u "Ljdk/internal/access/JavaLangAccess;"), (11, u "LOG2_ARRAY_BOOLEAN_INDEX_SCALE"), (9, u "LOG2_ARRAY_BYTE_INDEX_SCALE"), (5, u "LOG2_ARRAY_CHAR_INDEX_SCALE"), (5, u "LOG2_ARRAY_SHORT_INDEX_SCALE"), (18, u "LOG2_ARRAY_FLOAT_INDEX_SCALE"), (24, u "LOG2_ARRAY_DOUBLE_INDEX_SCALE"), (89, u "T_BOOLEAN"), (2, u "T_CHAR"), (1, u "T_FLOAT"), (1, u "T_DOUBLE"), (1, u "T_BYTE"), (1, u "T_SHORT"), (1, u "T_INT"), (1, u "T_LONG"), (1, u "SOFT_MAX_ARRAY_LENGTH")] 83

def k12m0 : Method := { name := "<init>", desc := "()V", sig := { parameters := [], returnType := none }, accessFlags := 2, code := none }
/-- jdk/internal/util/ArraysSupport -/
def k12 : Class := { plain "jdk/internal/util/ArraysSupport" (some 0) with
  accessFlags := 33
  interfaces := #[]
  cf := some (fileOf pool12 21 #[] #[{ accessFlags := 2, nameIndex := 9, descriptorIndex := 19, attributes := #[] }] 33 16 #[] #[{ accessFlags := 24, nameIndex := 28, descriptorIndex := 29, attributes := #[] }, { accessFlags := 26, nameIndex := 38, descriptorIndex := 39, attributes := #[] }, { accessFlags := 25, nameIndex := 121, descriptorIndex := 25, attributes := #[] }, { accessFlags := 25, nameIndex := 131, descriptorIndex := 25, attributes := #[] }, { accessFlags := 25, nameIndex := 137, descriptorIndex := 25, attributes := #[] }, { accessFlags := 25, nameIndex := 143, descriptorIndex := 25, attributes := #[] }, { accessFlags := 25, nameIndex := 53, descriptorIndex := 25, attributes := #[] }, { accessFlags := 25, nameIndex := 24, descriptorIndex := 25, attributes := #[] }, { accessFlags := 25, nameIndex := 162, descriptorIndex := 25, attributes := #[] }, { accessFlags := 25, nameIndex := 187, descriptorIndex := 25, attributes := #[] }, { accessFlags := 26, nameIndex := 48, descriptorIndex := 25, attributes := #[] }, { accessFlags := 25, nameIndex := 277, descriptorIndex := 25, attributes := #[] }, { accessFlags := 25, nameIndex := 280, descriptorIndex := 25, attributes := #[] }, { accessFlags := 25, nameIndex := 282, descriptorIndex := 25, attributes := #[] }, { accessFlags := 25, nameIndex := 284, descriptorIndex := 25, attributes := #[] }, { accessFlags := 25, nameIndex := 286, descriptorIndex := 25, attributes := #[] }, { accessFlags := 25, nameIndex := 288, descriptorIndex := 25, attributes := #[] }, { accessFlags := 25, nameIndex := 290, descriptorIndex := 25, attributes := #[] }, { accessFlags := 25, nameIndex := 292, descriptorIndex := 25, attributes := #[] }, { accessFlags := 26, nameIndex := 108, descriptorIndex := 109, attributes := #[] }, { accessFlags := 25, nameIndex := 294, descriptorIndex := 25, attributes := #[] }])
  fields := #[{ name := "U", type := (.object "jdk/internal/misc/Unsafe"), accessFlags := 24, slot := 0, constantValue := 0 }, { name := "BIG_ENDIAN", type := .boolean, accessFlags := 26, slot := 1, constantValue := 0 }, { name := "LOG2_ARRAY_BOOLEAN_INDEX_SCALE", type := .int, accessFlags := 25, slot := 2, constantValue := 0 }, { name := "LOG2_ARRAY_BYTE_INDEX_SCALE", type := .int, accessFlags := 25, slot := 3, constantValue := 0 }, { name := "LOG2_ARRAY_CHAR_INDEX_SCALE", type := .int, accessFlags := 25, slot := 4, constantValue := 0 }, { name := "LOG2_ARRAY_SHORT_INDEX_SCALE", type := .int, accessFlags := 25, slot := 5, constantValue := 0 }, { name := "LOG2_ARRAY_INT_INDEX_SCALE", type := .int, accessFlags := 25, slot := 6, constantValue := 0 }, { name := "LOG2_ARRAY_LONG_INDEX_SCALE", type := .int, accessFlags := 25, slot := 7, constantValue := 0 }, { name := "LOG2_ARRAY_FLOAT_INDEX_SCALE", type := .int, accessFlags := 25, slot := 8, constantValue := 0 }, { name := "LOG2_ARRAY_DOUBLE_INDEX_SCALE", type := .int, accessFlags := 25, slot := 9, constantValue := 0 }, { name := "LOG2_BYTE_BIT_SIZE", type := .int, accessFlags := 26, slot := 10, constantValue := 0 }, { name := "T_BOOLEAN", type := .int, accessFlags := 25, slot := 11, constantValue := 0 }, { name := "T_CHAR", type := .int, accessFlags := 25, slot := 12, constantValue := 0 }, { name := "T_FLOAT", type := .int, accessFlags := 25, slot := 13, constantValue := 0 }, { name := "T_DOUBLE", type := .int, accessFlags := 25, slot := 14, constantValue := 0 }, { name := "T_BYTE", type := .int, accessFlags := 25, slot := 15, constantValue := 0 }, { name := "T_SHORT", type := .int, accessFlags := 25, slot := 16, constantValue := 0 }, { name := "T_INT", type := .int, accessFlags := 25, slot := 17, constantValue := 0 }, { name := "T_LONG", type := .int, accessFlags := 25, slot := 18, constantValue := 0 }, { name := "JLA", type := (.object "jdk/internal/access/JavaLangAccess"), accessFlags := 26, slot := 19, constantValue := 0 }, { name := "SOFT_MAX_ARRAY_LENGTH", type := .int, accessFlags := 25, slot := 20, constantValue := 0 }]
  methods := #[k12m0]
  instanceTypes := #[]
  staticTypes := #[(.object "jdk/internal/misc/Unsafe"), .boolean, .int, .int, .int, .int, .int, .int, .int, .int, .int, .int, .int, .int, .int, .int, .int, .int, .int, (.object "jdk/internal/access/JavaLangAccess"), .int]
  resolved := Array.replicate 378 none
  statics := none }

def pool13 : Array CpInfo := pool [(1, u "java/lang/Cloneable"), (0, .class_ 1), (0, u "java/lang/Object"), (0, .class_ 3)] 3

/-- java/lang/Cloneable -/
def k13 : Class := { plain "java/lang/Cloneable" (some 0) with
  accessFlags := 1537
  interfaces := #[]
  cf := some (fileOf pool13 2 #[] #[] 1537 4 #[] #[])
  fields := #[]
  methods := #[]
  instanceTypes := #[]
  staticTypes := #[]
  resolved := Array.replicate 8 none
  statics := none }

/-- the primitive byte -/
def k14 : Class := { plain "byte" none with kind := .primitive 'B', accessFlags := 0x411 }
/-- [B -/
def k15 : Class := { plain "[B" (some 0) with kind := .array 14 .byte, interfaces := #[13, 2], accessFlags := 1041 }

/-- the primitive int -/
def k16 : Class := { plain "int" none with kind := .primitive 'I', accessFlags := 0x411 }
/-- [I -/
def k17 : Class := { plain "[I" (some 0) with kind := .array 16 .int, interfaces := #[13, 2], accessFlags := 1041 }

def heap : Heap := #[{ cls := 7, slots := #[.long 0, .int 1, .null, .int 0, .null, .int 0, .int 0], vm := .statics 7 },
  { cls := 11, slots := #[.null, .null, .null], vm := .statics 11 }]
def classes : Array Class := #[k0, k1, k2, k3, k4, k5, k6, k7, k8, k9, k10, k11, k12, k13, k14, k15, k16, k17]
def interned : List (Array UInt16 × Addr) := []
def slotsUsed : Nat := 10
def theMethod : MethodId := ⟨1, 1⟩
def args0 : Array Value := #[.int 1, .int 2, .int 3, .int 4, .int 5, .int 3]
def aboutOver (below : List Frame) : State where
  vm := { classes := classes, interned := interned.toArray }
  heap := heap
  slotsUsed := slotsUsed
  threads := #[{ frames := .invoking theMethod args0 :: below }]
def below0 : List Frame := [.native { method := ⟨0, 0⟩, args := #[] }]
def about1 : State := aboutOver below0
def p0 : Program := .bare "" "" ""
def e0 : Env := launch0.env 0 0 0
theorem w_frames : about1.frames = Frame.invoking theMethod args0 :: below0 := rfl
set_option maxRecDepth 65536 in
theorem w_args : argsFit about1.vm theMethod args0 = true := by decide +kernel
set_option maxRecDepth 65536 in
theorem w_heap : heapFits about1 = true := by decide +kernel
set_option maxRecDepth 65536 in
theorem w_runnable : about1.curStatus? = some .runnable := by decide +kernel
set_option maxRecDepth 65536 in
theorem w_alone : about1.alone = true := by decide +kernel
set_option maxRecDepth 65536 in
theorem w_named : about1.methodNamed? x = some theMethod := by decide +kernel
set_option maxRecDepth 65536 in
theorem w_hears : about1.hears theMethod below0 = true := by decide +kernel
set_option maxRecDepth 65536 in
theorem w_ripe : about1.ripe theMethod args0 below0 = true := by decide +kernel
theorem w_running : about1.status = .running := rfl
set_option maxRecDepth 65536 in
theorem w_room : about1.hasRoom e0.platform room_1 = true :=
  launch0.hasRoom_least _ room_1 (by decide +kernel) (by decide +kernel) (by decide +kernel) (by decide +kernel) (by decide +kernel) (by decide +kernel)
theorem allAtoms_all (ts : List Jvm.Cond) (a : Array Jvm.Value) (st : Jvm.State) : (allAtoms ts).before a st = ts.all (fun c => c.before a st) := by
  induction ts with
  | nil => rfl
  | cons c t ih =>
    show (Jvm.Cond.and c (allAtoms t)).before a st = _
    rw [Jvm.Cond.before_and, ih, List.all_cons]
def words1 : List Jvm.Cond := Jvm.Cond.code x code maxLocals ret :: tables_1
/-- a 'code' word, met by the world's own term for the bytes: nothing is compared byte by byte -/
theorem code_word {y : MethodName} {bytes : ByteArray} {mx : Nat} {rt : Option FieldType} {a : Array Value} {s : State} {m : MethodId} {meth : Method} {c : Code} (h1 : s.methodNamed? y = some m) (h2 : s.vm.method? m = some meth) (h3 : meth.code = some c) (h4 : c.code = bytes)
    (h5 : (c.maxLocals == mx && c.exceptionTable.isEmpty && decide (c.maxStack ≤ mostOperands) && decide (meth.sig.returnType = rt) && !meth.locks && decide (parseMethodDescriptor y.desc = some meth.sig)) = true) : (Jvm.Cond.code y bytes mx rt).before a s = true := by
  simp only [Bool.and_eq_true, beq_iff_eq, Bool.not_eq_true', decide_eq_true_eq] at h5
  obtain ⟨⟨⟨⟨⟨g1, g2⟩, g3⟩, g4⟩, g5⟩, g6⟩ := h5
  simp [Cond.before, Cond.holds, Cond.value, h1, h2, h3, h4, g1, g2, g3, g4, g5, g6]
def isCode : Jvm.Cond → Bool
  | .code _ _ _ _ => true
  | _ => false
theorem all_split {L : List Jvm.Cond} {P : Jvm.Cond → Bool} (h1 : L.all (fun c => isCode c || P c) = true) (h2 : ∀ c ∈ L.filter isCode, P c = true) : L.all P = true := by
  refine List.all_eq_true.mpr fun c hc => ?_
  have h := List.all_eq_true.mp h1 c hc
  rcases Bool.eq_false_or_eq_true (isCode c) with hi | hi
  · exact h2 c (List.mem_filter.mpr ⟨hc, hi⟩)
  · simpa [hi] using h
set_option maxRecDepth 65536 in
theorem w_c0 : (Jvm.Cond.code x code maxLocals ret).before args0 about1 = true := code_word (m := ⟨1, 1⟩) (meth := k1m1) (c := k1c1) (by decide +kernel) rfl rfl rfl (by decide +kernel)
set_option maxRecDepth 65536 in
theorem w_c1 : (Jvm.Cond.code ({ cls := "java/lang/String", name := "valueOf", desc := "(C)Ljava/lang/String;" } : Jvm.MethodName) jdk_42_method_139_code (1 : Nat) (Option.some (Jvm.ClassFile.FieldType.object "java/lang/String"))).before args0 about1 = true := code_word (m := ⟨7, 1⟩) (meth := k7m1) (c := k7c1) (by decide +kernel) rfl rfl rfl (by decide +kernel)
set_option maxRecDepth 65536 in
theorem w_c2 : (Jvm.Cond.code ({ cls := "java/lang/StringLatin1", name := "canEncode", desc := "(C)Z" } : Jvm.MethodName) jdk_43_method_3_code (1 : Nat) (Option.some Jvm.ClassFile.FieldType.boolean)).before args0 about1 = true := code_word (m := ⟨8, 1⟩) (meth := k8m1) (c := k8c1) (by decide +kernel) rfl rfl rfl (by decide +kernel)
set_option maxRecDepth 65536 in
theorem w_c3 : (Jvm.Cond.code ({ cls := "java/lang/StringLatin1", name := "toBytes", desc := "(C)[B" } : Jvm.MethodName) jdk_43_method_46_code (1 : Nat) (Option.some (Jvm.ClassFile.FieldType.array Jvm.ClassFile.FieldType.byte))).before args0 about1 = true := code_word (m := ⟨8, 2⟩) (meth := k8m2) (c := k8c2) (by decide +kernel) rfl rfl rfl (by decide +kernel)
set_option maxRecDepth 65536 in
theorem w_c4 : (Jvm.Cond.code ({ cls := "java/lang/String", name := "<init>", desc := "([BB)V" } : Jvm.MethodName) jdk_42_method_151_code (3 : Nat) (Option.none : Option Jvm.ClassFile.FieldType)).before args0 about1 = true := code_word (m := ⟨7, 2⟩) (meth := k7m2) (c := k7c2) (by decide +kernel) rfl rfl rfl (by decide +kernel)
set_option maxRecDepth 65536 in
theorem w_c5 : (Jvm.Cond.code ({ cls := "java/lang/Object", name := "<init>", desc := "()V" } : Jvm.MethodName) object_method_1_code (1 : Nat) (Option.none : Option Jvm.ClassFile.FieldType)).before args0 about1 = true := code_word (m := ⟨0, 0⟩) (meth := k0m0) (c := k0c0) (by decide +kernel) rfl rfl rfl (by decide +kernel)
set_option maxRecDepth 65536 in
theorem w_c6 : (Jvm.Cond.code ({ cls := "sundrywick/calendar/LocalTimeType", name := "<init>", desc := "(IZLjava/lang/String;I)V" } : Jvm.MethodName) prog_8_method_1_code (5 : Nat) (Option.none : Option Jvm.ClassFile.FieldType)).before args0 about1 = true := code_word (m := ⟨10, 0⟩) (meth := k10m0) (c := k10c0) (by decide +kernel) rfl rfl rfl (by decide +kernel)
set_option maxRecDepth 65536 in
theorem w_c7 : (Jvm.Cond.code ({ cls := "java/lang/Record", name := "<init>", desc := "()V" } : Jvm.MethodName) jdk_30_method_1_code (1 : Nat) (Option.none : Option Jvm.ClassFile.FieldType)).before args0 about1 = true := code_word (m := ⟨9, 0⟩) (meth := k9m0) (c := k9c0) (by decide +kernel) rfl rfl rfl (by decide +kernel)
set_option maxRecDepth 65536 in
theorem w_c8 : (Jvm.Cond.code ({ cls := "sundrywick/calendar/LocalTimeType", name := "sameClock", desc := "(Lsundrywick/calendar/LocalTimeType;)Z" } : Jvm.MethodName) prog_8_method_2_code (2 : Nat) (Option.some Jvm.ClassFile.FieldType.boolean)).before args0 about1 = true := code_word (m := ⟨10, 1⟩) (meth := k10m1) (c := k10c1) (by decide +kernel) rfl rfl rfl (by decide +kernel)
def codes1 : List Jvm.Cond := [Jvm.Cond.code x code maxLocals ret, Jvm.Cond.code ({ cls := "java/lang/String", name := "valueOf", desc := "(C)Ljava/lang/String;" } : Jvm.MethodName) jdk_42_method_139_code (1 : Nat) (Option.some (Jvm.ClassFile.FieldType.object "java/lang/String")), Jvm.Cond.code ({ cls := "java/lang/StringLatin1", name := "canEncode", desc := "(C)Z" } : Jvm.MethodName) jdk_43_method_3_code (1 : Nat) (Option.some Jvm.ClassFile.FieldType.boolean), Jvm.Cond.code ({ cls := "java/lang/StringLatin1", name := "toBytes", desc := "(C)[B" } : Jvm.MethodName) jdk_43_method_46_code (1 : Nat) (Option.some (Jvm.ClassFile.FieldType.array Jvm.ClassFile.FieldType.byte)), Jvm.Cond.code ({ cls := "java/lang/String", name := "<init>", desc := "([BB)V" } : Jvm.MethodName) jdk_42_method_151_code (3 : Nat) (Option.none : Option Jvm.ClassFile.FieldType), Jvm.Cond.code ({ cls := "java/lang/Object", name := "<init>", desc := "()V" } : Jvm.MethodName) object_method_1_code (1 : Nat) (Option.none : Option Jvm.ClassFile.FieldType), Jvm.Cond.code ({ cls := "sundrywick/calendar/LocalTimeType", name := "<init>", desc := "(IZLjava/lang/String;I)V" } : Jvm.MethodName) prog_8_method_1_code (5 : Nat) (Option.none : Option Jvm.ClassFile.FieldType), Jvm.Cond.code ({ cls := "java/lang/Record", name := "<init>", desc := "()V" } : Jvm.MethodName) jdk_30_method_1_code (1 : Nat) (Option.none : Option Jvm.ClassFile.FieldType), Jvm.Cond.code ({ cls := "sundrywick/calendar/LocalTimeType", name := "sameClock", desc := "(Lsundrywick/calendar/LocalTimeType;)Z" } : Jvm.MethodName) prog_8_method_2_code (2 : Nat) (Option.some Jvm.ClassFile.FieldType.boolean)]
set_option maxRecDepth 65536 in
theorem codes_eq : words1.filter isCode = codes1 := rfl
theorem w_codes : ∀ c ∈ words1.filter isCode, c.before args0 about1 = true := by
  rw [codes_eq]
  intro c hc
  simp only [codes1, List.mem_cons, List.not_mem_nil, or_false] at hc
  rcases hc with rfl | rfl | rfl | rfl | rfl | rfl | rfl | rfl | rfl
  · exact w_c0
  · exact w_c1
  · exact w_c2
  · exact w_c3
  · exact w_c4
  · exact w_c5
  · exact w_c6
  · exact w_c7
  · exact w_c8
set_option maxRecDepth 65536 in
theorem w_t1 : (words1.take 24).all (fun c => isCode c || c.before args0 about1) = true := by decide +kernel
set_option maxRecDepth 65536 in
theorem w_t2 : ((words1.drop 24).take 24).all (fun c => isCode c || c.before args0 about1) = true := by decide +kernel
set_option maxRecDepth 65536 in
theorem w_t3 : ((words1.drop 24).drop 24).all (fun c => isCode c || c.before args0 about1) = true := by decide +kernel
theorem w_tables : (allAtoms (Jvm.Cond.code x code maxLocals ret :: tables_1)).before args0 about1 = true := by
  rw [allAtoms_all]
  show words1.all (fun c => c.before args0 about1) = true
  refine all_split ?_ w_codes
  rw [← List.take_append_drop 24 words1, List.all_append, w_t1, ← List.take_append_drop 24 (words1.drop 24), List.all_append, w_t2, w_t3]
  rfl
set_option maxRecDepth 65536 in
theorem w_rest : rest_1_c.before args0 about1 = true := by decide +kernel
set_option maxRecDepth 65536 in
theorem w_case : (Jvm.Cond.and given_1 narrow_1).before args0 about1 = true := by decide +kernel
theorem w_applies : (headSpec (Jvm.Cond.code x code maxLocals ret :: tables_1) room_1).applies x e0.platform about1 = true :=
  (Spec.applies_iff w_frames).mpr ⟨w_running, w_runnable, w_alone, w_named, w_hears, w_ripe, w_room, w_tables⟩
theorem atStart : AtStart classFile x code maxLocals ret World_1 tables_1 room_1 Calls_1 rest_1 Pre_1 launch0 p0 e0 about1 theMethod args0 below0 :=
  ⟨lists_1, trivial, launch0.admits_env _ _ _, launch0.least_env, fairChoices_fair.cas, fairChoices_fair.clock, w_frames, w_args, w_heap, w_applies, trivial, w_rest, w_case⟩
end start1
theorem witness_1 : WitnessClaimed_1 := ⟨start1.p0, start1.e0, start1.about1, start1.theMethod, start1.args0, start1.below0, start1.atStart⟩
end Jvm.Pilot.@@N@@
