import JvmDerived
import JvmDerived.Pilot.@@N@@Statement
import JvmDerived.Pilot.@@N@@Code
set_option linter.unusedVariables false
set_option linter.unusedSimpArgs false
namespace Jvm.Pilot.@@N@@
open Jvm Jvm.ClassFile Sem Op Lib Jvm.Free Jvm.Stand Jvm.LawKit Jvm.RoadKit Bundle Jvm.Pilot.@@N@@.Jvm.D
section Own
variable {p : Program} {l : Launch} {e : Env} {R : Room} {s : State} {m : MethodId} {args : Array Value} {below : List Frame} {meth : Method} {c : Code} {T T' : State} {locs : List Loc} {cells slots : Nat} {Qf : Option Value → Heap → List Loc → Prop} {C S : Nat} {F F' : JFrame}
/-- from the state T with the frame F on top the invocation ends as Qf says -/
def own_Go (p : Program) (e : Env) (below : List Frame) (s : State) (Qf : Option Value → Heap → List Loc → Prop) (C S : Nat) (T : State) (F : JFrame) : Prop :=
  ∃ s₂ o, Steps p.tables e below (T.setTop F) s₂ ∧ s₂.status = .running ∧ Ended s₂ below o ∧ ∃ v L, o = .returned v ∧ Qf v s₂.heap L ∧ FrameEnd s o s₂ L C S
theorem own_enter (q : F = F') (hr : own_Go p e below s Qf C S T F') : ∃ s₂ o, Steps p.tables e below (T.setTop F) s₂ ∧ s₂.status = .running ∧ Ended s₂ below o ∧ ∃ v L, o = .returned v ∧ Qf v s₂.heap L ∧ FrameEnd s o s₂ L C S := by
  subst q; exact hr
theorem own_st (st : ∀ t, Steps p.tables e below (T'.setTop F') t → Steps p.tables e below (T.setTop F) t) (hr : own_Go p e below s Qf C S T' F') : own_Go p e below s Qf C S T F := by
  obtain ⟨s2, o, h1, h2⟩ := hr
  exact ⟨s2, o, st _ h1, h2⟩
theorem own_tr (st : Steps p.tables e below (T.setTop F) (T'.setTop F')) (hr : own_Go p e below s Qf C S T' F') : own_Go p e below s Qf C S T F := by
  obtain ⟨s2, o, h1, h2⟩ := hr
  exact ⟨s2, o, st.trans h1, h2⟩
theorem own_ret (X : Stand p l e R s m args below meth c T locs cells slots) (hlk : meth.locks = false) {v : Option Value} (hv : meth.sig.returnType = none → v = none)
    (st : ∀ fs, (∀ (f : JFrame) (acts : List Action), f.method = m → f.locked = none → f.entered = [] → (doReturn e (T.setTop f) acts v).1 = T.setFrames fs) → Steps p.tables e below (T.setTop F) (T.setFrames fs))
    (hQ : Qf v T.heap locs) (hC : cells ≤ C) (hS : slots ≤ S) : own_Go p e below s Qf C S T F := by
  obtain ⟨fs, hr, hrun, hended, hW, hsame⟩ := X.leave (v := v) hv hlk
  exact ⟨_, _, st fs hr, hrun, hended, _, _, rfl, hQ, ⟨_, rfl⟩, hW, hsame.mono hC hS⟩
theorem own_retN (X : Stand p l e R s m args below meth c T locs cells slots) (hx : p.tables.exec = Jvm.exec) (hlk : meth.locks = false) {pc : Nat} {Ls : Array Slot} {z : Int32} {t : FieldType} {rest : List Value} (hret : meth.sig.returnType = some t) (ht : t = .boolean ∨ t = .byte ∨ t = .char ∨ t = .short) (hd : decode c.code pc = .ok (.ireturn, 1))
    (hQ : Qf (some (.int (nar t z))) T.heap locs) (hC : cells ≤ C) (hS : slots ≤ S) : own_Go p e below s Qf C S T (mkF m pc Ls (.int z :: rest)) :=
  own_ret X hlk (fun h => by rw [hret] at h; cases h) (fun _ hr => retN X hx hret ht hd hr) hQ hC hS
theorem own_retI (X : Stand p l e R s m args below meth c T locs cells slots) (hx : p.tables.exec = Jvm.exec) (hlk : meth.locks = false) {pc : Nat} {Ls : Array Slot} {z : Int32} {rest : List Value} (hret : meth.sig.returnType = some .int) (hd : decode c.code pc = .ok (.ireturn, 1))
    (hQ : Qf (some (.int z)) T.heap locs) (hC : cells ≤ C) (hS : slots ≤ S) : own_Go p e below s Qf C S T (mkF m pc Ls (.int z :: rest)) :=
  own_ret X hlk (fun h => by rw [hret] at h; cases h) (fun _ hr => retOut X hx hret rfl (Or.inl ⟨rfl, Or.inl rfl, _, rfl⟩) hd hr) hQ hC hS
theorem own_retJ (X : Stand p l e R s m args below meth c T locs cells slots) (hx : p.tables.exec = Jvm.exec) (hlk : meth.locks = false) {pc : Nat} {Ls : Array Slot} {z : Int64} {rest : List Value} (hret : meth.sig.returnType = some .long) (hd : decode c.code pc = .ok (.lreturn, 1))
    (hQ : Qf (some (.long z)) T.heap locs) (hC : cells ≤ C) (hS : slots ≤ S) : own_Go p e below s Qf C S T (mkF m pc Ls (.long z :: rest)) :=
  own_ret X hlk (fun h => by rw [hret] at h; cases h) (fun _ hr => retOut X hx hret rfl (Or.inr (Or.inl ⟨rfl, rfl, _, rfl⟩)) hd hr) hQ hC hS
theorem own_retA (X : Stand p l e R s m args below meth c T locs cells slots) (hx : p.tables.exec = Jvm.exec) (hlk : meth.locks = false) {pc : Nat} {Ls : Array Slot} {w : Value} {t : FieldType} {rest : List Value} (hret : meth.sig.returnType = some t) (ht : t.isReference = true) (hw : w.isRef = true) (hn : narrow t w = w) (hd : decode c.code pc = .ok (.areturn, 1))
    (hQ : Qf (some w) T.heap locs) (hC : cells ≤ C) (hS : slots ≤ S) : own_Go p e below s Qf C S T (mkF m pc Ls (w :: rest)) :=
  own_ret X hlk (fun h => by rw [hret] at h; cases h) (fun _ hr => retOut X hx hret hn (Or.inr (Or.inr (Or.inr (Or.inr ⟨rfl, ht, hw⟩)))) hd hr) hQ hC hS
theorem own_retV (X : Stand p l e R s m args below meth c T locs cells slots) (hx : p.tables.exec = Jvm.exec) (hlk : meth.locks = false) {pc : Nat} {Ls : Array Slot} (hret : meth.sig.returnType = none) (hd : decode c.code pc = .ok (.return_, 1))
    (hQ : Qf none T.heap locs) (hC : cells ≤ C) (hS : slots ≤ S) : own_Go p e below s Qf C S T (mkF m pc Ls []) :=
  own_ret X hlk (fun _ => rfl) (fun _ hr => X.returnOut hx hret hd hr) hQ hC hS
def own_cc : ClassFile.Cond → Int32 → Int32 → Prop
  | .eq, x, y => x = y
  | .ne, x, y => ¬ x = y
  | .lt, x, y => x < y
  | .ge, x, y => ¬ x < y
  | .gt, x, y => y < x
  | .le, x, y => ¬ y < x
def own_nn : ClassFile.Cond → Int32 → Int32 → Prop
  | .eq, x, y => ¬ x = y
  | .ne, x, y => x = y
  | .lt, x, y => ¬ x < y
  | .ge, x, y => x < y
  | .gt, x, y => ¬ y < x
  | .le, x, y => y < x
theorem own_split (cd : ClassFile.Cond) (x y : Int32) : (own_cc cd x y ∧ if_icmp.holds cd x y = true) ∨ (own_nn cd x y ∧ if_icmp.holds cd x y = false) := by
  cases cd
  · by_cases h : x = y
    · exact Or.inl ⟨h, (teq h).1⟩
    · exact Or.inr ⟨h, (feq h).1⟩
  · by_cases h : x = y
    · exact Or.inr ⟨h, (teq h).2⟩
    · exact Or.inl ⟨h, (feq h).2⟩
  · by_cases h : x < y
    · exact Or.inl ⟨h, (tlt h).1⟩
    · exact Or.inr ⟨h, (flt h).1⟩
  · by_cases h : x < y
    · exact Or.inr ⟨h, (tlt h).2.1⟩
    · exact Or.inl ⟨h, (flt h).2.1⟩
  · by_cases h : y < x
    · exact Or.inl ⟨h, (tlt h).2.2.1⟩
    · exact Or.inr ⟨h, (flt h).2.2.1⟩
  · by_cases h : y < x
    · exact Or.inr ⟨h, (tlt h).2.2.2⟩
    · exact Or.inl ⟨h, (flt h).2.2.2⟩
theorem own_icmp (X : Stand p l e R s m args below meth c T locs cells slots) (hx : p.tables.exec = Jvm.exec) {pc pc' pc2 : Nat} {Ls : Array Slot} {st : List Value} {x y : Int32} {cd : ClassFile.Cond} {o : Int} (hd : decode c.code pc = .ok (.if_icmp cd o, 3)) (ho : 0 ≤ (pc : Int) + o) (hp : ((pc : Int) + o).toNat = pc') (h2 : pc + 3 = pc2)
    (hY : own_cc cd x y → own_Go p e below s Qf C S T (mkF m pc' Ls st)) (hN : own_nn cd x y → own_Go p e below s Qf C S T (mkF m pc2 Ls st)) : own_Go p e below s Qf C S T (mkF m pc Ls (.int y :: .int x :: st)) := by
  subst h2
  rcases own_split cd x y with ⟨h, q⟩ | ⟨h, q⟩
  · exact own_st (fun _ k => XS.icmpYes X.here hx rfl (pc0 := pc) (pc' := pc') rfl hd rfl q ho hp k) (hY h)
  · exact own_st (fun _ k => XS.icmpNo X.here hx rfl hd rfl q k) (hN h)
theorem own_ifc (X : Stand p l e R s m args below meth c T locs cells slots) (hx : p.tables.exec = Jvm.exec) {pc pc' pc2 : Nat} {Ls : Array Slot} {st : List Value} {x : Int32} {cd : ClassFile.Cond} {o : Int} (hd : decode c.code pc = .ok (.ifCond cd o, 3)) (ho : 0 ≤ (pc : Int) + o) (hp : ((pc : Int) + o).toNat = pc') (h2 : pc + 3 = pc2)
    (hY : own_cc cd x 0 → own_Go p e below s Qf C S T (mkF m pc' Ls st)) (hN : own_nn cd x 0 → own_Go p e below s Qf C S T (mkF m pc2 Ls st)) : own_Go p e below s Qf C S T (mkF m pc Ls (.int x :: st)) := by
  subst h2
  rcases own_split cd x 0 with ⟨h, q⟩ | ⟨h, q⟩
  · exact own_st (fun _ k => XS.ifYes X.here hx rfl (pc0 := pc) (pc' := pc') rfl hd rfl ((if0 _ _).trans q) ho hp k) (hY h)
  · exact own_st (fun _ k => XS.ifNo X.here hx rfl hd rfl ((if0 _ _).trans q) k) (hN h)
def own_ccL : ClassFile.Cond → Int64 → Int64 → Prop
  | .eq, x, y => x = y
  | .ne, x, y => ¬ x = y
  | .lt, x, y => x < y
  | .ge, x, y => ¬ x < y
  | .gt, x, y => y < x
  | .le, x, y => ¬ y < x
def own_nnL : ClassFile.Cond → Int64 → Int64 → Prop
  | .eq, x, y => ¬ x = y
  | .ne, x, y => x = y
  | .lt, x, y => ¬ x < y
  | .ge, x, y => x < y
  | .gt, x, y => ¬ y < x
  | .le, x, y => y < x
theorem own_lc (cd : ClassFile.Cond) (x y : Int64) : (own_cc cd (lcmpW x y) 0 → own_ccL cd x y) ∧ (own_nn cd (lcmpW x y) 0 → own_nnL cd x y) := by
  have h1 : x > y → lcmpW x y = 1 := fun h => by simp [lcmpW, h]
  have h2 : x = y → lcmpW x y = 0 := fun h => by subst h; simp [lcmpW, Int64.lt_irrefl]
  have h3 : ¬ x > y → ¬ x = y → lcmpW x y = -1 := fun h h' => by simp [lcmpW, h, h']
  have lt : x < y ↔ lcmpW x y < 0 := by
    by_cases a : x > y
    · rw [h1 a]; exact ⟨fun b => absurd (Int64.lt_trans a b) (Int64.lt_irrefl), fun b => absurd b (by decide)⟩
    · by_cases b : x = y
      · rw [h2 b, b]; exact ⟨fun q => absurd q (Int64.lt_irrefl), fun q => absurd q (by decide)⟩
      · rw [h3 a b]; exact ⟨fun _ => by decide, fun _ => by
          rw [Int64.lt_iff_toInt_lt]; simp only [gt_iff_lt, Int64.lt_iff_toInt_lt] at a
          have : x.toInt ≠ y.toInt := fun q => b (Int64.toInt_inj.mp q)
          omega⟩
  have gt : y < x ↔ 0 < lcmpW x y := by
    by_cases a : x > y
    · rw [h1 a]; exact ⟨fun _ => by decide, fun _ => a⟩
    · by_cases b : x = y
      · rw [h2 b]; exact ⟨fun q => absurd q a, fun q => absurd q (by decide)⟩
      · rw [h3 a b]; exact ⟨fun q => absurd q a, fun q => absurd q (by decide)⟩
  have eq : x = y ↔ lcmpW x y = 0 := by
    by_cases a : x > y
    · rw [h1 a]; exact ⟨fun b => absurd a (by rw [b]; exact Int64.lt_irrefl), fun b => absurd b (by decide)⟩
    · by_cases b : x = y
      · exact ⟨fun _ => h2 b, fun _ => b⟩
      · rw [h3 a b]; exact ⟨fun q => absurd q b, fun q => absurd q (by decide)⟩
  cases cd
  · exact ⟨fun h => eq.mpr h, fun h q => h (eq.mp q)⟩
  · exact ⟨fun h q => h (eq.mp q), fun h => eq.mpr h⟩
  · exact ⟨fun h => lt.mpr h, fun h q => h (lt.mp q)⟩
  · exact ⟨fun h q => h (lt.mp q), fun h => lt.mpr h⟩
  · exact ⟨fun h => gt.mpr h, fun h q => h (gt.mp q)⟩
  · exact ⟨fun h q => h (gt.mp q), fun h => gt.mpr h⟩
theorem own_iflc (X : Stand p l e R s m args below meth c T locs cells slots) (hx : p.tables.exec = Jvm.exec) {pc pc' pc2 : Nat} {Ls : Array Slot} {st : List Value} {x y : Int64} {cd : ClassFile.Cond} {o : Int} (hd : decode c.code pc = .ok (.ifCond cd o, 3)) (ho : 0 ≤ (pc : Int) + o) (hp : ((pc : Int) + o).toNat = pc') (h2 : pc + 3 = pc2)
    (hY : own_ccL cd x y → own_Go p e below s Qf C S T (mkF m pc' Ls st)) (hN : own_nnL cd x y → own_Go p e below s Qf C S T (mkF m pc2 Ls st)) : own_Go p e below s Qf C S T (mkF m pc Ls (.int (lcmpW x y) :: st)) :=
  own_ifc X hx hd ho hp h2 (fun h => hY ((own_lc cd x y).1 h)) (fun h => hN ((own_lc cd x y).2 h))
theorem own_acmp (X : Stand p l e R s m args below meth c T locs cells slots) (hx : p.tables.exec = Jvm.exec) {pc pc' pc2 : Nat} {Ls : Array Slot} {st : List Value} {x y : Addr} {o : Int} {cd : ACond} (hd : decode c.code pc = .ok (.if_acmp cd o, 3)) (ho : 0 ≤ (pc : Int) + o) (hp : ((pc : Int) + o).toNat = pc') (h2 : pc + 3 = pc2)
    (hE : x = y → own_Go p e below s Qf C S T (mkF m (if acV cd true = true then pc' else pc2) Ls st)) (hN : ¬ x = y → own_Go p e below s Qf C S T (mkF m (if acV cd false = true then pc' else pc2) Ls st)) : own_Go p e below s Qf C S T (mkF m pc Ls (.ref y :: .ref x :: st)) := by
  subst h2 hp
  by_cases h : x = y
  · exact own_st (fun _ k => Jvm.RoadKit.acmp (g := mkF m pc Ls (.ref y :: .ref x :: st)) X hx rfl rfl rfl (pc0 := pc) (same := true) rfl hd rfl (decide_eq_true (congrArg Value.ref h)) ho rfl k) (hE h)
  · exact own_st (fun _ k => Jvm.RoadKit.acmp (g := mkF m pc Ls (.ref y :: .ref x :: st)) X hx rfl rfl rfl (pc0 := pc) (same := false) rfl hd rfl (decide_eq_false fun q => h (Value.ref.inj q)) ho rfl k) (hN h)
theorem own_ord {Z : State} {a0 : Array Value} {t : Term} {a : Addr} {C n d : String} {k : Int32} (ev : t.eval a0 Z none [] Z = some (.ref a)) (h : (Cond.eq (Term.field t C n d) (Term.int k)).value a0 Z none Z [] = some true) : Fld Z Z.heap a C n d (.int k) := by
  have e1 : (Term.field t C n d).eval a0 Z none [] Z = Z.fieldOf? a C n d := fld_at ev
  simp only [Cond.value, e1] at h
  cases hq : Z.fieldOf? a C n d with
  | none => simp [hq] at h
  | some v =>
    rw [hq] at h
    cases v <;> simp [Term.eval] at h
    subst h
    exact Fld.start hq
theorem own_narb {z : Int32} (h : z = 0 ∨ z = 1) : nar .boolean z = z := by rcases h with rfl | rfl <;> rfl
theorem own_stk {Z : State} {h h' : Heap} {C n d : String} {v : Value} {ws : List Addr} (F : Sta Z h C n d v) (K : Keep h h' ws) (q : ∀ x ∈ ws, ∀ c : Cell, h[x]? = some c → c.vm.isStatics = false) : Sta Z h' C n d v := by
  obtain ⟨cf, i, k, f, st, cell, h1, h2, h3, h4, h5, h6, h7⟩ := F
  exact ⟨cf, i, k, f, st, cell, h1, h2, h3, h4, K.2.1 st cell h5 (fun z => by rw [q st z cell h5] at h6; cases h6), h6, h7⟩
theorem own_npE {Z : State} {h : Heap} {a : Addr} {C : String} (E : Exa Z h a C) : ∀ c : Cell, h[a]? = some c → c.vm.isStatics = false := fun c hc => by
  obtain ⟨cell, k, h1, h2, h3, h4, h5⟩ := E
  cases h1.symm.trans hc
  exact h4
theorem own_npA {Z : State} {h : Heap} {a : Addr} {k : ClassId} {ty : FieldType} {z : Int32} {vs : List Value} {dv : Value} (V : Arv Z h a k ty z vs dv) : ∀ c : Cell, h[a]? = some c → c.vm.isStatics = false := fun c hc => by
  obtain ⟨cl, A, r⟩ := V
  cases A.1.symm.trans hc
  exact A.plain
theorem own_len {Z : State} {a0 : Array Value} {t : Term} {a : Addr} {cl : Cell} {ty : FieldType} {k : Int32} (ev : t.eval a0 Z none [] Z = some (.ref a)) (A : Arr Z Z.heap a cl ty) (h : (Cond.eq (Term.length t) (Term.int k)).value a0 Z none Z [] = some true) : cl.slots.size < 2 ^ 31 ∧ cl.slots.size.toInt32 = k := by
  have ha : Z.arrayAt? a = some cl := IntBox.arrayAt_of A.1 A.2.1 A.2.2
  simp only [Cond.value, Term.eval, ev, Option.bind_eq_bind, Option.bind_some, ha] at h
  by_cases q : cl.slots.size < 2 ^ 31
  · simp [q] at h; exact ⟨q, h⟩
  · simp [q] at h
theorem own_elem {Z : State} {a0 : Array Value} {t : Term} {a : Addr} {cl : Cell} {ty : FieldType} {j v : Int32} (ev : t.eval a0 Z none [] Z = some (.ref a)) (A : Arr Z Z.heap a cl ty) (hj : ¬ j < 0) (h : (Cond.eq (Term.elem t (Term.int j)) (Term.int v)).value a0 Z none Z [] = some true) : cl.slots[j.toNatClampNeg]? = some (.int v) := by
  have ha : Z.arrayAt? a = some cl := IntBox.arrayAt_of A.1 A.2.1 A.2.2
  have e1 : (Term.elem t (Term.int j)).eval a0 Z none [] Z = cl.slots[j.toNatClampNeg]? := elem_f ev rfl ha hj
  simp only [Cond.value, e1] at h
  cases hq : cl.slots[j.toNatClampNeg]? with
  | none => simp [hq] at h
  | some w =>
    rw [hq] at h
    cases w <;> simp [Term.eval] at h
    rw [h]
theorem own_arvex {Z : State} {a : Addr} {cl : Cell} {ty : FieldType} {z : Int32} {dv : Value} (hf : Fit Z) (A : Arr Z Z.heap a cl ty) (q : cl.slots.size < 2 ^ 31) (e : cl.slots.size.toInt32 = z) (hz : ¬ z < 0) : ∃ vs, Arv Z Z.heap a cl.cls ty z vs dv := by
  have S : cl.slots.size = z.toNatClampNeg := by rw [← e]; simp only [Int32.toNatClampNeg, len_toInt q]; rfl
  have H : Has cl cl.slots.toList dv := fun k hk => by
    rw [List.getD_eq_getElem?_getD, Array.getElem?_toList, Array.getElem?_eq_getElem hk]; rfl
  refine ⟨cl.slots.toList, cl, A, rfl, S, hz, H, fun j hj => ?_⟩
  have e1 : (Nat.toInt32 j).toNatClampNeg = j := by simp only [Int32.toNatClampNeg, len_toInt (Nat.lt_trans hj q)]; rfl
  exact elem_fits (j := Nat.toInt32 j) hf A (idx_in hj q) (by rw [e1]; exact H j hj)
theorem own_selp {s : State} {args : Array Value} {y : MethodName} {n : Nat} (wi : (Cond.instantiable y.cls n).before args s = true) (hp : s.PrivateAt y) (hi : (Cond.instanceMethod y).before args s = true) (hy : y.cls ≠ "java/lang/invoke/MethodHandle" ∧ y.cls ≠ "java/lang/invoke/VarHandle") : (Cond.selects y.cls y y).before args s = true := by
  obtain ⟨c, k, hc, hk, -, hf, -⟩ := Cond.instantiable_spec wi
  exact selects_self_of_private hc hk (by simp only [Bool.or_eq_false_iff] at hf; exact hf.1) hp hi hy
theorem own_nar0 : nar .boolean (0 : Int32) = 0 := rfl
theorem own_nar1 : nar .boolean (1 : Int32) = 1 := rfl
end Own

def own_pk (b0 b1 b2 b3 b4 b5 b6 b7 : Bool) : Int64 :=
  ((((((((if b0 then 128 else 0) ||| (if b1 then 32768 else 0)) ||| (if b2 then 8388608 else 0)) ||| (if b3 then 2147483648 else 0)) ||| (if b4 then 549755813888 else 0)) ||| (if b5 then 140737488355328 else 0)) ||| (if b6 then 36028797018963968 else 0)) ||| (if b7 then -9223372036854775808 else 0))
def own_lo (b0 b1 b2 b3 b4 b5 b6 b7 : Bool) : Int64 := if b0 then 128 else if b1 then 32768 else if b2 then 8388608 else if b3 then 2147483648 else if b4 then 549755813888 else if b5 then 140737488355328 else if b6 then 36028797018963968 else if b7 then -9223372036854775808 else 0
theorem own_low : ∀ b0 b1 b2 b3 b4 b5 b6 b7 : Bool, own_pk b0 b1 b2 b3 b4 b5 b6 b7 &&& -(own_pk b0 b1 b2 b3 b4 b5 b6 b7) = own_lo b0 b1 b2 b3 b4 b5 b6 b7 := by decide +kernel
def own_i (b : Bool) : Nat := if b then 128 else 0
theorem own_pkn : ∀ b0 b1 b2 b3 b4 b5 b6 b7 : Bool, (own_pk b0 b1 b2 b3 b4 b5 b6 b7).toBitVec.toNat = own_i b0 + 256 * own_i b1 + 65536 * own_i b2 + 16777216 * own_i b3 + 4294967296 * own_i b4 + 1099511627776 * own_i b5 + 281474976710656 * own_i b6 + 72057594037927936 * own_i b7 := by decide +kernel
theorem own_pkor (a0 a1 a2 a3 a4 a5 a6 a7 b0 b1 b2 b3 b4 b5 b6 b7 : Bool) : own_pk a0 a1 a2 a3 a4 a5 a6 a7 ||| own_pk b0 b1 b2 b3 b4 b5 b6 b7 = own_pk (a0 || b0) (a1 || b1) (a2 || b2) (a3 || b3) (a4 || b4) (a5 || b5) (a6 || b6) (a7 || b7) := by
  have h : ∀ (c : Int64) (a b : Bool), (if (a || b) = true then c else 0) = (if a = true then c else 0) ||| (if b = true then c else 0) := by
    intro c a b; cases a <;> cases b <;> simp
  simp only [own_pk, h]
  ac_rfl
theorem own_abs (a b : Int64) : (a ||| b) &&& a = a := by
  apply Int64.toBitVec_inj.mp
  apply BitVec.eq_of_getLsbD_eq
  intro i hi
  simp only [Int64.toBitVec_and, Int64.toBitVec_or, BitVec.getLsbD_and, BitVec.getLsbD_or]
  cases a.toBitVec.getLsbD i <;> cases b.toBitVec.getLsbD i <;> rfl
theorem own_cmp (a b : Int64) : a &&& ((a ||| b) ^^^ (-1)) = 0 := by
  apply Int64.toBitVec_inj.mp
  apply BitVec.eq_of_getLsbD_eq
  intro i hi
  have e : ((-1 : Int64).toBitVec).getLsbD i = true := by
    have : (-1 : Int64).toBitVec = BitVec.allOnes 64 := by decide
    rw [this, BitVec.getLsbD_allOnes]; simp [hi]
  have e0 : ((0 : Int64).toBitVec).getLsbD i = false := by
    have : (0 : Int64).toBitVec = 0#64 := rfl
    rw [this]; simp
  simp only [Int64.toBitVec_and, Int64.toBitVec_or, Int64.toBitVec_xor, BitVec.getLsbD_and, BitVec.getLsbD_or, BitVec.getLsbD_xor, e, e0]
  cases a.toBitVec.getLsbD i <;> cases b.toBitVec.getLsbD i <;> rfl
/-- the three facts out of the bytes' two bits -/
theorem own_three (E0 E1 E2 E3 E4 E5 E6 E7 F0 F1 F2 F3 F4 F5 F6 F7 M0 M1 M2 M3 M4 M5 M6 M7 : Bool)
    (h0 : M0 = E0) (h1 : M1 = (E1 || (F1 && M0))) (h2 : M2 = (E2 || (F2 && M1))) (h3 : M3 = (E3 || (F3 && M2))) (h4 : M4 = (E4 || (F4 && M3))) (h5 : M5 = (E5 || (F5 && M4))) (h6 : M6 = (E6 || (F6 && M5))) (h7 : M7 = (E7 || (F7 && M6)))
    (m e f : Int64) (hm : m = own_pk M0 M1 M2 M3 M4 M5 M6 M7) (he : e = own_pk E0 E1 E2 E3 E4 E5 E6 E7) (hf : f = own_pk F0 F1 F2 F3 F4 F5 F6 F7) :
    (m &&& -m) = (e &&& -e) ∧ (m &&& e) = e ∧ (m &&& ((e ||| f) ^^^ (-1))) = 0 := by
  have l1 : own_lo M0 M1 M2 M3 M4 M5 M6 M7 = own_lo E0 E1 E2 E3 E4 E5 E6 E7 := by
    unfold own_lo
    cases E0
    · cases E1
      · cases E2
        · cases E3
          · cases E4
            · cases E5
              · cases E6
                · simp_all
                · simp_all
              · simp_all
            · simp_all
          · simp_all
        · simp_all
      · simp_all
    · simp_all
  have g : ∀ (E F M' M : Bool), M = (E || (F && M')) → (E || M) = M ∧ (M || (E || F)) = (E || F) := by
    intro E F M' M h; subst h; cases E <;> cases F <;> cases M' <;> exact ⟨rfl, rfl⟩
  have g0 : (E0 || M0) = M0 ∧ (M0 || (E0 || F0)) = (E0 || F0) := by subst h0; cases M0 <;> cases F0 <;> exact ⟨rfl, rfl⟩
  have g1 := g _ _ _ _ h1
  have g2 := g _ _ _ _ h2
  have g3 := g _ _ _ _ h3
  have g4 := g _ _ _ _ h4
  have g5 := g _ _ _ _ h5
  have g6 := g _ _ _ _ h6
  have g7 := g _ _ _ _ h7
  have o1 : e ||| m = m := by rw [hm, he, own_pkor, g0.1, g1.1, g2.1, g3.1, g4.1, g5.1, g6.1, g7.1]
  have o2 : m ||| (e ||| f) = e ||| f := by rw [hm, he, hf, own_pkor, own_pkor, g0.2, g1.2, g2.2, g3.2, g4.2, g5.2, g6.2, g7.2]
  refine ⟨?_, ?_, ?_⟩
  · rw [hm, he, own_low, own_low, l1]
  · rw [← o1]; exact own_abs e m
  · rw [← o2]; exact own_cmp m _
theorem own_byte : ∀ x : Fin 256, ∀ c : Fin 2, ((((x.val + 255 - c.val) % 256) &&& (x.val ^^^ 255)) &&& 128) = if x.val = 0 ∨ (x.val = 1 ∧ c.val = 1) then 128 else 0 := by decide +kernel
theorem own_dig (N : Nat) (h : N < 18446744073709551616) : N = N % 256 + 256 * (N / 256 % 256) + 65536 * (N / 65536 % 256) + 16777216 * (N / 16777216 % 256) + 4294967296 * (N / 4294967296 % 256) + 1099511627776 * (N / 1099511627776 % 256) + 281474976710656 * (N / 281474976710656 % 256) + 72057594037927936 * (N / 72057594037927936 % 256) := by omega
def own_c (x c : Nat) : Nat := if x < 1 + c then 1 else 0
theorem own_c2 (x c : Nat) : own_c x c < 2 := by unfold own_c; split <;> decide
theorem own_sub (X : Nat) (h : X < 18446744073709551616) (c1 c2 c3 c4 c5 c6 c7 : Nat)
    (h1 : c1 = own_c (X % 256) 0) (h2 : c2 = own_c (X / 256 % 256) c1) (h3 : c3 = own_c (X / 65536 % 256) c2) (h4 : c4 = own_c (X / 16777216 % 256) c3) (h5 : c5 = own_c (X / 4294967296 % 256) c4) (h6 : c6 = own_c (X / 1099511627776 % 256) c5) (h7 : c7 = own_c (X / 281474976710656 % 256) c6) :
    let Y := (X + (18446744073709551616 - 72340172838076673)) % 18446744073709551616
    Y % 256 = (X % 256 + 255 - 0) % 256 ∧ Y / 256 % 256 = (X / 256 % 256 + 255 - c1) % 256 ∧ Y / 65536 % 256 = (X / 65536 % 256 + 255 - c2) % 256 ∧ Y / 16777216 % 256 = (X / 16777216 % 256 + 255 - c3) % 256 ∧ Y / 4294967296 % 256 = (X / 4294967296 % 256 + 255 - c4) % 256 ∧ Y / 1099511627776 % 256 = (X / 1099511627776 % 256 + 255 - c5) % 256 ∧ Y / 281474976710656 % 256 = (X / 281474976710656 % 256 + 255 - c6) % 256 ∧ Y / 72057594037927936 % 256 = (X / 72057594037927936 % 256 + 255 - c7) % 256 := by
  intro Y
  have hd := own_dig X h
  have b1 : c1 < 2 := h1 ▸ own_c2 _ _
  have b2 : c2 < 2 := h2 ▸ own_c2 _ _
  have b3 : c3 < 2 := h3 ▸ own_c2 _ _
  have b4 : c4 < 2 := h4 ▸ own_c2 _ _
  have b5 : c5 < 2 := h5 ▸ own_c2 _ _
  have b6 : c6 < 2 := h6 ▸ own_c2 _ _
  have b7 : c7 < 2 := h7 ▸ own_c2 _ _
  have l0 : X % 256 < 256 := Nat.mod_lt _ (by decide)
  have l1 : X / 256 % 256 < 256 := Nat.mod_lt _ (by decide)
  have l2 : X / 65536 % 256 < 256 := Nat.mod_lt _ (by decide)
  have l3 : X / 16777216 % 256 < 256 := Nat.mod_lt _ (by decide)
  have l4 : X / 4294967296 % 256 < 256 := Nat.mod_lt _ (by decide)
  have l5 : X / 1099511627776 % 256 < 256 := Nat.mod_lt _ (by decide)
  have l6 : X / 281474976710656 % 256 < 256 := Nat.mod_lt _ (by decide)
  have l7 : X / 72057594037927936 % 256 < 256 := Nat.mod_lt _ (by decide)
  have e : Y = (X + (18446744073709551616 - 72340172838076673)) % 18446744073709551616 := rfl
  clear_value Y
  generalize X % 256 = x0 at *
  generalize X / 256 % 256 = x1 at *
  generalize X / 65536 % 256 = x2 at *
  generalize X / 16777216 % 256 = x3 at *
  generalize X / 4294967296 % 256 = x4 at *
  generalize X / 1099511627776 % 256 = x5 at *
  generalize X / 281474976710656 % 256 = x6 at *
  generalize X / 72057594037927936 % 256 = x7 at *
  have d : ∀ x c : Nat, x < 256 → c < 2 → x + 256 * own_c x c = (x + 255 - c) % 256 + 1 + c := by
    intro x c hx hc
    unfold own_c
    split <;> omega
  have d0 := d x0 0 l0 (by decide)
  have d1 := d x1 c1 l1 b1
  have d2 := d x2 c2 l2 b2
  have d3 := d x3 c3 l3 b3
  have d4 := d x4 c4 l4 b4
  have d5 := d x5 c5 l5 b5
  have d6 := d x6 c6 l6 b6
  have d7 := d x7 c7 l7 b7
  have b8 := own_c2 x7 c7
  rw [← h1] at d0
  rw [← h2] at d1
  rw [← h3] at d2
  rw [← h4] at d3
  rw [← h5] at d4
  rw [← h6] at d5
  rw [← h7] at d6
  generalize own_c x7 c7 = c8 at *
  have m : ∀ x c : Nat, (x + 255 - c) % 256 < 256 := fun _ _ => Nat.mod_lt _ (by decide)
  have m0 := m x0 0
  have m1 := m x1 c1
  have m2 := m x2 c2
  have m3 := m x3 c3
  have m4 := m x4 c4
  have m5 := m x5 c5
  have m6 := m x6 c6
  have m7 := m x7 c7
  generalize (x0 + 255 - 0) % 256 = y0 at *
  generalize (x1 + 255 - c1) % 256 = y1 at *
  generalize (x2 + 255 - c2) % 256 = y2 at *
  generalize (x3 + 255 - c3) % 256 = y3 at *
  generalize (x4 + 255 - c4) % 256 = y4 at *
  generalize (x5 + 255 - c5) % 256 = y5 at *
  generalize (x6 + 255 - c6) % 256 = y6 at *
  generalize (x7 + 255 - c7) % 256 = y7 at *
  have k : Y = y0 + 256 * y1 + 65536 * y2 + 16777216 * y3 + 4294967296 * y4 + 1099511627776 * y5 + 281474976710656 * y6 + 72057594037927936 * y7 := by omega
  clear e hd d d0 d1 d2 d3 d4 d5 d6 d7 h1 h2 h3 h4 h5 h6 h7
  refine ⟨by omega, by omega, by omega, by omega, by omega, by omega, by omega, by omega⟩
theorem own_andb (A B P k : Nat) (h : P = 2 ^ k) : (A &&& B) / P % 256 = (A / P % 256) &&& (B / P % 256) := by
  subst h
  rw [show (256 : Nat) = 2 ^ 8 from rfl, ← Nat.shiftRight_eq_div_pow, ← Nat.shiftRight_eq_div_pow, ← Nat.shiftRight_eq_div_pow, Nat.shiftRight_and_distrib, Nat.and_mod_two_pow]
theorem own_xorb (A B P k : Nat) (h : P = 2 ^ k) : (A ^^^ B) / P % 256 = (A / P % 256) ^^^ (B / P % 256) := by
  subst h
  rw [show (256 : Nat) = 2 ^ 8 from rfl, ← Nat.shiftRight_eq_div_pow, ← Nat.shiftRight_eq_div_pow, ← Nat.shiftRight_eq_div_pow, Nat.shiftRight_xor_distrib, Nat.xor_mod_two_pow]
def own_mark (w : Int64) (v i : Int32) (z : Int64) : Prop :=
  (((w.toUInt64 >>> (((8 : Int32) * i) &&& 0x3f).toInt64.toUInt64).toInt64 &&& (255 : Int64)) = v.toInt64 ∧ z = ((128 : Int64) <<< (((8 : Int32) * i) &&& 0x3f).toInt64)) ∨
  (¬ (((w.toUInt64 >>> (((8 : Int32) * i) &&& 0x3f).toInt64.toUInt64).toInt64 &&& (255 : Int64)) = v.toInt64) ∧ z = 0)
def own_marks (w : Int64) (v : Int32) (z : Int64) : Prop := ∃ r0 r1 r2 r3 r4 r5 r6 r7, own_mark w v 0 r0 ∧ own_mark w v 1 r1 ∧ own_mark w v 2 r2 ∧ own_mark w v 3 r3 ∧ own_mark w v 4 r4 ∧ own_mark w v 5 r5 ∧ own_mark w v 6 r6 ∧ own_mark w v 7 r7 ∧ z = (((((((r0 ||| r1) ||| r2) ||| r3) ||| r4) ||| r5) ||| r6) ||| r7)
def own_rep (b : Int32) : Int64 := (72340172838076673 : Int64) * ((b &&& (255 : Int32)).toInt64)
def own_swar (x y : Int64) : Int64 := ((((x ^^^ y) - (72340172838076673 : Int64)) &&& ((x ^^^ y) ^^^ (-1 : Int64))) &&& (-9187201950435737472 : Int64))
theorem own_nat64 (x : Int64) : (x.toBitVec.toNat : Int) = x.toInt % 18446744073709551616 := by
  have h : x.toInt = x.toBitVec.toInt := rfl
  rw [h, BitVec.toInt_eq_toNat_bmod]
  have := x.toBitVec.isLt
  have q := bm64 (x.toBitVec.toNat : Int)
  omega
theorem own_byteof (w : Int64) (q : Int32) (k : Nat) (hk : q.toBitVec.toNat % 64 = k) : ((w.toUInt64 >>> (q &&& 0x3f).toInt64.toUInt64).toInt64 &&& (255 : Int64)).toInt = (w.toBitVec.toNat / 2 ^ k % 256 : Nat) := by
  have m := c_maskL ((w.toUInt64 >>> (q &&& 0x3f).toInt64.toUInt64).toInt64) 255 8 (by decide) (by decide)
  rw [m]
  have e := own_nat64 w
  by_cases h0 : 0 < k
  · rw [c_lushr w q k hk h0, ← e]
    show ((w.toBitVec.toNat : Int) / ((2 ^ k : Nat) : Int)) % ((2 ^ 8 : Nat) : Int) = _
    rw [← Int.natCast_ediv, ← Int.natCast_emod]
  · have hk0 : k = 0 := by omega
    subst hk0
    have s := (sm64 q 0 hk).1
    have z : (w.toUInt64 >>> (q &&& 0x3f).toInt64.toUInt64).toInt64 = w := by
      have z1 : (q &&& 0x3f).toInt64 = 0 := Int64.toBitVec_inj.mp s
      rw [z1]
      show (w.toUInt64 >>> (0 : UInt64)).toInt64 = w
      simp
    rw [z, Nat.pow_zero, Nat.div_one]
    have : ((w.toBitVec.toNat % 256 : Nat) : Int) = w.toInt % 18446744073709551616 % 256 := by rw [← e]; rfl
    rw [this]
    show w.toInt % 256 = _
    omega

theorem own_vn (b : Int32) : ∃ v : Nat, v < 256 ∧ (b &&& (255 : Int32)).toInt = v ∧ (b &&& (255 : Int32)).toBitVec.toNat = v := by
  have h := c_and b 255 (by decide)
  have e : (255 : Int32).toInt = 255 := rfl
  refine ⟨(b &&& (255 : Int32)).toInt.toNat, by omega, by omega, ?_⟩
  have q : (b &&& (255 : Int32)).toInt = ((b &&& (255 : Int32)).toBitVec).toInt := rfl
  have l := (b &&& (255 : Int32)).toBitVec.isLt
  rw [BitVec.toInt_eq_toNat_bmod] at q
  have r := bm32 ((b &&& (255 : Int32)).toBitVec.toNat : Int)
  omega
theorem own_vx (b : Int32) (v : Nat) (hv : v < 256) (h : (b &&& (255 : Int32)).toBitVec.toNat = v) : ((b &&& (255 : Int32)) ^^^ (1 : Int32)).toInt = (v ^^^ 1 : Nat) := by
  have hx : ((b &&& (255 : Int32)) ^^^ (1 : Int32)).toBitVec.toNat = v ^^^ 1 := by
    rw [Int32.toBitVec_xor, BitVec.toNat_xor, h]; rfl
  have hl : v ^^^ 1 < 256 := Nat.xor_lt_two_pow (n := 8) hv (by decide)
  have q : ((b &&& (255 : Int32)) ^^^ (1 : Int32)).toInt = (((b &&& (255 : Int32)) ^^^ (1 : Int32)).toBitVec).toInt := rfl
  rw [q, BitVec.toInt_eq_toNat_bmod, hx]
  have r := bm32 ((v ^^^ 1 : Nat) : Int)
  have r2 := rng32 ((b &&& (255 : Int32)) ^^^ (1 : Int32))
  rw [q, BitVec.toInt_eq_toNat_bmod, hx] at r2
  omega
theorem own_mk {w : Int64} {v i : Int32} {z c : Int64} {k n : Nat} (h : own_mark w v i z) (hk : ((8 : Int32) * i).toBitVec.toNat % 64 = k) (hc : ((128 : Int64) <<< (((8 : Int32) * i) &&& 0x3f).toInt64) = c) (hv : v.toInt = n) : z = if decide (w.toBitVec.toNat / 2 ^ k % 256 = n) then c else 0 := by
  have e := own_byteof w ((8 : Int32) * i) k hk
  have iff : (((w.toUInt64 >>> (((8 : Int32) * i) &&& 0x3f).toInt64.toUInt64).toInt64 &&& (255 : Int64)) = v.toInt64) ↔ w.toBitVec.toNat / 2 ^ k % 256 = n := by
    rw [← Int64.toInt_inj, e, c_i2l, hv]; omega
  rcases h with ⟨a, b⟩ | ⟨a, b⟩
  · rw [if_pos (decide_eq_true (iff.mp a)), b, hc]
  · rw [if_neg (fun q => a (iff.mpr (of_decide_eq_true q))), b]
theorem own_mks {w : Int64} {v : Int32} {z : Int64} {n : Nat} (h : own_marks w v z) (hv : v.toInt = n) : z = own_pk (decide (w.toBitVec.toNat % 256 = n)) (decide (w.toBitVec.toNat / 256 % 256 = n)) (decide (w.toBitVec.toNat / 65536 % 256 = n)) (decide (w.toBitVec.toNat / 16777216 % 256 = n)) (decide (w.toBitVec.toNat / 4294967296 % 256 = n)) (decide (w.toBitVec.toNat / 1099511627776 % 256 = n)) (decide (w.toBitVec.toNat / 281474976710656 % 256 = n)) (decide (w.toBitVec.toNat / 72057594037927936 % 256 = n)) := by
  obtain ⟨r0, r1, r2, r3, r4, r5, r6, r7, h0, h1, h2, h3, h4, h5, h6, h7, rfl⟩ := h
  have e0 := own_mk (c := 128) (k := 0) h0 (by decide) (by decide) hv
  have e1 := own_mk (c := 32768) (k := 8) h1 (by decide) (by decide) hv
  have e2 := own_mk (c := 8388608) (k := 16) h2 (by decide) (by decide) hv
  have e3 := own_mk (c := 2147483648) (k := 24) h3 (by decide) (by decide) hv
  have e4 := own_mk (c := 549755813888) (k := 32) h4 (by decide) (by decide) hv
  have e5 := own_mk (c := 140737488355328) (k := 40) h5 (by decide) (by decide) hv
  have e6 := own_mk (c := 36028797018963968) (k := 48) h6 (by decide) (by decide) hv
  have e7 := own_mk (c := -9223372036854775808) (k := 56) h7 (by decide) (by decide) hv
  rw [Nat.pow_zero, Nat.div_one] at e0
  rw [e0, e1, e2, e3, e4, e5, e6, e7]
  rfl
theorem own_xor0 (a b : Nat) : a ^^^ b = 0 ↔ a = b := by
  constructor
  · intro h
    have : a ^^^ b ^^^ b = 0 ^^^ b := by rw [h]
    rw [Nat.xor_assoc, Nat.xor_self, Nat.xor_zero, Nat.zero_xor] at this
    exact this
  · intro h
    rw [h, Nat.xor_self]
theorem own_xor1 (a b : Nat) : a ^^^ b = 1 ↔ a = b ^^^ 1 := by
  constructor
  · intro h
    have : a ^^^ b ^^^ b = 1 ^^^ b := by rw [h]
    rw [Nat.xor_assoc, Nat.xor_self, Nat.xor_zero] at this
    rw [this, Nat.xor_comm]
  · intro h
    rw [h, Nat.xor_assoc, Nat.xor_comm 1 b, ← Nat.xor_assoc, Nat.xor_self, Nat.zero_xor]

def own_M (x c : Nat) : Bool := decide (x = 0 ∨ (x = 1 ∧ c = 1))
theorem own_c1 (x c : Nat) (hc : c < 2) : (own_c x c = 1) ↔ own_M x c = true := by
  unfold own_c own_M
  rw [decide_eq_true_iff]
  split <;> omega
theorem own_Mrec (x c x' c' : Nat) (hc' : c' < 2) (h : c = own_c x' c') : own_M x c = (decide (x = 0) || (decide (x = 1) && own_M x' c')) := by
  have k := own_c1 x' c' hc'
  rw [← h] at k
  have e : own_M x c = (decide (x = 0) || (decide (x = 1) && decide (c = 1))) := by
    unfold own_M
    by_cases a : x = 0 <;> by_cases b : x = 1 <;> by_cases d : c = 1 <;> simp [a, b, d]
  rw [e]
  have f : decide (c = 1) = own_M x' c' := by
    cases hm : own_M x' c'
    · exact decide_eq_false (fun q => by rw [k.mp q] at hm; cases hm)
    · exact decide_eq_true (k.mpr hm)
  rw [f]
theorem own_bm (x c y : Nat) (hx : x < 256) (hc : c < 2) (hy : y = (x + 255 - c) % 256) : ((y &&& (x ^^^ 255)) &&& 128) = own_i (own_M x c) := by
  have := own_byte ⟨x, hx⟩ ⟨c, hc⟩
  simp only at this
  rw [hy, this]
  unfold own_i own_M
  by_cases q : x = 0 ∨ (x = 1 ∧ c = 1) <;> simp [q]
theorem own_Lv : ∀ v : Fin 256, 72340172838076673 * v.val % 256 = v.val ∧ 72340172838076673 * v.val / 256 % 256 = v.val ∧ 72340172838076673 * v.val / 65536 % 256 = v.val ∧ 72340172838076673 * v.val / 16777216 % 256 = v.val ∧ 72340172838076673 * v.val / 4294967296 % 256 = v.val ∧ 72340172838076673 * v.val / 1099511627776 % 256 = v.val ∧ 72340172838076673 * v.val / 281474976710656 % 256 = v.val ∧ 72340172838076673 * v.val / 72057594037927936 % 256 = v.val := by decide +kernel
theorem own_all (w : Int64) (b : Int32) (e f : Int64) (he : own_marks w (b &&& (255 : Int32)) e) (hf : own_marks w ((b &&& (255 : Int32)) ^^^ (1 : Int32)) f) :
    (own_swar w (own_rep b) &&& -(own_swar w (own_rep b))) = (e &&& -e) ∧ (own_swar w (own_rep b) &&& e) = e ∧ (own_swar w (own_rep b) &&& ((e ||| f) ^^^ (-1 : Int64))) = 0 := by
  obtain ⟨v, hv, hv1, hv2⟩ := own_vn b
  have he' := own_mks he hv1
  have hf' := own_mks hf (own_vx b v hv hv2)
  have hW := w.toBitVec.isLt
  have hR : (own_rep b).toBitVec.toNat = 72340172838076673 * v := by
    have a : (own_rep b).toInt = 72340172838076673 * v ∨ True := Or.inr trivial
    have c1 := own_nat64 (own_rep b)
    have c2 := c_lmul (72340172838076673 : Int64) ((b &&& (255 : Int32)).toInt64)
    rw [c_i2l, hv1] at c2
    have e1 : (72340172838076673 : Int64).toInt = 72340172838076673 := rfl
    rw [e1] at c2
    unfold own_rep at c1 ⊢
    omega
  have hX : (w ^^^ own_rep b).toBitVec.toNat = w.toBitVec.toNat ^^^ (72340172838076673 * v) := by
    rw [Int64.toBitVec_xor, BitVec.toNat_xor, hR]
  obtain ⟨q0, q1, q2, q3, q4, q5, q6, q7⟩ := own_Lv ⟨v, hv⟩
  simp only at q0 q1 q2 q3 q4 q5 q6 q7
  have hXl := (w ^^^ own_rep b).toBitVec.isLt
  generalize hXX : (w ^^^ own_rep b).toBitVec.toNat = X at *
  generalize hWW : w.toBitVec.toNat = W at *
  have hm : (own_swar w (own_rep b)).toBitVec.toNat = ((((X + (18446744073709551616 - 72340172838076673)) % 18446744073709551616) &&& (X ^^^ 18446744073709551615)) &&& 9259542123273814144) := by
    unfold own_swar
    have e1 : (72340172838076673 : Int64).toBitVec.toNat = 72340172838076673 := rfl
    have e2 : (-1 : Int64).toBitVec.toNat = 18446744073709551615 := rfl
    have e3 : (-9187201950435737472 : Int64).toBitVec.toNat = 9259542123273814144 := rfl
    rw [Int64.toBitVec_and, Int64.toBitVec_and, BitVec.toNat_and, BitVec.toNat_and, Int64.toBitVec_sub, Int64.toBitVec_xor (a := w ^^^ own_rep b), BitVec.toNat_xor, BitVec.toNat_sub, hXX, e1, e2, e3, Nat.add_comm]
  have b0 : X % 256 = (W % 256) ^^^ v := by
    have := own_xorb W (72340172838076673 * v) 1 0 (by decide)
    rw [Nat.div_one, Nat.div_one, Nat.div_one] at this
    rw [hX, this, q0]
  have b1 : X / 256 % 256 = (W / 256 % 256) ^^^ v := by
    rw [hX, own_xorb W _ 256 8 (by decide), q1]
  have b2 : X / 65536 % 256 = (W / 65536 % 256) ^^^ v := by
    rw [hX, own_xorb W _ 65536 16 (by decide), q2]
  have b3 : X / 16777216 % 256 = (W / 16777216 % 256) ^^^ v := by
    rw [hX, own_xorb W _ 16777216 24 (by decide), q3]
  have b4 : X / 4294967296 % 256 = (W / 4294967296 % 256) ^^^ v := by
    rw [hX, own_xorb W _ 4294967296 32 (by decide), q4]
  have b5 : X / 1099511627776 % 256 = (W / 1099511627776 % 256) ^^^ v := by
    rw [hX, own_xorb W _ 1099511627776 40 (by decide), q5]
  have b6 : X / 281474976710656 % 256 = (W / 281474976710656 % 256) ^^^ v := by
    rw [hX, own_xorb W _ 281474976710656 48 (by decide), q6]
  have b7 : X / 72057594037927936 % 256 = (W / 72057594037927936 % 256) ^^^ v := by
    rw [hX, own_xorb W _ 72057594037927936 56 (by decide), q7]
  have l0 : X % 256 < 256 := Nat.mod_lt _ (by decide)
  have l1 : X / 256 % 256 < 256 := Nat.mod_lt _ (by decide)
  have l2 : X / 65536 % 256 < 256 := Nat.mod_lt _ (by decide)
  have l3 : X / 16777216 % 256 < 256 := Nat.mod_lt _ (by decide)
  have l4 : X / 4294967296 % 256 < 256 := Nat.mod_lt _ (by decide)
  have l5 : X / 1099511627776 % 256 < 256 := Nat.mod_lt _ (by decide)
  have l6 : X / 281474976710656 % 256 < 256 := Nat.mod_lt _ (by decide)
  have l7 : X / 72057594037927936 % 256 < 256 := Nat.mod_lt _ (by decide)
  obtain ⟨c1, h1⟩ : ∃ c, c = own_c (X % 256) 0 := ⟨_, rfl⟩
  obtain ⟨c2, h2⟩ : ∃ c, c = own_c (X / 256 % 256) c1 := ⟨_, rfl⟩
  obtain ⟨c3, h3⟩ : ∃ c, c = own_c (X / 65536 % 256) c2 := ⟨_, rfl⟩
  obtain ⟨c4, h4⟩ : ∃ c, c = own_c (X / 16777216 % 256) c3 := ⟨_, rfl⟩
  obtain ⟨c5, h5⟩ : ∃ c, c = own_c (X / 4294967296 % 256) c4 := ⟨_, rfl⟩
  obtain ⟨c6, h6⟩ : ∃ c, c = own_c (X / 1099511627776 % 256) c5 := ⟨_, rfl⟩
  obtain ⟨c7, h7⟩ : ∃ c, c = own_c (X / 281474976710656 % 256) c6 := ⟨_, rfl⟩
  have d1 : c1 < 2 := h1 ▸ own_c2 _ _
  have d2 : c2 < 2 := h2 ▸ own_c2 _ _
  have d3 : c3 < 2 := h3 ▸ own_c2 _ _
  have d4 : c4 < 2 := h4 ▸ own_c2 _ _
  have d5 : c5 < 2 := h5 ▸ own_c2 _ _
  have d6 : c6 < 2 := h6 ▸ own_c2 _ _
  have d7 : c7 < 2 := h7 ▸ own_c2 _ _
  have hs := own_sub X hXl c1 c2 c3 c4 c5 c6 c7 h1 h2 h3 h4 h5 h6 h7
  simp only at hs
  generalize hY : (X + (18446744073709551616 - 72340172838076673)) % 18446744073709551616 = Y at *
  obtain ⟨y0, y1, y2, y3, y4, y5, y6, y7⟩ := hs
  generalize hmm : (own_swar w (own_rep b)).toBitVec.toNat = m at *
  have m0 : m % 256 = own_i (own_M (X % 256) 0) := by
    have a := own_andb (Y &&& (X ^^^ 18446744073709551615)) 9259542123273814144 1 0 (by decide)
    have a2 := own_andb Y (X ^^^ 18446744073709551615) 1 0 (by decide)
    have a3 := own_xorb X 18446744073709551615 1 0 (by decide)
    simp only [Nat.div_one] at a a2 a3
    rw [hm, a, a2, a3]
    exact own_bm _ _ _ l0 (by decide) y0
  have m1 : m / 256 % 256 = own_i (own_M (X / 256 % 256) c1) := by
    rw [hm, own_andb _ _ 256 8 (by decide), own_andb _ _ 256 8 (by decide), own_xorb _ _ 256 8 (by decide)]
    exact own_bm _ _ _ l1 d1 y1
  have m2 : m / 65536 % 256 = own_i (own_M (X / 65536 % 256) c2) := by
    rw [hm, own_andb _ _ 65536 16 (by decide), own_andb _ _ 65536 16 (by decide), own_xorb _ _ 65536 16 (by decide)]
    exact own_bm _ _ _ l2 d2 y2
  have m3 : m / 16777216 % 256 = own_i (own_M (X / 16777216 % 256) c3) := by
    rw [hm, own_andb _ _ 16777216 24 (by decide), own_andb _ _ 16777216 24 (by decide), own_xorb _ _ 16777216 24 (by decide)]
    exact own_bm _ _ _ l3 d3 y3
  have m4 : m / 4294967296 % 256 = own_i (own_M (X / 4294967296 % 256) c4) := by
    rw [hm, own_andb _ _ 4294967296 32 (by decide), own_andb _ _ 4294967296 32 (by decide), own_xorb _ _ 4294967296 32 (by decide)]
    exact own_bm _ _ _ l4 d4 y4
  have m5 : m / 1099511627776 % 256 = own_i (own_M (X / 1099511627776 % 256) c5) := by
    rw [hm, own_andb _ _ 1099511627776 40 (by decide), own_andb _ _ 1099511627776 40 (by decide), own_xorb _ _ 1099511627776 40 (by decide)]
    exact own_bm _ _ _ l5 d5 y5
  have m6 : m / 281474976710656 % 256 = own_i (own_M (X / 281474976710656 % 256) c6) := by
    rw [hm, own_andb _ _ 281474976710656 48 (by decide), own_andb _ _ 281474976710656 48 (by decide), own_xorb _ _ 281474976710656 48 (by decide)]
    exact own_bm _ _ _ l6 d6 y6
  have m7 : m / 72057594037927936 % 256 = own_i (own_M (X / 72057594037927936 % 256) c7) := by
    rw [hm, own_andb _ _ 72057594037927936 56 (by decide), own_andb _ _ 72057594037927936 56 (by decide), own_xorb _ _ 72057594037927936 56 (by decide)]
    exact own_bm _ _ _ l7 d7 y7
  have hml : m < 18446744073709551616 := hmm ▸ (own_swar w (own_rep b)).toBitVec.isLt
  have hM : own_swar w (own_rep b) = own_pk (own_M (X % 256) 0) (own_M (X / 256 % 256) c1) (own_M (X / 65536 % 256) c2) (own_M (X / 16777216 % 256) c3) (own_M (X / 4294967296 % 256) c4) (own_M (X / 1099511627776 % 256) c5) (own_M (X / 281474976710656 % 256) c6) (own_M (X / 72057594037927936 % 256) c7) := by
    apply Int64.toBitVec_inj.mp
    apply BitVec.eq_of_toNat_eq
    rw [hmm, own_pkn]
    have := own_dig m hml
    rw [m0, m1, m2, m3, m4, m5, m6, m7] at this
    exact this
  have E0 : decide (W % 256 = v) = decide (X % 256 = 0) := by rw [b0]; exact decide_eq_decide.mpr (own_xor0 _ _).symm
  have F0 : decide (W % 256 = v ^^^ 1) = decide (X % 256 = 1) := by rw [b0]; exact decide_eq_decide.mpr (own_xor1 _ _).symm
  have E1 : decide (W / 256 % 256 = v) = decide (X / 256 % 256 = 0) := by rw [b1]; exact decide_eq_decide.mpr (own_xor0 _ _).symm
  have F1 : decide (W / 256 % 256 = v ^^^ 1) = decide (X / 256 % 256 = 1) := by rw [b1]; exact decide_eq_decide.mpr (own_xor1 _ _).symm
  have E2 : decide (W / 65536 % 256 = v) = decide (X / 65536 % 256 = 0) := by rw [b2]; exact decide_eq_decide.mpr (own_xor0 _ _).symm
  have F2 : decide (W / 65536 % 256 = v ^^^ 1) = decide (X / 65536 % 256 = 1) := by rw [b2]; exact decide_eq_decide.mpr (own_xor1 _ _).symm
  have E3 : decide (W / 16777216 % 256 = v) = decide (X / 16777216 % 256 = 0) := by rw [b3]; exact decide_eq_decide.mpr (own_xor0 _ _).symm
  have F3 : decide (W / 16777216 % 256 = v ^^^ 1) = decide (X / 16777216 % 256 = 1) := by rw [b3]; exact decide_eq_decide.mpr (own_xor1 _ _).symm
  have E4 : decide (W / 4294967296 % 256 = v) = decide (X / 4294967296 % 256 = 0) := by rw [b4]; exact decide_eq_decide.mpr (own_xor0 _ _).symm
  have F4 : decide (W / 4294967296 % 256 = v ^^^ 1) = decide (X / 4294967296 % 256 = 1) := by rw [b4]; exact decide_eq_decide.mpr (own_xor1 _ _).symm
  have E5 : decide (W / 1099511627776 % 256 = v) = decide (X / 1099511627776 % 256 = 0) := by rw [b5]; exact decide_eq_decide.mpr (own_xor0 _ _).symm
  have F5 : decide (W / 1099511627776 % 256 = v ^^^ 1) = decide (X / 1099511627776 % 256 = 1) := by rw [b5]; exact decide_eq_decide.mpr (own_xor1 _ _).symm
  have E6 : decide (W / 281474976710656 % 256 = v) = decide (X / 281474976710656 % 256 = 0) := by rw [b6]; exact decide_eq_decide.mpr (own_xor0 _ _).symm
  have F6 : decide (W / 281474976710656 % 256 = v ^^^ 1) = decide (X / 281474976710656 % 256 = 1) := by rw [b6]; exact decide_eq_decide.mpr (own_xor1 _ _).symm
  have E7 : decide (W / 72057594037927936 % 256 = v) = decide (X / 72057594037927936 % 256 = 0) := by rw [b7]; exact decide_eq_decide.mpr (own_xor0 _ _).symm
  have F7 : decide (W / 72057594037927936 % 256 = v ^^^ 1) = decide (X / 72057594037927936 % 256 = 1) := by rw [b7]; exact decide_eq_decide.mpr (own_xor1 _ _).symm
  rw [E0, E1, E2, E3, E4, E5, E6, E7] at he'
  rw [F0, F1, F2, F3, F4, F5, F6, F7] at hf'
  refine own_three _ _ _ _ _ _ _ _ _ _ _ _ _ _ _ _ _ _ _ _ _ _ _ _ ?_ (own_Mrec _ _ _ _ (by decide) h1) (own_Mrec _ _ _ _ d1 h2) (own_Mrec _ _ _ _ d2 h3) (own_Mrec _ _ _ _ d3 h4) (own_Mrec _ _ _ _ d4 h5) (own_Mrec _ _ _ _ d5 h6) (own_Mrec _ _ _ _ d6 h7) _ _ _ hM he' hf'
  unfold own_M
  simp

theorem d1_0 : decode prog_62_method_3_code 0 = .ok (.ldc2_w 21, 3) := by decide +kernel
theorem d1_3 : decode prog_62_method_3_code 3 = .ok (.iload_n 0, 1) := by decide +kernel
theorem d1_4 : decode prog_62_method_3_code 4 = .ok (.sipush 255, 3) := by decide +kernel
theorem d1_7 : decode prog_62_method_3_code 7 = .ok (.iand, 1) := by decide +kernel
theorem d1_8 : decode prog_62_method_3_code 8 = .ok (.i2l, 1) := by decide +kernel
theorem d1_9 : decode prog_62_method_3_code 9 = .ok (.lmul, 1) := by decide +kernel
theorem d1_10 : decode prog_62_method_3_code 10 = .ok (.lreturn, 1) := by decide +kernel
theorem own_pn1 : plainName "com/example/columnist/columnist/text/Words" = true := by first | (simp [plainName, overriddenIn]; done) | decide +kernel
theorem own_ef1 (m : MethodId) (x0 : Int32) : entryFrame m #[(.int x0)] 1 = (mkF m 0 #[.val (.int x0)] []) := by first | (simp [entryFrame, mkF, argsToLocals, Value.category]; done) | rfl
def Q1 (Z : State) (x0 : Int32)  (h0 : Heap) (n0 : Nat) (v : Option Value) (h : Heap) (L : List Loc) : Prop := (∃ z : Int64, v = some (.long z) ∧ (z = own_rep x0)) ∧ Fr n0 L ∧ h = h0
set_option maxRecDepth 65536 in
set_option maxHeartbeats 40000000 in
theorem rm1 (l : Launch) (Z : State) (a0 : Array Value) (hw : ∀ d ∈ tables_1, d.before a0 Z = true) (ws : List Jvm.Cond) (x0 : Int32)  (h0 : Heap) (n0 : Nat) (Z0 : n0 ≤ h0.size)  :
    MetFree l (⟨"com/example/columnist/columnist/text/Words", "repeated", "(I)J"⟩ : MethodName) (head1 (Jvm.Cond.code (⟨"com/example/columnist/columnist/text/Words", "repeated", "(I)J"⟩ : MethodName) prog_62_method_3_code 1 (some .long) :: ws) ({ frames := 0, cells := 0, slots := 0, locals := 0 } : Room)) (fun a U => a = #[(.int x0)] ∧ Z.Warmed39 U.vm ∧ U.heap = h0) (fun _ _ _ _ _ => True) (fun _ U oc U' => ∃ v L, oc = .returned v ∧ Q1 Z x0  h0 n0 v U'.heap L ∧ FrameEnd U oc U' L ({ frames := 0, cells := 0, slots := 0, locals := 0 } : Room).cells ({ frames := 0, cells := 0, slots := 0, locals := 0 } : Room).slots) := by
  refine MetFree.of_bodySF (plainFor_of_name own_pn1) hisR ?_
  intro p e s m args below meth c s₁ Bd hml0 hP hK
  obtain ⟨rfl, hZ, hh⟩ := hP
  have hx := Bd.exec
  have hby := Bd.bytes
  have hlk : meth.locks = false := BodyLoose.notSynchronized Bd
  have hml : c.maxLocals = 1 := hml0
  have hown : s.vm.findClass "com/example/columnist/columnist/text/Words" = some m.cls := findClass_of_methodNamed Bd.named
  have hnm := (name_of_methodNamed Bd.named Bd.method).1
  have X0 : Stand p l e ({ frames := 0, cells := 0, slots := 0, locals := 0 } : Room) s m #[(.int x0)] below meth c s₁ [] 0 0 := Stand.of_body Bd
  have e0 : s₁.heap = h0 := by rw [← hh, Bd.state]; rfl
  have N0 := Fr.nil n0
  refine own_enter (own_ef1 m x0) ?_
  show own_Go p e below s (Q1 Z x0  h0 n0) ({ frames := 0, cells := 0, slots := 0, locals := 0 } : Room).cells ({ frames := 0, cells := 0, slots := 0, locals := 0 } : Room).slots s₁ (mkF m 0 #[.val (.int x0)] [])
  refine own_st (T' := s₁) (F' := (mkF m 3 #[.val (.int x0)] [(.long (72340172838076673 : Int64))])) (fun _ k => X0.ldc2Long hx hown (mvT hZ (hw _ (List.mem_of_getElem? (i := 4) rfl))) (g := (mkF m 0 #[.val (.int x0)] [])) rfl (hb hby d1_0) _ k) ?_
  refine own_st (T' := s₁) (F' := (mkF m 4 #[.val (.int x0)] [(.int x0), (.long (72340172838076673 : Int64))])) (fun _ k => XS.iloadN X0.here hx rfl (hb hby d1_3) rfl  k) ?_
  refine own_st (T' := s₁) (F' := (mkF m 7 #[.val (.int x0)] [(.int (255 : Int32)), (.int x0), (.long (72340172838076673 : Int64))])) (fun _ k => XS.sipush X0.here hx rfl (hb hby d1_4) k) ?_
  refine own_st (T' := s₁) (F' := (mkF m 8 #[.val (.int x0)] [(.int (x0 &&& (255 : Int32))), (.long (72340172838076673 : Int64))])) (fun _ k => XS.iand X0.here hx rfl (hb hby d1_7) rfl k) ?_
  refine own_st (T' := s₁) (F' := (mkF m 9 #[.val (.int x0)] [(.long ((x0 &&& (255 : Int32)).toInt64)), (.long (72340172838076673 : Int64))])) (fun _ k => XS.i2l X0.here hx rfl (hb hby d1_8) rfl k) ?_
  refine own_st (T' := s₁) (F' := (mkF m 10 #[.val (.int x0)] [(.long ((72340172838076673 : Int64) * ((x0 &&& (255 : Int32)).toInt64)))])) (fun _ k => XS.lmul X0.here hx rfl (hb hby d1_9) rfl k) ?_
  refine own_retJ X0 hx hlk Bd.returns (hb hby d1_10) ?_ (by decide) (by decide)
  rw [e0]
  refine ⟨⟨_, rfl, ?_⟩, N0, rfl⟩
  rfl
theorem d2_0 : decode prog_62_method_4_code 0 = .ok (.lload_n 0, 1) := by decide +kernel
theorem d2_1 : decode prog_62_method_4_code 1 = .ok (.lload_n 2, 1) := by decide +kernel
theorem d2_2 : decode prog_62_method_4_code 2 = .ok (.lxor, 1) := by decide +kernel
theorem d2_3 : decode prog_62_method_4_code 3 = .ok (.lstore 4, 2) := by decide +kernel
theorem d2_5 : decode prog_62_method_4_code 5 = .ok (.lload 4, 2) := by decide +kernel
theorem d2_7 : decode prog_62_method_4_code 7 = .ok (.ldc2_w 21, 3) := by decide +kernel
theorem d2_10 : decode prog_62_method_4_code 10 = .ok (.lsub, 1) := by decide +kernel
theorem d2_11 : decode prog_62_method_4_code 11 = .ok (.lload 4, 2) := by decide +kernel
theorem d2_13 : decode prog_62_method_4_code 13 = .ok (.ldc2_w 23, 3) := by decide +kernel
theorem d2_16 : decode prog_62_method_4_code 16 = .ok (.lxor, 1) := by decide +kernel
theorem d2_17 : decode prog_62_method_4_code 17 = .ok (.land, 1) := by decide +kernel
theorem d2_18 : decode prog_62_method_4_code 18 = .ok (.ldc2_w 25, 3) := by decide +kernel
theorem d2_21 : decode prog_62_method_4_code 21 = .ok (.land, 1) := by decide +kernel
theorem d2_22 : decode prog_62_method_4_code 22 = .ok (.lreturn, 1) := by decide +kernel
theorem own_pn2 : plainName "com/example/columnist/columnist/text/Words" = true := by first | (simp [plainName, overriddenIn]; done) | decide +kernel
theorem own_ef2 (m : MethodId) (x0 : Int64) (x1 : Int64) : entryFrame m #[(.long x0), (.long x1)] 6 = (mkF m 0 #[.val (.long x0), .second, .val (.long x1), .second, .unset, .unset] []) := by first | (simp [entryFrame, mkF, argsToLocals, Value.category]; done) | rfl
def Q2 (Z : State) (x0 : Int64) (x1 : Int64)  (h0 : Heap) (n0 : Nat) (v : Option Value) (h : Heap) (L : List Loc) : Prop := (∃ z : Int64, v = some (.long z) ∧ (z = own_swar x0 x1)) ∧ Fr n0 L ∧ h = h0
set_option maxRecDepth 65536 in
set_option maxHeartbeats 40000000 in
theorem rm2 (l : Launch) (Z : State) (a0 : Array Value) (hw : ∀ d ∈ tables_1, d.before a0 Z = true) (ws : List Jvm.Cond) (x0 : Int64) (x1 : Int64)  (h0 : Heap) (n0 : Nat) (Z0 : n0 ≤ h0.size)  :
    MetFree l (⟨"com/example/columnist/columnist/text/Words", "equal", "(JJ)J"⟩ : MethodName) (head1 (Jvm.Cond.code (⟨"com/example/columnist/columnist/text/Words", "equal", "(JJ)J"⟩ : MethodName) prog_62_method_4_code 6 (some .long) :: ws) ({ frames := 0, cells := 0, slots := 0, locals := 0 } : Room)) (fun a U => a = #[(.long x0), (.long x1)] ∧ Z.Warmed39 U.vm ∧ U.heap = h0) (fun _ _ _ _ _ => True) (fun _ U oc U' => ∃ v L, oc = .returned v ∧ Q2 Z x0 x1  h0 n0 v U'.heap L ∧ FrameEnd U oc U' L ({ frames := 0, cells := 0, slots := 0, locals := 0 } : Room).cells ({ frames := 0, cells := 0, slots := 0, locals := 0 } : Room).slots) := by
  refine MetFree.of_bodySF (plainFor_of_name own_pn2) hisR ?_
  intro p e s m args below meth c s₁ Bd hml0 hP hK
  obtain ⟨rfl, hZ, hh⟩ := hP
  have hx := Bd.exec
  have hby := Bd.bytes
  have hlk : meth.locks = false := BodyLoose.notSynchronized Bd
  have hml : c.maxLocals = 6 := hml0
  have hown : s.vm.findClass "com/example/columnist/columnist/text/Words" = some m.cls := findClass_of_methodNamed Bd.named
  have hnm := (name_of_methodNamed Bd.named Bd.method).1
  have X0 : Stand p l e ({ frames := 0, cells := 0, slots := 0, locals := 0 } : Room) s m #[(.long x0), (.long x1)] below meth c s₁ [] 0 0 := Stand.of_body Bd
  have e0 : s₁.heap = h0 := by rw [← hh, Bd.state]; rfl
  have N0 := Fr.nil n0
  refine own_enter (own_ef2 m x0 x1) ?_
  show own_Go p e below s (Q2 Z x0 x1  h0 n0) ({ frames := 0, cells := 0, slots := 0, locals := 0 } : Room).cells ({ frames := 0, cells := 0, slots := 0, locals := 0 } : Room).slots s₁ (mkF m 0 #[.val (.long x0), .second, .val (.long x1), .second, .unset, .unset] [])
  refine own_st (T' := s₁) (F' := (mkF m 1 #[.val (.long x0), .second, .val (.long x1), .second, .unset, .unset] [(.long x0)])) (fun _ k => XS.lloadN X0.here hx rfl (hb hby d2_0) rfl  k) ?_
  refine own_st (T' := s₁) (F' := (mkF m 2 #[.val (.long x0), .second, .val (.long x1), .second, .unset, .unset] [(.long x1), (.long x0)])) (fun _ k => XS.lloadN X0.here hx rfl (hb hby d2_1) rfl  k) ?_
  refine own_st (T' := s₁) (F' := (mkF m 3 #[.val (.long x0), .second, .val (.long x1), .second, .unset, .unset] [(.long (x0 ^^^ x1))])) (fun _ k => XS.lxor X0.here hx rfl (hb hby d2_2) rfl k) ?_
  refine own_st (T' := s₁) (F' := (mkF m 5 #[.val (.long x0), .second, .val (.long x1), .second, .val (.long (x0 ^^^ x1)), .second] [])) (fun _ k => XS.lstore X0.here hx rfl (hb hby d2_3) rfl (l' := #[.val (.long x0), .second, .val (.long x1), .second, .val (.long (x0 ^^^ x1)), .second]) rfl k) ?_
  refine own_st (T' := s₁) (F' := (mkF m 7 #[.val (.long x0), .second, .val (.long x1), .second, .val (.long (x0 ^^^ x1)), .second] [(.long (x0 ^^^ x1))])) (fun _ k => XS.lload X0.here hx rfl (hb hby d2_5) rfl  k) ?_
  refine own_st (T' := s₁) (F' := (mkF m 10 #[.val (.long x0), .second, .val (.long x1), .second, .val (.long (x0 ^^^ x1)), .second] [(.long (72340172838076673 : Int64)), (.long (x0 ^^^ x1))])) (fun _ k => X0.ldc2Long hx hown (mvT hZ (hw _ (List.mem_of_getElem? (i := 4) rfl))) (g := (mkF m 7 #[.val (.long x0), .second, .val (.long x1), .second, .val (.long (x0 ^^^ x1)), .second] [(.long (x0 ^^^ x1))])) rfl (hb hby d2_7) _ k) ?_
  refine own_st (T' := s₁) (F' := (mkF m 11 #[.val (.long x0), .second, .val (.long x1), .second, .val (.long (x0 ^^^ x1)), .second] [(.long ((x0 ^^^ x1) - (72340172838076673 : Int64)))])) (fun _ k => XS.lsub X0.here hx rfl (hb hby d2_10) rfl k) ?_
  refine own_st (T' := s₁) (F' := (mkF m 13 #[.val (.long x0), .second, .val (.long x1), .second, .val (.long (x0 ^^^ x1)), .second] [(.long (x0 ^^^ x1)), (.long ((x0 ^^^ x1) - (72340172838076673 : Int64)))])) (fun _ k => XS.lload X0.here hx rfl (hb hby d2_11) rfl  k) ?_
  refine own_st (T' := s₁) (F' := (mkF m 16 #[.val (.long x0), .second, .val (.long x1), .second, .val (.long (x0 ^^^ x1)), .second] [(.long (-1 : Int64)), (.long (x0 ^^^ x1)), (.long ((x0 ^^^ x1) - (72340172838076673 : Int64)))])) (fun _ k => X0.ldc2Long hx hown (mvT hZ (hw _ (List.mem_of_getElem? (i := 8) rfl))) (g := (mkF m 13 #[.val (.long x0), .second, .val (.long x1), .second, .val (.long (x0 ^^^ x1)), .second] [(.long (x0 ^^^ x1)), (.long ((x0 ^^^ x1) - (72340172838076673 : Int64)))])) rfl (hb hby d2_13) _ k) ?_
  refine own_st (T' := s₁) (F' := (mkF m 17 #[.val (.long x0), .second, .val (.long x1), .second, .val (.long (x0 ^^^ x1)), .second] [(.long ((x0 ^^^ x1) ^^^ (-1 : Int64))), (.long ((x0 ^^^ x1) - (72340172838076673 : Int64)))])) (fun _ k => XS.lxor X0.here hx rfl (hb hby d2_16) rfl k) ?_
  refine own_st (T' := s₁) (F' := (mkF m 18 #[.val (.long x0), .second, .val (.long x1), .second, .val (.long (x0 ^^^ x1)), .second] [(.long (((x0 ^^^ x1) - (72340172838076673 : Int64)) &&& ((x0 ^^^ x1) ^^^ (-1 : Int64))))])) (fun _ k => XS.land X0.here hx rfl (hb hby d2_17) rfl k) ?_
  refine own_st (T' := s₁) (F' := (mkF m 21 #[.val (.long x0), .second, .val (.long x1), .second, .val (.long (x0 ^^^ x1)), .second] [(.long (-9187201950435737472 : Int64)), (.long (((x0 ^^^ x1) - (72340172838076673 : Int64)) &&& ((x0 ^^^ x1) ^^^ (-1 : Int64))))])) (fun _ k => X0.ldc2Long hx hown (mvT hZ (hw _ (List.mem_of_getElem? (i := 9) rfl))) (g := (mkF m 18 #[.val (.long x0), .second, .val (.long x1), .second, .val (.long (x0 ^^^ x1)), .second] [(.long (((x0 ^^^ x1) - (72340172838076673 : Int64)) &&& ((x0 ^^^ x1) ^^^ (-1 : Int64))))])) rfl (hb hby d2_18) _ k) ?_
  refine own_st (T' := s₁) (F' := (mkF m 22 #[.val (.long x0), .second, .val (.long x1), .second, .val (.long (x0 ^^^ x1)), .second] [(.long ((((x0 ^^^ x1) - (72340172838076673 : Int64)) &&& ((x0 ^^^ x1) ^^^ (-1 : Int64))) &&& (-9187201950435737472 : Int64)))])) (fun _ k => XS.land X0.here hx rfl (hb hby d2_21) rfl k) ?_
  refine own_retJ X0 hx hlk Bd.returns (hb hby d2_22) ?_ (by decide) (by decide)
  rw [e0]
  refine ⟨⟨_, rfl, ?_⟩, N0, rfl⟩
  rfl
theorem d5_0 : decode method_3_code 0 = .ok (.bipush 8, 2) := by decide +kernel
theorem d5_2 : decode method_3_code 2 = .ok (.iload_n 3, 1) := by decide +kernel
theorem d5_3 : decode method_3_code 3 = .ok (.imul, 1) := by decide +kernel
theorem d5_4 : decode method_3_code 4 = .ok (.istore 4, 2) := by decide +kernel
theorem d5_6 : decode method_3_code 6 = .ok (.lload_n 0, 1) := by decide +kernel
theorem d5_7 : decode method_3_code 7 = .ok (.ldc2_w 29, 3) := by decide +kernel
theorem d5_10 : decode method_3_code 10 = .ok (.iload 4, 2) := by decide +kernel
theorem d5_12 : decode method_3_code 12 = .ok (.lshl, 1) := by decide +kernel
theorem d5_13 : decode method_3_code 13 = .ok (.ldc2_w 27, 3) := by decide +kernel
theorem d5_16 : decode method_3_code 16 = .ok (.lxor, 1) := by decide +kernel
theorem d5_17 : decode method_3_code 17 = .ok (.land, 1) := by decide +kernel
theorem d5_18 : decode method_3_code 18 = .ok (.iload_n 2, 1) := by decide +kernel
theorem d5_19 : decode method_3_code 19 = .ok (.i2l, 1) := by decide +kernel
theorem d5_20 : decode method_3_code 20 = .ok (.iload 4, 2) := by decide +kernel
theorem d5_22 : decode method_3_code 22 = .ok (.lshl, 1) := by decide +kernel
theorem d5_23 : decode method_3_code 23 = .ok (.lor, 1) := by decide +kernel
theorem d5_24 : decode method_3_code 24 = .ok (.lreturn, 1) := by decide +kernel
theorem own_pn5 : plainName "com/example/columnist/columnist/text/WordsEqualPinLaw" = true := by first | (simp [plainName, overriddenIn]; done) | decide +kernel
theorem own_ef5 (m : MethodId) (x0 : Int64) (x1 : Int32) (x2 : Int32) : entryFrame m #[(.long x0), (.int x1), (.int x2)] 5 = (mkF m 0 #[.val (.long x0), .second, .val (.int x1), .val (.int x2), .unset] []) := by first | (simp [entryFrame, mkF, argsToLocals, Value.category]; done) | rfl
def Q5 (Z : State) (x0 : Int64) (x1 : Int32) (x2 : Int32)  (h0 : Heap) (n0 : Nat) (v : Option Value) (h : Heap) (L : List Loc) : Prop := (∃ z : Int64, v = some (.long z) ∧ (True)) ∧ Fr n0 L ∧ h = h0
set_option maxRecDepth 65536 in
set_option maxHeartbeats 40000000 in
theorem rm5 (l : Launch) (Z : State) (a0 : Array Value) (hw : ∀ d ∈ tables_1, d.before a0 Z = true) (ws : List Jvm.Cond) (x0 : Int64) (x1 : Int32) (x2 : Int32)  (h0 : Heap) (n0 : Nat) (Z0 : n0 ≤ h0.size)  :
    MetFree l (⟨"com/example/columnist/columnist/text/WordsEqualPinLaw", "plant", "(JII)J"⟩ : MethodName) (head1 (Jvm.Cond.code (⟨"com/example/columnist/columnist/text/WordsEqualPinLaw", "plant", "(JII)J"⟩ : MethodName) method_3_code 5 (some .long) :: ws) ({ frames := 0, cells := 0, slots := 0, locals := 0 } : Room)) (fun a U => a = #[(.long x0), (.int x1), (.int x2)] ∧ Z.Warmed39 U.vm ∧ U.heap = h0) (fun _ _ _ _ _ => True) (fun _ U oc U' => ∃ v L, oc = .returned v ∧ Q5 Z x0 x1 x2  h0 n0 v U'.heap L ∧ FrameEnd U oc U' L ({ frames := 0, cells := 0, slots := 0, locals := 0 } : Room).cells ({ frames := 0, cells := 0, slots := 0, locals := 0 } : Room).slots) := by
  refine MetFree.of_bodySF (plainFor_of_name own_pn5) hisR ?_
  intro p e s m args below meth c s₁ Bd hml0 hP hK
  obtain ⟨rfl, hZ, hh⟩ := hP
  have hx := Bd.exec
  have hby := Bd.bytes
  have hlk : meth.locks = false := BodyLoose.notSynchronized Bd
  have hml : c.maxLocals = 5 := hml0
  have hown : s.vm.findClass "com/example/columnist/columnist/text/WordsEqualPinLaw" = some m.cls := findClass_of_methodNamed Bd.named
  have hnm := (name_of_methodNamed Bd.named Bd.method).1
  have X0 : Stand p l e ({ frames := 0, cells := 0, slots := 0, locals := 0 } : Room) s m #[(.long x0), (.int x1), (.int x2)] below meth c s₁ [] 0 0 := Stand.of_body Bd
  have e0 : s₁.heap = h0 := by rw [← hh, Bd.state]; rfl
  have N0 := Fr.nil n0
  refine own_enter (own_ef5 m x0 x1 x2) ?_
  show own_Go p e below s (Q5 Z x0 x1 x2  h0 n0) ({ frames := 0, cells := 0, slots := 0, locals := 0 } : Room).cells ({ frames := 0, cells := 0, slots := 0, locals := 0 } : Room).slots s₁ (mkF m 0 #[.val (.long x0), .second, .val (.int x1), .val (.int x2), .unset] [])
  refine own_st (T' := s₁) (F' := (mkF m 2 #[.val (.long x0), .second, .val (.int x1), .val (.int x2), .unset] [(.int (8 : Int32))])) (fun _ k => XS.bipush X0.here hx rfl (hb hby d5_0) k) ?_
  refine own_st (T' := s₁) (F' := (mkF m 3 #[.val (.long x0), .second, .val (.int x1), .val (.int x2), .unset] [(.int x2), (.int (8 : Int32))])) (fun _ k => XS.iloadN X0.here hx rfl (hb hby d5_2) rfl  k) ?_
  refine own_st (T' := s₁) (F' := (mkF m 4 #[.val (.long x0), .second, .val (.int x1), .val (.int x2), .unset] [(.int ((8 : Int32) * x2))])) (fun _ k => XS.imul X0.here hx rfl (hb hby d5_3) rfl k) ?_
  refine own_st (T' := s₁) (F' := (mkF m 6 #[.val (.long x0), .second, .val (.int x1), .val (.int x2), .val (.int ((8 : Int32) * x2))] [])) (fun _ k => XS.istore X0.here hx rfl (hb hby d5_4) rfl (l' := #[.val (.long x0), .second, .val (.int x1), .val (.int x2), .val (.int ((8 : Int32) * x2))]) rfl k) ?_
  refine own_st (T' := s₁) (F' := (mkF m 7 #[.val (.long x0), .second, .val (.int x1), .val (.int x2), .val (.int ((8 : Int32) * x2))] [(.long x0)])) (fun _ k => XS.lloadN X0.here hx rfl (hb hby d5_6) rfl  k) ?_
  refine own_st (T' := s₁) (F' := (mkF m 10 #[.val (.long x0), .second, .val (.int x1), .val (.int x2), .val (.int ((8 : Int32) * x2))] [(.long (255 : Int64)), (.long x0)])) (fun _ k => X0.ldc2Long hx hown (mvT hZ (hw _ (List.mem_of_getElem? (i := 17) rfl))) (g := (mkF m 7 #[.val (.long x0), .second, .val (.int x1), .val (.int x2), .val (.int ((8 : Int32) * x2))] [(.long x0)])) rfl (hb hby d5_7) _ k) ?_
  refine own_st (T' := s₁) (F' := (mkF m 12 #[.val (.long x0), .second, .val (.int x1), .val (.int x2), .val (.int ((8 : Int32) * x2))] [(.int ((8 : Int32) * x2)), (.long (255 : Int64)), (.long x0)])) (fun _ k => XS.iload X0.here hx rfl (hb hby d5_10) rfl  k) ?_
  refine own_st (T' := s₁) (F' := (mkF m 13 #[.val (.long x0), .second, .val (.int x1), .val (.int x2), .val (.int ((8 : Int32) * x2))] [(.long ((255 : Int64) <<< (((8 : Int32) * x2) &&& 0x3f).toInt64)), (.long x0)])) (fun _ k => XS.lshl X0.here hx rfl (hb hby d5_12) rfl k) ?_
  refine own_st (T' := s₁) (F' := (mkF m 16 #[.val (.long x0), .second, .val (.int x1), .val (.int x2), .val (.int ((8 : Int32) * x2))] [(.long (-1 : Int64)), (.long ((255 : Int64) <<< (((8 : Int32) * x2) &&& 0x3f).toInt64)), (.long x0)])) (fun _ k => X0.ldc2Long hx hown (mvT hZ (hw _ (List.mem_of_getElem? (i := 19) rfl))) (g := (mkF m 13 #[.val (.long x0), .second, .val (.int x1), .val (.int x2), .val (.int ((8 : Int32) * x2))] [(.long ((255 : Int64) <<< (((8 : Int32) * x2) &&& 0x3f).toInt64)), (.long x0)])) rfl (hb hby d5_13) _ k) ?_
  refine own_st (T' := s₁) (F' := (mkF m 17 #[.val (.long x0), .second, .val (.int x1), .val (.int x2), .val (.int ((8 : Int32) * x2))] [(.long (((255 : Int64) <<< (((8 : Int32) * x2) &&& 0x3f).toInt64) ^^^ (-1 : Int64))), (.long x0)])) (fun _ k => XS.lxor X0.here hx rfl (hb hby d5_16) rfl k) ?_
  refine own_st (T' := s₁) (F' := (mkF m 18 #[.val (.long x0), .second, .val (.int x1), .val (.int x2), .val (.int ((8 : Int32) * x2))] [(.long (x0 &&& (((255 : Int64) <<< (((8 : Int32) * x2) &&& 0x3f).toInt64) ^^^ (-1 : Int64))))])) (fun _ k => XS.land X0.here hx rfl (hb hby d5_17) rfl k) ?_
  refine own_st (T' := s₁) (F' := (mkF m 19 #[.val (.long x0), .second, .val (.int x1), .val (.int x2), .val (.int ((8 : Int32) * x2))] [(.int x1), (.long (x0 &&& (((255 : Int64) <<< (((8 : Int32) * x2) &&& 0x3f).toInt64) ^^^ (-1 : Int64))))])) (fun _ k => XS.iloadN X0.here hx rfl (hb hby d5_18) rfl  k) ?_
  refine own_st (T' := s₁) (F' := (mkF m 20 #[.val (.long x0), .second, .val (.int x1), .val (.int x2), .val (.int ((8 : Int32) * x2))] [(.long (x1.toInt64)), (.long (x0 &&& (((255 : Int64) <<< (((8 : Int32) * x2) &&& 0x3f).toInt64) ^^^ (-1 : Int64))))])) (fun _ k => XS.i2l X0.here hx rfl (hb hby d5_19) rfl k) ?_
  refine own_st (T' := s₁) (F' := (mkF m 22 #[.val (.long x0), .second, .val (.int x1), .val (.int x2), .val (.int ((8 : Int32) * x2))] [(.int ((8 : Int32) * x2)), (.long (x1.toInt64)), (.long (x0 &&& (((255 : Int64) <<< (((8 : Int32) * x2) &&& 0x3f).toInt64) ^^^ (-1 : Int64))))])) (fun _ k => XS.iload X0.here hx rfl (hb hby d5_20) rfl  k) ?_
  refine own_st (T' := s₁) (F' := (mkF m 23 #[.val (.long x0), .second, .val (.int x1), .val (.int x2), .val (.int ((8 : Int32) * x2))] [(.long ((x1.toInt64) <<< (((8 : Int32) * x2) &&& 0x3f).toInt64)), (.long (x0 &&& (((255 : Int64) <<< (((8 : Int32) * x2) &&& 0x3f).toInt64) ^^^ (-1 : Int64))))])) (fun _ k => XS.lshl X0.here hx rfl (hb hby d5_22) rfl k) ?_
  refine own_st (T' := s₁) (F' := (mkF m 24 #[.val (.long x0), .second, .val (.int x1), .val (.int x2), .val (.int ((8 : Int32) * x2))] [(.long ((x0 &&& (((255 : Int64) <<< (((8 : Int32) * x2) &&& 0x3f).toInt64) ^^^ (-1 : Int64))) ||| ((x1.toInt64) <<< (((8 : Int32) * x2) &&& 0x3f).toInt64)))])) (fun _ k => XS.lor X0.here hx rfl (hb hby d5_23) rfl k) ?_
  refine own_retJ X0 hx hlk Bd.returns (hb hby d5_24) ?_ (by decide) (by decide)
  rw [e0]
  refine ⟨⟨_, rfl, ?_⟩, N0, rfl⟩
  trivial
theorem d4_0 : decode method_4_code 0 = .ok (.bipush 8, 2) := by decide +kernel
theorem d4_2 : decode method_4_code 2 = .ok (.iload_n 3, 1) := by decide +kernel
theorem d4_3 : decode method_4_code 3 = .ok (.imul, 1) := by decide +kernel
theorem d4_4 : decode method_4_code 4 = .ok (.istore 4, 2) := by decide +kernel
theorem d4_6 : decode method_4_code 6 = .ok (.lload_n 0, 1) := by decide +kernel
theorem d4_7 : decode method_4_code 7 = .ok (.iload 4, 2) := by decide +kernel
theorem d4_9 : decode method_4_code 9 = .ok (.lushr, 1) := by decide +kernel
theorem d4_10 : decode method_4_code 10 = .ok (.ldc2_w 29, 3) := by decide +kernel
theorem d4_13 : decode method_4_code 13 = .ok (.land, 1) := by decide +kernel
theorem d4_14 : decode method_4_code 14 = .ok (.iload_n 2, 1) := by decide +kernel
theorem d4_15 : decode method_4_code 15 = .ok (.i2l, 1) := by decide +kernel
theorem d4_16 : decode method_4_code 16 = .ok (.lcmp, 1) := by decide +kernel
theorem d4_17 : decode method_4_code 17 = .ok (.ifCond .ne 10, 3) := by decide +kernel
theorem d4_20 : decode method_4_code 20 = .ok (.ldc2_w 31, 3) := by decide +kernel
theorem d4_23 : decode method_4_code 23 = .ok (.iload 4, 2) := by decide +kernel
theorem d4_25 : decode method_4_code 25 = .ok (.lshl, 1) := by decide +kernel
theorem d4_26 : decode method_4_code 26 = .ok (.lreturn, 1) := by decide +kernel
theorem d4_27 : decode method_4_code 27 = .ok (.lconst 0, 1) := by decide +kernel
theorem d4_28 : decode method_4_code 28 = .ok (.lreturn, 1) := by decide +kernel
theorem own_pn4 : plainName "com/example/columnist/columnist/text/WordsEqualPinLaw" = true := by first | (simp [plainName, overriddenIn]; done) | decide +kernel
theorem own_ef4 (m : MethodId) (x0 : Int64) (x1 : Int32) (x2 : Int32) : entryFrame m #[(.long x0), (.int x1), (.int x2)] 5 = (mkF m 0 #[.val (.long x0), .second, .val (.int x1), .val (.int x2), .unset] []) := by first | (simp [entryFrame, mkF, argsToLocals, Value.category]; done) | rfl
def Q4 (Z : State) (x0 : Int64) (x1 : Int32) (x2 : Int32)  (h0 : Heap) (n0 : Nat) (v : Option Value) (h : Heap) (L : List Loc) : Prop := (∃ z : Int64, v = some (.long z) ∧ (own_mark x0 x1 x2 z)) ∧ Fr n0 L ∧ h = h0
set_option maxRecDepth 65536 in
set_option maxHeartbeats 40000000 in
theorem rm4 (l : Launch) (Z : State) (a0 : Array Value) (hw : ∀ d ∈ tables_1, d.before a0 Z = true) (ws : List Jvm.Cond) (x0 : Int64) (x1 : Int32) (x2 : Int32)  (h0 : Heap) (n0 : Nat) (Z0 : n0 ≤ h0.size)  :
    MetFree l (⟨"com/example/columnist/columnist/text/WordsEqualPinLaw", "mark", "(JII)J"⟩ : MethodName) (head1 (Jvm.Cond.code (⟨"com/example/columnist/columnist/text/WordsEqualPinLaw", "mark", "(JII)J"⟩ : MethodName) method_4_code 5 (some .long) :: ws) ({ frames := 0, cells := 0, slots := 0, locals := 0 } : Room)) (fun a U => a = #[(.long x0), (.int x1), (.int x2)] ∧ Z.Warmed39 U.vm ∧ U.heap = h0) (fun _ _ _ _ _ => True) (fun _ U oc U' => ∃ v L, oc = .returned v ∧ Q4 Z x0 x1 x2  h0 n0 v U'.heap L ∧ FrameEnd U oc U' L ({ frames := 0, cells := 0, slots := 0, locals := 0 } : Room).cells ({ frames := 0, cells := 0, slots := 0, locals := 0 } : Room).slots) := by
  refine MetFree.of_bodySF (plainFor_of_name own_pn4) hisR ?_
  intro p e s m args below meth c s₁ Bd hml0 hP hK
  obtain ⟨rfl, hZ, hh⟩ := hP
  have hx := Bd.exec
  have hby := Bd.bytes
  have hlk : meth.locks = false := BodyLoose.notSynchronized Bd
  have hml : c.maxLocals = 5 := hml0
  have hown : s.vm.findClass "com/example/columnist/columnist/text/WordsEqualPinLaw" = some m.cls := findClass_of_methodNamed Bd.named
  have hnm := (name_of_methodNamed Bd.named Bd.method).1
  have X0 : Stand p l e ({ frames := 0, cells := 0, slots := 0, locals := 0 } : Room) s m #[(.long x0), (.int x1), (.int x2)] below meth c s₁ [] 0 0 := Stand.of_body Bd
  have e0 : s₁.heap = h0 := by rw [← hh, Bd.state]; rfl
  have N0 := Fr.nil n0
  refine own_enter (own_ef4 m x0 x1 x2) ?_
  show own_Go p e below s (Q4 Z x0 x1 x2  h0 n0) ({ frames := 0, cells := 0, slots := 0, locals := 0 } : Room).cells ({ frames := 0, cells := 0, slots := 0, locals := 0 } : Room).slots s₁ (mkF m 0 #[.val (.long x0), .second, .val (.int x1), .val (.int x2), .unset] [])
  refine own_st (T' := s₁) (F' := (mkF m 2 #[.val (.long x0), .second, .val (.int x1), .val (.int x2), .unset] [(.int (8 : Int32))])) (fun _ k => XS.bipush X0.here hx rfl (hb hby d4_0) k) ?_
  refine own_st (T' := s₁) (F' := (mkF m 3 #[.val (.long x0), .second, .val (.int x1), .val (.int x2), .unset] [(.int x2), (.int (8 : Int32))])) (fun _ k => XS.iloadN X0.here hx rfl (hb hby d4_2) rfl  k) ?_
  refine own_st (T' := s₁) (F' := (mkF m 4 #[.val (.long x0), .second, .val (.int x1), .val (.int x2), .unset] [(.int ((8 : Int32) * x2))])) (fun _ k => XS.imul X0.here hx rfl (hb hby d4_3) rfl k) ?_
  refine own_st (T' := s₁) (F' := (mkF m 6 #[.val (.long x0), .second, .val (.int x1), .val (.int x2), .val (.int ((8 : Int32) * x2))] [])) (fun _ k => XS.istore X0.here hx rfl (hb hby d4_4) rfl (l' := #[.val (.long x0), .second, .val (.int x1), .val (.int x2), .val (.int ((8 : Int32) * x2))]) rfl k) ?_
  refine own_st (T' := s₁) (F' := (mkF m 7 #[.val (.long x0), .second, .val (.int x1), .val (.int x2), .val (.int ((8 : Int32) * x2))] [(.long x0)])) (fun _ k => XS.lloadN X0.here hx rfl (hb hby d4_6) rfl  k) ?_
  refine own_st (T' := s₁) (F' := (mkF m 9 #[.val (.long x0), .second, .val (.int x1), .val (.int x2), .val (.int ((8 : Int32) * x2))] [(.int ((8 : Int32) * x2)), (.long x0)])) (fun _ k => XS.iload X0.here hx rfl (hb hby d4_7) rfl  k) ?_
  refine own_st (T' := s₁) (F' := (mkF m 10 #[.val (.long x0), .second, .val (.int x1), .val (.int x2), .val (.int ((8 : Int32) * x2))] [(.long ((x0.toUInt64 >>> (((8 : Int32) * x2) &&& 0x3f).toInt64.toUInt64).toInt64))])) (fun _ k => XS.lushr X0.here hx rfl (hb hby d4_9) rfl k) ?_
  refine own_st (T' := s₁) (F' := (mkF m 13 #[.val (.long x0), .second, .val (.int x1), .val (.int x2), .val (.int ((8 : Int32) * x2))] [(.long (255 : Int64)), (.long ((x0.toUInt64 >>> (((8 : Int32) * x2) &&& 0x3f).toInt64.toUInt64).toInt64))])) (fun _ k => X0.ldc2Long hx hown (mvT hZ (hw _ (List.mem_of_getElem? (i := 17) rfl))) (g := (mkF m 10 #[.val (.long x0), .second, .val (.int x1), .val (.int x2), .val (.int ((8 : Int32) * x2))] [(.long ((x0.toUInt64 >>> (((8 : Int32) * x2) &&& 0x3f).toInt64.toUInt64).toInt64))])) rfl (hb hby d4_10) _ k) ?_
  refine own_st (T' := s₁) (F' := (mkF m 14 #[.val (.long x0), .second, .val (.int x1), .val (.int x2), .val (.int ((8 : Int32) * x2))] [(.long (((x0.toUInt64 >>> (((8 : Int32) * x2) &&& 0x3f).toInt64.toUInt64).toInt64) &&& (255 : Int64)))])) (fun _ k => XS.land X0.here hx rfl (hb hby d4_13) rfl k) ?_
  refine own_st (T' := s₁) (F' := (mkF m 15 #[.val (.long x0), .second, .val (.int x1), .val (.int x2), .val (.int ((8 : Int32) * x2))] [(.int x1), (.long (((x0.toUInt64 >>> (((8 : Int32) * x2) &&& 0x3f).toInt64.toUInt64).toInt64) &&& (255 : Int64)))])) (fun _ k => XS.iloadN X0.here hx rfl (hb hby d4_14) rfl  k) ?_
  refine own_st (T' := s₁) (F' := (mkF m 16 #[.val (.long x0), .second, .val (.int x1), .val (.int x2), .val (.int ((8 : Int32) * x2))] [(.long (x1.toInt64)), (.long (((x0.toUInt64 >>> (((8 : Int32) * x2) &&& 0x3f).toInt64.toUInt64).toInt64) &&& (255 : Int64)))])) (fun _ k => XS.i2l X0.here hx rfl (hb hby d4_15) rfl k) ?_
  refine own_st (T' := s₁) (F' := (mkF m 17 #[.val (.long x0), .second, .val (.int x1), .val (.int x2), .val (.int ((8 : Int32) * x2))] [(.int (lcmpW (((x0.toUInt64 >>> (((8 : Int32) * x2) &&& 0x3f).toInt64.toUInt64).toInt64) &&& (255 : Int64)) (x1.toInt64)))])) (fun _ k => XS.lcmp X0.here hx rfl (hb hby d4_16) rfl k) ?_
  refine own_iflc X0 hx (pc' := 27) (pc2 := 20) (hb hby d4_17) (by decide) (by decide) rfl (fun (hc17 : ¬ ((((x0.toUInt64 >>> (((8 : Int32) * x2) &&& 0x3f).toInt64.toUInt64).toInt64) &&& (255 : Int64)) = (x1.toInt64))) => ?_) (fun (hc17 : (((x0.toUInt64 >>> (((8 : Int32) * x2) &&& 0x3f).toInt64.toUInt64).toInt64) &&& (255 : Int64)) = (x1.toInt64)) => ?_)
  ·
    refine own_st (T' := s₁) (F' := (mkF m 28 #[.val (.long x0), .second, .val (.int x1), .val (.int x2), .val (.int ((8 : Int32) * x2))] [(.long (0 : Int64))])) (fun _ k => XS.lconst X0.here hx rfl (hb hby d4_27) k) ?_
    refine own_retJ X0 hx hlk Bd.returns (hb hby d4_28) ?_ (by decide) (by decide)
    rw [e0]
    refine ⟨⟨_, rfl, ?_⟩, N0, rfl⟩
    exact Or.inr ⟨hc17, rfl⟩
  ·
    refine own_st (T' := s₁) (F' := (mkF m 23 #[.val (.long x0), .second, .val (.int x1), .val (.int x2), .val (.int ((8 : Int32) * x2))] [(.long (128 : Int64))])) (fun _ k => X0.ldc2Long hx hown (mvT hZ (hw _ (List.mem_of_getElem? (i := 18) rfl))) (g := (mkF m 20 #[.val (.long x0), .second, .val (.int x1), .val (.int x2), .val (.int ((8 : Int32) * x2))] [])) rfl (hb hby d4_20) _ k) ?_
    refine own_st (T' := s₁) (F' := (mkF m 25 #[.val (.long x0), .second, .val (.int x1), .val (.int x2), .val (.int ((8 : Int32) * x2))] [(.int ((8 : Int32) * x2)), (.long (128 : Int64))])) (fun _ k => XS.iload X0.here hx rfl (hb hby d4_23) rfl  k) ?_
    refine own_st (T' := s₁) (F' := (mkF m 26 #[.val (.long x0), .second, .val (.int x1), .val (.int x2), .val (.int ((8 : Int32) * x2))] [(.long ((128 : Int64) <<< (((8 : Int32) * x2) &&& 0x3f).toInt64))])) (fun _ k => XS.lshl X0.here hx rfl (hb hby d4_25) rfl k) ?_
    refine own_retJ X0 hx hlk Bd.returns (hb hby d4_26) ?_ (by decide) (by decide)
    rw [e0]
    refine ⟨⟨_, rfl, ?_⟩, N0, rfl⟩
    exact Or.inl ⟨hc17, rfl⟩
theorem own_pd0 : parseMethodDescriptor "(JII)J" = some ⟨[.long, .int, .int], some .long⟩ := by decide +kernel
theorem d3_0 : decode method_5_code 0 = .ok (.lload_n 0, 1) := by decide +kernel
theorem d3_1 : decode method_5_code 1 = .ok (.iload_n 2, 1) := by decide +kernel
theorem d3_2 : decode method_5_code 2 = .ok (.iconst 0, 1) := by decide +kernel
theorem d3_3 : decode method_5_code 3 = .ok (.invokestatic 33, 3) := by decide +kernel
theorem d3_6 : decode method_5_code 6 = .ok (.lload_n 0, 1) := by decide +kernel
theorem d3_7 : decode method_5_code 7 = .ok (.iload_n 2, 1) := by decide +kernel
theorem d3_8 : decode method_5_code 8 = .ok (.iconst 1, 1) := by decide +kernel
theorem d3_9 : decode method_5_code 9 = .ok (.invokestatic 33, 3) := by decide +kernel
theorem d3_12 : decode method_5_code 12 = .ok (.lor, 1) := by decide +kernel
theorem d3_13 : decode method_5_code 13 = .ok (.lload_n 0, 1) := by decide +kernel
theorem d3_14 : decode method_5_code 14 = .ok (.iload_n 2, 1) := by decide +kernel
theorem d3_15 : decode method_5_code 15 = .ok (.iconst 2, 1) := by decide +kernel
theorem d3_16 : decode method_5_code 16 = .ok (.invokestatic 33, 3) := by decide +kernel
theorem d3_19 : decode method_5_code 19 = .ok (.lor, 1) := by decide +kernel
theorem d3_20 : decode method_5_code 20 = .ok (.lload_n 0, 1) := by decide +kernel
theorem d3_21 : decode method_5_code 21 = .ok (.iload_n 2, 1) := by decide +kernel
theorem d3_22 : decode method_5_code 22 = .ok (.iconst 3, 1) := by decide +kernel
theorem d3_23 : decode method_5_code 23 = .ok (.invokestatic 33, 3) := by decide +kernel
theorem d3_26 : decode method_5_code 26 = .ok (.lor, 1) := by decide +kernel
theorem d3_27 : decode method_5_code 27 = .ok (.lload_n 0, 1) := by decide +kernel
theorem d3_28 : decode method_5_code 28 = .ok (.iload_n 2, 1) := by decide +kernel
theorem d3_29 : decode method_5_code 29 = .ok (.iconst 4, 1) := by decide +kernel
theorem d3_30 : decode method_5_code 30 = .ok (.invokestatic 33, 3) := by decide +kernel
theorem d3_33 : decode method_5_code 33 = .ok (.lor, 1) := by decide +kernel
theorem d3_34 : decode method_5_code 34 = .ok (.lload_n 0, 1) := by decide +kernel
theorem d3_35 : decode method_5_code 35 = .ok (.iload_n 2, 1) := by decide +kernel
theorem d3_36 : decode method_5_code 36 = .ok (.iconst 5, 1) := by decide +kernel
theorem d3_37 : decode method_5_code 37 = .ok (.invokestatic 33, 3) := by decide +kernel
theorem d3_40 : decode method_5_code 40 = .ok (.lor, 1) := by decide +kernel
theorem d3_41 : decode method_5_code 41 = .ok (.lload_n 0, 1) := by decide +kernel
theorem d3_42 : decode method_5_code 42 = .ok (.iload_n 2, 1) := by decide +kernel
theorem d3_43 : decode method_5_code 43 = .ok (.bipush 6, 2) := by decide +kernel
theorem d3_45 : decode method_5_code 45 = .ok (.invokestatic 33, 3) := by decide +kernel
theorem d3_48 : decode method_5_code 48 = .ok (.lor, 1) := by decide +kernel
theorem d3_49 : decode method_5_code 49 = .ok (.lload_n 0, 1) := by decide +kernel
theorem d3_50 : decode method_5_code 50 = .ok (.iload_n 2, 1) := by decide +kernel
theorem d3_51 : decode method_5_code 51 = .ok (.bipush 7, 2) := by decide +kernel
theorem d3_53 : decode method_5_code 53 = .ok (.invokestatic 33, 3) := by decide +kernel
theorem d3_56 : decode method_5_code 56 = .ok (.lor, 1) := by decide +kernel
theorem d3_57 : decode method_5_code 57 = .ok (.lreturn, 1) := by decide +kernel
theorem own_pn3 : plainName "com/example/columnist/columnist/text/WordsEqualPinLaw" = true := by first | (simp [plainName, overriddenIn]; done) | decide +kernel
theorem own_ef3 (m : MethodId) (x0 : Int64) (x1 : Int32) : entryFrame m #[(.long x0), (.int x1)] 3 = (mkF m 0 #[.val (.long x0), .second, .val (.int x1)] []) := by first | (simp [entryFrame, mkF, argsToLocals, Value.category]; done) | rfl
def Q3 (Z : State) (x0 : Int64) (x1 : Int32)  (h0 : Heap) (n0 : Nat) (v : Option Value) (h : Heap) (L : List Loc) : Prop := (∃ z : Int64, v = some (.long z) ∧ (own_marks x0 x1 z)) ∧ Fr n0 L ∧ h = h0
set_option maxRecDepth 65536 in
set_option maxHeartbeats 40000000 in
theorem rm3 (l : Launch) (Z : State) (a0 : Array Value) (hw : ∀ d ∈ tables_1, d.before a0 Z = true) (ws : List Jvm.Cond) (x0 : Int64) (x1 : Int32)  (h0 : Heap) (n0 : Nat) (Z0 : n0 ≤ h0.size)  :
    MetFree l (⟨"com/example/columnist/columnist/text/WordsEqualPinLaw", "marks", "(JI)J"⟩ : MethodName) (head1 (Jvm.Cond.code (⟨"com/example/columnist/columnist/text/WordsEqualPinLaw", "marks", "(JI)J"⟩ : MethodName) method_5_code 3 (some .long) :: ws) ({ frames := 1, cells := 0, slots := 0, locals := 18 } : Room)) (fun a U => a = #[(.long x0), (.int x1)] ∧ Z.Warmed39 U.vm ∧ U.heap = h0) (fun _ _ _ _ _ => True) (fun _ U oc U' => ∃ v L, oc = .returned v ∧ Q3 Z x0 x1  h0 n0 v U'.heap L ∧ FrameEnd U oc U' L ({ frames := 1, cells := 0, slots := 0, locals := 18 } : Room).cells ({ frames := 1, cells := 0, slots := 0, locals := 18 } : Room).slots) := by
  refine MetFree.of_bodySF (plainFor_of_name own_pn3) hisR ?_
  intro p e s m args below meth c s₁ Bd hml0 hP hK
  obtain ⟨rfl, hZ, hh⟩ := hP
  have hx := Bd.exec
  have hby := Bd.bytes
  have hlk : meth.locks = false := BodyLoose.notSynchronized Bd
  have hml : c.maxLocals = 3 := hml0
  have hown : s.vm.findClass "com/example/columnist/columnist/text/WordsEqualPinLaw" = some m.cls := findClass_of_methodNamed Bd.named
  have hnm := (name_of_methodNamed Bd.named Bd.method).1
  have X0 : Stand p l e ({ frames := 1, cells := 0, slots := 0, locals := 18 } : Room) s m #[(.long x0), (.int x1)] below meth c s₁ [] 0 0 := Stand.of_body Bd
  have e0 : s₁.heap = h0 := by rw [← hh, Bd.state]; rfl
  have N0 := Fr.nil n0
  refine own_enter (own_ef3 m x0 x1) ?_
  show own_Go p e below s (Q3 Z x0 x1  h0 n0) ({ frames := 1, cells := 0, slots := 0, locals := 18 } : Room).cells ({ frames := 1, cells := 0, slots := 0, locals := 18 } : Room).slots s₁ (mkF m 0 #[.val (.long x0), .second, .val (.int x1)] [])
  refine own_st (T' := s₁) (F' := (mkF m 1 #[.val (.long x0), .second, .val (.int x1)] [(.long x0)])) (fun _ k => XS.lloadN X0.here hx rfl (hb hby d3_0) rfl  k) ?_
  refine own_st (T' := s₁) (F' := (mkF m 2 #[.val (.long x0), .second, .val (.int x1)] [(.int x1), (.long x0)])) (fun _ k => XS.iloadN X0.here hx rfl (hb hby d3_1) rfl  k) ?_
  refine own_st (T' := s₁) (F' := (mkF m 3 #[.val (.long x0), .second, .val (.int x1)] [(.int (0 : Int32)), (.int x1), (.long x0)])) (fun _ k => XS.iconst X0.here hx rfl (hb hby d3_2) k) ?_
  obtain ⟨_, _, ⟨T1, L1, k1, n1⟩, -, X1, ⟨Lc1, hQ1, l1, y1, z1⟩, st1⟩ := Jvm.LawKit.callS X0 hx (y := (⟨"com/example/columnist/columnist/text/WordsEqualPinLaw", "mark", "(JII)J"⟩ : MethodName)) hown (mvT hZ (hw _ (List.mem_of_getElem? (i := 14) rfl))) (mvT hZ (hw _ (List.mem_of_getElem? (i := 15) rfl))) (mvT hZ (hw _ (List.mem_of_getElem? (i := 12) rfl))) (mvT hZ (hw _ (List.mem_of_getElem? (i := 16) rfl))) (by decide) (backOf (W := 0) (rm4 l Z a0 hw [] x0 x1 (0 : Int32)  h0 n0 Z0 ) hZ (hw _ (List.mem_of_getElem? (i := 16) rfl)) (hw _ (List.mem_of_getElem? (i := 12) rfl)) (by decide) (by decide)) (g := (mkF m 3 #[.val (.long x0), .second, .val (.int x1)] [(.int (0 : Int32)), (.int x1), (.long x0)])) rfl (by rw [hml]; rfl) (argsL := [(.long x0), (.int x1), (.int (0 : Int32))]) (rest := []) (lenOf own_pd0 rfl) rfl (by show 2 * 0 + _ ≤ _; exact Nat.le_of_eq rfl) (hb hby d3_3) (fun _ _ => ⟨rfl, e0, (by decide : 0 + 0 ≤ _), (by decide : 0 + 0 ≤ _)⟩)
  dsimp only [Pt.U, Pt.locs, Pt.cells, Pt.slots] at X1 l1 y1 z1 st1 hQ1
  subst l1 y1 z1
  obtain ⟨⟨r1, rfl, hr1⟩, Nq1, eq1⟩ := hQ1
  have N1 := Fr.app N0 Nq1
  refine own_st (T' := T1) (F' := (mkF m 6 #[.val (.long x0), .second, .val (.int x1)] [(.long r1)])) (fun _ k => st1 _ k) ?_
  refine own_st (T' := T1) (F' := (mkF m 7 #[.val (.long x0), .second, .val (.int x1)] [(.long x0), (.long r1)])) (fun _ k => XS.lloadN X1.here hx rfl (hb hby d3_6) rfl  k) ?_
  refine own_st (T' := T1) (F' := (mkF m 8 #[.val (.long x0), .second, .val (.int x1)] [(.int x1), (.long x0), (.long r1)])) (fun _ k => XS.iloadN X1.here hx rfl (hb hby d3_7) rfl  k) ?_
  refine own_st (T' := T1) (F' := (mkF m 9 #[.val (.long x0), .second, .val (.int x1)] [(.int (1 : Int32)), (.int x1), (.long x0), (.long r1)])) (fun _ k => XS.iconst X1.here hx rfl (hb hby d3_8) k) ?_
  obtain ⟨_, _, ⟨T2, L2, k2, n2⟩, -, X2, ⟨Lc2, hQ2, l2, y2, z2⟩, st2⟩ := Jvm.LawKit.callS X1 hx (y := (⟨"com/example/columnist/columnist/text/WordsEqualPinLaw", "mark", "(JII)J"⟩ : MethodName)) hown (mvT hZ (hw _ (List.mem_of_getElem? (i := 14) rfl))) (mvT hZ (hw _ (List.mem_of_getElem? (i := 15) rfl))) (mvT hZ (hw _ (List.mem_of_getElem? (i := 12) rfl))) (mvT hZ (hw _ (List.mem_of_getElem? (i := 16) rfl))) (by decide) (backOf (W := 2) (rm4 l Z a0 hw [] x0 x1 (1 : Int32)  h0 n0 Z0 ) hZ (hw _ (List.mem_of_getElem? (i := 16) rfl)) (hw _ (List.mem_of_getElem? (i := 12) rfl)) (by decide) (by decide)) (g := (mkF m 9 #[.val (.long x0), .second, .val (.int x1)] [(.int (1 : Int32)), (.int x1), (.long x0), (.long r1)])) rfl (by rw [hml]; rfl) (argsL := [(.long x0), (.int x1), (.int (1 : Int32))]) (rest := [(.long r1)]) (lenOf own_pd0 rfl) rfl (by show 2 * 0 + _ ≤ _; exact Nat.le_of_eq rfl) (hb hby d3_9) (fun _ _ => ⟨rfl, eq1, (by decide : 0 + 0 ≤ _), (by decide : 0 + 0 ≤ _)⟩)
  dsimp only [Pt.U, Pt.locs, Pt.cells, Pt.slots] at X2 l2 y2 z2 st2 hQ2
  subst l2 y2 z2
  obtain ⟨⟨r2, rfl, hr2⟩, Nq2, eq2⟩ := hQ2
  have N2 := Fr.app N1 Nq2
  refine own_st (T' := T2) (F' := (mkF m 12 #[.val (.long x0), .second, .val (.int x1)] [(.long r2), (.long r1)])) (fun _ k => st2 _ k) ?_
  refine own_st (T' := T2) (F' := (mkF m 13 #[.val (.long x0), .second, .val (.int x1)] [(.long (r1 ||| r2))])) (fun _ k => XS.lor X2.here hx rfl (hb hby d3_12) rfl k) ?_
  refine own_st (T' := T2) (F' := (mkF m 14 #[.val (.long x0), .second, .val (.int x1)] [(.long x0), (.long (r1 ||| r2))])) (fun _ k => XS.lloadN X2.here hx rfl (hb hby d3_13) rfl  k) ?_
  refine own_st (T' := T2) (F' := (mkF m 15 #[.val (.long x0), .second, .val (.int x1)] [(.int x1), (.long x0), (.long (r1 ||| r2))])) (fun _ k => XS.iloadN X2.here hx rfl (hb hby d3_14) rfl  k) ?_
  refine own_st (T' := T2) (F' := (mkF m 16 #[.val (.long x0), .second, .val (.int x1)] [(.int (2 : Int32)), (.int x1), (.long x0), (.long (r1 ||| r2))])) (fun _ k => XS.iconst X2.here hx rfl (hb hby d3_15) k) ?_
  obtain ⟨_, _, ⟨T3, L3, k3, n3⟩, -, X3, ⟨Lc3, hQ3, l3, y3, z3⟩, st3⟩ := Jvm.LawKit.callS X2 hx (y := (⟨"com/example/columnist/columnist/text/WordsEqualPinLaw", "mark", "(JII)J"⟩ : MethodName)) hown (mvT hZ (hw _ (List.mem_of_getElem? (i := 14) rfl))) (mvT hZ (hw _ (List.mem_of_getElem? (i := 15) rfl))) (mvT hZ (hw _ (List.mem_of_getElem? (i := 12) rfl))) (mvT hZ (hw _ (List.mem_of_getElem? (i := 16) rfl))) (by decide) (backOf (W := 2) (rm4 l Z a0 hw [] x0 x1 (2 : Int32)  h0 n0 Z0 ) hZ (hw _ (List.mem_of_getElem? (i := 16) rfl)) (hw _ (List.mem_of_getElem? (i := 12) rfl)) (by decide) (by decide)) (g := (mkF m 16 #[.val (.long x0), .second, .val (.int x1)] [(.int (2 : Int32)), (.int x1), (.long x0), (.long (r1 ||| r2))])) rfl (by rw [hml]; rfl) (argsL := [(.long x0), (.int x1), (.int (2 : Int32))]) (rest := [(.long (r1 ||| r2))]) (lenOf own_pd0 rfl) rfl (by show 2 * 0 + _ ≤ _; exact Nat.le_of_eq rfl) (hb hby d3_16) (fun _ _ => ⟨rfl, eq2, (by decide : 0 + 0 ≤ _), (by decide : 0 + 0 ≤ _)⟩)
  dsimp only [Pt.U, Pt.locs, Pt.cells, Pt.slots] at X3 l3 y3 z3 st3 hQ3
  subst l3 y3 z3
  obtain ⟨⟨r3, rfl, hr3⟩, Nq3, eq3⟩ := hQ3
  have N3 := Fr.app N2 Nq3
  refine own_st (T' := T3) (F' := (mkF m 19 #[.val (.long x0), .second, .val (.int x1)] [(.long r3), (.long (r1 ||| r2))])) (fun _ k => st3 _ k) ?_
  refine own_st (T' := T3) (F' := (mkF m 20 #[.val (.long x0), .second, .val (.int x1)] [(.long ((r1 ||| r2) ||| r3))])) (fun _ k => XS.lor X3.here hx rfl (hb hby d3_19) rfl k) ?_
  refine own_st (T' := T3) (F' := (mkF m 21 #[.val (.long x0), .second, .val (.int x1)] [(.long x0), (.long ((r1 ||| r2) ||| r3))])) (fun _ k => XS.lloadN X3.here hx rfl (hb hby d3_20) rfl  k) ?_
  refine own_st (T' := T3) (F' := (mkF m 22 #[.val (.long x0), .second, .val (.int x1)] [(.int x1), (.long x0), (.long ((r1 ||| r2) ||| r3))])) (fun _ k => XS.iloadN X3.here hx rfl (hb hby d3_21) rfl  k) ?_
  refine own_st (T' := T3) (F' := (mkF m 23 #[.val (.long x0), .second, .val (.int x1)] [(.int (3 : Int32)), (.int x1), (.long x0), (.long ((r1 ||| r2) ||| r3))])) (fun _ k => XS.iconst X3.here hx rfl (hb hby d3_22) k) ?_
  obtain ⟨_, _, ⟨T4, L4, k4, n4⟩, -, X4, ⟨Lc4, hQ4, l4, y4, z4⟩, st4⟩ := Jvm.LawKit.callS X3 hx (y := (⟨"com/example/columnist/columnist/text/WordsEqualPinLaw", "mark", "(JII)J"⟩ : MethodName)) hown (mvT hZ (hw _ (List.mem_of_getElem? (i := 14) rfl))) (mvT hZ (hw _ (List.mem_of_getElem? (i := 15) rfl))) (mvT hZ (hw _ (List.mem_of_getElem? (i := 12) rfl))) (mvT hZ (hw _ (List.mem_of_getElem? (i := 16) rfl))) (by decide) (backOf (W := 2) (rm4 l Z a0 hw [] x0 x1 (3 : Int32)  h0 n0 Z0 ) hZ (hw _ (List.mem_of_getElem? (i := 16) rfl)) (hw _ (List.mem_of_getElem? (i := 12) rfl)) (by decide) (by decide)) (g := (mkF m 23 #[.val (.long x0), .second, .val (.int x1)] [(.int (3 : Int32)), (.int x1), (.long x0), (.long ((r1 ||| r2) ||| r3))])) rfl (by rw [hml]; rfl) (argsL := [(.long x0), (.int x1), (.int (3 : Int32))]) (rest := [(.long ((r1 ||| r2) ||| r3))]) (lenOf own_pd0 rfl) rfl (by show 2 * 0 + _ ≤ _; exact Nat.le_of_eq rfl) (hb hby d3_23) (fun _ _ => ⟨rfl, eq3, (by decide : 0 + 0 ≤ _), (by decide : 0 + 0 ≤ _)⟩)
  dsimp only [Pt.U, Pt.locs, Pt.cells, Pt.slots] at X4 l4 y4 z4 st4 hQ4
  subst l4 y4 z4
  obtain ⟨⟨r4, rfl, hr4⟩, Nq4, eq4⟩ := hQ4
  have N4 := Fr.app N3 Nq4
  refine own_st (T' := T4) (F' := (mkF m 26 #[.val (.long x0), .second, .val (.int x1)] [(.long r4), (.long ((r1 ||| r2) ||| r3))])) (fun _ k => st4 _ k) ?_
  refine own_st (T' := T4) (F' := (mkF m 27 #[.val (.long x0), .second, .val (.int x1)] [(.long (((r1 ||| r2) ||| r3) ||| r4))])) (fun _ k => XS.lor X4.here hx rfl (hb hby d3_26) rfl k) ?_
  refine own_st (T' := T4) (F' := (mkF m 28 #[.val (.long x0), .second, .val (.int x1)] [(.long x0), (.long (((r1 ||| r2) ||| r3) ||| r4))])) (fun _ k => XS.lloadN X4.here hx rfl (hb hby d3_27) rfl  k) ?_
  refine own_st (T' := T4) (F' := (mkF m 29 #[.val (.long x0), .second, .val (.int x1)] [(.int x1), (.long x0), (.long (((r1 ||| r2) ||| r3) ||| r4))])) (fun _ k => XS.iloadN X4.here hx rfl (hb hby d3_28) rfl  k) ?_
  refine own_st (T' := T4) (F' := (mkF m 30 #[.val (.long x0), .second, .val (.int x1)] [(.int (4 : Int32)), (.int x1), (.long x0), (.long (((r1 ||| r2) ||| r3) ||| r4))])) (fun _ k => XS.iconst X4.here hx rfl (hb hby d3_29) k) ?_
  obtain ⟨_, _, ⟨T5, L5, k5, n5⟩, -, X5, ⟨Lc5, hQ5, l5, y5, z5⟩, st5⟩ := Jvm.LawKit.callS X4 hx (y := (⟨"com/example/columnist/columnist/text/WordsEqualPinLaw", "mark", "(JII)J"⟩ : MethodName)) hown (mvT hZ (hw _ (List.mem_of_getElem? (i := 14) rfl))) (mvT hZ (hw _ (List.mem_of_getElem? (i := 15) rfl))) (mvT hZ (hw _ (List.mem_of_getElem? (i := 12) rfl))) (mvT hZ (hw _ (List.mem_of_getElem? (i := 16) rfl))) (by decide) (backOf (W := 2) (rm4 l Z a0 hw [] x0 x1 (4 : Int32)  h0 n0 Z0 ) hZ (hw _ (List.mem_of_getElem? (i := 16) rfl)) (hw _ (List.mem_of_getElem? (i := 12) rfl)) (by decide) (by decide)) (g := (mkF m 30 #[.val (.long x0), .second, .val (.int x1)] [(.int (4 : Int32)), (.int x1), (.long x0), (.long (((r1 ||| r2) ||| r3) ||| r4))])) rfl (by rw [hml]; rfl) (argsL := [(.long x0), (.int x1), (.int (4 : Int32))]) (rest := [(.long (((r1 ||| r2) ||| r3) ||| r4))]) (lenOf own_pd0 rfl) rfl (by show 2 * 0 + _ ≤ _; exact Nat.le_of_eq rfl) (hb hby d3_30) (fun _ _ => ⟨rfl, eq4, (by decide : 0 + 0 ≤ _), (by decide : 0 + 0 ≤ _)⟩)
  dsimp only [Pt.U, Pt.locs, Pt.cells, Pt.slots] at X5 l5 y5 z5 st5 hQ5
  subst l5 y5 z5
  obtain ⟨⟨r5, rfl, hr5⟩, Nq5, eq5⟩ := hQ5
  have N5 := Fr.app N4 Nq5
  refine own_st (T' := T5) (F' := (mkF m 33 #[.val (.long x0), .second, .val (.int x1)] [(.long r5), (.long (((r1 ||| r2) ||| r3) ||| r4))])) (fun _ k => st5 _ k) ?_
  refine own_st (T' := T5) (F' := (mkF m 34 #[.val (.long x0), .second, .val (.int x1)] [(.long ((((r1 ||| r2) ||| r3) ||| r4) ||| r5))])) (fun _ k => XS.lor X5.here hx rfl (hb hby d3_33) rfl k) ?_
  refine own_st (T' := T5) (F' := (mkF m 35 #[.val (.long x0), .second, .val (.int x1)] [(.long x0), (.long ((((r1 ||| r2) ||| r3) ||| r4) ||| r5))])) (fun _ k => XS.lloadN X5.here hx rfl (hb hby d3_34) rfl  k) ?_
  refine own_st (T' := T5) (F' := (mkF m 36 #[.val (.long x0), .second, .val (.int x1)] [(.int x1), (.long x0), (.long ((((r1 ||| r2) ||| r3) ||| r4) ||| r5))])) (fun _ k => XS.iloadN X5.here hx rfl (hb hby d3_35) rfl  k) ?_
  refine own_st (T' := T5) (F' := (mkF m 37 #[.val (.long x0), .second, .val (.int x1)] [(.int (5 : Int32)), (.int x1), (.long x0), (.long ((((r1 ||| r2) ||| r3) ||| r4) ||| r5))])) (fun _ k => XS.iconst X5.here hx rfl (hb hby d3_36) k) ?_
  obtain ⟨_, _, ⟨T6, L6, k6, n6⟩, -, X6, ⟨Lc6, hQ6, l6, y6, z6⟩, st6⟩ := Jvm.LawKit.callS X5 hx (y := (⟨"com/example/columnist/columnist/text/WordsEqualPinLaw", "mark", "(JII)J"⟩ : MethodName)) hown (mvT hZ (hw _ (List.mem_of_getElem? (i := 14) rfl))) (mvT hZ (hw _ (List.mem_of_getElem? (i := 15) rfl))) (mvT hZ (hw _ (List.mem_of_getElem? (i := 12) rfl))) (mvT hZ (hw _ (List.mem_of_getElem? (i := 16) rfl))) (by decide) (backOf (W := 2) (rm4 l Z a0 hw [] x0 x1 (5 : Int32)  h0 n0 Z0 ) hZ (hw _ (List.mem_of_getElem? (i := 16) rfl)) (hw _ (List.mem_of_getElem? (i := 12) rfl)) (by decide) (by decide)) (g := (mkF m 37 #[.val (.long x0), .second, .val (.int x1)] [(.int (5 : Int32)), (.int x1), (.long x0), (.long ((((r1 ||| r2) ||| r3) ||| r4) ||| r5))])) rfl (by rw [hml]; rfl) (argsL := [(.long x0), (.int x1), (.int (5 : Int32))]) (rest := [(.long ((((r1 ||| r2) ||| r3) ||| r4) ||| r5))]) (lenOf own_pd0 rfl) rfl (by show 2 * 0 + _ ≤ _; exact Nat.le_of_eq rfl) (hb hby d3_37) (fun _ _ => ⟨rfl, eq5, (by decide : 0 + 0 ≤ _), (by decide : 0 + 0 ≤ _)⟩)
  dsimp only [Pt.U, Pt.locs, Pt.cells, Pt.slots] at X6 l6 y6 z6 st6 hQ6
  subst l6 y6 z6
  obtain ⟨⟨r6, rfl, hr6⟩, Nq6, eq6⟩ := hQ6
  have N6 := Fr.app N5 Nq6
  refine own_st (T' := T6) (F' := (mkF m 40 #[.val (.long x0), .second, .val (.int x1)] [(.long r6), (.long ((((r1 ||| r2) ||| r3) ||| r4) ||| r5))])) (fun _ k => st6 _ k) ?_
  refine own_st (T' := T6) (F' := (mkF m 41 #[.val (.long x0), .second, .val (.int x1)] [(.long (((((r1 ||| r2) ||| r3) ||| r4) ||| r5) ||| r6))])) (fun _ k => XS.lor X6.here hx rfl (hb hby d3_40) rfl k) ?_
  refine own_st (T' := T6) (F' := (mkF m 42 #[.val (.long x0), .second, .val (.int x1)] [(.long x0), (.long (((((r1 ||| r2) ||| r3) ||| r4) ||| r5) ||| r6))])) (fun _ k => XS.lloadN X6.here hx rfl (hb hby d3_41) rfl  k) ?_
  refine own_st (T' := T6) (F' := (mkF m 43 #[.val (.long x0), .second, .val (.int x1)] [(.int x1), (.long x0), (.long (((((r1 ||| r2) ||| r3) ||| r4) ||| r5) ||| r6))])) (fun _ k => XS.iloadN X6.here hx rfl (hb hby d3_42) rfl  k) ?_
  refine own_st (T' := T6) (F' := (mkF m 45 #[.val (.long x0), .second, .val (.int x1)] [(.int (6 : Int32)), (.int x1), (.long x0), (.long (((((r1 ||| r2) ||| r3) ||| r4) ||| r5) ||| r6))])) (fun _ k => XS.bipush X6.here hx rfl (hb hby d3_43) k) ?_
  obtain ⟨_, _, ⟨T7, L7, k7, n7⟩, -, X7, ⟨Lc7, hQ7, l7, y7, z7⟩, st7⟩ := Jvm.LawKit.callS X6 hx (y := (⟨"com/example/columnist/columnist/text/WordsEqualPinLaw", "mark", "(JII)J"⟩ : MethodName)) hown (mvT hZ (hw _ (List.mem_of_getElem? (i := 14) rfl))) (mvT hZ (hw _ (List.mem_of_getElem? (i := 15) rfl))) (mvT hZ (hw _ (List.mem_of_getElem? (i := 12) rfl))) (mvT hZ (hw _ (List.mem_of_getElem? (i := 16) rfl))) (by decide) (backOf (W := 2) (rm4 l Z a0 hw [] x0 x1 (6 : Int32)  h0 n0 Z0 ) hZ (hw _ (List.mem_of_getElem? (i := 16) rfl)) (hw _ (List.mem_of_getElem? (i := 12) rfl)) (by decide) (by decide)) (g := (mkF m 45 #[.val (.long x0), .second, .val (.int x1)] [(.int (6 : Int32)), (.int x1), (.long x0), (.long (((((r1 ||| r2) ||| r3) ||| r4) ||| r5) ||| r6))])) rfl (by rw [hml]; rfl) (argsL := [(.long x0), (.int x1), (.int (6 : Int32))]) (rest := [(.long (((((r1 ||| r2) ||| r3) ||| r4) ||| r5) ||| r6))]) (lenOf own_pd0 rfl) rfl (by show 2 * 0 + _ ≤ _; exact Nat.le_of_eq rfl) (hb hby d3_45) (fun _ _ => ⟨rfl, eq6, (by decide : 0 + 0 ≤ _), (by decide : 0 + 0 ≤ _)⟩)
  dsimp only [Pt.U, Pt.locs, Pt.cells, Pt.slots] at X7 l7 y7 z7 st7 hQ7
  subst l7 y7 z7
  obtain ⟨⟨r7, rfl, hr7⟩, Nq7, eq7⟩ := hQ7
  have N7 := Fr.app N6 Nq7
  refine own_st (T' := T7) (F' := (mkF m 48 #[.val (.long x0), .second, .val (.int x1)] [(.long r7), (.long (((((r1 ||| r2) ||| r3) ||| r4) ||| r5) ||| r6))])) (fun _ k => st7 _ k) ?_
  refine own_st (T' := T7) (F' := (mkF m 49 #[.val (.long x0), .second, .val (.int x1)] [(.long ((((((r1 ||| r2) ||| r3) ||| r4) ||| r5) ||| r6) ||| r7))])) (fun _ k => XS.lor X7.here hx rfl (hb hby d3_48) rfl k) ?_
  refine own_st (T' := T7) (F' := (mkF m 50 #[.val (.long x0), .second, .val (.int x1)] [(.long x0), (.long ((((((r1 ||| r2) ||| r3) ||| r4) ||| r5) ||| r6) ||| r7))])) (fun _ k => XS.lloadN X7.here hx rfl (hb hby d3_49) rfl  k) ?_
  refine own_st (T' := T7) (F' := (mkF m 51 #[.val (.long x0), .second, .val (.int x1)] [(.int x1), (.long x0), (.long ((((((r1 ||| r2) ||| r3) ||| r4) ||| r5) ||| r6) ||| r7))])) (fun _ k => XS.iloadN X7.here hx rfl (hb hby d3_50) rfl  k) ?_
  refine own_st (T' := T7) (F' := (mkF m 53 #[.val (.long x0), .second, .val (.int x1)] [(.int (7 : Int32)), (.int x1), (.long x0), (.long ((((((r1 ||| r2) ||| r3) ||| r4) ||| r5) ||| r6) ||| r7))])) (fun _ k => XS.bipush X7.here hx rfl (hb hby d3_51) k) ?_
  obtain ⟨_, _, ⟨T8, L8, k8, n8⟩, -, X8, ⟨Lc8, hQ8, l8, y8, z8⟩, st8⟩ := Jvm.LawKit.callS X7 hx (y := (⟨"com/example/columnist/columnist/text/WordsEqualPinLaw", "mark", "(JII)J"⟩ : MethodName)) hown (mvT hZ (hw _ (List.mem_of_getElem? (i := 14) rfl))) (mvT hZ (hw _ (List.mem_of_getElem? (i := 15) rfl))) (mvT hZ (hw _ (List.mem_of_getElem? (i := 12) rfl))) (mvT hZ (hw _ (List.mem_of_getElem? (i := 16) rfl))) (by decide) (backOf (W := 2) (rm4 l Z a0 hw [] x0 x1 (7 : Int32)  h0 n0 Z0 ) hZ (hw _ (List.mem_of_getElem? (i := 16) rfl)) (hw _ (List.mem_of_getElem? (i := 12) rfl)) (by decide) (by decide)) (g := (mkF m 53 #[.val (.long x0), .second, .val (.int x1)] [(.int (7 : Int32)), (.int x1), (.long x0), (.long ((((((r1 ||| r2) ||| r3) ||| r4) ||| r5) ||| r6) ||| r7))])) rfl (by rw [hml]; rfl) (argsL := [(.long x0), (.int x1), (.int (7 : Int32))]) (rest := [(.long ((((((r1 ||| r2) ||| r3) ||| r4) ||| r5) ||| r6) ||| r7))]) (lenOf own_pd0 rfl) rfl (by show 2 * 0 + _ ≤ _; exact Nat.le_of_eq rfl) (hb hby d3_53) (fun _ _ => ⟨rfl, eq7, (by decide : 0 + 0 ≤ _), (by decide : 0 + 0 ≤ _)⟩)
  dsimp only [Pt.U, Pt.locs, Pt.cells, Pt.slots] at X8 l8 y8 z8 st8 hQ8
  subst l8 y8 z8
  obtain ⟨⟨r8, rfl, hr8⟩, Nq8, eq8⟩ := hQ8
  have N8 := Fr.app N7 Nq8
  refine own_st (T' := T8) (F' := (mkF m 56 #[.val (.long x0), .second, .val (.int x1)] [(.long r8), (.long ((((((r1 ||| r2) ||| r3) ||| r4) ||| r5) ||| r6) ||| r7))])) (fun _ k => st8 _ k) ?_
  refine own_st (T' := T8) (F' := (mkF m 57 #[.val (.long x0), .second, .val (.int x1)] [(.long (((((((r1 ||| r2) ||| r3) ||| r4) ||| r5) ||| r6) ||| r7) ||| r8))])) (fun _ k => XS.lor X8.here hx rfl (hb hby d3_56) rfl k) ?_
  refine own_retJ X8 hx hlk Bd.returns (hb hby d3_57) ?_ (by decide) (by decide)
  rw [eq8]
  refine ⟨⟨_, rfl, ?_⟩, N8, rfl⟩
  exact ⟨_, _, _, _, _, _, _, _, hr1, hr2, hr3, hr4, hr5, hr6, hr7, hr8, rfl⟩
theorem own_pd1 : parseMethodDescriptor "(I)J" = some ⟨[.int], some .long⟩ := by decide +kernel
theorem own_pd2 : parseMethodDescriptor "(JJ)J" = some ⟨[.long, .long], some .long⟩ := by decide +kernel
theorem own_pd3 : parseMethodDescriptor "(JI)J" = some ⟨[.long, .int], some .long⟩ := by decide +kernel
theorem own_pn0 : plainName "com/example/columnist/columnist/text/WordsEqualPinLaw" = true := by first | (simp [plainName, overriddenIn]; done) | decide +kernel
theorem own_ef0 (m : MethodId) (x0 : Int64) (x1 : Int32) (x2 : Int32) (x3 : Int32) : entryFrame m #[(.long x0), (.int x1), (.int x2), (.int x3)] maxLocals = (mkF m 0 #[.val (.long x0), .second, .val (.int x1), .val (.int x2), .val (.int x3), .unset, .unset, .unset, .unset, .unset, .unset, .unset, .unset, .unset, .unset, .unset, .unset] []) := by first | (simp [entryFrame, mkF, argsToLocals, Value.category, maxLocals]; done) | rfl
def Q0 (Z : State) (x0 : Int64) (x1 : Int32) (x2 : Int32) (x3 : Int32)  (h0 : Heap) (n0 : Nat) (v : Option Value) (h : Heap) (L : List Loc) : Prop := (∃ z : Int32, v = some (.int z) ∧ (z = 1)) ∧ Fr n0 L ∧ h = h0
set_option maxRecDepth 65536 in
set_option maxHeartbeats 40000000 in
theorem rm0 (l : Launch) (Z : State) (a0 : Array Value) (hw : ∀ d ∈ tables_1, d.before a0 Z = true) (ws : List Jvm.Cond) (x0 : Int64) (x1 : Int32) (x2 : Int32) (x3 : Int32)  (h0 : Heap) (n0 : Nat) (Z0 : n0 ≤ h0.size)  :
    MetFree l x (head1 (Jvm.Cond.code x code maxLocals ret :: ws) room_1) (fun a U => a = #[(.long x0), (.int x1), (.int x2), (.int x3)] ∧ Z.Warmed39 U.vm ∧ U.heap = h0) (fun _ _ _ _ _ => True) (fun _ U oc U' => ∃ v L, oc = .returned v ∧ Q0 Z x0 x1 x2 x3  h0 n0 v U'.heap L ∧ FrameEnd U oc U' L room_1.cells room_1.slots) := by
  refine MetFree.of_bodySF (plainFor_of_name own_pn0) hisR ?_
  intro p e s m args below meth c s₁ Bd hml0 hP hK
  obtain ⟨rfl, hZ, hh⟩ := hP
  have hx := Bd.exec
  have hby := Bd.bytes
  have hlk : meth.locks = false := BodyLoose.notSynchronized Bd
  have hml : c.maxLocals = 17 := hml0
  have hown : s.vm.findClass "com/example/columnist/columnist/text/WordsEqualPinLaw" = some m.cls := findClass_of_methodNamed Bd.named
  have hnm := (name_of_methodNamed Bd.named Bd.method).1
  have X0 : Stand p l e room_1 s m #[(.long x0), (.int x1), (.int x2), (.int x3)] below meth c s₁ [] 0 0 := Stand.of_body Bd
  have e0 : s₁.heap = h0 := by rw [← hh, Bd.state]; rfl
  have N0 := Fr.nil n0
  refine own_enter (own_ef0 m x0 x1 x2 x3) ?_
  show own_Go p e below s (Q0 Z x0 x1 x2 x3  h0 n0) room_1.cells room_1.slots s₁ (mkF m 0 #[.val (.long x0), .second, .val (.int x1), .val (.int x2), .val (.int x3), .unset, .unset, .unset, .unset, .unset, .unset, .unset, .unset, .unset, .unset, .unset, .unset] [])
  refine own_st (T' := s₁) (F' := (mkF m 1 #[.val (.long x0), .second, .val (.int x1), .val (.int x2), .val (.int x3), .unset, .unset, .unset, .unset, .unset, .unset, .unset, .unset, .unset, .unset, .unset, .unset] [(.int x1)])) (fun _ k => XS.iloadN X0.here hx rfl (hb hby at_0) rfl  k) ?_
  refine own_st (T' := s₁) (F' := (mkF m 4 #[.val (.long x0), .second, .val (.int x1), .val (.int x2), .val (.int x3), .unset, .unset, .unset, .unset, .unset, .unset, .unset, .unset, .unset, .unset, .unset, .unset] [(.int (255 : Int32)), (.int x1)])) (fun _ k => XS.sipush X0.here hx rfl (hb hby at_1) k) ?_
  refine own_st (T' := s₁) (F' := (mkF m 5 #[.val (.long x0), .second, .val (.int x1), .val (.int x2), .val (.int x3), .unset, .unset, .unset, .unset, .unset, .unset, .unset, .unset, .unset, .unset, .unset, .unset] [(.int (x1 &&& (255 : Int32)))])) (fun _ k => XS.iand X0.here hx rfl (hb hby at_4) rfl k) ?_
  refine own_st (T' := s₁) (F' := (mkF m 7 #[.val (.long x0), .second, .val (.int x1), .val (.int x2), .val (.int x3), .val (.int (x1 &&& (255 : Int32))), .unset, .unset, .unset, .unset, .unset, .unset, .unset, .unset, .unset, .unset, .unset] [])) (fun _ k => XS.istore X0.here hx rfl (hb hby at_5) rfl (l' := #[.val (.long x0), .second, .val (.int x1), .val (.int x2), .val (.int x3), .val (.int (x1 &&& (255 : Int32))), .unset, .unset, .unset, .unset, .unset, .unset, .unset, .unset, .unset, .unset, .unset]) rfl k) ?_
  refine own_st (T' := s₁) (F' := (mkF m 8 #[.val (.long x0), .second, .val (.int x1), .val (.int x2), .val (.int x3), .val (.int (x1 &&& (255 : Int32))), .unset, .unset, .unset, .unset, .unset, .unset, .unset, .unset, .unset, .unset, .unset] [(.long x0)])) (fun _ k => XS.lloadN X0.here hx rfl (hb hby at_7) rfl  k) ?_
  refine own_st (T' := s₁) (F' := (mkF m 10 #[.val (.long x0), .second, .val (.int x1), .val (.int x2), .val (.int x3), .val (.int (x1 &&& (255 : Int32))), .val (.long x0), .second, .unset, .unset, .unset, .unset, .unset, .unset, .unset, .unset, .unset] [])) (fun _ k => XS.lstore X0.here hx rfl (hb hby at_8) rfl (l' := #[.val (.long x0), .second, .val (.int x1), .val (.int x2), .val (.int x3), .val (.int (x1 &&& (255 : Int32))), .val (.long x0), .second, .unset, .unset, .unset, .unset, .unset, .unset, .unset, .unset, .unset]) rfl k) ?_
  refine own_st (T' := s₁) (F' := (mkF m 12 #[.val (.long x0), .second, .val (.int x1), .val (.int x2), .val (.int x3), .val (.int (x1 &&& (255 : Int32))), .val (.long x0), .second, .unset, .unset, .unset, .unset, .unset, .unset, .unset, .unset, .unset] [(.int x3)])) (fun _ k => XS.iload X0.here hx rfl (hb hby at_10) rfl  k) ?_
  refine own_st (T' := s₁) (F' := (mkF m 13 #[.val (.long x0), .second, .val (.int x1), .val (.int x2), .val (.int x3), .val (.int (x1 &&& (255 : Int32))), .val (.long x0), .second, .unset, .unset, .unset, .unset, .unset, .unset, .unset, .unset, .unset] [(.int (2 : Int32)), (.int x3)])) (fun _ k => XS.iconst X0.here hx rfl (hb hby at_12) k) ?_
  refine own_st (T' := s₁) (F' := (mkF m 14 #[.val (.long x0), .second, .val (.int x1), .val (.int x2), .val (.int x3), .val (.int (x1 &&& (255 : Int32))), .val (.long x0), .second, .unset, .unset, .unset, .unset, .unset, .unset, .unset, .unset, .unset] [(.int (x3 &&& (2 : Int32)))])) (fun _ k => XS.iand X0.here hx rfl (hb hby at_13) rfl k) ?_
  have J34_1 : ∀ (j34_1 : Int64) (TJ1 : State) (LJ1 : List Loc) (XJ1 : Stand p l e room_1 s m #[(.long x0), (.int x1), (.int x2), (.int x3)] below meth c TJ1 LJ1 0 0) (NJ1 : Fr n0 LJ1) (eJ1 : TJ1.heap = h0), ((((x3 &&& (2 : Int32)) = (0 : Int32)) ∧ j34_1 = x0) ∨ ((¬ ((x3 &&& (2 : Int32)) = (0 : Int32))) ∧ ∃ r1 : Int64, (True) ∧ j34_1 = r1)) → own_Go p e below s (Q0 Z x0 x1 x2 x3  h0 n0) room_1.cells room_1.slots TJ1 (mkF m 34 #[.val (.long x0), .second, .val (.int x1), .val (.int x2), .val (.int x3), .val (.int (x1 &&& (255 : Int32))), .val (.long j34_1), .second, .unset, .unset, .unset, .unset, .unset, .unset, .unset, .unset, .unset] []) := by
    intro j34_1 TJ1 LJ1 XJ1 NJ1 eJ1 hJ34_1
    refine own_st (T' := TJ1) (F' := (mkF m 36 #[.val (.long x0), .second, .val (.int x1), .val (.int x2), .val (.int x3), .val (.int (x1 &&& (255 : Int32))), .val (.long j34_1), .second, .unset, .unset, .unset, .unset, .unset, .unset, .unset, .unset, .unset] [(.int x3)])) (fun _ k => XS.iload XJ1.here hx rfl (hb hby at_34) rfl  k) ?_
    refine own_st (T' := TJ1) (F' := (mkF m 37 #[.val (.long x0), .second, .val (.int x1), .val (.int x2), .val (.int x3), .val (.int (x1 &&& (255 : Int32))), .val (.long j34_1), .second, .unset, .unset, .unset, .unset, .unset, .unset, .unset, .unset, .unset] [(.int (1 : Int32)), (.int x3)])) (fun _ k => XS.iconst XJ1.here hx rfl (hb hby at_36) k) ?_
    refine own_st (T' := TJ1) (F' := (mkF m 38 #[.val (.long x0), .second, .val (.int x1), .val (.int x2), .val (.int x3), .val (.int (x1 &&& (255 : Int32))), .val (.long j34_1), .second, .unset, .unset, .unset, .unset, .unset, .unset, .unset, .unset, .unset] [(.int (x3 &&& (1 : Int32)))])) (fun _ k => XS.iand XJ1.here hx rfl (hb hby at_37) rfl k) ?_
    have J54_2 : ∀ (j54_1 : Int64) (TJ2 : State) (LJ2 : List Loc) (XJ2 : Stand p l e room_1 s m #[(.long x0), (.int x1), (.int x2), (.int x3)] below meth c TJ2 LJ2 0 0) (NJ2 : Fr n0 LJ2) (eJ2 : TJ2.heap = h0), ((((x3 &&& (1 : Int32)) = (0 : Int32)) ∧ j54_1 = j34_1) ∨ ((¬ ((x3 &&& (1 : Int32)) = (0 : Int32))) ∧ ∃ r2 : Int64, (True) ∧ j54_1 = r2)) → own_Go p e below s (Q0 Z x0 x1 x2 x3  h0 n0) room_1.cells room_1.slots TJ2 (mkF m 54 #[.val (.long x0), .second, .val (.int x1), .val (.int x2), .val (.int x3), .val (.int (x1 &&& (255 : Int32))), .val (.long j54_1), .second, .unset, .unset, .unset, .unset, .unset, .unset, .unset, .unset, .unset] []) := by
      intro j54_1 TJ2 LJ2 XJ2 NJ2 eJ2 hJ54_2
      refine own_st (T' := TJ2) (F' := (mkF m 56 #[.val (.long x0), .second, .val (.int x1), .val (.int x2), .val (.int x3), .val (.int (x1 &&& (255 : Int32))), .val (.long j54_1), .second, .unset, .unset, .unset, .unset, .unset, .unset, .unset, .unset, .unset] [(.long j54_1)])) (fun _ k => XS.lload XJ2.here hx rfl (hb hby at_54) rfl  k) ?_
      refine own_st (T' := TJ2) (F' := (mkF m 57 #[.val (.long x0), .second, .val (.int x1), .val (.int x2), .val (.int x3), .val (.int (x1 &&& (255 : Int32))), .val (.long j54_1), .second, .unset, .unset, .unset, .unset, .unset, .unset, .unset, .unset, .unset] [(.int x1), (.long j54_1)])) (fun _ k => XS.iloadN XJ2.here hx rfl (hb hby at_56) rfl  k) ?_
      obtain ⟨_, _, ⟨T3, L3, k3, n3⟩, -, X3, ⟨Lc3, hQ3, l3, y3, z3⟩, st3⟩ := Jvm.LawKit.callS XJ2 hx (y := (⟨"com/example/columnist/columnist/text/Words", "repeated", "(I)J"⟩ : MethodName)) hown (mvT hZ (hw _ (List.mem_of_getElem? (i := 0) rfl))) (mvT hZ (hw _ (List.mem_of_getElem? (i := 1) rfl))) (mvT hZ (hw _ (List.mem_of_getElem? (i := 2) rfl))) (mvT hZ (hw _ (List.mem_of_getElem? (i := 3) rfl))) (by decide) (backOf (W := 2) (rm1 l Z a0 hw [] x1  h0 n0 Z0 ) hZ (hw _ (List.mem_of_getElem? (i := 3) rfl)) (hw _ (List.mem_of_getElem? (i := 2) rfl)) (by decide) (by decide)) (g := (mkF m 57 #[.val (.long x0), .second, .val (.int x1), .val (.int x2), .val (.int x3), .val (.int (x1 &&& (255 : Int32))), .val (.long j54_1), .second, .unset, .unset, .unset, .unset, .unset, .unset, .unset, .unset, .unset] [(.int x1), (.long j54_1)])) rfl (by rw [hml]; rfl) (argsL := [(.int x1)]) (rest := [(.long j54_1)]) (lenOf own_pd1 rfl) rfl (by show 2 * 0 + _ ≤ _; exact Nat.le_of_eq rfl) (hb hby at_57) (fun _ _ => ⟨rfl, eJ2, (by decide : 0 + 0 ≤ _), (by decide : 0 + 0 ≤ _)⟩)
      dsimp only [Pt.U, Pt.locs, Pt.cells, Pt.slots] at X3 l3 y3 z3 st3 hQ3
      subst l3 y3 z3
      obtain ⟨⟨r3, rfl, hr3⟩, Nq3, eq3⟩ := hQ3
      have N3 := Fr.app NJ2 Nq3
      refine own_st (T' := T3) (F' := (mkF m 60 #[.val (.long x0), .second, .val (.int x1), .val (.int x2), .val (.int x3), .val (.int (x1 &&& (255 : Int32))), .val (.long j54_1), .second, .unset, .unset, .unset, .unset, .unset, .unset, .unset, .unset, .unset] [(.long r3), (.long j54_1)])) (fun _ k => st3 _ k) ?_
      obtain ⟨_, _, ⟨T4, L4, k4, n4⟩, -, X4, ⟨Lc4, hQ4, l4, y4, z4⟩, st4⟩ := Jvm.LawKit.callS X3 hx (y := (⟨"com/example/columnist/columnist/text/Words", "equal", "(JJ)J"⟩ : MethodName)) hown (mvT hZ (hw _ (List.mem_of_getElem? (i := 5) rfl))) (mvT hZ (hw _ (List.mem_of_getElem? (i := 6) rfl))) (mvT hZ (hw _ (List.mem_of_getElem? (i := 2) rfl))) (mvT hZ (hw _ (List.mem_of_getElem? (i := 7) rfl))) (by decide) (backOf (W := 0) (rm2 l Z a0 hw [] j54_1 r3  h0 n0 Z0 ) hZ (hw _ (List.mem_of_getElem? (i := 7) rfl)) (hw _ (List.mem_of_getElem? (i := 2) rfl)) (by decide) (by decide)) (g := (mkF m 60 #[.val (.long x0), .second, .val (.int x1), .val (.int x2), .val (.int x3), .val (.int (x1 &&& (255 : Int32))), .val (.long j54_1), .second, .unset, .unset, .unset, .unset, .unset, .unset, .unset, .unset, .unset] [(.long r3), (.long j54_1)])) rfl (by rw [hml]; rfl) (argsL := [(.long j54_1), (.long r3)]) (rest := []) (lenOf own_pd2 rfl) rfl (by show 2 * 0 + _ ≤ _; exact Nat.le_of_eq rfl) (hb hby at_60) (fun _ _ => ⟨rfl, eq3, (by decide : 0 + 0 ≤ _), (by decide : 0 + 0 ≤ _)⟩)
      dsimp only [Pt.U, Pt.locs, Pt.cells, Pt.slots] at X4 l4 y4 z4 st4 hQ4
      subst l4 y4 z4
      obtain ⟨⟨r4, rfl, hr4⟩, Nq4, eq4⟩ := hQ4
      have N4 := Fr.app N3 Nq4
      refine own_st (T' := T4) (F' := (mkF m 63 #[.val (.long x0), .second, .val (.int x1), .val (.int x2), .val (.int x3), .val (.int (x1 &&& (255 : Int32))), .val (.long j54_1), .second, .unset, .unset, .unset, .unset, .unset, .unset, .unset, .unset, .unset] [(.long r4)])) (fun _ k => st4 _ k) ?_
      refine own_st (T' := T4) (F' := (mkF m 65 #[.val (.long x0), .second, .val (.int x1), .val (.int x2), .val (.int x3), .val (.int (x1 &&& (255 : Int32))), .val (.long j54_1), .second, .val (.long r4), .second, .unset, .unset, .unset, .unset, .unset, .unset, .unset] [])) (fun _ k => XS.lstore X4.here hx rfl (hb hby at_63) rfl (l' := #[.val (.long x0), .second, .val (.int x1), .val (.int x2), .val (.int x3), .val (.int (x1 &&& (255 : Int32))), .val (.long j54_1), .second, .val (.long r4), .second, .unset, .unset, .unset, .unset, .unset, .unset, .unset]) rfl k) ?_
      refine own_st (T' := T4) (F' := (mkF m 67 #[.val (.long x0), .second, .val (.int x1), .val (.int x2), .val (.int x3), .val (.int (x1 &&& (255 : Int32))), .val (.long j54_1), .second, .val (.long r4), .second, .unset, .unset, .unset, .unset, .unset, .unset, .unset] [(.long j54_1)])) (fun _ k => XS.lload X4.here hx rfl (hb hby at_65) rfl  k) ?_
      refine own_st (T' := T4) (F' := (mkF m 69 #[.val (.long x0), .second, .val (.int x1), .val (.int x2), .val (.int x3), .val (.int (x1 &&& (255 : Int32))), .val (.long j54_1), .second, .val (.long r4), .second, .unset, .unset, .unset, .unset, .unset, .unset, .unset] [(.int (x1 &&& (255 : Int32))), (.long j54_1)])) (fun _ k => XS.iload X4.here hx rfl (hb hby at_67) rfl  k) ?_
      obtain ⟨_, _, ⟨T5, L5, k5, n5⟩, -, X5, ⟨Lc5, hQ5, l5, y5, z5⟩, st5⟩ := Jvm.LawKit.callS X4 hx (y := (⟨"com/example/columnist/columnist/text/WordsEqualPinLaw", "marks", "(JI)J"⟩ : MethodName)) hown (mvT hZ (hw _ (List.mem_of_getElem? (i := 10) rfl))) (mvT hZ (hw _ (List.mem_of_getElem? (i := 11) rfl))) (mvT hZ (hw _ (List.mem_of_getElem? (i := 12) rfl))) (mvT hZ (hw _ (List.mem_of_getElem? (i := 13) rfl))) (by decide) (backOf (W := 0) (rm3 l Z a0 hw [] j54_1 (x1 &&& (255 : Int32))  h0 n0 Z0 ) hZ (hw _ (List.mem_of_getElem? (i := 13) rfl)) (hw _ (List.mem_of_getElem? (i := 12) rfl)) (by decide) (by decide)) (g := (mkF m 69 #[.val (.long x0), .second, .val (.int x1), .val (.int x2), .val (.int x3), .val (.int (x1 &&& (255 : Int32))), .val (.long j54_1), .second, .val (.long r4), .second, .unset, .unset, .unset, .unset, .unset, .unset, .unset] [(.int (x1 &&& (255 : Int32))), (.long j54_1)])) rfl (by rw [hml]; rfl) (argsL := [(.long j54_1), (.int (x1 &&& (255 : Int32)))]) (rest := []) (lenOf own_pd3 rfl) rfl (by show 2 * 0 + _ ≤ _; exact Nat.le_of_eq rfl) (hb hby at_69) (fun _ _ => ⟨rfl, eq4, (by decide : 0 + 0 ≤ _), (by decide : 0 + 0 ≤ _)⟩)
      dsimp only [Pt.U, Pt.locs, Pt.cells, Pt.slots] at X5 l5 y5 z5 st5 hQ5
      subst l5 y5 z5
      obtain ⟨⟨r5, rfl, hr5⟩, Nq5, eq5⟩ := hQ5
      have N5 := Fr.app N4 Nq5
      refine own_st (T' := T5) (F' := (mkF m 72 #[.val (.long x0), .second, .val (.int x1), .val (.int x2), .val (.int x3), .val (.int (x1 &&& (255 : Int32))), .val (.long j54_1), .second, .val (.long r4), .second, .unset, .unset, .unset, .unset, .unset, .unset, .unset] [(.long r5)])) (fun _ k => st5 _ k) ?_
      refine own_st (T' := T5) (F' := (mkF m 74 #[.val (.long x0), .second, .val (.int x1), .val (.int x2), .val (.int x3), .val (.int (x1 &&& (255 : Int32))), .val (.long j54_1), .second, .val (.long r4), .second, .val (.long r5), .second, .unset, .unset, .unset, .unset, .unset] [])) (fun _ k => XS.lstore X5.here hx rfl (hb hby at_72) rfl (l' := #[.val (.long x0), .second, .val (.int x1), .val (.int x2), .val (.int x3), .val (.int (x1 &&& (255 : Int32))), .val (.long j54_1), .second, .val (.long r4), .second, .val (.long r5), .second, .unset, .unset, .unset, .unset, .unset]) rfl k) ?_
      refine own_st (T' := T5) (F' := (mkF m 76 #[.val (.long x0), .second, .val (.int x1), .val (.int x2), .val (.int x3), .val (.int (x1 &&& (255 : Int32))), .val (.long j54_1), .second, .val (.long r4), .second, .val (.long r5), .second, .unset, .unset, .unset, .unset, .unset] [(.long j54_1)])) (fun _ k => XS.lload X5.here hx rfl (hb hby at_74) rfl  k) ?_
      refine own_st (T' := T5) (F' := (mkF m 78 #[.val (.long x0), .second, .val (.int x1), .val (.int x2), .val (.int x3), .val (.int (x1 &&& (255 : Int32))), .val (.long j54_1), .second, .val (.long r4), .second, .val (.long r5), .second, .unset, .unset, .unset, .unset, .unset] [(.int (x1 &&& (255 : Int32))), (.long j54_1)])) (fun _ k => XS.iload X5.here hx rfl (hb hby at_76) rfl  k) ?_
      refine own_st (T' := T5) (F' := (mkF m 79 #[.val (.long x0), .second, .val (.int x1), .val (.int x2), .val (.int x3), .val (.int (x1 &&& (255 : Int32))), .val (.long j54_1), .second, .val (.long r4), .second, .val (.long r5), .second, .unset, .unset, .unset, .unset, .unset] [(.int (1 : Int32)), (.int (x1 &&& (255 : Int32))), (.long j54_1)])) (fun _ k => XS.iconst X5.here hx rfl (hb hby at_78) k) ?_
      refine own_st (T' := T5) (F' := (mkF m 80 #[.val (.long x0), .second, .val (.int x1), .val (.int x2), .val (.int x3), .val (.int (x1 &&& (255 : Int32))), .val (.long j54_1), .second, .val (.long r4), .second, .val (.long r5), .second, .unset, .unset, .unset, .unset, .unset] [(.int ((x1 &&& (255 : Int32)) ^^^ (1 : Int32))), (.long j54_1)])) (fun _ k => XS.ixor X5.here hx rfl (hb hby at_79) rfl k) ?_
      obtain ⟨_, _, ⟨T6, L6, k6, n6⟩, -, X6, ⟨Lc6, hQ6, l6, y6, z6⟩, st6⟩ := Jvm.LawKit.callS X5 hx (y := (⟨"com/example/columnist/columnist/text/WordsEqualPinLaw", "marks", "(JI)J"⟩ : MethodName)) hown (mvT hZ (hw _ (List.mem_of_getElem? (i := 10) rfl))) (mvT hZ (hw _ (List.mem_of_getElem? (i := 11) rfl))) (mvT hZ (hw _ (List.mem_of_getElem? (i := 12) rfl))) (mvT hZ (hw _ (List.mem_of_getElem? (i := 13) rfl))) (by decide) (backOf (W := 0) (rm3 l Z a0 hw [] j54_1 ((x1 &&& (255 : Int32)) ^^^ (1 : Int32))  h0 n0 Z0 ) hZ (hw _ (List.mem_of_getElem? (i := 13) rfl)) (hw _ (List.mem_of_getElem? (i := 12) rfl)) (by decide) (by decide)) (g := (mkF m 80 #[.val (.long x0), .second, .val (.int x1), .val (.int x2), .val (.int x3), .val (.int (x1 &&& (255 : Int32))), .val (.long j54_1), .second, .val (.long r4), .second, .val (.long r5), .second, .unset, .unset, .unset, .unset, .unset] [(.int ((x1 &&& (255 : Int32)) ^^^ (1 : Int32))), (.long j54_1)])) rfl (by rw [hml]; rfl) (argsL := [(.long j54_1), (.int ((x1 &&& (255 : Int32)) ^^^ (1 : Int32)))]) (rest := []) (lenOf own_pd3 rfl) rfl (by show 2 * 0 + _ ≤ _; exact Nat.le_of_eq rfl) (hb hby at_80) (fun _ _ => ⟨rfl, eq5, (by decide : 0 + 0 ≤ _), (by decide : 0 + 0 ≤ _)⟩)
      dsimp only [Pt.U, Pt.locs, Pt.cells, Pt.slots] at X6 l6 y6 z6 st6 hQ6
      subst l6 y6 z6
      obtain ⟨⟨r6, rfl, hr6⟩, Nq6, eq6⟩ := hQ6
      have N6 := Fr.app N5 Nq6
      refine own_st (T' := T6) (F' := (mkF m 83 #[.val (.long x0), .second, .val (.int x1), .val (.int x2), .val (.int x3), .val (.int (x1 &&& (255 : Int32))), .val (.long j54_1), .second, .val (.long r4), .second, .val (.long r5), .second, .unset, .unset, .unset, .unset, .unset] [(.long r6)])) (fun _ k => st6 _ k) ?_
      refine own_st (T' := T6) (F' := (mkF m 85 #[.val (.long x0), .second, .val (.int x1), .val (.int x2), .val (.int x3), .val (.int (x1 &&& (255 : Int32))), .val (.long j54_1), .second, .val (.long r4), .second, .val (.long r5), .second, .val (.long r6), .second, .unset, .unset, .unset] [])) (fun _ k => XS.lstore X6.here hx rfl (hb hby at_83) rfl (l' := #[.val (.long x0), .second, .val (.int x1), .val (.int x2), .val (.int x3), .val (.int (x1 &&& (255 : Int32))), .val (.long j54_1), .second, .val (.long r4), .second, .val (.long r5), .second, .val (.long r6), .second, .unset, .unset, .unset]) rfl k) ?_
      refine own_st (T' := T6) (F' := (mkF m 87 #[.val (.long x0), .second, .val (.int x1), .val (.int x2), .val (.int x3), .val (.int (x1 &&& (255 : Int32))), .val (.long j54_1), .second, .val (.long r4), .second, .val (.long r5), .second, .val (.long r6), .second, .unset, .unset, .unset] [(.long r4)])) (fun _ k => XS.lload X6.here hx rfl (hb hby at_85) rfl  k) ?_
      refine own_st (T' := T6) (F' := (mkF m 89 #[.val (.long x0), .second, .val (.int x1), .val (.int x2), .val (.int x3), .val (.int (x1 &&& (255 : Int32))), .val (.long j54_1), .second, .val (.long r4), .second, .val (.long r5), .second, .val (.long r6), .second, .unset, .unset, .unset] [(.long r4), (.long r4)])) (fun _ k => XS.lload X6.here hx rfl (hb hby at_87) rfl  k) ?_
      refine own_st (T' := T6) (F' := (mkF m 90 #[.val (.long x0), .second, .val (.int x1), .val (.int x2), .val (.int x3), .val (.int (x1 &&& (255 : Int32))), .val (.long j54_1), .second, .val (.long r4), .second, .val (.long r5), .second, .val (.long r6), .second, .unset, .unset, .unset] [(.long (-r4)), (.long r4)])) (fun _ k => XS.lneg X6.here hx rfl (hb hby at_89) rfl k) ?_
      refine own_st (T' := T6) (F' := (mkF m 91 #[.val (.long x0), .second, .val (.int x1), .val (.int x2), .val (.int x3), .val (.int (x1 &&& (255 : Int32))), .val (.long j54_1), .second, .val (.long r4), .second, .val (.long r5), .second, .val (.long r6), .second, .unset, .unset, .unset] [(.long (r4 &&& (-r4)))])) (fun _ k => XS.land X6.here hx rfl (hb hby at_90) rfl k) ?_
      refine own_st (T' := T6) (F' := (mkF m 93 #[.val (.long x0), .second, .val (.int x1), .val (.int x2), .val (.int x3), .val (.int (x1 &&& (255 : Int32))), .val (.long j54_1), .second, .val (.long r4), .second, .val (.long r5), .second, .val (.long r6), .second, .unset, .unset, .unset] [(.long r5), (.long (r4 &&& (-r4)))])) (fun _ k => XS.lload X6.here hx rfl (hb hby at_91) rfl  k) ?_
      refine own_st (T' := T6) (F' := (mkF m 95 #[.val (.long x0), .second, .val (.int x1), .val (.int x2), .val (.int x3), .val (.int (x1 &&& (255 : Int32))), .val (.long j54_1), .second, .val (.long r4), .second, .val (.long r5), .second, .val (.long r6), .second, .unset, .unset, .unset] [(.long r5), (.long r5), (.long (r4 &&& (-r4)))])) (fun _ k => XS.lload X6.here hx rfl (hb hby at_93) rfl  k) ?_
      refine own_st (T' := T6) (F' := (mkF m 96 #[.val (.long x0), .second, .val (.int x1), .val (.int x2), .val (.int x3), .val (.int (x1 &&& (255 : Int32))), .val (.long j54_1), .second, .val (.long r4), .second, .val (.long r5), .second, .val (.long r6), .second, .unset, .unset, .unset] [(.long (-r5)), (.long r5), (.long (r4 &&& (-r4)))])) (fun _ k => XS.lneg X6.here hx rfl (hb hby at_95) rfl k) ?_
      refine own_st (T' := T6) (F' := (mkF m 97 #[.val (.long x0), .second, .val (.int x1), .val (.int x2), .val (.int x3), .val (.int (x1 &&& (255 : Int32))), .val (.long j54_1), .second, .val (.long r4), .second, .val (.long r5), .second, .val (.long r6), .second, .unset, .unset, .unset] [(.long (r5 &&& (-r5))), (.long (r4 &&& (-r4)))])) (fun _ k => XS.land X6.here hx rfl (hb hby at_96) rfl k) ?_
      refine own_st (T' := T6) (F' := (mkF m 98 #[.val (.long x0), .second, .val (.int x1), .val (.int x2), .val (.int x3), .val (.int (x1 &&& (255 : Int32))), .val (.long j54_1), .second, .val (.long r4), .second, .val (.long r5), .second, .val (.long r6), .second, .unset, .unset, .unset] [(.int (lcmpW (r4 &&& (-r4)) (r5 &&& (-r5))))])) (fun _ k => XS.lcmp X6.here hx rfl (hb hby at_97) rfl k) ?_
      have J106_7 : ∀ (j106_1 : Int32), (((¬ ((r4 &&& (-r4)) = (r5 &&& (-r5)))) ∧ j106_1 = (0 : Int32)) ∨ (((r4 &&& (-r4)) = (r5 &&& (-r5))) ∧ j106_1 = (1 : Int32))) → own_Go p e below s (Q0 Z x0 x1 x2 x3  h0 n0) room_1.cells room_1.slots T6 (mkF m 106 #[.val (.long x0), .second, .val (.int x1), .val (.int x2), .val (.int x3), .val (.int (x1 &&& (255 : Int32))), .val (.long j54_1), .second, .val (.long r4), .second, .val (.long r5), .second, .val (.long r6), .second, .unset, .unset, .unset] [(.int j106_1)]) := by
        intro j106_1 hJ106_7
        refine own_st (T' := T6) (F' := (mkF m 108 #[.val (.long x0), .second, .val (.int x1), .val (.int x2), .val (.int x3), .val (.int (x1 &&& (255 : Int32))), .val (.long j54_1), .second, .val (.long r4), .second, .val (.long r5), .second, .val (.long r6), .second, .val (.int j106_1), .unset, .unset] [])) (fun _ k => XS.istore X6.here hx rfl (hb hby at_106) rfl (l' := #[.val (.long x0), .second, .val (.int x1), .val (.int x2), .val (.int x3), .val (.int (x1 &&& (255 : Int32))), .val (.long j54_1), .second, .val (.long r4), .second, .val (.long r5), .second, .val (.long r6), .second, .val (.int j106_1), .unset, .unset]) rfl k) ?_
        refine own_st (T' := T6) (F' := (mkF m 110 #[.val (.long x0), .second, .val (.int x1), .val (.int x2), .val (.int x3), .val (.int (x1 &&& (255 : Int32))), .val (.long j54_1), .second, .val (.long r4), .second, .val (.long r5), .second, .val (.long r6), .second, .val (.int j106_1), .unset, .unset] [(.long r4)])) (fun _ k => XS.lload X6.here hx rfl (hb hby at_108) rfl  k) ?_
        refine own_st (T' := T6) (F' := (mkF m 112 #[.val (.long x0), .second, .val (.int x1), .val (.int x2), .val (.int x3), .val (.int (x1 &&& (255 : Int32))), .val (.long j54_1), .second, .val (.long r4), .second, .val (.long r5), .second, .val (.long r6), .second, .val (.int j106_1), .unset, .unset] [(.long r5), (.long r4)])) (fun _ k => XS.lload X6.here hx rfl (hb hby at_110) rfl  k) ?_
        refine own_st (T' := T6) (F' := (mkF m 113 #[.val (.long x0), .second, .val (.int x1), .val (.int x2), .val (.int x3), .val (.int (x1 &&& (255 : Int32))), .val (.long j54_1), .second, .val (.long r4), .second, .val (.long r5), .second, .val (.long r6), .second, .val (.int j106_1), .unset, .unset] [(.long (r4 &&& r5))])) (fun _ k => XS.land X6.here hx rfl (hb hby at_112) rfl k) ?_
        refine own_st (T' := T6) (F' := (mkF m 115 #[.val (.long x0), .second, .val (.int x1), .val (.int x2), .val (.int x3), .val (.int (x1 &&& (255 : Int32))), .val (.long j54_1), .second, .val (.long r4), .second, .val (.long r5), .second, .val (.long r6), .second, .val (.int j106_1), .unset, .unset] [(.long r5), (.long (r4 &&& r5))])) (fun _ k => XS.lload X6.here hx rfl (hb hby at_113) rfl  k) ?_
        refine own_st (T' := T6) (F' := (mkF m 116 #[.val (.long x0), .second, .val (.int x1), .val (.int x2), .val (.int x3), .val (.int (x1 &&& (255 : Int32))), .val (.long j54_1), .second, .val (.long r4), .second, .val (.long r5), .second, .val (.long r6), .second, .val (.int j106_1), .unset, .unset] [(.int (lcmpW (r4 &&& r5) r5))])) (fun _ k => XS.lcmp X6.here hx rfl (hb hby at_115) rfl k) ?_
        have J124_8 : ∀ (j124_1 : Int32), (((¬ ((r4 &&& r5) = r5)) ∧ j124_1 = (0 : Int32)) ∨ (((r4 &&& r5) = r5) ∧ j124_1 = (1 : Int32))) → own_Go p e below s (Q0 Z x0 x1 x2 x3  h0 n0) room_1.cells room_1.slots T6 (mkF m 124 #[.val (.long x0), .second, .val (.int x1), .val (.int x2), .val (.int x3), .val (.int (x1 &&& (255 : Int32))), .val (.long j54_1), .second, .val (.long r4), .second, .val (.long r5), .second, .val (.long r6), .second, .val (.int j106_1), .unset, .unset] [(.int j124_1)]) := by
          intro j124_1 hJ124_8
          refine own_st (T' := T6) (F' := (mkF m 126 #[.val (.long x0), .second, .val (.int x1), .val (.int x2), .val (.int x3), .val (.int (x1 &&& (255 : Int32))), .val (.long j54_1), .second, .val (.long r4), .second, .val (.long r5), .second, .val (.long r6), .second, .val (.int j106_1), .val (.int j124_1), .unset] [])) (fun _ k => XS.istore X6.here hx rfl (hb hby at_124) rfl (l' := #[.val (.long x0), .second, .val (.int x1), .val (.int x2), .val (.int x3), .val (.int (x1 &&& (255 : Int32))), .val (.long j54_1), .second, .val (.long r4), .second, .val (.long r5), .second, .val (.long r6), .second, .val (.int j106_1), .val (.int j124_1), .unset]) rfl k) ?_
          refine own_st (T' := T6) (F' := (mkF m 128 #[.val (.long x0), .second, .val (.int x1), .val (.int x2), .val (.int x3), .val (.int (x1 &&& (255 : Int32))), .val (.long j54_1), .second, .val (.long r4), .second, .val (.long r5), .second, .val (.long r6), .second, .val (.int j106_1), .val (.int j124_1), .unset] [(.long r4)])) (fun _ k => XS.lload X6.here hx rfl (hb hby at_126) rfl  k) ?_
          refine own_st (T' := T6) (F' := (mkF m 130 #[.val (.long x0), .second, .val (.int x1), .val (.int x2), .val (.int x3), .val (.int (x1 &&& (255 : Int32))), .val (.long j54_1), .second, .val (.long r4), .second, .val (.long r5), .second, .val (.long r6), .second, .val (.int j106_1), .val (.int j124_1), .unset] [(.long r5), (.long r4)])) (fun _ k => XS.lload X6.here hx rfl (hb hby at_128) rfl  k) ?_
          refine own_st (T' := T6) (F' := (mkF m 132 #[.val (.long x0), .second, .val (.int x1), .val (.int x2), .val (.int x3), .val (.int (x1 &&& (255 : Int32))), .val (.long j54_1), .second, .val (.long r4), .second, .val (.long r5), .second, .val (.long r6), .second, .val (.int j106_1), .val (.int j124_1), .unset] [(.long r6), (.long r5), (.long r4)])) (fun _ k => XS.lload X6.here hx rfl (hb hby at_130) rfl  k) ?_
          refine own_st (T' := T6) (F' := (mkF m 133 #[.val (.long x0), .second, .val (.int x1), .val (.int x2), .val (.int x3), .val (.int (x1 &&& (255 : Int32))), .val (.long j54_1), .second, .val (.long r4), .second, .val (.long r5), .second, .val (.long r6), .second, .val (.int j106_1), .val (.int j124_1), .unset] [(.long (r5 ||| r6)), (.long r4)])) (fun _ k => XS.lor X6.here hx rfl (hb hby at_132) rfl k) ?_
          refine own_st (T' := T6) (F' := (mkF m 136 #[.val (.long x0), .second, .val (.int x1), .val (.int x2), .val (.int x3), .val (.int (x1 &&& (255 : Int32))), .val (.long j54_1), .second, .val (.long r4), .second, .val (.long r5), .second, .val (.long r6), .second, .val (.int j106_1), .val (.int j124_1), .unset] [(.long (-1 : Int64)), (.long (r5 ||| r6)), (.long r4)])) (fun _ k => X6.ldc2Long hx hown (mvT hZ (hw _ (List.mem_of_getElem? (i := 19) rfl))) (g := (mkF m 133 #[.val (.long x0), .second, .val (.int x1), .val (.int x2), .val (.int x3), .val (.int (x1 &&& (255 : Int32))), .val (.long j54_1), .second, .val (.long r4), .second, .val (.long r5), .second, .val (.long r6), .second, .val (.int j106_1), .val (.int j124_1), .unset] [(.long (r5 ||| r6)), (.long r4)])) rfl (hb hby at_133) _ k) ?_
          refine own_st (T' := T6) (F' := (mkF m 137 #[.val (.long x0), .second, .val (.int x1), .val (.int x2), .val (.int x3), .val (.int (x1 &&& (255 : Int32))), .val (.long j54_1), .second, .val (.long r4), .second, .val (.long r5), .second, .val (.long r6), .second, .val (.int j106_1), .val (.int j124_1), .unset] [(.long ((r5 ||| r6) ^^^ (-1 : Int64))), (.long r4)])) (fun _ k => XS.lxor X6.here hx rfl (hb hby at_136) rfl k) ?_
          refine own_st (T' := T6) (F' := (mkF m 138 #[.val (.long x0), .second, .val (.int x1), .val (.int x2), .val (.int x3), .val (.int (x1 &&& (255 : Int32))), .val (.long j54_1), .second, .val (.long r4), .second, .val (.long r5), .second, .val (.long r6), .second, .val (.int j106_1), .val (.int j124_1), .unset] [(.long (r4 &&& ((r5 ||| r6) ^^^ (-1 : Int64))))])) (fun _ k => XS.land X6.here hx rfl (hb hby at_137) rfl k) ?_
          refine own_st (T' := T6) (F' := (mkF m 139 #[.val (.long x0), .second, .val (.int x1), .val (.int x2), .val (.int x3), .val (.int (x1 &&& (255 : Int32))), .val (.long j54_1), .second, .val (.long r4), .second, .val (.long r5), .second, .val (.long r6), .second, .val (.int j106_1), .val (.int j124_1), .unset] [(.long (0 : Int64)), (.long (r4 &&& ((r5 ||| r6) ^^^ (-1 : Int64))))])) (fun _ k => XS.lconst X6.here hx rfl (hb hby at_138) k) ?_
          refine own_st (T' := T6) (F' := (mkF m 140 #[.val (.long x0), .second, .val (.int x1), .val (.int x2), .val (.int x3), .val (.int (x1 &&& (255 : Int32))), .val (.long j54_1), .second, .val (.long r4), .second, .val (.long r5), .second, .val (.long r6), .second, .val (.int j106_1), .val (.int j124_1), .unset] [(.int (lcmpW (r4 &&& ((r5 ||| r6) ^^^ (-1 : Int64))) (0 : Int64)))])) (fun _ k => XS.lcmp X6.here hx rfl (hb hby at_139) rfl k) ?_
          have J148_9 : ∀ (j148_1 : Int32), (((¬ ((r4 &&& ((r5 ||| r6) ^^^ (-1 : Int64))) = (0 : Int64))) ∧ j148_1 = (0 : Int32)) ∨ (((r4 &&& ((r5 ||| r6) ^^^ (-1 : Int64))) = (0 : Int64)) ∧ j148_1 = (1 : Int32))) → own_Go p e below s (Q0 Z x0 x1 x2 x3  h0 n0) room_1.cells room_1.slots T6 (mkF m 148 #[.val (.long x0), .second, .val (.int x1), .val (.int x2), .val (.int x3), .val (.int (x1 &&& (255 : Int32))), .val (.long j54_1), .second, .val (.long r4), .second, .val (.long r5), .second, .val (.long r6), .second, .val (.int j106_1), .val (.int j124_1), .unset] [(.int j148_1)]) := by
            intro j148_1 hJ148_9
            refine own_st (T' := T6) (F' := (mkF m 150 #[.val (.long x0), .second, .val (.int x1), .val (.int x2), .val (.int x3), .val (.int (x1 &&& (255 : Int32))), .val (.long j54_1), .second, .val (.long r4), .second, .val (.long r5), .second, .val (.long r6), .second, .val (.int j106_1), .val (.int j124_1), .val (.int j148_1)] [])) (fun _ k => XS.istore X6.here hx rfl (hb hby at_148) rfl (l' := #[.val (.long x0), .second, .val (.int x1), .val (.int x2), .val (.int x3), .val (.int (x1 &&& (255 : Int32))), .val (.long j54_1), .second, .val (.long r4), .second, .val (.long r5), .second, .val (.long r6), .second, .val (.int j106_1), .val (.int j124_1), .val (.int j148_1)]) rfl k) ?_
            refine own_st (T' := T6) (F' := (mkF m 152 #[.val (.long x0), .second, .val (.int x1), .val (.int x2), .val (.int x3), .val (.int (x1 &&& (255 : Int32))), .val (.long j54_1), .second, .val (.long r4), .second, .val (.long r5), .second, .val (.long r6), .second, .val (.int j106_1), .val (.int j124_1), .val (.int j148_1)] [(.int j106_1)])) (fun _ k => XS.iload X6.here hx rfl (hb hby at_150) rfl  k) ?_
            have J170_10 : ∀ (j170_1 : Int32), (((j106_1 = (0 : Int32)) ∧ j170_1 = (0 : Int32)) ∨ ((¬ (j106_1 = (0 : Int32))) ∧ (j124_1 = (0 : Int32)) ∧ j170_1 = (0 : Int32)) ∨ ((¬ (j106_1 = (0 : Int32))) ∧ (¬ (j124_1 = (0 : Int32))) ∧ (j148_1 = (0 : Int32)) ∧ j170_1 = (0 : Int32)) ∨ ((¬ (j106_1 = (0 : Int32))) ∧ (¬ (j124_1 = (0 : Int32))) ∧ (¬ (j148_1 = (0 : Int32))) ∧ j170_1 = (1 : Int32))) → own_Go p e below s (Q0 Z x0 x1 x2 x3  h0 n0) room_1.cells room_1.slots T6 (mkF m 170 #[.val (.long x0), .second, .val (.int x1), .val (.int x2), .val (.int x3), .val (.int (x1 &&& (255 : Int32))), .val (.long j54_1), .second, .val (.long r4), .second, .val (.long r5), .second, .val (.long r6), .second, .val (.int j106_1), .val (.int j124_1), .val (.int j148_1)] [(.int j170_1)]) := by
              intro j170_1 hJ170_10
              refine own_retN X6 hx hlk (t := .boolean) Bd.returns (by simp) (hb hby at_170) ?_ (by decide) (by decide)
              rw [eq6]
              refine ⟨⟨_, rfl, ?_⟩, N6, rfl⟩
              have T := own_all j54_1 x1 _ _ hr5 hr6
              rw [← hr3, ← hr4] at T
              have e1 : j106_1 = 1 := by
                rcases hJ106_7 with ⟨q, _⟩ | ⟨_, q⟩
                · exact absurd T.1 q
                · exact q
              have e2 : j124_1 = 1 := by
                rcases hJ124_8 with ⟨q, _⟩ | ⟨_, q⟩
                · exact absurd T.2.1 q
                · exact q
              have e3 : j148_1 = 1 := by
                rcases hJ148_9 with ⟨q, _⟩ | ⟨_, q⟩
                · exact absurd T.2.2 q
                · exact q
              rcases hJ170_10 with ⟨q, _⟩ | ⟨_, q, _⟩ | ⟨_, _, q, _⟩ | ⟨_, _, _, rfl⟩
              · exact absurd (e1.symm.trans q) (by decide)
              · exact absurd (e2.symm.trans q) (by decide)
              · exact absurd (e3.symm.trans q) (by decide)
              · rfl
            refine own_ifc X6 hx (pc' := 169) (pc2 := 155) (hb hby at_152) (by decide) (by decide) rfl (fun (hc152 : j106_1 = (0 : Int32)) => ?_) (fun (hc152 : ¬ (j106_1 = (0 : Int32))) => ?_)
            ·
              refine own_st (T' := T6) (F' := (mkF m 170 #[.val (.long x0), .second, .val (.int x1), .val (.int x2), .val (.int x3), .val (.int (x1 &&& (255 : Int32))), .val (.long j54_1), .second, .val (.long r4), .second, .val (.long r5), .second, .val (.long r6), .second, .val (.int j106_1), .val (.int j124_1), .val (.int j148_1)] [(.int (0 : Int32))])) (fun _ k => XS.iconst X6.here hx rfl (hb hby at_169) k) ?_
              exact J170_10 (0 : Int32) (Or.inl (⟨hc152, rfl⟩))
            ·
              refine own_st (T' := T6) (F' := (mkF m 157 #[.val (.long x0), .second, .val (.int x1), .val (.int x2), .val (.int x3), .val (.int (x1 &&& (255 : Int32))), .val (.long j54_1), .second, .val (.long r4), .second, .val (.long r5), .second, .val (.long r6), .second, .val (.int j106_1), .val (.int j124_1), .val (.int j148_1)] [(.int j124_1)])) (fun _ k => XS.iload X6.here hx rfl (hb hby at_155) rfl  k) ?_
              refine own_ifc X6 hx (pc' := 169) (pc2 := 160) (hb hby at_157) (by decide) (by decide) rfl (fun (hc157 : j124_1 = (0 : Int32)) => ?_) (fun (hc157 : ¬ (j124_1 = (0 : Int32))) => ?_)
              ·
                refine own_st (T' := T6) (F' := (mkF m 170 #[.val (.long x0), .second, .val (.int x1), .val (.int x2), .val (.int x3), .val (.int (x1 &&& (255 : Int32))), .val (.long j54_1), .second, .val (.long r4), .second, .val (.long r5), .second, .val (.long r6), .second, .val (.int j106_1), .val (.int j124_1), .val (.int j148_1)] [(.int (0 : Int32))])) (fun _ k => XS.iconst X6.here hx rfl (hb hby at_169) k) ?_
                exact J170_10 (0 : Int32) (Or.inr (Or.inl (⟨hc152, hc157, rfl⟩)))
              ·
                refine own_st (T' := T6) (F' := (mkF m 162 #[.val (.long x0), .second, .val (.int x1), .val (.int x2), .val (.int x3), .val (.int (x1 &&& (255 : Int32))), .val (.long j54_1), .second, .val (.long r4), .second, .val (.long r5), .second, .val (.long r6), .second, .val (.int j106_1), .val (.int j124_1), .val (.int j148_1)] [(.int j148_1)])) (fun _ k => XS.iload X6.here hx rfl (hb hby at_160) rfl  k) ?_
                refine own_ifc X6 hx (pc' := 169) (pc2 := 165) (hb hby at_162) (by decide) (by decide) rfl (fun (hc162 : j148_1 = (0 : Int32)) => ?_) (fun (hc162 : ¬ (j148_1 = (0 : Int32))) => ?_)
                ·
                  refine own_st (T' := T6) (F' := (mkF m 170 #[.val (.long x0), .second, .val (.int x1), .val (.int x2), .val (.int x3), .val (.int (x1 &&& (255 : Int32))), .val (.long j54_1), .second, .val (.long r4), .second, .val (.long r5), .second, .val (.long r6), .second, .val (.int j106_1), .val (.int j124_1), .val (.int j148_1)] [(.int (0 : Int32))])) (fun _ k => XS.iconst X6.here hx rfl (hb hby at_169) k) ?_
                  exact J170_10 (0 : Int32) (Or.inr (Or.inr (Or.inl (⟨hc152, hc157, hc162, rfl⟩))))
                ·
                  refine own_st (T' := T6) (F' := (mkF m 166 #[.val (.long x0), .second, .val (.int x1), .val (.int x2), .val (.int x3), .val (.int (x1 &&& (255 : Int32))), .val (.long j54_1), .second, .val (.long r4), .second, .val (.long r5), .second, .val (.long r6), .second, .val (.int j106_1), .val (.int j124_1), .val (.int j148_1)] [(.int (1 : Int32))])) (fun _ k => XS.iconst X6.here hx rfl (hb hby at_165) k) ?_
                  refine own_st (T' := T6) (F' := (mkF m 170 #[.val (.long x0), .second, .val (.int x1), .val (.int x2), .val (.int x3), .val (.int (x1 &&& (255 : Int32))), .val (.long j54_1), .second, .val (.long r4), .second, .val (.long r5), .second, .val (.long r6), .second, .val (.int j106_1), .val (.int j124_1), .val (.int j148_1)] [(.int (1 : Int32))])) (fun _ k => XS.goto X6.here hx rfl (pc0 := 166) (pc' := 170) rfl (hb hby at_166) (by decide) (by decide) k) ?_
                  exact J170_10 (1 : Int32) (Or.inr (Or.inr (Or.inr (⟨hc152, hc157, hc162, rfl⟩))))
          refine own_iflc X6 hx (pc' := 147) (pc2 := 143) (hb hby at_140) (by decide) (by decide) rfl (fun (hc140 : ¬ ((r4 &&& ((r5 ||| r6) ^^^ (-1 : Int64))) = (0 : Int64))) => ?_) (fun (hc140 : (r4 &&& ((r5 ||| r6) ^^^ (-1 : Int64))) = (0 : Int64)) => ?_)
          ·
            refine own_st (T' := T6) (F' := (mkF m 148 #[.val (.long x0), .second, .val (.int x1), .val (.int x2), .val (.int x3), .val (.int (x1 &&& (255 : Int32))), .val (.long j54_1), .second, .val (.long r4), .second, .val (.long r5), .second, .val (.long r6), .second, .val (.int j106_1), .val (.int j124_1), .unset] [(.int (0 : Int32))])) (fun _ k => XS.iconst X6.here hx rfl (hb hby at_147) k) ?_
            exact J148_9 (0 : Int32) (Or.inl (⟨hc140, rfl⟩))
          ·
            refine own_st (T' := T6) (F' := (mkF m 144 #[.val (.long x0), .second, .val (.int x1), .val (.int x2), .val (.int x3), .val (.int (x1 &&& (255 : Int32))), .val (.long j54_1), .second, .val (.long r4), .second, .val (.long r5), .second, .val (.long r6), .second, .val (.int j106_1), .val (.int j124_1), .unset] [(.int (1 : Int32))])) (fun _ k => XS.iconst X6.here hx rfl (hb hby at_143) k) ?_
            refine own_st (T' := T6) (F' := (mkF m 148 #[.val (.long x0), .second, .val (.int x1), .val (.int x2), .val (.int x3), .val (.int (x1 &&& (255 : Int32))), .val (.long j54_1), .second, .val (.long r4), .second, .val (.long r5), .second, .val (.long r6), .second, .val (.int j106_1), .val (.int j124_1), .unset] [(.int (1 : Int32))])) (fun _ k => XS.goto X6.here hx rfl (pc0 := 144) (pc' := 148) rfl (hb hby at_144) (by decide) (by decide) k) ?_
            exact J148_9 (1 : Int32) (Or.inr (⟨hc140, rfl⟩))
        refine own_iflc X6 hx (pc' := 123) (pc2 := 119) (hb hby at_116) (by decide) (by decide) rfl (fun (hc116 : ¬ ((r4 &&& r5) = r5)) => ?_) (fun (hc116 : (r4 &&& r5) = r5) => ?_)
        ·
          refine own_st (T' := T6) (F' := (mkF m 124 #[.val (.long x0), .second, .val (.int x1), .val (.int x2), .val (.int x3), .val (.int (x1 &&& (255 : Int32))), .val (.long j54_1), .second, .val (.long r4), .second, .val (.long r5), .second, .val (.long r6), .second, .val (.int j106_1), .unset, .unset] [(.int (0 : Int32))])) (fun _ k => XS.iconst X6.here hx rfl (hb hby at_123) k) ?_
          exact J124_8 (0 : Int32) (Or.inl (⟨hc116, rfl⟩))
        ·
          refine own_st (T' := T6) (F' := (mkF m 120 #[.val (.long x0), .second, .val (.int x1), .val (.int x2), .val (.int x3), .val (.int (x1 &&& (255 : Int32))), .val (.long j54_1), .second, .val (.long r4), .second, .val (.long r5), .second, .val (.long r6), .second, .val (.int j106_1), .unset, .unset] [(.int (1 : Int32))])) (fun _ k => XS.iconst X6.here hx rfl (hb hby at_119) k) ?_
          refine own_st (T' := T6) (F' := (mkF m 124 #[.val (.long x0), .second, .val (.int x1), .val (.int x2), .val (.int x3), .val (.int (x1 &&& (255 : Int32))), .val (.long j54_1), .second, .val (.long r4), .second, .val (.long r5), .second, .val (.long r6), .second, .val (.int j106_1), .unset, .unset] [(.int (1 : Int32))])) (fun _ k => XS.goto X6.here hx rfl (pc0 := 120) (pc' := 124) rfl (hb hby at_120) (by decide) (by decide) k) ?_
          exact J124_8 (1 : Int32) (Or.inr (⟨hc116, rfl⟩))
      refine own_iflc X6 hx (pc' := 105) (pc2 := 101) (hb hby at_98) (by decide) (by decide) rfl (fun (hc98 : ¬ ((r4 &&& (-r4)) = (r5 &&& (-r5)))) => ?_) (fun (hc98 : (r4 &&& (-r4)) = (r5 &&& (-r5))) => ?_)
      ·
        refine own_st (T' := T6) (F' := (mkF m 106 #[.val (.long x0), .second, .val (.int x1), .val (.int x2), .val (.int x3), .val (.int (x1 &&& (255 : Int32))), .val (.long j54_1), .second, .val (.long r4), .second, .val (.long r5), .second, .val (.long r6), .second, .unset, .unset, .unset] [(.int (0 : Int32))])) (fun _ k => XS.iconst X6.here hx rfl (hb hby at_105) k) ?_
        exact J106_7 (0 : Int32) (Or.inl (⟨hc98, rfl⟩))
      ·
        refine own_st (T' := T6) (F' := (mkF m 102 #[.val (.long x0), .second, .val (.int x1), .val (.int x2), .val (.int x3), .val (.int (x1 &&& (255 : Int32))), .val (.long j54_1), .second, .val (.long r4), .second, .val (.long r5), .second, .val (.long r6), .second, .unset, .unset, .unset] [(.int (1 : Int32))])) (fun _ k => XS.iconst X6.here hx rfl (hb hby at_101) k) ?_
        refine own_st (T' := T6) (F' := (mkF m 106 #[.val (.long x0), .second, .val (.int x1), .val (.int x2), .val (.int x3), .val (.int (x1 &&& (255 : Int32))), .val (.long j54_1), .second, .val (.long r4), .second, .val (.long r5), .second, .val (.long r6), .second, .unset, .unset, .unset] [(.int (1 : Int32))])) (fun _ k => XS.goto X6.here hx rfl (pc0 := 102) (pc' := 106) rfl (hb hby at_102) (by decide) (by decide) k) ?_
        exact J106_7 (1 : Int32) (Or.inr (⟨hc98, rfl⟩))
    refine own_ifc XJ1 hx (pc' := 54) (pc2 := 41) (hb hby at_38) (by decide) (by decide) rfl (fun (hc38 : (x3 &&& (1 : Int32)) = (0 : Int32)) => ?_) (fun (hc38 : ¬ ((x3 &&& (1 : Int32)) = (0 : Int32))) => ?_)
    ·
      exact J54_2 j34_1 TJ1 _ XJ1 NJ1 eJ1 (Or.inl (⟨hc38, rfl⟩))
    ·
      refine own_st (T' := TJ1) (F' := (mkF m 43 #[.val (.long x0), .second, .val (.int x1), .val (.int x2), .val (.int x3), .val (.int (x1 &&& (255 : Int32))), .val (.long j34_1), .second, .unset, .unset, .unset, .unset, .unset, .unset, .unset, .unset, .unset] [(.long j34_1)])) (fun _ k => XS.lload XJ1.here hx rfl (hb hby at_41) rfl  k) ?_
      refine own_st (T' := TJ1) (F' := (mkF m 45 #[.val (.long x0), .second, .val (.int x1), .val (.int x2), .val (.int x3), .val (.int (x1 &&& (255 : Int32))), .val (.long j34_1), .second, .unset, .unset, .unset, .unset, .unset, .unset, .unset, .unset, .unset] [(.int (x1 &&& (255 : Int32))), (.long j34_1)])) (fun _ k => XS.iload XJ1.here hx rfl (hb hby at_43) rfl  k) ?_
      refine own_st (T' := TJ1) (F' := (mkF m 46 #[.val (.long x0), .second, .val (.int x1), .val (.int x2), .val (.int x3), .val (.int (x1 &&& (255 : Int32))), .val (.long j34_1), .second, .unset, .unset, .unset, .unset, .unset, .unset, .unset, .unset, .unset] [(.int x2), (.int (x1 &&& (255 : Int32))), (.long j34_1)])) (fun _ k => XS.iloadN XJ1.here hx rfl (hb hby at_45) rfl  k) ?_
      refine own_st (T' := TJ1) (F' := (mkF m 48 #[.val (.long x0), .second, .val (.int x1), .val (.int x2), .val (.int x3), .val (.int (x1 &&& (255 : Int32))), .val (.long j34_1), .second, .unset, .unset, .unset, .unset, .unset, .unset, .unset, .unset, .unset] [(.int (7 : Int32)), (.int x2), (.int (x1 &&& (255 : Int32))), (.long j34_1)])) (fun _ k => XS.bipush XJ1.here hx rfl (hb hby at_46) k) ?_
      refine own_st (T' := TJ1) (F' := (mkF m 49 #[.val (.long x0), .second, .val (.int x1), .val (.int x2), .val (.int x3), .val (.int (x1 &&& (255 : Int32))), .val (.long j34_1), .second, .unset, .unset, .unset, .unset, .unset, .unset, .unset, .unset, .unset] [(.int (x2 &&& (7 : Int32))), (.int (x1 &&& (255 : Int32))), (.long j34_1)])) (fun _ k => XS.iand XJ1.here hx rfl (hb hby at_48) rfl k) ?_
      obtain ⟨_, _, ⟨T11, L11, k11, n11⟩, -, X11, ⟨Lc11, hQ11, l11, y11, z11⟩, st11⟩ := Jvm.LawKit.callS XJ1 hx (y := (⟨"com/example/columnist/columnist/text/WordsEqualPinLaw", "plant", "(JII)J"⟩ : MethodName)) hown (mvT hZ (hw _ (List.mem_of_getElem? (i := 20) rfl))) (mvT hZ (hw _ (List.mem_of_getElem? (i := 21) rfl))) (mvT hZ (hw _ (List.mem_of_getElem? (i := 12) rfl))) (mvT hZ (hw _ (List.mem_of_getElem? (i := 22) rfl))) (by decide) (backOf (W := 0) (rm5 l Z a0 hw [] j34_1 (x1 &&& (255 : Int32)) (x2 &&& (7 : Int32))  h0 n0 Z0 ) hZ (hw _ (List.mem_of_getElem? (i := 22) rfl)) (hw _ (List.mem_of_getElem? (i := 12) rfl)) (by decide) (by decide)) (g := (mkF m 49 #[.val (.long x0), .second, .val (.int x1), .val (.int x2), .val (.int x3), .val (.int (x1 &&& (255 : Int32))), .val (.long j34_1), .second, .unset, .unset, .unset, .unset, .unset, .unset, .unset, .unset, .unset] [(.int (x2 &&& (7 : Int32))), (.int (x1 &&& (255 : Int32))), (.long j34_1)])) rfl (by rw [hml]; rfl) (argsL := [(.long j34_1), (.int (x1 &&& (255 : Int32))), (.int (x2 &&& (7 : Int32)))]) (rest := []) (lenOf own_pd0 rfl) rfl (by show 2 * 0 + _ ≤ _; exact Nat.le_of_eq rfl) (hb hby at_49) (fun _ _ => ⟨rfl, eJ1, (by decide : 0 + 0 ≤ _), (by decide : 0 + 0 ≤ _)⟩)
      dsimp only [Pt.U, Pt.locs, Pt.cells, Pt.slots] at X11 l11 y11 z11 st11 hQ11
      subst l11 y11 z11
      obtain ⟨⟨r11, rfl, hr11⟩, Nq11, eq11⟩ := hQ11
      have N11 := Fr.app NJ1 Nq11
      refine own_st (T' := T11) (F' := (mkF m 52 #[.val (.long x0), .second, .val (.int x1), .val (.int x2), .val (.int x3), .val (.int (x1 &&& (255 : Int32))), .val (.long j34_1), .second, .unset, .unset, .unset, .unset, .unset, .unset, .unset, .unset, .unset] [(.long r11)])) (fun _ k => st11 _ k) ?_
      refine own_st (T' := T11) (F' := (mkF m 54 #[.val (.long x0), .second, .val (.int x1), .val (.int x2), .val (.int x3), .val (.int (x1 &&& (255 : Int32))), .val (.long r11), .second, .unset, .unset, .unset, .unset, .unset, .unset, .unset, .unset, .unset] [])) (fun _ k => XS.lstore X11.here hx rfl (hb hby at_52) rfl (l' := #[.val (.long x0), .second, .val (.int x1), .val (.int x2), .val (.int x3), .val (.int (x1 &&& (255 : Int32))), .val (.long r11), .second, .unset, .unset, .unset, .unset, .unset, .unset, .unset, .unset, .unset]) rfl k) ?_
      exact J54_2 r11 T11 _ X11 N11 eq11 (Or.inr (⟨hc38, r11, hr11, rfl⟩))
  refine own_ifc X0 hx (pc' := 34) (pc2 := 17) (hb hby at_14) (by decide) (by decide) rfl (fun (hc14 : (x3 &&& (2 : Int32)) = (0 : Int32)) => ?_) (fun (hc14 : ¬ ((x3 &&& (2 : Int32)) = (0 : Int32))) => ?_)
  ·
    exact J34_1 x0 s₁ _ X0 N0 e0 (Or.inl (⟨hc14, rfl⟩))
  ·
    refine own_st (T' := s₁) (F' := (mkF m 19 #[.val (.long x0), .second, .val (.int x1), .val (.int x2), .val (.int x3), .val (.int (x1 &&& (255 : Int32))), .val (.long x0), .second, .unset, .unset, .unset, .unset, .unset, .unset, .unset, .unset, .unset] [(.long x0)])) (fun _ k => XS.lload X0.here hx rfl (hb hby at_17) rfl  k) ?_
    refine own_st (T' := s₁) (F' := (mkF m 21 #[.val (.long x0), .second, .val (.int x1), .val (.int x2), .val (.int x3), .val (.int (x1 &&& (255 : Int32))), .val (.long x0), .second, .unset, .unset, .unset, .unset, .unset, .unset, .unset, .unset, .unset] [(.int (x1 &&& (255 : Int32))), (.long x0)])) (fun _ k => XS.iload X0.here hx rfl (hb hby at_19) rfl  k) ?_
    refine own_st (T' := s₁) (F' := (mkF m 22 #[.val (.long x0), .second, .val (.int x1), .val (.int x2), .val (.int x3), .val (.int (x1 &&& (255 : Int32))), .val (.long x0), .second, .unset, .unset, .unset, .unset, .unset, .unset, .unset, .unset, .unset] [(.int (1 : Int32)), (.int (x1 &&& (255 : Int32))), (.long x0)])) (fun _ k => XS.iconst X0.here hx rfl (hb hby at_21) k) ?_
    refine own_st (T' := s₁) (F' := (mkF m 23 #[.val (.long x0), .second, .val (.int x1), .val (.int x2), .val (.int x3), .val (.int (x1 &&& (255 : Int32))), .val (.long x0), .second, .unset, .unset, .unset, .unset, .unset, .unset, .unset, .unset, .unset] [(.int ((x1 &&& (255 : Int32)) ^^^ (1 : Int32))), (.long x0)])) (fun _ k => XS.ixor X0.here hx rfl (hb hby at_22) rfl k) ?_
    refine own_st (T' := s₁) (F' := (mkF m 24 #[.val (.long x0), .second, .val (.int x1), .val (.int x2), .val (.int x3), .val (.int (x1 &&& (255 : Int32))), .val (.long x0), .second, .unset, .unset, .unset, .unset, .unset, .unset, .unset, .unset, .unset] [(.int x2), (.int ((x1 &&& (255 : Int32)) ^^^ (1 : Int32))), (.long x0)])) (fun _ k => XS.iloadN X0.here hx rfl (hb hby at_23) rfl  k) ?_
    refine own_st (T' := s₁) (F' := (mkF m 25 #[.val (.long x0), .second, .val (.int x1), .val (.int x2), .val (.int x3), .val (.int (x1 &&& (255 : Int32))), .val (.long x0), .second, .unset, .unset, .unset, .unset, .unset, .unset, .unset, .unset, .unset] [(.int (3 : Int32)), (.int x2), (.int ((x1 &&& (255 : Int32)) ^^^ (1 : Int32))), (.long x0)])) (fun _ k => XS.iconst X0.here hx rfl (hb hby at_24) k) ?_
    refine own_st (T' := s₁) (F' := (mkF m 26 #[.val (.long x0), .second, .val (.int x1), .val (.int x2), .val (.int x3), .val (.int (x1 &&& (255 : Int32))), .val (.long x0), .second, .unset, .unset, .unset, .unset, .unset, .unset, .unset, .unset, .unset] [(.int ((x2.toUInt32 >>> ((3 : Int32) &&& 31).toUInt32).toInt32)), (.int ((x1 &&& (255 : Int32)) ^^^ (1 : Int32))), (.long x0)])) (fun _ k => XS.iushr X0.here hx rfl (hb hby at_25) rfl k) ?_
    refine own_st (T' := s₁) (F' := (mkF m 28 #[.val (.long x0), .second, .val (.int x1), .val (.int x2), .val (.int x3), .val (.int (x1 &&& (255 : Int32))), .val (.long x0), .second, .unset, .unset, .unset, .unset, .unset, .unset, .unset, .unset, .unset] [(.int (7 : Int32)), (.int ((x2.toUInt32 >>> ((3 : Int32) &&& 31).toUInt32).toInt32)), (.int ((x1 &&& (255 : Int32)) ^^^ (1 : Int32))), (.long x0)])) (fun _ k => XS.bipush X0.here hx rfl (hb hby at_26) k) ?_
    refine own_st (T' := s₁) (F' := (mkF m 29 #[.val (.long x0), .second, .val (.int x1), .val (.int x2), .val (.int x3), .val (.int (x1 &&& (255 : Int32))), .val (.long x0), .second, .unset, .unset, .unset, .unset, .unset, .unset, .unset, .unset, .unset] [(.int (((x2.toUInt32 >>> ((3 : Int32) &&& 31).toUInt32).toInt32) &&& (7 : Int32))), (.int ((x1 &&& (255 : Int32)) ^^^ (1 : Int32))), (.long x0)])) (fun _ k => XS.iand X0.here hx rfl (hb hby at_28) rfl k) ?_
    obtain ⟨_, _, ⟨T12, L12, k12, n12⟩, -, X12, ⟨Lc12, hQ12, l12, y12, z12⟩, st12⟩ := Jvm.LawKit.callS X0 hx (y := (⟨"com/example/columnist/columnist/text/WordsEqualPinLaw", "plant", "(JII)J"⟩ : MethodName)) hown (mvT hZ (hw _ (List.mem_of_getElem? (i := 20) rfl))) (mvT hZ (hw _ (List.mem_of_getElem? (i := 21) rfl))) (mvT hZ (hw _ (List.mem_of_getElem? (i := 12) rfl))) (mvT hZ (hw _ (List.mem_of_getElem? (i := 22) rfl))) (by decide) (backOf (W := 0) (rm5 l Z a0 hw [] x0 ((x1 &&& (255 : Int32)) ^^^ (1 : Int32)) (((x2.toUInt32 >>> ((3 : Int32) &&& 31).toUInt32).toInt32) &&& (7 : Int32))  h0 n0 Z0 ) hZ (hw _ (List.mem_of_getElem? (i := 22) rfl)) (hw _ (List.mem_of_getElem? (i := 12) rfl)) (by decide) (by decide)) (g := (mkF m 29 #[.val (.long x0), .second, .val (.int x1), .val (.int x2), .val (.int x3), .val (.int (x1 &&& (255 : Int32))), .val (.long x0), .second, .unset, .unset, .unset, .unset, .unset, .unset, .unset, .unset, .unset] [(.int (((x2.toUInt32 >>> ((3 : Int32) &&& 31).toUInt32).toInt32) &&& (7 : Int32))), (.int ((x1 &&& (255 : Int32)) ^^^ (1 : Int32))), (.long x0)])) rfl (by rw [hml]; rfl) (argsL := [(.long x0), (.int ((x1 &&& (255 : Int32)) ^^^ (1 : Int32))), (.int (((x2.toUInt32 >>> ((3 : Int32) &&& 31).toUInt32).toInt32) &&& (7 : Int32)))]) (rest := []) (lenOf own_pd0 rfl) rfl (by show 2 * 0 + _ ≤ _; exact Nat.le_of_eq rfl) (hb hby at_29) (fun _ _ => ⟨rfl, e0, (by decide : 0 + 0 ≤ _), (by decide : 0 + 0 ≤ _)⟩)
    dsimp only [Pt.U, Pt.locs, Pt.cells, Pt.slots] at X12 l12 y12 z12 st12 hQ12
    subst l12 y12 z12
    obtain ⟨⟨r12, rfl, hr12⟩, Nq12, eq12⟩ := hQ12
    have N12 := Fr.app N0 Nq12
    refine own_st (T' := T12) (F' := (mkF m 32 #[.val (.long x0), .second, .val (.int x1), .val (.int x2), .val (.int x3), .val (.int (x1 &&& (255 : Int32))), .val (.long x0), .second, .unset, .unset, .unset, .unset, .unset, .unset, .unset, .unset, .unset] [(.long r12)])) (fun _ k => st12 _ k) ?_
    refine own_st (T' := T12) (F' := (mkF m 34 #[.val (.long x0), .second, .val (.int x1), .val (.int x2), .val (.int x3), .val (.int (x1 &&& (255 : Int32))), .val (.long r12), .second, .unset, .unset, .unset, .unset, .unset, .unset, .unset, .unset, .unset] [])) (fun _ k => XS.lstore X12.here hx rfl (hb hby at_32) rfl (l' := #[.val (.long x0), .second, .val (.int x1), .val (.int x2), .val (.int x3), .val (.int (x1 &&& (255 : Int32))), .val (.long r12), .second, .unset, .unset, .unset, .unset, .unset, .unset, .unset, .unset, .unset]) rfl k) ?_
    exact J34_1 r12 T12 _ X12 N12 eq12 (Or.inr (⟨hc14, r12, hr12, rfl⟩))
set_option maxRecDepth 65536 in
set_option maxHeartbeats 40000000 in
theorem comes_1 {Post : Tables → Env → Array Value → State → Outcome → State → Prop} (hpost : ∀ tb e args s v u, (limb_1_1.after args s (.returned v) u = true ∧ limb_1_2.after args s (.returned v) u = true ∧ True) → FrameEnd s (.returned v) u (Jvm.fieldLocs frame_1_writes args s ++ Jvm.arrayLocs frame_1_arrays args s ++ Jvm.staticLocs frame_1_statics s) 0 0 → Post tb e args s (.returned v) u) :
    ArmFor flags0 classFile x code maxLocals ret World_1 tables_1 room_1 Calls_1 rest_1 Pre_1 Post := by
  intro l hfl _ _ p e ha hc hk s m args below hf hA hF happ hP
  obtain ⟨hcalls, hrest, hpre⟩ := hP
  obtain ⟨-, -, -, hnamed, -, -, -, hat⟩ := (Spec.applies_iff hf).mp happ
  obtain ⟨hg, hn⟩ := and_e (Cond.before_iff.mp (show (Jvm.Cond.and given_1 narrow_1).before args s = true from hpre))
  obtain ⟨g0, hg0⟩ := and_e hg
  obtain ⟨g1, hg1⟩ := and_e hg0
  obtain ⟨g2, hg2⟩ := and_e hg1
  obtain ⟨g3, hg3⟩ := and_e hg2
  obtain ⟨w0, w1, w2, w3, rfl⟩ : ∃ w0 w1 w2 w3 : Value, args = #[w0, w1, w2, w3] := by
    have hs : args.size = 4 := by simpa [Cond.value, given_1] using g0
    obtain ⟨L⟩ := args
    match L, hs with
    | [w0, w1, w2, w3], _ => exact ⟨w0, w1, w2, w3, rfl⟩
  have hw := fun d (hd : d ∈ tables_1) => atoms_spec (ws := Jvm.Cond.code x code maxLocals ret :: tables_1) hat d (List.mem_cons_of_mem _ hd)
  have hfit : Fit s := fun {y c} hc i hi => by
    obtain ⟨ha, rfl⟩ := Array.getElem?_eq_some_iff.mp hc
    have q := List.all_eq_true.mp ((Array.all_eq_true_iff_forall_mem.mp hF) _ (Array.getElem_mem ha)) i (List.mem_range.mpr hi)
    simpa [Array.getElem?_eq_getElem hi] using q
  obtain ⟨i0, ei0⟩ := isL_v g1
  obtain rfl : w0 = (.long i0) := Option.some.inj ei0
  obtain ⟨i1, ei1⟩ := is_v g2
  obtain rfl : w1 = (.int i1) := Option.some.inj ei1
  obtain ⟨i2, ei2⟩ := is_v g3
  obtain rfl : w2 = (.int i2) := Option.some.inj ei2
  obtain ⟨i3, ei3⟩ := is_v hg3
  obtain rfl : w3 = (.int i3) := Option.some.inj ei3
  obtain ⟨n, o, h1, h2, h3, _, L, rfl, ⟨⟨_, rfl, rfl⟩, N, _⟩, hq⟩ := rm0 l s _ hw tables_1 i0 i1 i2 i3  s.heap s.heap.size (Nat.le_refl _)  p e ha hc hk s m _ below hf ((Spec.applies_iff_loose hf).mp happ).1 ⟨rfl, State.Warmed39.refl s, rfl⟩ trivial
  refine ⟨n, _, h1, h2, h3, hpost _ _ _ _ _ _ ⟨Cond.after_iff.mpr rfl, Cond.after_iff.mpr (eq_i res_at (Term.int_eval (1)) rfl), trivial⟩ ⟨hq.1, hq.2.1, (hq.2.2.sift fun y hy => Or.inr (N y hy)).mono (by decide) (by decide)⟩⟩
theorem main_1_1 : Claimed_1_1 := comes_1 fun _ _ _ _ _ _ h hF => ⟨h.1, hF⟩
theorem main_1_2 : Claimed_1_2 := comes_1 fun _ _ _ _ _ _ h hF => ⟨h.2.1, hF⟩
end Jvm.Pilot.@@N@@
namespace Jvm.Pilot.@@N@@
open Jvm Jvm.ClassFile Sem Op Lib Jvm.Free Jvm.Stand Jvm.Pilot.@@N@@.Jvm.D
/-! MADE BY PROGRAM (witnessworld.py) out of the Statement's table words and the real class files: 9 classes; the members and pool entries that the words name. The judged class is class 1, her method 1. -/
namespace start1
open Jvm.ClassFile
def u (s : String) : CpInfo := .utf8 (stringToUtf16 s)
/-- a pool by its gaps: so many unusable entries, then the entry; so many at the end -/
def gap : Nat → List CpInfo → List CpInfo
  | 0, r => r
  | n + 1, r => .unusable :: gap n r
def poolList (es : List (Nat × CpInfo)) (last : Nat) : List CpInfo := es.foldr (fun e r => gap e.1 (e.2 :: r)) (gap last [])
def pool (es : List (Nat × CpInfo)) (last : Nat) : Array CpInfo := ⟨poolList es last⟩
def fileOf (pool : Array CpInfo) (this : Nat) (attrs : Array Attribute := #[]) (ms : Array MethodInfo := #[]) (fl : Nat := 33) (sup : Nat := 0) (ifs : Array Nat := #[]) (fds : Array FieldInfo := #[]) : ClassFile where
  minorVersion := 0
  majorVersion := 65
  constantPool := pool
  accessFlags := fl
  thisClass := this
  superClass := sup
  interfaces := ifs
  fields := fds
  methods := ms
  attributes := attrs
def plain (name : String) (sup : Option ClassId) : Class where
  name := name
  kind := .ordinary
  loader := none
  accessFlags := 33
  super := sup
  interfaces := #[]
  cf := none
  fields := #[]
  methods := #[]
  instanceTypes := #[]
  staticTypes := #[]
  resolved := #[]
  callSites := []
  init := .initialized
  statics := none
  mirror := none

def pool0 : Array CpInfo := pool [(5, u "<init>"), (0, u "()V"), (1, .class_ 10), (1, u "java/lang/Object")] 113

def k0m0 : Method := { name := "<init>", desc := "()V", sig := { parameters := [], returnType := none }, accessFlags := 1, code := none }
/-- java/lang/Object -/
def k0 : Class := { plain "java/lang/Object" none with
  accessFlags := 33
  interfaces := #[]
  cf := some (fileOf pool0 8 #[] #[{ accessFlags := 1, nameIndex := 5, descriptorIndex := 6, attributes := #[] }] 33 0 #[] #[])
  fields := #[]
  methods := #[k0m0]
  instanceTypes := #[]
  staticTypes := #[]
  resolved := Array.replicate 124 none
  statics := none }

def pool1 : Array CpInfo := pool [(2, .class_ 4), (1, u "java/lang/Object"), (0, u "<init>"), (0, u "()V"), (0, .methodref 8 9), (0, .class_ 10), (0, .nameAndType 11 12), (0, u "com/example/columnist/columnist/text/WordsEqualPinLaw"), (0, u "plant"), (0, u "(JII)J"), (0, .methodref 14 15), (0, .class_ 16), (0, .nameAndType 17 18), (0, u "com/example/columnist/columnist/text/Words"), (0, u "repeated"), (0, u "(I)J"), (0, .methodref 14 20), (0, .nameAndType 21 22), (0, u "equal"), (0, u "(JJ)J"), (0, .methodref 8 24), (0, .nameAndType 25 26), (0, u "marks"), (0, u "(JI)J"), (0, .long 18446744073709551615), (1, .long 255), (1, .long 128), (1, .methodref 8 34), (0, .nameAndType 35 12), (0, u "mark"), (2, u "law"), (0, u "(JIII)Z")] 3

def k1m0 : Method := { name := "<init>", desc := "()V", sig := { parameters := [], returnType := none }, accessFlags := 1, code := none }
def k1c1 : Code := { maxStack := 6, maxLocals := 17, code := code, exceptionTable := #[], attributes := #[] }
def k1m1 : Method := { name := "law", desc := "(JIII)Z", sig := { parameters := [.long, .int, .int, .int], returnType := some .boolean }, accessFlags := 9, code := some k1c1 }
def k1c2 : Code := { maxStack := 6, maxLocals := 5, code := method_3_code, exceptionTable := #[], attributes := #[] }
def k1m2 : Method := { name := "plant", desc := "(JII)J", sig := { parameters := [.long, .int, .int], returnType := some .long }, accessFlags := 10, code := some k1c2 }
def k1c3 : Code := { maxStack := 4, maxLocals := 5, code := method_4_code, exceptionTable := #[], attributes := #[] }
def k1m3 : Method := { name := "mark", desc := "(JII)J", sig := { parameters := [.long, .int, .int], returnType := some .long }, accessFlags := 10, code := some k1c3 }
def k1c4 : Code := { maxStack := 6, maxLocals := 3, code := method_5_code, exceptionTable := #[], attributes := #[] }
def k1m4 : Method := { name := "marks", desc := "(JI)J", sig := { parameters := [.long, .int], returnType := some .long }, accessFlags := 10, code := some k1c4 }
/-- com/example/columnist/columnist/text/WordsEqualPinLaw -/
def k1 : Class := { plain "com/example/columnist/columnist/text/WordsEqualPinLaw" (some 0) with
  accessFlags := 49
  interfaces := #[]
  cf := some (fileOf pool1 8 #[] #[{ accessFlags := 1, nameIndex := 5, descriptorIndex := 6, attributes := #[] }, { accessFlags := 9, nameIndex := 38, descriptorIndex := 39, attributes := #[] }, { accessFlags := 10, nameIndex := 11, descriptorIndex := 12, attributes := #[] }, { accessFlags := 10, nameIndex := 35, descriptorIndex := 12, attributes := #[] }, { accessFlags := 10, nameIndex := 25, descriptorIndex := 26, attributes := #[] }] 49 2 #[] #[])
  fields := #[]
  methods := #[k1m0, k1m1, k1m2, k1m3, k1m4]
  instanceTypes := #[]
  staticTypes := #[]
  resolved := Array.replicate 43 none
  statics := none }

def pool2 : Array CpInfo := pool [(4, .class_ 6), (1, u "java/lang/Object"), (0, u "<init>"), (0, u "()V"), (1, .class_ 12), (1, u "com/example/columnist/columnist/text/Words"), (0, u "LONGS"), (0, u "Ljava/lang/invoke/VarHandle;"), (6, .long 72340172838076673), (1, .long 18446744073709551615), (1, .long 9259542123273814144), (19, u "BYTES"), (0, u "I"), (2, u "ONES"), (0, u "J"), (0, u "HIGH_BITS"), (3, u "repeated"), (0, u "(I)J"), (0, u "equal"), (0, u "(JJ)J")] 5

def k2m0 : Method := { name := "<init>", desc := "()V", sig := { parameters := [], returnType := none }, accessFlags := 2, code := none }
def k2c1 : Code := { maxStack := 4, maxLocals := 1, code := prog_62_method_3_code, exceptionTable := #[], attributes := #[] }
def k2m1 : Method := { name := "repeated", desc := "(I)J", sig := { parameters := [.int], returnType := some .long }, accessFlags := 9, code := some k2c1 }
def k2c2 : Code := { maxStack := 6, maxLocals := 6, code := prog_62_method_4_code, exceptionTable := #[], attributes := #[] }
def k2m2 : Method := { name := "equal", desc := "(JJ)J", sig := { parameters := [.long, .long], returnType := some .long }, accessFlags := 9, code := some k2c2 }
/-- com/example/columnist/columnist/text/Words -/
def k2 : Class := { plain "com/example/columnist/columnist/text/Words" (some 0) with
  accessFlags := 33
  interfaces := #[]
  cf := some (fileOf pool2 10 #[] #[{ accessFlags := 2, nameIndex := 7, descriptorIndex := 8, attributes := #[] }, { accessFlags := 9, nameIndex := 55, descriptorIndex := 56, attributes := #[] }, { accessFlags := 9, nameIndex := 57, descriptorIndex := 58, attributes := #[] }] 33 4 #[] #[{ accessFlags := 25, nameIndex := 45, descriptorIndex := 46, attributes := #[] }, { accessFlags := 26, nameIndex := 13, descriptorIndex := 14, attributes := #[] }, { accessFlags := 26, nameIndex := 49, descriptorIndex := 50, attributes := #[] }, { accessFlags := 26, nameIndex := 51, descriptorIndex := 50, attributes := #[] }])
  fields := #[{ name := "BYTES", type := .int, accessFlags := 25, slot := 0, constantValue := 0 }, { name := "LONGS", type := (.object "java/lang/invoke/VarHandle"), accessFlags := 26, slot := 1, constantValue := 0 }, { name := "ONES", type := .long, accessFlags := 26, slot := 2, constantValue := 0 }, { name := "HIGH_BITS", type := .long, accessFlags := 26, slot := 3, constantValue := 0 }]
  methods := #[k2m0, k2m1, k2m2]
  instanceTypes := #[]
  staticTypes := #[.int, (.object "java/lang/invoke/VarHandle"), .long, .long]
  resolved := Array.replicate 64 none
  statics := none }

def pool3 : Array CpInfo := pool [(1, u "java/lang/Cloneable"), (0, .class_ 1), (0, u "java/lang/Object"), (0, .class_ 3)] 3

/-- java/lang/Cloneable -/
def k3 : Class := { plain "java/lang/Cloneable" (some 0) with
  accessFlags := 1537
  interfaces := #[]
  cf := some (fileOf pool3 2 #[] #[] 1537 4 #[] #[])
  fields := #[]
  methods := #[]
  instanceTypes := #[]
  staticTypes := #[]
  resolved := Array.replicate 8 none
  statics := none }

def pool4 : Array CpInfo := pool [(1, u "java/io/Serializable"), (0, .class_ 1), (0, u "java/lang/Object"), (0, .class_ 3)] 3

/-- java/io/Serializable -/
def k4 : Class := { plain "java/io/Serializable" (some 0) with
  accessFlags := 1537
  interfaces := #[]
  cf := some (fileOf pool4 2 #[] #[] 1537 4 #[] #[])
  fields := #[]
  methods := #[]
  instanceTypes := #[]
  staticTypes := #[]
  resolved := Array.replicate 8 none
  statics := none }

/-- the primitive byte -/
def k5 : Class := { plain "byte" none with kind := .primitive 'B', accessFlags := 0x411 }
/-- [B -/
def k6 : Class := { plain "[B" (some 0) with kind := .array 5 .byte, interfaces := #[3, 4], accessFlags := 1041 }

/-- the primitive int -/
def k7 : Class := { plain "int" none with kind := .primitive 'I', accessFlags := 0x411 }
/-- [I -/
def k8 : Class := { plain "[I" (some 0) with kind := .array 7 .int, interfaces := #[3, 4], accessFlags := 1041 }

def heap : Heap := #[]
def classes : Array Class := #[k0, k1, k2, k3, k4, k5, k6, k7, k8]
def interned : List (Array UInt16 × Addr) := []
def slotsUsed : Nat := 0
def theMethod : MethodId := ⟨1, 1⟩
def args0 : Array Value := #[.long 1, .int 2, .int 3, .int 3]
def aboutOver (below : List Frame) : State where
  vm := { classes := classes, interned := interned.toArray }
  heap := heap
  slotsUsed := slotsUsed
  threads := #[{ frames := .invoking theMethod args0 :: below }]
def below0 : List Frame := [.native { method := ⟨0, 0⟩, args := #[] }]
def about1 : State := aboutOver below0
def p0 : Program := .bare "" "" ""
def e0 : Env := launch0.env 0 0 0
theorem w_frames : about1.frames = Frame.invoking theMethod args0 :: below0 := rfl
set_option maxRecDepth 65536 in
theorem w_args : argsFit about1.vm theMethod args0 = true := by decide +kernel
set_option maxRecDepth 65536 in
theorem w_heap : heapFits about1 = true := by decide +kernel
set_option maxRecDepth 65536 in
theorem w_runnable : about1.curStatus? = some .runnable := by decide +kernel
set_option maxRecDepth 65536 in
theorem w_alone : about1.alone = true := by decide +kernel
set_option maxRecDepth 65536 in
theorem w_named : about1.methodNamed? x = some theMethod := by decide +kernel
set_option maxRecDepth 65536 in
theorem w_hears : about1.hears theMethod below0 = true := by decide +kernel
set_option maxRecDepth 65536 in
theorem w_ripe : about1.ripe theMethod args0 below0 = true := by decide +kernel
theorem w_running : about1.status = .running := rfl
set_option maxRecDepth 65536 in
theorem w_room : about1.hasRoom e0.platform room_1 = true :=
  launch0.hasRoom_least _ room_1 (by decide +kernel) (by decide +kernel) (by decide +kernel) (by decide +kernel) (by decide +kernel) (by decide +kernel)
theorem allAtoms_all (ts : List Jvm.Cond) (a : Array Jvm.Value) (st : Jvm.State) : (allAtoms ts).before a st = ts.all (fun c => c.before a st) := by
  induction ts with
  | nil => rfl
  | cons c t ih =>
    show (Jvm.Cond.and c (allAtoms t)).before a st = _
    rw [Jvm.Cond.before_and, ih, List.all_cons]
def words1 : List Jvm.Cond := Jvm.Cond.code x code maxLocals ret :: tables_1
/-- a 'code' word, met by the world's own term for the bytes: nothing is compared byte by byte -/
theorem code_word {y : MethodName} {bytes : ByteArray} {mx : Nat} {rt : Option FieldType} {a : Array Value} {s : State} {m : MethodId} {meth : Method} {c : Code} (h1 : s.methodNamed? y = some m) (h2 : s.vm.method? m = some meth) (h3 : meth.code = some c) (h4 : c.code = bytes)
    (h5 : (c.maxLocals == mx && c.exceptionTable.isEmpty && decide (c.maxStack ≤ mostOperands) && decide (meth.sig.returnType = rt) && !meth.locks && decide (parseMethodDescriptor y.desc = some meth.sig)) = true) : (Jvm.Cond.code y bytes mx rt).before a s = true := by
  simp only [Bool.and_eq_true, beq_iff_eq, Bool.not_eq_true', decide_eq_true_eq] at h5
  obtain ⟨⟨⟨⟨⟨g1, g2⟩, g3⟩, g4⟩, g5⟩, g6⟩ := h5
  simp [Cond.before, Cond.holds, Cond.value, h1, h2, h3, h4, g1, g2, g3, g4, g5, g6]
def isCode : Jvm.Cond → Bool
  | .code _ _ _ _ => true
  | _ => false
theorem all_split {L : List Jvm.Cond} {P : Jvm.Cond → Bool} (h1 : L.all (fun c => isCode c || P c) = true) (h2 : ∀ c ∈ L.filter isCode, P c = true) : L.all P = true := by
  refine List.all_eq_true.mpr fun c hc => ?_
  have h := List.all_eq_true.mp h1 c hc
  rcases Bool.eq_false_or_eq_true (isCode c) with hi | hi
  · exact h2 c (List.mem_filter.mpr ⟨hc, hi⟩)
  · simpa [hi] using h
set_option maxRecDepth 65536 in
theorem w_c0 : (Jvm.Cond.code x code maxLocals ret).before args0 about1 = true := code_word (m := ⟨1, 1⟩) (meth := k1m1) (c := k1c1) (by decide +kernel) rfl rfl rfl (by decide +kernel)
set_option maxRecDepth 65536 in
theorem w_c1 : (Jvm.Cond.code ({ cls := "com/example/columnist/columnist/text/Words", name := "repeated", desc := "(I)J" } : Jvm.MethodName) prog_62_method_3_code (1 : Nat) (Option.some Jvm.ClassFile.FieldType.long)).before args0 about1 = true := code_word (m := ⟨2, 1⟩) (meth := k2m1) (c := k2c1) (by decide +kernel) rfl rfl rfl (by decide +kernel)
set_option maxRecDepth 65536 in
theorem w_c2 : (Jvm.Cond.code ({ cls := "com/example/columnist/columnist/text/Words", name := "equal", desc := "(JJ)J" } : Jvm.MethodName) prog_62_method_4_code (6 : Nat) (Option.some Jvm.ClassFile.FieldType.long)).before args0 about1 = true := code_word (m := ⟨2, 2⟩) (meth := k2m2) (c := k2c2) (by decide +kernel) rfl rfl rfl (by decide +kernel)
set_option maxRecDepth 65536 in
theorem w_c3 : (Jvm.Cond.code ({ cls := "com/example/columnist/columnist/text/WordsEqualPinLaw", name := "marks", desc := "(JI)J" } : Jvm.MethodName) method_5_code (3 : Nat) (Option.some Jvm.ClassFile.FieldType.long)).before args0 about1 = true := code_word (m := ⟨1, 4⟩) (meth := k1m4) (c := k1c4) (by decide +kernel) rfl rfl rfl (by decide +kernel)
set_option maxRecDepth 65536 in
theorem w_c4 : (Jvm.Cond.code ({ cls := "com/example/columnist/columnist/text/WordsEqualPinLaw", name := "mark", desc := "(JII)J" } : Jvm.MethodName) method_4_code (5 : Nat) (Option.some Jvm.ClassFile.FieldType.long)).before args0 about1 = true := code_word (m := ⟨1, 3⟩) (meth := k1m3) (c := k1c3) (by decide +kernel) rfl rfl rfl (by decide +kernel)
set_option maxRecDepth 65536 in
theorem w_c5 : (Jvm.Cond.code ({ cls := "com/example/columnist/columnist/text/WordsEqualPinLaw", name := "plant", desc := "(JII)J" } : Jvm.MethodName) method_3_code (5 : Nat) (Option.some Jvm.ClassFile.FieldType.long)).before args0 about1 = true := code_word (m := ⟨1, 2⟩) (meth := k1m2) (c := k1c2) (by decide +kernel) rfl rfl rfl (by decide +kernel)
def codes1 : List Jvm.Cond := [Jvm.Cond.code x code maxLocals ret, Jvm.Cond.code ({ cls := "com/example/columnist/columnist/text/Words", name := "repeated", desc := "(I)J" } : Jvm.MethodName) prog_62_method_3_code (1 : Nat) (Option.some Jvm.ClassFile.FieldType.long), Jvm.Cond.code ({ cls := "com/example/columnist/columnist/text/Words", name := "equal", desc := "(JJ)J" } : Jvm.MethodName) prog_62_method_4_code (6 : Nat) (Option.some Jvm.ClassFile.FieldType.long), Jvm.Cond.code ({ cls := "com/example/columnist/columnist/text/WordsEqualPinLaw", name := "marks", desc := "(JI)J" } : Jvm.MethodName) method_5_code (3 : Nat) (Option.some Jvm.ClassFile.FieldType.long), Jvm.Cond.code ({ cls := "com/example/columnist/columnist/text/WordsEqualPinLaw", name := "mark", desc := "(JII)J" } : Jvm.MethodName) method_4_code (5 : Nat) (Option.some Jvm.ClassFile.FieldType.long), Jvm.Cond.code ({ cls := "com/example/columnist/columnist/text/WordsEqualPinLaw", name := "plant", desc := "(JII)J" } : Jvm.MethodName) method_3_code (5 : Nat) (Option.some Jvm.ClassFile.FieldType.long)]
set_option maxRecDepth 65536 in
theorem codes_eq : words1.filter isCode = codes1 := rfl
theorem w_codes : ∀ c ∈ words1.filter isCode, c.before args0 about1 = true := by
  rw [codes_eq]
  intro c hc
  simp only [codes1, List.mem_cons, List.not_mem_nil, or_false] at hc
  rcases hc with rfl | rfl | rfl | rfl | rfl | rfl
  · exact w_c0
  · exact w_c1
  · exact w_c2
  · exact w_c3
  · exact w_c4
  · exact w_c5
set_option maxRecDepth 65536 in
theorem w_t1 : words1.all (fun c => isCode c || c.before args0 about1) = true := by decide +kernel
theorem w_tables : (allAtoms (Jvm.Cond.code x code maxLocals ret :: tables_1)).before args0 about1 = true := by
  rw [allAtoms_all]
  show words1.all (fun c => c.before args0 about1) = true
  refine all_split ?_ w_codes
  rw [w_t1]
set_option maxRecDepth 65536 in
theorem w_case : (Jvm.Cond.and given_1 narrow_1).before args0 about1 = true := by decide +kernel
theorem w_applies : (headSpec (Jvm.Cond.code x code maxLocals ret :: tables_1) room_1).applies x e0.platform about1 = true :=
  (Spec.applies_iff w_frames).mpr ⟨w_running, w_runnable, w_alone, w_named, w_hears, w_ripe, w_room, w_tables⟩
theorem atStart : AtStart classFile x code maxLocals ret World_1 tables_1 room_1 Calls_1 rest_1 Pre_1 launch0 p0 e0 about1 theMethod args0 below0 :=
  ⟨lists_1, trivial, launch0.admits_env _ _ _, launch0.least_env, fairChoices_fair.cas, fairChoices_fair.clock, w_frames, w_args, w_heap, w_applies, trivial, trivial, w_case⟩
end start1
theorem witness_1 : WitnessClaimed_1 := ⟨start1.p0, start1.e0, start1.about1, start1.theMethod, start1.args0, start1.below0, start1.atStart⟩
end Jvm.Pilot.@@N@@
