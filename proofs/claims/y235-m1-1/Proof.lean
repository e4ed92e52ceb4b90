import JvmDerived
import JvmDerived.Pilot.@@N@@Statement
import JvmDerived.Pilot.@@N@@Code
set_option linter.unusedVariables false
set_option linter.unusedSimpArgs false
namespace Jvm.Pilot.@@N@@
open Jvm Jvm.ClassFile Sem Op Lib Jvm.Free Jvm.Stand Jvm.LawKit Jvm.RoadKit Bundle Jvm.Pilot.@@N@@.Jvm.D
section Own
variable {p : Program} {l : Launch} {e : Env} {R : Room} {s : State} {m : MethodId} {args : Array Value} {below : List Frame} {meth : Method} {c : Code} {T T' : State} {locs : List Loc} {cells slots : Nat} {Qf : Option Value → Heap → List Loc → Prop} {C S : Nat} {F F' : JFrame} {G : Outcome → State → Prop} {Z : State} {EL : List (String × Nat)} {vm0 : Vm} {k0 : Nat}
/-- from the state T with the frame F on top the invocation ends as G says -/
def own_Go (p : Program) (e : Env) (below : List Frame) (G : Outcome → State → Prop) (T : State) (F : JFrame) : Prop :=
  ∃ s₂ o, Steps p.tables e below (T.setTop F) s₂ ∧ s₂.status = .running ∧ Ended s₂ below o ∧ G o s₂
def own_E (s : State) (Qf : Option Value → Heap → List Loc → Prop) (C S : Nat) (o : Outcome) (s₂ : State) : Prop := ∃ v L, o = .returned v ∧ Qf v s₂.heap L ∧ FrameEnd s o s₂ L C S
def own_ES (s Z : State) (EL : List (String × Nat)) (Qf : Option Value → Heap → List Loc → Prop) (C S : Nat) (o : Outcome) (s₂ : State) : Prop := ∃ v L, o = .returned v ∧ Qf v s₂.heap L ∧ CHr Z EL s.vm s.heap s₂.vm s₂.heap ∧ ReturnedEndW s o s₂ L C S
theorem own_enter (q : F = F') (hr : own_Go p e below G T F') : ∃ s₂ o, Steps p.tables e below (T.setTop F) s₂ ∧ s₂.status = .running ∧ Ended s₂ below o ∧ G o s₂ := by
  subst q; exact hr
theorem own_st (st : ∀ t, Steps p.tables e below (T'.setTop F') t → Steps p.tables e below (T.setTop F) t) (hr : own_Go p e below G T' F') : own_Go p e below G T F := by
  obtain ⟨s2, o, h1, h2⟩ := hr
  exact ⟨s2, o, st _ h1, h2⟩
theorem own_tr (st : Steps p.tables e below (T.setTop F) (T'.setTop F')) (hr : own_Go p e below G T' F') : own_Go p e below G T F := by
  obtain ⟨s2, o, h1, h2⟩ := hr
  exact ⟨s2, o, st.trans h1, h2⟩
theorem own_ret (X : Stand p l e R s m args below meth c T locs cells slots) (hlk : meth.locks = false) {v : Option Value} (hv : meth.sig.returnType = none → v = none)
    (st : ∀ fs, (∀ (f : JFrame) (acts : List Action), f.method = m → f.locked = none → f.entered = [] → (doReturn e (T.setTop f) acts v).1 = T.setFrames fs) → Steps p.tables e below (T.setTop F) (T.setFrames fs))
    (hQ : Qf v T.heap locs) (hC : cells ≤ C) (hS : slots ≤ S) : own_Go p e below (own_E s Qf C S) T F := by
  obtain ⟨fs, hr, hrun, hended, hW, hsame⟩ := X.leave (v := v) hv hlk
  exact ⟨_, _, st fs hr, hrun, hended, _, _, rfl, hQ, ⟨_, rfl⟩, hW, hsame.mono hC hS⟩
theorem own_retN (X : Stand p l e R s m args below meth c T locs cells slots) (hx : p.tables.exec = Jvm.exec) (hlk : meth.locks = false) {pc : Nat} {Ls : Array Slot} {z : Int32} {t : FieldType} {rest : List Value} (hret : meth.sig.returnType = some t) (ht : t = .boolean ∨ t = .byte ∨ t = .char ∨ t = .short) (hd : decode c.code pc = .ok (.ireturn, 1))
    (hQ : Qf (some (.int (nar t z))) T.heap locs) (hC : cells ≤ C) (hS : slots ≤ S) : own_Go p e below (own_E s Qf C S) T (mkF m pc Ls (.int z :: rest)) :=
  own_ret X hlk (fun h => by rw [hret] at h; cases h) (fun _ hr => retN X hx hret ht hd hr) hQ hC hS
theorem own_retI (X : Stand p l e R s m args below meth c T locs cells slots) (hx : p.tables.exec = Jvm.exec) (hlk : meth.locks = false) {pc : Nat} {Ls : Array Slot} {z : Int32} {rest : List Value} (hret : meth.sig.returnType = some .int) (hd : decode c.code pc = .ok (.ireturn, 1))
    (hQ : Qf (some (.int z)) T.heap locs) (hC : cells ≤ C) (hS : slots ≤ S) : own_Go p e below (own_E s Qf C S) T (mkF m pc Ls (.int z :: rest)) :=
  own_ret X hlk (fun h => by rw [hret] at h; cases h) (fun _ hr => retOut X hx hret rfl (Or.inl ⟨rfl, Or.inl rfl, _, rfl⟩) hd hr) hQ hC hS
theorem own_retJ (X : Stand p l e R s m args below meth c T locs cells slots) (hx : p.tables.exec = Jvm.exec) (hlk : meth.locks = false) {pc : Nat} {Ls : Array Slot} {z : Int64} {rest : List Value} (hret : meth.sig.returnType = some .long) (hd : decode c.code pc = .ok (.lreturn, 1))
    (hQ : Qf (some (.long z)) T.heap locs) (hC : cells ≤ C) (hS : slots ≤ S) : own_Go p e below (own_E s Qf C S) T (mkF m pc Ls (.long z :: rest)) :=
  own_ret X hlk (fun h => by rw [hret] at h; cases h) (fun _ hr => retOut X hx hret rfl (Or.inr (Or.inl ⟨rfl, rfl, _, rfl⟩)) hd hr) hQ hC hS
theorem own_retA (X : Stand p l e R s m args below meth c T locs cells slots) (hx : p.tables.exec = Jvm.exec) (hlk : meth.locks = false) {pc : Nat} {Ls : Array Slot} {w : Value} {t : FieldType} {rest : List Value} (hret : meth.sig.returnType = some t) (ht : t.isReference = true) (hw : w.isRef = true) (hn : narrow t w = w) (hd : decode c.code pc = .ok (.areturn, 1))
    (hQ : Qf (some w) T.heap locs) (hC : cells ≤ C) (hS : slots ≤ S) : own_Go p e below (own_E s Qf C S) T (mkF m pc Ls (w :: rest)) :=
  own_ret X hlk (fun h => by rw [hret] at h; cases h) (fun _ hr => retOut X hx hret hn (Or.inr (Or.inr (Or.inr (Or.inr ⟨rfl, ht, hw⟩)))) hd hr) hQ hC hS
theorem own_retV (X : Stand p l e R s m args below meth c T locs cells slots) (hx : p.tables.exec = Jvm.exec) (hlk : meth.locks = false) {pc : Nat} {Ls : Array Slot} (hret : meth.sig.returnType = none) (hd : decode c.code pc = .ok (.return_, 1))
    (hQ : Qf none T.heap locs) (hC : cells ≤ C) (hS : slots ≤ S) : own_Go p e below (own_E s Qf C S) T (mkF m pc Ls []) :=
  own_ret X hlk (fun _ => rfl) (fun _ hr => X.returnOut hx hret hd hr) hQ hC hS
theorem own_sret (X : Stand p l e R (s.setVm vm0) m args below meth c T locs cells slots) (hS : s.Since vm0 k0) (hk : k0 ≤ T.heap.size) (hlk : meth.locks = false) {v : Option Value} (hv : meth.sig.returnType = none → v = none)
    (st : ∀ fs, (∀ (f : JFrame) (acts : List Action), f.method = m → f.locked = none → f.entered = [] → (doReturn e (T.setTop f) acts v).1 = T.setFrames fs) → Steps p.tables e below (T.setTop F) (T.setFrames fs))
    (hQ : Qf v T.heap locs) (hCH : CHr Z EL s.vm s.heap T.vm T.heap) (hC : cells ≤ C) (hS2 : slots ≤ S) : own_Go p e below (own_ES s Z EL Qf C S) T F := by
  obtain ⟨fs, hr, hrun, hended, r1, r2, r3, r4⟩ := X.leaveW hS hk (v := v) hv hlk
  exact ⟨_, _, st fs hr, hrun, hended, _, _, rfl, hQ, hCH, r1, r2, r3, r4.mono hC hS2⟩
theorem own_sretN (X : Stand p l e R (s.setVm vm0) m args below meth c T locs cells slots) (hx : p.tables.exec = Jvm.exec) (hS : s.Since vm0 k0) (hk : k0 ≤ T.heap.size) (hlk : meth.locks = false) {pc : Nat} {Ls : Array Slot} {z : Int32} {t : FieldType} {rest : List Value} (hret : meth.sig.returnType = some t) (ht : t = .boolean ∨ t = .byte ∨ t = .char ∨ t = .short) (hd : decode c.code pc = .ok (.ireturn, 1))
    (hQ : Qf (some (.int (nar t z))) T.heap locs) (hCH : CHr Z EL s.vm s.heap T.vm T.heap) (hC : cells ≤ C) (hS2 : slots ≤ S) : own_Go p e below (own_ES s Z EL Qf C S) T (mkF m pc Ls (.int z :: rest)) :=
  own_sret X hS hk hlk (fun h => by rw [hret] at h; cases h) (fun _ hr => retN X hx hret ht hd hr) hQ hCH hC hS2
theorem own_sretI (X : Stand p l e R (s.setVm vm0) m args below meth c T locs cells slots) (hx : p.tables.exec = Jvm.exec) (hS : s.Since vm0 k0) (hk : k0 ≤ T.heap.size) (hlk : meth.locks = false) {pc : Nat} {Ls : Array Slot} {z : Int32} {rest : List Value} (hret : meth.sig.returnType = some .int) (hd : decode c.code pc = .ok (.ireturn, 1))
    (hQ : Qf (some (.int z)) T.heap locs) (hCH : CHr Z EL s.vm s.heap T.vm T.heap) (hC : cells ≤ C) (hS2 : slots ≤ S) : own_Go p e below (own_ES s Z EL Qf C S) T (mkF m pc Ls (.int z :: rest)) :=
  own_sret X hS hk hlk (fun h => by rw [hret] at h; cases h) (fun _ hr => retOut X hx hret rfl (Or.inl ⟨rfl, Or.inl rfl, _, rfl⟩) hd hr) hQ hCH hC hS2
theorem own_sretJ (X : Stand p l e R (s.setVm vm0) m args below meth c T locs cells slots) (hx : p.tables.exec = Jvm.exec) (hS : s.Since vm0 k0) (hk : k0 ≤ T.heap.size) (hlk : meth.locks = false) {pc : Nat} {Ls : Array Slot} {z : Int64} {rest : List Value} (hret : meth.sig.returnType = some .long) (hd : decode c.code pc = .ok (.lreturn, 1))
    (hQ : Qf (some (.long z)) T.heap locs) (hCH : CHr Z EL s.vm s.heap T.vm T.heap) (hC : cells ≤ C) (hS2 : slots ≤ S) : own_Go p e below (own_ES s Z EL Qf C S) T (mkF m pc Ls (.long z :: rest)) :=
  own_sret X hS hk hlk (fun h => by rw [hret] at h; cases h) (fun _ hr => retOut X hx hret rfl (Or.inr (Or.inl ⟨rfl, rfl, _, rfl⟩)) hd hr) hQ hCH hC hS2
theorem own_sretA (X : Stand p l e R (s.setVm vm0) m args below meth c T locs cells slots) (hx : p.tables.exec = Jvm.exec) (hS : s.Since vm0 k0) (hk : k0 ≤ T.heap.size) (hlk : meth.locks = false) {pc : Nat} {Ls : Array Slot} {w : Value} {t : FieldType} {rest : List Value} (hret : meth.sig.returnType = some t) (ht : t.isReference = true) (hw : w.isRef = true) (hn : narrow t w = w) (hd : decode c.code pc = .ok (.areturn, 1))
    (hQ : Qf (some w) T.heap locs) (hCH : CHr Z EL s.vm s.heap T.vm T.heap) (hC : cells ≤ C) (hS2 : slots ≤ S) : own_Go p e below (own_ES s Z EL Qf C S) T (mkF m pc Ls (w :: rest)) :=
  own_sret X hS hk hlk (fun h => by rw [hret] at h; cases h) (fun _ hr => retOut X hx hret hn (Or.inr (Or.inr (Or.inr (Or.inr ⟨rfl, ht, hw⟩)))) hd hr) hQ hCH hC hS2
theorem own_sretV (X : Stand p l e R (s.setVm vm0) m args below meth c T locs cells slots) (hx : p.tables.exec = Jvm.exec) (hS : s.Since vm0 k0) (hk : k0 ≤ T.heap.size) (hlk : meth.locks = false) {pc : Nat} {Ls : Array Slot} (hret : meth.sig.returnType = none) (hd : decode c.code pc = .ok (.return_, 1))
    (hQ : Qf none T.heap locs) (hCH : CHr Z EL s.vm s.heap T.vm T.heap) (hC : cells ≤ C) (hS2 : slots ≤ S) : own_Go p e below (own_ES s Z EL Qf C S) T (mkF m pc Ls []) :=
  own_sret X hS hk hlk (fun _ => rfl) (fun _ hr => X.returnOut hx hret hd hr) hQ hCH hC hS2
def own_cc : ClassFile.Cond → Int32 → Int32 → Prop
  | .eq, x, y => x = y
  | .ne, x, y => ¬ x = y
  | .lt, x, y => x < y
  | .ge, x, y => ¬ x < y
  | .gt, x, y => y < x
  | .le, x, y => ¬ y < x
def own_nn : ClassFile.Cond → Int32 → Int32 → Prop
  | .eq, x, y => ¬ x = y
  | .ne, x, y => x = y
  | .lt, x, y => ¬ x < y
  | .ge, x, y => x < y
  | .gt, x, y => ¬ y < x
  | .le, x, y => y < x
theorem own_split (cd : ClassFile.Cond) (x y : Int32) : (own_cc cd x y ∧ if_icmp.holds cd x y = true) ∨ (own_nn cd x y ∧ if_icmp.holds cd x y = false) := by
  cases cd
  · by_cases h : x = y
    · exact Or.inl ⟨h, (teq h).1⟩
    · exact Or.inr ⟨h, (feq h).1⟩
  · by_cases h : x = y
    · exact Or.inr ⟨h, (teq h).2⟩
    · exact Or.inl ⟨h, (feq h).2⟩
  · by_cases h : x < y
    · exact Or.inl ⟨h, (tlt h).1⟩
    · exact Or.inr ⟨h, (flt h).1⟩
  · by_cases h : x < y
    · exact Or.inr ⟨h, (tlt h).2.1⟩
    · exact Or.inl ⟨h, (flt h).2.1⟩
  · by_cases h : y < x
    · exact Or.inl ⟨h, (tlt h).2.2.1⟩
    · exact Or.inr ⟨h, (flt h).2.2.1⟩
  · by_cases h : y < x
    · exact Or.inr ⟨h, (tlt h).2.2.2⟩
    · exact Or.inl ⟨h, (flt h).2.2.2⟩
theorem own_icmp (X : Stand p l e R s m args below meth c T locs cells slots) (hx : p.tables.exec = Jvm.exec) {pc pc' pc2 : Nat} {Ls : Array Slot} {st : List Value} {x y : Int32} {cd : ClassFile.Cond} {o : Int} (hd : decode c.code pc = .ok (.if_icmp cd o, 3)) (ho : 0 ≤ (pc : Int) + o) (hp : ((pc : Int) + o).toNat = pc') (h2 : pc + 3 = pc2)
    (hY : own_cc cd x y → own_Go p e below G T (mkF m pc' Ls st)) (hN : own_nn cd x y → own_Go p e below G T (mkF m pc2 Ls st)) : own_Go p e below G T (mkF m pc Ls (.int y :: .int x :: st)) := by
  subst h2
  rcases own_split cd x y with ⟨h, q⟩ | ⟨h, q⟩
  · exact own_st (fun _ k => XS.icmpYes X.here hx rfl (pc0 := pc) (pc' := pc') rfl hd rfl q ho hp k) (hY h)
  · exact own_st (fun _ k => XS.icmpNo X.here hx rfl hd rfl q k) (hN h)
theorem own_ifc (X : Stand p l e R s m args below meth c T locs cells slots) (hx : p.tables.exec = Jvm.exec) {pc pc' pc2 : Nat} {Ls : Array Slot} {st : List Value} {x : Int32} {cd : ClassFile.Cond} {o : Int} (hd : decode c.code pc = .ok (.ifCond cd o, 3)) (ho : 0 ≤ (pc : Int) + o) (hp : ((pc : Int) + o).toNat = pc') (h2 : pc + 3 = pc2)
    (hY : own_cc cd x 0 → own_Go p e below G T (mkF m pc' Ls st)) (hN : own_nn cd x 0 → own_Go p e below G T (mkF m pc2 Ls st)) : own_Go p e below G T (mkF m pc Ls (.int x :: st)) := by
  subst h2
  rcases own_split cd x 0 with ⟨h, q⟩ | ⟨h, q⟩
  · exact own_st (fun _ k => XS.ifYes X.here hx rfl (pc0 := pc) (pc' := pc') rfl hd rfl ((if0 _ _).trans q) ho hp k) (hY h)
  · exact own_st (fun _ k => XS.ifNo X.here hx rfl hd rfl ((if0 _ _).trans q) k) (hN h)
def own_ccL : ClassFile.Cond → Int64 → Int64 → Prop
  | .eq, x, y => x = y
  | .ne, x, y => ¬ x = y
  | .lt, x, y => x < y
  | .ge, x, y => ¬ x < y
  | .gt, x, y => y < x
  | .le, x, y => ¬ y < x
def own_nnL : ClassFile.Cond → Int64 → Int64 → Prop
  | .eq, x, y => ¬ x = y
  | .ne, x, y => x = y
  | .lt, x, y => ¬ x < y
  | .ge, x, y => x < y
  | .gt, x, y => ¬ y < x
  | .le, x, y => y < x
theorem own_lc (cd : ClassFile.Cond) (x y : Int64) : (own_cc cd (lcmpW x y) 0 → own_ccL cd x y) ∧ (own_nn cd (lcmpW x y) 0 → own_nnL cd x y) := by
  have h1 : x > y → lcmpW x y = 1 := fun h => by simp [lcmpW, h]
  have h2 : x = y → lcmpW x y = 0 := fun h => by subst h; simp [lcmpW, Int64.lt_irrefl]
  have h3 : ¬ x > y → ¬ x = y → lcmpW x y = -1 := fun h h' => by simp [lcmpW, h, h']
  have lt : x < y ↔ lcmpW x y < 0 := by
    by_cases a : x > y
    · rw [h1 a]; exact ⟨fun b => absurd (Int64.lt_trans a b) (Int64.lt_irrefl), fun b => absurd b (by decide)⟩
    · by_cases b : x = y
      · rw [h2 b, b]; exact ⟨fun q => absurd q (Int64.lt_irrefl), fun q => absurd q (by decide)⟩
      · rw [h3 a b]; exact ⟨fun _ => by decide, fun _ => by
          rw [Int64.lt_iff_toInt_lt]; simp only [gt_iff_lt, Int64.lt_iff_toInt_lt] at a
          have : x.toInt ≠ y.toInt := fun q => b (Int64.toInt_inj.mp q)
          omega⟩
  have gt : y < x ↔ 0 < lcmpW x y := by
    by_cases a : x > y
    · rw [h1 a]; exact ⟨fun _ => by decide, fun _ => a⟩
    · by_cases b : x = y
      · rw [h2 b]; exact ⟨fun q => absurd q a, fun q => absurd q (by decide)⟩
      · rw [h3 a b]; exact ⟨fun q => absurd q a, fun q => absurd q (by decide)⟩
  have eq : x = y ↔ lcmpW x y = 0 := by
    by_cases a : x > y
    · rw [h1 a]; exact ⟨fun b => absurd a (by rw [b]; exact Int64.lt_irrefl), fun b => absurd b (by decide)⟩
    · by_cases b : x = y
      · exact ⟨fun _ => h2 b, fun _ => b⟩
      · rw [h3 a b]; exact ⟨fun q => absurd q b, fun q => absurd q (by decide)⟩
  cases cd
  · exact ⟨fun h => eq.mpr h, fun h q => h (eq.mp q)⟩
  · exact ⟨fun h q => h (eq.mp q), fun h => eq.mpr h⟩
  · exact ⟨fun h => lt.mpr h, fun h q => h (lt.mp q)⟩
  · exact ⟨fun h q => h (lt.mp q), fun h => lt.mpr h⟩
  · exact ⟨fun h => gt.mpr h, fun h q => h (gt.mp q)⟩
  · exact ⟨fun h q => h (gt.mp q), fun h => gt.mpr h⟩
theorem own_iflc (X : Stand p l e R s m args below meth c T locs cells slots) (hx : p.tables.exec = Jvm.exec) {pc pc' pc2 : Nat} {Ls : Array Slot} {st : List Value} {x y : Int64} {cd : ClassFile.Cond} {o : Int} (hd : decode c.code pc = .ok (.ifCond cd o, 3)) (ho : 0 ≤ (pc : Int) + o) (hp : ((pc : Int) + o).toNat = pc') (h2 : pc + 3 = pc2)
    (hY : own_ccL cd x y → own_Go p e below G T (mkF m pc' Ls st)) (hN : own_nnL cd x y → own_Go p e below G T (mkF m pc2 Ls st)) : own_Go p e below G T (mkF m pc Ls (.int (lcmpW x y) :: st)) :=
  own_ifc X hx hd ho hp h2 (fun h => hY ((own_lc cd x y).1 h)) (fun h => hN ((own_lc cd x y).2 h))
theorem own_acmp (X : Stand p l e R s m args below meth c T locs cells slots) (hx : p.tables.exec = Jvm.exec) {pc pc' pc2 : Nat} {Ls : Array Slot} {st : List Value} {x y : Addr} {o : Int} {cd : ACond} (hd : decode c.code pc = .ok (.if_acmp cd o, 3)) (ho : 0 ≤ (pc : Int) + o) (hp : ((pc : Int) + o).toNat = pc') (h2 : pc + 3 = pc2)
    (hE : x = y → own_Go p e below G T (mkF m (if acV cd true = true then pc' else pc2) Ls st)) (hN : ¬ x = y → own_Go p e below G T (mkF m (if acV cd false = true then pc' else pc2) Ls st)) : own_Go p e below G T (mkF m pc Ls (.ref y :: .ref x :: st)) := by
  subst h2 hp
  by_cases h : x = y
  · exact own_st (fun _ k => Jvm.RoadKit.acmp (g := mkF m pc Ls (.ref y :: .ref x :: st)) X hx rfl rfl rfl (pc0 := pc) (same := true) rfl hd rfl (decide_eq_true (congrArg Value.ref h)) ho rfl k) (hE h)
  · exact own_st (fun _ k => Jvm.RoadKit.acmp (g := mkF m pc Ls (.ref y :: .ref x :: st)) X hx rfl rfl rfl (pc0 := pc) (same := false) rfl hd rfl (decide_eq_false fun q => h (Value.ref.inj q)) ho rfl k) (hN h)
theorem own_ord {Z : State} {a0 : Array Value} {t : Term} {a : Addr} {C n d : String} {k : Int32} (ev : t.eval a0 Z none [] Z = some (.ref a)) (h : (Cond.eq (Term.field t C n d) (Term.int k)).value a0 Z none Z [] = some true) : Fld Z Z.heap a C n d (.int k) := by
  have e1 : (Term.field t C n d).eval a0 Z none [] Z = Z.fieldOf? a C n d := fld_at ev
  simp only [Cond.value, e1] at h
  cases hq : Z.fieldOf? a C n d with
  | none => simp [hq] at h
  | some v =>
    rw [hq] at h
    cases v <;> simp [Term.eval] at h
    subst h
    exact Fld.start hq
theorem own_narb {z : Int32} (h : z = 0 ∨ z = 1) : nar .boolean z = z := by rcases h with rfl | rfl <;> rfl
theorem own_stk {Z : State} {h h' : Heap} {C n d : String} {v : Value} {ws : List Addr} (F : Sta Z h C n d v) (K : Keep h h' ws) (q : ∀ x ∈ ws, ∀ c : Cell, h[x]? = some c → c.vm.isStatics = false) : Sta Z h' C n d v := by
  obtain ⟨cf, i, k, f, st, cell, h1, h2, h3, h4, h5, h6, h7⟩ := F
  exact ⟨cf, i, k, f, st, cell, h1, h2, h3, h4, K.2.1 st cell h5 (fun z => by rw [q st z cell h5] at h6; cases h6), h6, h7⟩
theorem own_npE {Z : State} {h : Heap} {a : Addr} {C : String} (E : Exa Z h a C) : ∀ c : Cell, h[a]? = some c → c.vm.isStatics = false := fun c hc => by
  obtain ⟨cell, k, h1, h2, h3, h4, h5⟩ := E
  cases h1.symm.trans hc
  exact h4
theorem own_npA {Z : State} {h : Heap} {a : Addr} {k : ClassId} {ty : FieldType} {z : Int32} {vs : List Value} {dv : Value} (V : Arv Z h a k ty z vs dv) : ∀ c : Cell, h[a]? = some c → c.vm.isStatics = false := fun c hc => by
  obtain ⟨cl, A, r⟩ := V
  cases A.1.symm.trans hc
  exact A.plain
theorem own_len {Z : State} {a0 : Array Value} {t : Term} {a : Addr} {cl : Cell} {ty : FieldType} {k : Int32} (ev : t.eval a0 Z none [] Z = some (.ref a)) (A : Arr Z Z.heap a cl ty) (h : (Cond.eq (Term.length t) (Term.int k)).value a0 Z none Z [] = some true) : cl.slots.size < 2 ^ 31 ∧ cl.slots.size.toInt32 = k := by
  have ha : Z.arrayAt? a = some cl := IntBox.arrayAt_of A.1 A.2.1 A.2.2
  simp only [Cond.value, Term.eval, ev, Option.bind_eq_bind, Option.bind_some, ha] at h
  by_cases q : cl.slots.size < 2 ^ 31
  · simp [q] at h; exact ⟨q, h⟩
  · simp [q] at h
theorem own_elem {Z : State} {a0 : Array Value} {t : Term} {a : Addr} {cl : Cell} {ty : FieldType} {j v : Int32} (ev : t.eval a0 Z none [] Z = some (.ref a)) (A : Arr Z Z.heap a cl ty) (hj : ¬ j < 0) (h : (Cond.eq (Term.elem t (Term.int j)) (Term.int v)).value a0 Z none Z [] = some true) : cl.slots[j.toNatClampNeg]? = some (.int v) := by
  have ha : Z.arrayAt? a = some cl := IntBox.arrayAt_of A.1 A.2.1 A.2.2
  have e1 : (Term.elem t (Term.int j)).eval a0 Z none [] Z = cl.slots[j.toNatClampNeg]? := elem_f ev rfl ha hj
  simp only [Cond.value, e1] at h
  cases hq : cl.slots[j.toNatClampNeg]? with
  | none => simp [hq] at h
  | some w =>
    rw [hq] at h
    cases w <;> simp [Term.eval] at h
    rw [h]
theorem own_arvex {Z : State} {a : Addr} {cl : Cell} {ty : FieldType} {z : Int32} {dv : Value} (hf : Fit Z) (A : Arr Z Z.heap a cl ty) (q : cl.slots.size < 2 ^ 31) (e : cl.slots.size.toInt32 = z) (hz : ¬ z < 0) : ∃ vs, Arv Z Z.heap a cl.cls ty z vs dv := by
  have S : cl.slots.size = z.toNatClampNeg := by rw [← e]; simp only [Int32.toNatClampNeg, len_toInt q]; rfl
  have H : Has cl cl.slots.toList dv := fun k hk => by
    rw [List.getD_eq_getElem?_getD, Array.getElem?_toList, Array.getElem?_eq_getElem hk]; rfl
  refine ⟨cl.slots.toList, cl, A, rfl, S, hz, H, fun j hj => ?_⟩
  have e1 : (Nat.toInt32 j).toNatClampNeg = j := by simp only [Int32.toNatClampNeg, len_toInt (Nat.lt_trans hj q)]; rfl
  exact elem_fits (j := Nat.toInt32 j) hf A (idx_in hj q) (by rw [e1]; exact H j hj)
theorem own_selp {s : State} {args : Array Value} {y : MethodName} {n : Nat} (wi : (Cond.instantiable y.cls n).before args s = true) (hp : s.PrivateAt y) (hi : (Cond.instanceMethod y).before args s = true) (hy : y.cls ≠ "java/lang/invoke/MethodHandle" ∧ y.cls ≠ "java/lang/invoke/VarHandle") : (Cond.selects y.cls y y).before args s = true := by
  obtain ⟨c, k, hc, hk, -, hf, -⟩ := Cond.instantiable_spec wi
  exact selects_self_of_private hc hk (by simp only [Bool.or_eq_false_iff] at hf; exact hf.1) hp hi hy
theorem own_nar0 : nar .boolean (0 : Int32) = 0 := rfl
theorem own_nar1 : nar .boolean (1 : Int32) = 1 := rfl
end Own

def own_EL : List (String × Nat) := [("com/example/fieldloom/fieldloom/CellFormatBuiltInPinLaw", 22)]
def own_tab : List Int32 := [78, 78, 78, 78, 78, 78, 78, 78, 78, 78, 78, 78, 78, 78, 68, 68, 68, 68, 84, 84, 84, 84, 88, 78, 78, 78, 78, 78, 78, 78, 78, 78, 78, 78, 78, 78, 78, 78, 78, 78, 78, 78, 78, 78, 78, 84, 69, 84, 78, 78, 78, 78, 78, 78, 78, 78, 78, 78, 78, 78, 78, 78, 78, 78]
theorem own_lit0 : (∀ c ∈ "NNNNNNNNNNNNNNDDDDTTTTXNNNNNNNNNNNNNNNNNNNNNNTETNNNNNNNNNNNNNNNN".toList, c.toNat < 256) ∧ "NNNNNNNNNNNNNNDDDDTTTTXNNNNNNNNNNNNNNNNNNNNNNTETNNNNNNNNNNNNNNNN".toList.map (fun c => Value.int (Jvm.Lit.byteI c.toNat.toUInt16)) = own_tab.map Value.int := by
  constructor
  · decide
  · rfl
theorem own_hEL {Z : State} {a0 : Array Value} (hw : ∀ d ∈ tables_1, d.before a0 Z = true) : EW Z a0 own_EL := EW.cons (hw _ (List.mem_of_getElem? (i := 10) rfl)) own_lit0.1 EW.nil
theorem own_wS {Z : State} {a0 : Array Value} (hw : ∀ d ∈ tables_1, d.before a0 Z = true) : ∀ a ∈ Bundle.stringAtoms, a.before a0 Z = true := fun a ha => by
  simp only [Bundle.stringAtoms, List.mem_cons, List.not_mem_nil, or_false] at ha
  rcases ha with rfl | rfl | rfl | rfl | rfl | rfl | rfl
  · exact (hw _ (List.mem_of_getElem? (i := 11) rfl))
  · exact (hw _ (List.mem_of_getElem? (i := 12) rfl))
  · exact (hw _ (List.mem_of_getElem? (i := 13) rfl))
  · exact (hw _ (List.mem_of_getElem? (i := 14) rfl))
  · exact (hw _ (List.mem_of_getElem? (i := 15) rfl))
  · exact (hw _ (List.mem_of_getElem? (i := 16) rfl))
  · exact (hw _ (List.mem_of_getElem? (i := 17) rfl))
def own_ch (a : Int32) : Int32 := nar .char ((a &&& 255).toUInt32.toUInt16.toUInt32.toInt32)
theorem own_chv (a : Int32) : own_ch a = a &&& 255 := by
  unfold own_ch
  rw [i2c_mask]
  exact i2c_mask a
theorem own_chn (a : Int32) : nar .char (own_ch a) = own_ch a := by
  rw [own_chv]
  exact i2c_mask a
theorem own_tabs0 : ∀ n : Fin 64, ((own_ch (own_tab.getD n.val 0) = 68 ↔ (¬ Int32.ofNat n.val < 14 ∧ ¬ 17 < Int32.ofNat n.val)) ∧ (own_ch (own_tab.getD n.val 0) = 84 ↔ ((¬ Int32.ofNat n.val < 18 ∧ ¬ 21 < Int32.ofNat n.val) ∨ Int32.ofNat n.val = 45 ∨ Int32.ofNat n.val = 47)) ∧ (own_ch (own_tab.getD n.val 0) = 88 ↔ Int32.ofNat n.val = 22) ∧ (own_ch (own_tab.getD n.val 0) = 69 ↔ Int32.ofNat n.val = 46)) := by decide +kernel
theorem own_tabs (x : Int32) (h0 : ¬ x < 0) (h1 : x < 64) : ((own_ch (own_tab.getD x.toNatClampNeg 0) = 68 ↔ (¬ x < 14 ∧ ¬ 17 < x)) ∧ (own_ch (own_tab.getD x.toNatClampNeg 0) = 84 ↔ ((¬ x < 18 ∧ ¬ 21 < x) ∨ x = 45 ∨ x = 47)) ∧ (own_ch (own_tab.getD x.toNatClampNeg 0) = 88 ↔ x = 22) ∧ (own_ch (own_tab.getD x.toNatClampNeg 0) = 69 ↔ x = 46)) := by
  have e : (64 : Int32).toInt = 64 := rfl
  have e0 : (0 : Int32).toInt = 0 := rfl
  rw [Int32.lt_iff_toInt_lt] at h0 h1
  obtain ⟨n, hn⟩ : ∃ n : Nat, x.toInt = n := ⟨x.toInt.toNat, by omega⟩
  have hv : x = Int32.ofNat n := Int32.toInt_inj.mp (by rw [hn]; exact (len_toInt (by omega)).symm)
  have hc : x.toNatClampNeg = n := by simp only [Int32.toNatClampNeg]; omega
  have := own_tabs0 ⟨n, by omega⟩
  rw [hc, hv]; exact this
theorem own_getm (l : List Int32) (i : Nat) : (l.map Value.int).getD i (.int 0) = .int (l.getD i 0) := by
  simp only [List.getD_eq_getElem?_getD, List.getElem?_map]
  cases l[i]? <;> rfl
/-- what a code means -/
def own_is (fN fD fT fX fE : Addr) (x : Int32) (z : Addr) : Prop :=
  ((¬ x < 14 ∧ ¬ 17 < x) ∧ z = fD) ∨ (x = 22 ∧ z = fX) ∨ (((¬ x < 18 ∧ ¬ 21 < x) ∨ x = 45 ∨ x = 47) ∧ z = fT) ∨ (x = 46 ∧ z = fE) ∨ ((¬ (¬ x < 14 ∧ ¬ 17 < x) ∧ ¬ x = 22 ∧ ¬ ((¬ x < 18 ∧ ¬ 21 < x) ∨ x = 45 ∨ x = 47) ∧ ¬ x = 46) ∧ z = fN)
theorem own_isu {fN fD fT fX fE : Addr} {x : Int32} {z z' : Addr} (h : own_is fN fD fT fX fE x z) (h' : own_is fN fD fT fX fE x z') : z = z' := by
  have key : ∀ a b : Int32, ∀ P : Prop, a = b → True := fun _ _ _ _ => trivial
  rcases h with ⟨a, rfl⟩ | ⟨a, rfl⟩ | ⟨a, rfl⟩ | ⟨a, rfl⟩ | ⟨a, rfl⟩ <;> rcases h' with ⟨b, rfl⟩ | ⟨b, rfl⟩ | ⟨b, rfl⟩ | ⟨b, rfl⟩ | ⟨b, rfl⟩ <;> first | rfl | (exfalso; simp only [Int32.lt_iff_toInt_lt, ← Int32.toInt_inj, show (0 : Int32).toInt = 0 from rfl, show (14 : Int32).toInt = 14 from rfl, show (17 : Int32).toInt = 17 from rfl, show (18 : Int32).toInt = 18 from rfl, show (21 : Int32).toInt = 21 from rfl, show (22 : Int32).toInt = 22 from rfl, show (45 : Int32).toInt = 45 from rfl, show (46 : Int32).toInt = 46 from rfl, show (47 : Int32).toInt = 47 from rfl, show (64 : Int32).toInt = 64 from rfl] at a b; omega)

theorem d1_0 : decode prog_8_method_4_code 0 = .ok (.iload_n 0, 1) := by decide +kernel
theorem d1_1 : decode prog_8_method_4_code 1 = .ok (.bipush 14, 2) := by decide +kernel
theorem d1_3 : decode prog_8_method_4_code 3 = .ok (.if_icmp .lt 13, 3) := by decide +kernel
theorem d1_6 : decode prog_8_method_4_code 6 = .ok (.iload_n 0, 1) := by decide +kernel
theorem d1_7 : decode prog_8_method_4_code 7 = .ok (.bipush 17, 2) := by decide +kernel
theorem d1_9 : decode prog_8_method_4_code 9 = .ok (.if_icmp .gt 7, 3) := by decide +kernel
theorem d1_12 : decode prog_8_method_4_code 12 = .ok (.getstatic 7, 3) := by decide +kernel
theorem d1_15 : decode prog_8_method_4_code 15 = .ok (.areturn, 1) := by decide +kernel
theorem d1_16 : decode prog_8_method_4_code 16 = .ok (.iload_n 0, 1) := by decide +kernel
theorem d1_17 : decode prog_8_method_4_code 17 = .ok (.bipush 22, 2) := by decide +kernel
theorem d1_19 : decode prog_8_method_4_code 19 = .ok (.if_icmp .ne 7, 3) := by decide +kernel
theorem d1_22 : decode prog_8_method_4_code 22 = .ok (.getstatic 13, 3) := by decide +kernel
theorem d1_25 : decode prog_8_method_4_code 25 = .ok (.areturn, 1) := by decide +kernel
theorem d1_26 : decode prog_8_method_4_code 26 = .ok (.iload_n 0, 1) := by decide +kernel
theorem d1_27 : decode prog_8_method_4_code 27 = .ok (.bipush 18, 2) := by decide +kernel
theorem d1_29 : decode prog_8_method_4_code 29 = .ok (.if_icmp .lt 9, 3) := by decide +kernel
theorem d1_32 : decode prog_8_method_4_code 32 = .ok (.iload_n 0, 1) := by decide +kernel
theorem d1_33 : decode prog_8_method_4_code 33 = .ok (.bipush 21, 2) := by decide +kernel
theorem d1_35 : decode prog_8_method_4_code 35 = .ok (.if_icmp .le 15, 3) := by decide +kernel
theorem d1_38 : decode prog_8_method_4_code 38 = .ok (.iload_n 0, 1) := by decide +kernel
theorem d1_39 : decode prog_8_method_4_code 39 = .ok (.bipush 45, 2) := by decide +kernel
theorem d1_41 : decode prog_8_method_4_code 41 = .ok (.if_icmp .eq 9, 3) := by decide +kernel
theorem d1_44 : decode prog_8_method_4_code 44 = .ok (.iload_n 0, 1) := by decide +kernel
theorem d1_45 : decode prog_8_method_4_code 45 = .ok (.bipush 47, 2) := by decide +kernel
theorem d1_47 : decode prog_8_method_4_code 47 = .ok (.if_icmp .ne 7, 3) := by decide +kernel
theorem d1_50 : decode prog_8_method_4_code 50 = .ok (.getstatic 10, 3) := by decide +kernel
theorem d1_53 : decode prog_8_method_4_code 53 = .ok (.areturn, 1) := by decide +kernel
theorem d1_54 : decode prog_8_method_4_code 54 = .ok (.iload_n 0, 1) := by decide +kernel
theorem d1_55 : decode prog_8_method_4_code 55 = .ok (.bipush 46, 2) := by decide +kernel
theorem d1_57 : decode prog_8_method_4_code 57 = .ok (.if_icmp .ne 7, 3) := by decide +kernel
theorem d1_60 : decode prog_8_method_4_code 60 = .ok (.getstatic 16, 3) := by decide +kernel
theorem d1_63 : decode prog_8_method_4_code 63 = .ok (.areturn, 1) := by decide +kernel
theorem d1_64 : decode prog_8_method_4_code 64 = .ok (.getstatic 3, 3) := by decide +kernel
theorem d1_67 : decode prog_8_method_4_code 67 = .ok (.areturn, 1) := by decide +kernel
theorem own_pn1 : plainName "com/example/fieldloom/fieldloom/CellFormat" = true := by first | (simp [plainName, overriddenIn]; done) | decide +kernel
theorem own_ef1 (m : MethodId) (x0 : Int32) : entryFrame m #[(.int x0)] 1 = (mkF m 0 #[.val (.int x0)] []) := by first | (simp [entryFrame, mkF, argsToLocals, Value.category]; done) | rfl
def Q1 (Z : State) (x0 : Int32) (fN : Addr) (fD : Addr) (fT : Addr) (fX : Addr) (fE : Addr) (h0 : Heap) (n0 : Nat) (v : Option Value) (h : Heap) (L : List Loc) : Prop := (∃ z : Addr, v = some (.ref z) ∧ (own_is fN fD fT fX fE x0 z)) ∧ Fr n0 L ∧ h = h0
set_option maxRecDepth 65536 in
set_option maxHeartbeats 40000000 in
theorem rm1 (l : Launch) (Z : State) (a0 : Array Value) (hw : ∀ d ∈ tables_1, d.before a0 Z = true) (ws : List Jvm.Cond) (x0 : Int32) (fN : Addr) (fD : Addr) (fT : Addr) (fX : Addr) (fE : Addr) (h0 : Heap) (n0 : Nat) (Z0 : n0 ≤ h0.size) (S_fN : Sta Z h0 "com/example/fieldloom/fieldloom/CellFormat" "NUMBER" "Lcom/example/fieldloom/fieldloom/CellFormat;" (.ref fN)) (S_fD : Sta Z h0 "com/example/fieldloom/fieldloom/CellFormat" "DATE" "Lcom/example/fieldloom/fieldloom/CellFormat;" (.ref fD)) (S_fT : Sta Z h0 "com/example/fieldloom/fieldloom/CellFormat" "TIME" "Lcom/example/fieldloom/fieldloom/CellFormat;" (.ref fT)) (S_fX : Sta Z h0 "com/example/fieldloom/fieldloom/CellFormat" "DATE_TIME" "Lcom/example/fieldloom/fieldloom/CellFormat;" (.ref fX)) (S_fE : Sta Z h0 "com/example/fieldloom/fieldloom/CellFormat" "ELAPSED" "Lcom/example/fieldloom/fieldloom/CellFormat;" (.ref fE)) :
    MetFree l (⟨"com/example/fieldloom/fieldloom/CellFormat", "builtIn", "(I)Lcom/example/fieldloom/fieldloom/CellFormat;"⟩ : MethodName) (head1 (Jvm.Cond.code (⟨"com/example/fieldloom/fieldloom/CellFormat", "builtIn", "(I)Lcom/example/fieldloom/fieldloom/CellFormat;"⟩ : MethodName) prog_8_method_4_code 1 (some (.object "com/example/fieldloom/fieldloom/CellFormat")) :: ws) ({ frames := 0, cells := 0, slots := 0, locals := 0 } : Room)) (fun a U => a = #[(.int x0)] ∧ Z.Warmed39 U.vm ∧ U.heap = h0) (fun _ _ _ _ _ => True) (fun _ U oc U' => ∃ v L, oc = .returned v ∧ Q1 Z x0 fN fD fT fX fE h0 n0 v U'.heap L ∧ FrameEnd U oc U' L ({ frames := 0, cells := 0, slots := 0, locals := 0 } : Room).cells ({ frames := 0, cells := 0, slots := 0, locals := 0 } : Room).slots) := by
  refine MetFree.of_bodySF (plainFor_of_name own_pn1) hisR ?_
  intro p e s m args below meth c s₁ Bd hml0 hP hK
  obtain ⟨rfl, hZ, hh⟩ := hP
  have hx := Bd.exec
  have hby := Bd.bytes
  have hlk : meth.locks = false := BodyLoose.notSynchronized Bd
  have hml : c.maxLocals = 1 := hml0
  have hown : s.vm.findClass "com/example/fieldloom/fieldloom/CellFormat" = some m.cls := findClass_of_methodNamed Bd.named
  have hnm := (name_of_methodNamed Bd.named Bd.method).1
  have X0 : Stand p l e ({ frames := 0, cells := 0, slots := 0, locals := 0 } : Room) s m #[(.int x0)] below meth c s₁ [] 0 0 := Stand.of_body Bd
  have e0 : s₁.heap = h0 := by rw [← hh, Bd.state]; rfl
  have N0 := Fr.nil n0
  refine own_enter (own_ef1 m x0) ?_
  show own_Go p e below (own_E s (Q1 Z x0 fN fD fT fX fE h0 n0) ({ frames := 0, cells := 0, slots := 0, locals := 0 } : Room).cells ({ frames := 0, cells := 0, slots := 0, locals := 0 } : Room).slots) s₁ (mkF m 0 #[.val (.int x0)] [])
  refine own_st (T' := s₁) (F' := (mkF m 1 #[.val (.int x0)] [(.int x0)])) (fun _ k => XS.iloadN X0.here hx rfl (hb hby d1_0) rfl  k) ?_
  refine own_st (T' := s₁) (F' := (mkF m 3 #[.val (.int x0)] [(.int (14 : Int32)), (.int x0)])) (fun _ k => XS.bipush X0.here hx rfl (hb hby d1_1) k) ?_
  refine own_icmp X0 hx (pc' := 16) (pc2 := 6) (hb hby d1_3) (by decide) (by decide) rfl (fun (hc3 : x0 < (14 : Int32)) => ?_) (fun (hc3 : ¬ (x0 < (14 : Int32))) => ?_)
  ·
    refine own_st (T' := s₁) (F' := (mkF m 17 #[.val (.int x0)] [(.int x0)])) (fun _ k => XS.iloadN X0.here hx rfl (hb hby d1_16) rfl  k) ?_
    refine own_st (T' := s₁) (F' := (mkF m 19 #[.val (.int x0)] [(.int (22 : Int32)), (.int x0)])) (fun _ k => XS.bipush X0.here hx rfl (hb hby d1_17) k) ?_
    refine own_icmp X0 hx (pc' := 26) (pc2 := 22) (hb hby d1_19) (by decide) (by decide) rfl (fun (hc19 : ¬ (x0 = (22 : Int32))) => ?_) (fun (hc19 : x0 = (22 : Int32)) => ?_)
    ·
      refine own_st (T' := s₁) (F' := (mkF m 27 #[.val (.int x0)] [(.int x0)])) (fun _ k => XS.iloadN X0.here hx rfl (hb hby d1_26) rfl  k) ?_
      refine own_st (T' := s₁) (F' := (mkF m 29 #[.val (.int x0)] [(.int (18 : Int32)), (.int x0)])) (fun _ k => XS.bipush X0.here hx rfl (hb hby d1_27) k) ?_
      refine own_icmp X0 hx (pc' := 38) (pc2 := 32) (hb hby d1_29) (by decide) (by decide) rfl (fun (hc29 : x0 < (18 : Int32)) => ?_) (fun (hc29 : ¬ (x0 < (18 : Int32))) => ?_)
      ·
        refine own_st (T' := s₁) (F' := (mkF m 39 #[.val (.int x0)] [(.int x0)])) (fun _ k => XS.iloadN X0.here hx rfl (hb hby d1_38) rfl  k) ?_
        refine own_st (T' := s₁) (F' := (mkF m 41 #[.val (.int x0)] [(.int (45 : Int32)), (.int x0)])) (fun _ k => XS.bipush X0.here hx rfl (hb hby d1_39) k) ?_
        refine own_icmp X0 hx (pc' := 50) (pc2 := 44) (hb hby d1_41) (by decide) (by decide) rfl (fun (hc41 : x0 = (45 : Int32)) => ?_) (fun (hc41 : ¬ (x0 = (45 : Int32))) => ?_)
        ·
          obtain ⟨T1, X1, e1, st1⟩ := getS2 X0 hx hZ hown (host := "") (Or.inl (hw _ (List.mem_of_getElem? (i := 47) rfl))) Via.refl e0 S_fT (g := (mkF m 50 #[.val (.int x0)] [])) rfl (hb hby d1_50)
          refine own_st (T' := T1) (F' := (mkF m 53 #[.val (.int x0)] [(.ref fT)])) (fun _ k => st1 _ k) ?_
          refine own_retA X1 hx hlk (t := (.object "com/example/fieldloom/fieldloom/CellFormat")) Bd.returns rfl rfl rfl (hb hby d1_53) ?_ (by decide) (by decide)
          rw [e1]
          refine ⟨⟨_, rfl, ?_⟩, N0, rfl⟩
          refine Or.inr (Or.inr (Or.inl ⟨?_, rfl⟩))
          simp only [Int32.lt_iff_toInt_lt, ← Int32.toInt_inj, show (0 : Int32).toInt = 0 from rfl, show (14 : Int32).toInt = 14 from rfl, show (17 : Int32).toInt = 17 from rfl, show (18 : Int32).toInt = 18 from rfl, show (21 : Int32).toInt = 21 from rfl, show (22 : Int32).toInt = 22 from rfl, show (45 : Int32).toInt = 45 from rfl, show (46 : Int32).toInt = 46 from rfl, show (47 : Int32).toInt = 47 from rfl, show (64 : Int32).toInt = 64 from rfl] at hc3 hc19 hc29 hc41 ⊢
          omega
        ·
          refine own_st (T' := s₁) (F' := (mkF m 45 #[.val (.int x0)] [(.int x0)])) (fun _ k => XS.iloadN X0.here hx rfl (hb hby d1_44) rfl  k) ?_
          refine own_st (T' := s₁) (F' := (mkF m 47 #[.val (.int x0)] [(.int (47 : Int32)), (.int x0)])) (fun _ k => XS.bipush X0.here hx rfl (hb hby d1_45) k) ?_
          refine own_icmp X0 hx (pc' := 54) (pc2 := 50) (hb hby d1_47) (by decide) (by decide) rfl (fun (hc47 : ¬ (x0 = (47 : Int32))) => ?_) (fun (hc47 : x0 = (47 : Int32)) => ?_)
          ·
            refine own_st (T' := s₁) (F' := (mkF m 55 #[.val (.int x0)] [(.int x0)])) (fun _ k => XS.iloadN X0.here hx rfl (hb hby d1_54) rfl  k) ?_
            refine own_st (T' := s₁) (F' := (mkF m 57 #[.val (.int x0)] [(.int (46 : Int32)), (.int x0)])) (fun _ k => XS.bipush X0.here hx rfl (hb hby d1_55) k) ?_
            refine own_icmp X0 hx (pc' := 64) (pc2 := 60) (hb hby d1_57) (by decide) (by decide) rfl (fun (hc57 : ¬ (x0 = (46 : Int32))) => ?_) (fun (hc57 : x0 = (46 : Int32)) => ?_)
            ·
              obtain ⟨T2, X2, e2, st2⟩ := getS2 X0 hx hZ hown (host := "") (Or.inl (hw _ (List.mem_of_getElem? (i := 4) rfl))) Via.refl e0 S_fN (g := (mkF m 64 #[.val (.int x0)] [])) rfl (hb hby d1_64)
              refine own_st (T' := T2) (F' := (mkF m 67 #[.val (.int x0)] [(.ref fN)])) (fun _ k => st2 _ k) ?_
              refine own_retA X2 hx hlk (t := (.object "com/example/fieldloom/fieldloom/CellFormat")) Bd.returns rfl rfl rfl (hb hby d1_67) ?_ (by decide) (by decide)
              rw [e2]
              refine ⟨⟨_, rfl, ?_⟩, N0, rfl⟩
              refine Or.inr (Or.inr (Or.inr (Or.inr ( ⟨?_, rfl⟩))))
              simp only [Int32.lt_iff_toInt_lt, ← Int32.toInt_inj, show (0 : Int32).toInt = 0 from rfl, show (14 : Int32).toInt = 14 from rfl, show (17 : Int32).toInt = 17 from rfl, show (18 : Int32).toInt = 18 from rfl, show (21 : Int32).toInt = 21 from rfl, show (22 : Int32).toInt = 22 from rfl, show (45 : Int32).toInt = 45 from rfl, show (46 : Int32).toInt = 46 from rfl, show (47 : Int32).toInt = 47 from rfl, show (64 : Int32).toInt = 64 from rfl] at hc3 hc19 hc29 hc41 hc47 hc57 ⊢
              omega
            ·
              obtain ⟨T3, X3, e3, st3⟩ := getS2 X0 hx hZ hown (host := "") (Or.inl (hw _ (List.mem_of_getElem? (i := 53) rfl))) Via.refl e0 S_fE (g := (mkF m 60 #[.val (.int x0)] [])) rfl (hb hby d1_60)
              refine own_st (T' := T3) (F' := (mkF m 63 #[.val (.int x0)] [(.ref fE)])) (fun _ k => st3 _ k) ?_
              refine own_retA X3 hx hlk (t := (.object "com/example/fieldloom/fieldloom/CellFormat")) Bd.returns rfl rfl rfl (hb hby d1_63) ?_ (by decide) (by decide)
              rw [e3]
              refine ⟨⟨_, rfl, ?_⟩, N0, rfl⟩
              refine Or.inr (Or.inr (Or.inr (Or.inl ⟨?_, rfl⟩)))
              simp only [Int32.lt_iff_toInt_lt, ← Int32.toInt_inj, show (0 : Int32).toInt = 0 from rfl, show (14 : Int32).toInt = 14 from rfl, show (17 : Int32).toInt = 17 from rfl, show (18 : Int32).toInt = 18 from rfl, show (21 : Int32).toInt = 21 from rfl, show (22 : Int32).toInt = 22 from rfl, show (45 : Int32).toInt = 45 from rfl, show (46 : Int32).toInt = 46 from rfl, show (47 : Int32).toInt = 47 from rfl, show (64 : Int32).toInt = 64 from rfl] at hc3 hc19 hc29 hc41 hc47 hc57 ⊢
              omega
          ·
            obtain ⟨T4, X4, e4, st4⟩ := getS2 X0 hx hZ hown (host := "") (Or.inl (hw _ (List.mem_of_getElem? (i := 47) rfl))) Via.refl e0 S_fT (g := (mkF m 50 #[.val (.int x0)] [])) rfl (hb hby d1_50)
            refine own_st (T' := T4) (F' := (mkF m 53 #[.val (.int x0)] [(.ref fT)])) (fun _ k => st4 _ k) ?_
            refine own_retA X4 hx hlk (t := (.object "com/example/fieldloom/fieldloom/CellFormat")) Bd.returns rfl rfl rfl (hb hby d1_53) ?_ (by decide) (by decide)
            rw [e4]
            refine ⟨⟨_, rfl, ?_⟩, N0, rfl⟩
            refine Or.inr (Or.inr (Or.inl ⟨?_, rfl⟩))
            simp only [Int32.lt_iff_toInt_lt, ← Int32.toInt_inj, show (0 : Int32).toInt = 0 from rfl, show (14 : Int32).toInt = 14 from rfl, show (17 : Int32).toInt = 17 from rfl, show (18 : Int32).toInt = 18 from rfl, show (21 : Int32).toInt = 21 from rfl, show (22 : Int32).toInt = 22 from rfl, show (45 : Int32).toInt = 45 from rfl, show (46 : Int32).toInt = 46 from rfl, show (47 : Int32).toInt = 47 from rfl, show (64 : Int32).toInt = 64 from rfl] at hc3 hc19 hc29 hc41 hc47 ⊢
            omega
      ·
        refine own_st (T' := s₁) (F' := (mkF m 33 #[.val (.int x0)] [(.int x0)])) (fun _ k => XS.iloadN X0.here hx rfl (hb hby d1_32) rfl  k) ?_
        refine own_st (T' := s₁) (F' := (mkF m 35 #[.val (.int x0)] [(.int (21 : Int32)), (.int x0)])) (fun _ k => XS.bipush X0.here hx rfl (hb hby d1_33) k) ?_
        refine own_icmp X0 hx (pc' := 50) (pc2 := 38) (hb hby d1_35) (by decide) (by decide) rfl (fun (hc35 : ¬ ((21 : Int32) < x0)) => ?_) (fun (hc35 : (21 : Int32) < x0) => ?_)
        ·
          obtain ⟨T5, X5, e5, st5⟩ := getS2 X0 hx hZ hown (host := "") (Or.inl (hw _ (List.mem_of_getElem? (i := 47) rfl))) Via.refl e0 S_fT (g := (mkF m 50 #[.val (.int x0)] [])) rfl (hb hby d1_50)
          refine own_st (T' := T5) (F' := (mkF m 53 #[.val (.int x0)] [(.ref fT)])) (fun _ k => st5 _ k) ?_
          refine own_retA X5 hx hlk (t := (.object "com/example/fieldloom/fieldloom/CellFormat")) Bd.returns rfl rfl rfl (hb hby d1_53) ?_ (by decide) (by decide)
          rw [e5]
          refine ⟨⟨_, rfl, ?_⟩, N0, rfl⟩
          refine Or.inr (Or.inr (Or.inl ⟨?_, rfl⟩))
          simp only [Int32.lt_iff_toInt_lt, ← Int32.toInt_inj, show (0 : Int32).toInt = 0 from rfl, show (14 : Int32).toInt = 14 from rfl, show (17 : Int32).toInt = 17 from rfl, show (18 : Int32).toInt = 18 from rfl, show (21 : Int32).toInt = 21 from rfl, show (22 : Int32).toInt = 22 from rfl, show (45 : Int32).toInt = 45 from rfl, show (46 : Int32).toInt = 46 from rfl, show (47 : Int32).toInt = 47 from rfl, show (64 : Int32).toInt = 64 from rfl] at hc3 hc19 hc29 hc35 ⊢
          omega
        ·
          refine own_st (T' := s₁) (F' := (mkF m 39 #[.val (.int x0)] [(.int x0)])) (fun _ k => XS.iloadN X0.here hx rfl (hb hby d1_38) rfl  k) ?_
          refine own_st (T' := s₁) (F' := (mkF m 41 #[.val (.int x0)] [(.int (45 : Int32)), (.int x0)])) (fun _ k => XS.bipush X0.here hx rfl (hb hby d1_39) k) ?_
          refine own_icmp X0 hx (pc' := 50) (pc2 := 44) (hb hby d1_41) (by decide) (by decide) rfl (fun (hc41 : x0 = (45 : Int32)) => ?_) (fun (hc41 : ¬ (x0 = (45 : Int32))) => ?_)
          ·
            obtain ⟨T6, X6, e6, st6⟩ := getS2 X0 hx hZ hown (host := "") (Or.inl (hw _ (List.mem_of_getElem? (i := 47) rfl))) Via.refl e0 S_fT (g := (mkF m 50 #[.val (.int x0)] [])) rfl (hb hby d1_50)
            refine own_st (T' := T6) (F' := (mkF m 53 #[.val (.int x0)] [(.ref fT)])) (fun _ k => st6 _ k) ?_
            refine own_retA X6 hx hlk (t := (.object "com/example/fieldloom/fieldloom/CellFormat")) Bd.returns rfl rfl rfl (hb hby d1_53) ?_ (by decide) (by decide)
            rw [e6]
            refine ⟨⟨_, rfl, ?_⟩, N0, rfl⟩
            refine Or.inr (Or.inr (Or.inl ⟨?_, rfl⟩))
            simp only [Int32.lt_iff_toInt_lt, ← Int32.toInt_inj, show (0 : Int32).toInt = 0 from rfl, show (14 : Int32).toInt = 14 from rfl, show (17 : Int32).toInt = 17 from rfl, show (18 : Int32).toInt = 18 from rfl, show (21 : Int32).toInt = 21 from rfl, show (22 : Int32).toInt = 22 from rfl, show (45 : Int32).toInt = 45 from rfl, show (46 : Int32).toInt = 46 from rfl, show (47 : Int32).toInt = 47 from rfl, show (64 : Int32).toInt = 64 from rfl] at hc3 hc19 hc29 hc35 hc41 ⊢
            omega
          ·
            refine own_st (T' := s₁) (F' := (mkF m 45 #[.val (.int x0)] [(.int x0)])) (fun _ k => XS.iloadN X0.here hx rfl (hb hby d1_44) rfl  k) ?_
            refine own_st (T' := s₁) (F' := (mkF m 47 #[.val (.int x0)] [(.int (47 : Int32)), (.int x0)])) (fun _ k => XS.bipush X0.here hx rfl (hb hby d1_45) k) ?_
            refine own_icmp X0 hx (pc' := 54) (pc2 := 50) (hb hby d1_47) (by decide) (by decide) rfl (fun (hc47 : ¬ (x0 = (47 : Int32))) => ?_) (fun (hc47 : x0 = (47 : Int32)) => ?_)
            ·
              refine own_st (T' := s₁) (F' := (mkF m 55 #[.val (.int x0)] [(.int x0)])) (fun _ k => XS.iloadN X0.here hx rfl (hb hby d1_54) rfl  k) ?_
              refine own_st (T' := s₁) (F' := (mkF m 57 #[.val (.int x0)] [(.int (46 : Int32)), (.int x0)])) (fun _ k => XS.bipush X0.here hx rfl (hb hby d1_55) k) ?_
              refine own_icmp X0 hx (pc' := 64) (pc2 := 60) (hb hby d1_57) (by decide) (by decide) rfl (fun (hc57 : ¬ (x0 = (46 : Int32))) => ?_) (fun (hc57 : x0 = (46 : Int32)) => ?_)
              ·
                obtain ⟨T7, X7, e7, st7⟩ := getS2 X0 hx hZ hown (host := "") (Or.inl (hw _ (List.mem_of_getElem? (i := 4) rfl))) Via.refl e0 S_fN (g := (mkF m 64 #[.val (.int x0)] [])) rfl (hb hby d1_64)
                refine own_st (T' := T7) (F' := (mkF m 67 #[.val (.int x0)] [(.ref fN)])) (fun _ k => st7 _ k) ?_
                refine own_retA X7 hx hlk (t := (.object "com/example/fieldloom/fieldloom/CellFormat")) Bd.returns rfl rfl rfl (hb hby d1_67) ?_ (by decide) (by decide)
                rw [e7]
                refine ⟨⟨_, rfl, ?_⟩, N0, rfl⟩
                refine Or.inr (Or.inr (Or.inr (Or.inr ( ⟨?_, rfl⟩))))
                simp only [Int32.lt_iff_toInt_lt, ← Int32.toInt_inj, show (0 : Int32).toInt = 0 from rfl, show (14 : Int32).toInt = 14 from rfl, show (17 : Int32).toInt = 17 from rfl, show (18 : Int32).toInt = 18 from rfl, show (21 : Int32).toInt = 21 from rfl, show (22 : Int32).toInt = 22 from rfl, show (45 : Int32).toInt = 45 from rfl, show (46 : Int32).toInt = 46 from rfl, show (47 : Int32).toInt = 47 from rfl, show (64 : Int32).toInt = 64 from rfl] at hc3 hc19 hc29 hc35 hc41 hc47 hc57 ⊢
                omega
              ·
                obtain ⟨T8, X8, e8, st8⟩ := getS2 X0 hx hZ hown (host := "") (Or.inl (hw _ (List.mem_of_getElem? (i := 53) rfl))) Via.refl e0 S_fE (g := (mkF m 60 #[.val (.int x0)] [])) rfl (hb hby d1_60)
                refine own_st (T' := T8) (F' := (mkF m 63 #[.val (.int x0)] [(.ref fE)])) (fun _ k => st8 _ k) ?_
                refine own_retA X8 hx hlk (t := (.object "com/example/fieldloom/fieldloom/CellFormat")) Bd.returns rfl rfl rfl (hb hby d1_63) ?_ (by decide) (by decide)
                rw [e8]
                refine ⟨⟨_, rfl, ?_⟩, N0, rfl⟩
                refine Or.inr (Or.inr (Or.inr (Or.inl ⟨?_, rfl⟩)))
                simp only [Int32.lt_iff_toInt_lt, ← Int32.toInt_inj, show (0 : Int32).toInt = 0 from rfl, show (14 : Int32).toInt = 14 from rfl, show (17 : Int32).toInt = 17 from rfl, show (18 : Int32).toInt = 18 from rfl, show (21 : Int32).toInt = 21 from rfl, show (22 : Int32).toInt = 22 from rfl, show (45 : Int32).toInt = 45 from rfl, show (46 : Int32).toInt = 46 from rfl, show (47 : Int32).toInt = 47 from rfl, show (64 : Int32).toInt = 64 from rfl] at hc3 hc19 hc29 hc35 hc41 hc47 hc57 ⊢
                omega
            ·
              obtain ⟨T9, X9, e9, st9⟩ := getS2 X0 hx hZ hown (host := "") (Or.inl (hw _ (List.mem_of_getElem? (i := 47) rfl))) Via.refl e0 S_fT (g := (mkF m 50 #[.val (.int x0)] [])) rfl (hb hby d1_50)
              refine own_st (T' := T9) (F' := (mkF m 53 #[.val (.int x0)] [(.ref fT)])) (fun _ k => st9 _ k) ?_
              refine own_retA X9 hx hlk (t := (.object "com/example/fieldloom/fieldloom/CellFormat")) Bd.returns rfl rfl rfl (hb hby d1_53) ?_ (by decide) (by decide)
              rw [e9]
              refine ⟨⟨_, rfl, ?_⟩, N0, rfl⟩
              refine Or.inr (Or.inr (Or.inl ⟨?_, rfl⟩))
              simp only [Int32.lt_iff_toInt_lt, ← Int32.toInt_inj, show (0 : Int32).toInt = 0 from rfl, show (14 : Int32).toInt = 14 from rfl, show (17 : Int32).toInt = 17 from rfl, show (18 : Int32).toInt = 18 from rfl, show (21 : Int32).toInt = 21 from rfl, show (22 : Int32).toInt = 22 from rfl, show (45 : Int32).toInt = 45 from rfl, show (46 : Int32).toInt = 46 from rfl, show (47 : Int32).toInt = 47 from rfl, show (64 : Int32).toInt = 64 from rfl] at hc3 hc19 hc29 hc35 hc41 hc47 ⊢
              omega
    ·
      obtain ⟨T10, X10, e10, st10⟩ := getS2 X0 hx hZ hown (host := "") (Or.inl (hw _ (List.mem_of_getElem? (i := 50) rfl))) Via.refl e0 S_fX (g := (mkF m 22 #[.val (.int x0)] [])) rfl (hb hby d1_22)
      refine own_st (T' := T10) (F' := (mkF m 25 #[.val (.int x0)] [(.ref fX)])) (fun _ k => st10 _ k) ?_
      refine own_retA X10 hx hlk (t := (.object "com/example/fieldloom/fieldloom/CellFormat")) Bd.returns rfl rfl rfl (hb hby d1_25) ?_ (by decide) (by decide)
      rw [e10]
      refine ⟨⟨_, rfl, ?_⟩, N0, rfl⟩
      refine Or.inr (Or.inl ⟨?_, rfl⟩)
      simp only [Int32.lt_iff_toInt_lt, ← Int32.toInt_inj, show (0 : Int32).toInt = 0 from rfl, show (14 : Int32).toInt = 14 from rfl, show (17 : Int32).toInt = 17 from rfl, show (18 : Int32).toInt = 18 from rfl, show (21 : Int32).toInt = 21 from rfl, show (22 : Int32).toInt = 22 from rfl, show (45 : Int32).toInt = 45 from rfl, show (46 : Int32).toInt = 46 from rfl, show (47 : Int32).toInt = 47 from rfl, show (64 : Int32).toInt = 64 from rfl] at hc3 hc19 ⊢
      omega
  ·
    refine own_st (T' := s₁) (F' := (mkF m 7 #[.val (.int x0)] [(.int x0)])) (fun _ k => XS.iloadN X0.here hx rfl (hb hby d1_6) rfl  k) ?_
    refine own_st (T' := s₁) (F' := (mkF m 9 #[.val (.int x0)] [(.int (17 : Int32)), (.int x0)])) (fun _ k => XS.bipush X0.here hx rfl (hb hby d1_7) k) ?_
    refine own_icmp X0 hx (pc' := 16) (pc2 := 12) (hb hby d1_9) (by decide) (by decide) rfl (fun (hc9 : (17 : Int32) < x0) => ?_) (fun (hc9 : ¬ ((17 : Int32) < x0)) => ?_)
    ·
      refine own_st (T' := s₁) (F' := (mkF m 17 #[.val (.int x0)] [(.int x0)])) (fun _ k => XS.iloadN X0.here hx rfl (hb hby d1_16) rfl  k) ?_
      refine own_st (T' := s₁) (F' := (mkF m 19 #[.val (.int x0)] [(.int (22 : Int32)), (.int x0)])) (fun _ k => XS.bipush X0.here hx rfl (hb hby d1_17) k) ?_
      refine own_icmp X0 hx (pc' := 26) (pc2 := 22) (hb hby d1_19) (by decide) (by decide) rfl (fun (hc19 : ¬ (x0 = (22 : Int32))) => ?_) (fun (hc19 : x0 = (22 : Int32)) => ?_)
      ·
        refine own_st (T' := s₁) (F' := (mkF m 27 #[.val (.int x0)] [(.int x0)])) (fun _ k => XS.iloadN X0.here hx rfl (hb hby d1_26) rfl  k) ?_
        refine own_st (T' := s₁) (F' := (mkF m 29 #[.val (.int x0)] [(.int (18 : Int32)), (.int x0)])) (fun _ k => XS.bipush X0.here hx rfl (hb hby d1_27) k) ?_
        refine own_icmp X0 hx (pc' := 38) (pc2 := 32) (hb hby d1_29) (by decide) (by decide) rfl (fun (hc29 : x0 < (18 : Int32)) => ?_) (fun (hc29 : ¬ (x0 < (18 : Int32))) => ?_)
        ·
          refine own_st (T' := s₁) (F' := (mkF m 39 #[.val (.int x0)] [(.int x0)])) (fun _ k => XS.iloadN X0.here hx rfl (hb hby d1_38) rfl  k) ?_
          refine own_st (T' := s₁) (F' := (mkF m 41 #[.val (.int x0)] [(.int (45 : Int32)), (.int x0)])) (fun _ k => XS.bipush X0.here hx rfl (hb hby d1_39) k) ?_
          refine own_icmp X0 hx (pc' := 50) (pc2 := 44) (hb hby d1_41) (by decide) (by decide) rfl (fun (hc41 : x0 = (45 : Int32)) => ?_) (fun (hc41 : ¬ (x0 = (45 : Int32))) => ?_)
          ·
            obtain ⟨T11, X11, e11, st11⟩ := getS2 X0 hx hZ hown (host := "") (Or.inl (hw _ (List.mem_of_getElem? (i := 47) rfl))) Via.refl e0 S_fT (g := (mkF m 50 #[.val (.int x0)] [])) rfl (hb hby d1_50)
            refine own_st (T' := T11) (F' := (mkF m 53 #[.val (.int x0)] [(.ref fT)])) (fun _ k => st11 _ k) ?_
            refine own_retA X11 hx hlk (t := (.object "com/example/fieldloom/fieldloom/CellFormat")) Bd.returns rfl rfl rfl (hb hby d1_53) ?_ (by decide) (by decide)
            rw [e11]
            refine ⟨⟨_, rfl, ?_⟩, N0, rfl⟩
            refine Or.inr (Or.inr (Or.inl ⟨?_, rfl⟩))
            simp only [Int32.lt_iff_toInt_lt, ← Int32.toInt_inj, show (0 : Int32).toInt = 0 from rfl, show (14 : Int32).toInt = 14 from rfl, show (17 : Int32).toInt = 17 from rfl, show (18 : Int32).toInt = 18 from rfl, show (21 : Int32).toInt = 21 from rfl, show (22 : Int32).toInt = 22 from rfl, show (45 : Int32).toInt = 45 from rfl, show (46 : Int32).toInt = 46 from rfl, show (47 : Int32).toInt = 47 from rfl, show (64 : Int32).toInt = 64 from rfl] at hc3 hc9 hc19 hc29 hc41 ⊢
            omega
          ·
            refine own_st (T' := s₁) (F' := (mkF m 45 #[.val (.int x0)] [(.int x0)])) (fun _ k => XS.iloadN X0.here hx rfl (hb hby d1_44) rfl  k) ?_
            refine own_st (T' := s₁) (F' := (mkF m 47 #[.val (.int x0)] [(.int (47 : Int32)), (.int x0)])) (fun _ k => XS.bipush X0.here hx rfl (hb hby d1_45) k) ?_
            refine own_icmp X0 hx (pc' := 54) (pc2 := 50) (hb hby d1_47) (by decide) (by decide) rfl (fun (hc47 : ¬ (x0 = (47 : Int32))) => ?_) (fun (hc47 : x0 = (47 : Int32)) => ?_)
            ·
              refine own_st (T' := s₁) (F' := (mkF m 55 #[.val (.int x0)] [(.int x0)])) (fun _ k => XS.iloadN X0.here hx rfl (hb hby d1_54) rfl  k) ?_
              refine own_st (T' := s₁) (F' := (mkF m 57 #[.val (.int x0)] [(.int (46 : Int32)), (.int x0)])) (fun _ k => XS.bipush X0.here hx rfl (hb hby d1_55) k) ?_
              refine own_icmp X0 hx (pc' := 64) (pc2 := 60) (hb hby d1_57) (by decide) (by decide) rfl (fun (hc57 : ¬ (x0 = (46 : Int32))) => ?_) (fun (hc57 : x0 = (46 : Int32)) => ?_)
              ·
                obtain ⟨T12, X12, e12, st12⟩ := getS2 X0 hx hZ hown (host := "") (Or.inl (hw _ (List.mem_of_getElem? (i := 4) rfl))) Via.refl e0 S_fN (g := (mkF m 64 #[.val (.int x0)] [])) rfl (hb hby d1_64)
                refine own_st (T' := T12) (F' := (mkF m 67 #[.val (.int x0)] [(.ref fN)])) (fun _ k => st12 _ k) ?_
                refine own_retA X12 hx hlk (t := (.object "com/example/fieldloom/fieldloom/CellFormat")) Bd.returns rfl rfl rfl (hb hby d1_67) ?_ (by decide) (by decide)
                rw [e12]
                refine ⟨⟨_, rfl, ?_⟩, N0, rfl⟩
                refine Or.inr (Or.inr (Or.inr (Or.inr ( ⟨?_, rfl⟩))))
                simp only [Int32.lt_iff_toInt_lt, ← Int32.toInt_inj, show (0 : Int32).toInt = 0 from rfl, show (14 : Int32).toInt = 14 from rfl, show (17 : Int32).toInt = 17 from rfl, show (18 : Int32).toInt = 18 from rfl, show (21 : Int32).toInt = 21 from rfl, show (22 : Int32).toInt = 22 from rfl, show (45 : Int32).toInt = 45 from rfl, show (46 : Int32).toInt = 46 from rfl, show (47 : Int32).toInt = 47 from rfl, show (64 : Int32).toInt = 64 from rfl] at hc3 hc9 hc19 hc29 hc41 hc47 hc57 ⊢
                omega
              ·
                obtain ⟨T13, X13, e13, st13⟩ := getS2 X0 hx hZ hown (host := "") (Or.inl (hw _ (List.mem_of_getElem? (i := 53) rfl))) Via.refl e0 S_fE (g := (mkF m 60 #[.val (.int x0)] [])) rfl (hb hby d1_60)
                refine own_st (T' := T13) (F' := (mkF m 63 #[.val (.int x0)] [(.ref fE)])) (fun _ k => st13 _ k) ?_
                refine own_retA X13 hx hlk (t := (.object "com/example/fieldloom/fieldloom/CellFormat")) Bd.returns rfl rfl rfl (hb hby d1_63) ?_ (by decide) (by decide)
                rw [e13]
                refine ⟨⟨_, rfl, ?_⟩, N0, rfl⟩
                refine Or.inr (Or.inr (Or.inr (Or.inl ⟨?_, rfl⟩)))
                simp only [Int32.lt_iff_toInt_lt, ← Int32.toInt_inj, show (0 : Int32).toInt = 0 from rfl, show (14 : Int32).toInt = 14 from rfl, show (17 : Int32).toInt = 17 from rfl, show (18 : Int32).toInt = 18 from rfl, show (21 : Int32).toInt = 21 from rfl, show (22 : Int32).toInt = 22 from rfl, show (45 : Int32).toInt = 45 from rfl, show (46 : Int32).toInt = 46 from rfl, show (47 : Int32).toInt = 47 from rfl, show (64 : Int32).toInt = 64 from rfl] at hc3 hc9 hc19 hc29 hc41 hc47 hc57 ⊢
                omega
            ·
              obtain ⟨T14, X14, e14, st14⟩ := getS2 X0 hx hZ hown (host := "") (Or.inl (hw _ (List.mem_of_getElem? (i := 47) rfl))) Via.refl e0 S_fT (g := (mkF m 50 #[.val (.int x0)] [])) rfl (hb hby d1_50)
              refine own_st (T' := T14) (F' := (mkF m 53 #[.val (.int x0)] [(.ref fT)])) (fun _ k => st14 _ k) ?_
              refine own_retA X14 hx hlk (t := (.object "com/example/fieldloom/fieldloom/CellFormat")) Bd.returns rfl rfl rfl (hb hby d1_53) ?_ (by decide) (by decide)
              rw [e14]
              refine ⟨⟨_, rfl, ?_⟩, N0, rfl⟩
              refine Or.inr (Or.inr (Or.inl ⟨?_, rfl⟩))
              simp only [Int32.lt_iff_toInt_lt, ← Int32.toInt_inj, show (0 : Int32).toInt = 0 from rfl, show (14 : Int32).toInt = 14 from rfl, show (17 : Int32).toInt = 17 from rfl, show (18 : Int32).toInt = 18 from rfl, show (21 : Int32).toInt = 21 from rfl, show (22 : Int32).toInt = 22 from rfl, show (45 : Int32).toInt = 45 from rfl, show (46 : Int32).toInt = 46 from rfl, show (47 : Int32).toInt = 47 from rfl, show (64 : Int32).toInt = 64 from rfl] at hc3 hc9 hc19 hc29 hc41 hc47 ⊢
              omega
        ·
          refine own_st (T' := s₁) (F' := (mkF m 33 #[.val (.int x0)] [(.int x0)])) (fun _ k => XS.iloadN X0.here hx rfl (hb hby d1_32) rfl  k) ?_
          refine own_st (T' := s₁) (F' := (mkF m 35 #[.val (.int x0)] [(.int (21 : Int32)), (.int x0)])) (fun _ k => XS.bipush X0.here hx rfl (hb hby d1_33) k) ?_
          refine own_icmp X0 hx (pc' := 50) (pc2 := 38) (hb hby d1_35) (by decide) (by decide) rfl (fun (hc35 : ¬ ((21 : Int32) < x0)) => ?_) (fun (hc35 : (21 : Int32) < x0) => ?_)
          ·
            obtain ⟨T15, X15, e15, st15⟩ := getS2 X0 hx hZ hown (host := "") (Or.inl (hw _ (List.mem_of_getElem? (i := 47) rfl))) Via.refl e0 S_fT (g := (mkF m 50 #[.val (.int x0)] [])) rfl (hb hby d1_50)
            refine own_st (T' := T15) (F' := (mkF m 53 #[.val (.int x0)] [(.ref fT)])) (fun _ k => st15 _ k) ?_
            refine own_retA X15 hx hlk (t := (.object "com/example/fieldloom/fieldloom/CellFormat")) Bd.returns rfl rfl rfl (hb hby d1_53) ?_ (by decide) (by decide)
            rw [e15]
            refine ⟨⟨_, rfl, ?_⟩, N0, rfl⟩
            refine Or.inr (Or.inr (Or.inl ⟨?_, rfl⟩))
            simp only [Int32.lt_iff_toInt_lt, ← Int32.toInt_inj, show (0 : Int32).toInt = 0 from rfl, show (14 : Int32).toInt = 14 from rfl, show (17 : Int32).toInt = 17 from rfl, show (18 : Int32).toInt = 18 from rfl, show (21 : Int32).toInt = 21 from rfl, show (22 : Int32).toInt = 22 from rfl, show (45 : Int32).toInt = 45 from rfl, show (46 : Int32).toInt = 46 from rfl, show (47 : Int32).toInt = 47 from rfl, show (64 : Int32).toInt = 64 from rfl] at hc3 hc9 hc19 hc29 hc35 ⊢
            omega
          ·
            refine own_st (T' := s₁) (F' := (mkF m 39 #[.val (.int x0)] [(.int x0)])) (fun _ k => XS.iloadN X0.here hx rfl (hb hby d1_38) rfl  k) ?_
            refine own_st (T' := s₁) (F' := (mkF m 41 #[.val (.int x0)] [(.int (45 : Int32)), (.int x0)])) (fun _ k => XS.bipush X0.here hx rfl (hb hby d1_39) k) ?_
            refine own_icmp X0 hx (pc' := 50) (pc2 := 44) (hb hby d1_41) (by decide) (by decide) rfl (fun (hc41 : x0 = (45 : Int32)) => ?_) (fun (hc41 : ¬ (x0 = (45 : Int32))) => ?_)
            ·
              obtain ⟨T16, X16, e16, st16⟩ := getS2 X0 hx hZ hown (host := "") (Or.inl (hw _ (List.mem_of_getElem? (i := 47) rfl))) Via.refl e0 S_fT (g := (mkF m 50 #[.val (.int x0)] [])) rfl (hb hby d1_50)
              refine own_st (T' := T16) (F' := (mkF m 53 #[.val (.int x0)] [(.ref fT)])) (fun _ k => st16 _ k) ?_
              refine own_retA X16 hx hlk (t := (.object "com/example/fieldloom/fieldloom/CellFormat")) Bd.returns rfl rfl rfl (hb hby d1_53) ?_ (by decide) (by decide)
              rw [e16]
              refine ⟨⟨_, rfl, ?_⟩, N0, rfl⟩
              refine Or.inr (Or.inr (Or.inl ⟨?_, rfl⟩))
              simp only [Int32.lt_iff_toInt_lt, ← Int32.toInt_inj, show (0 : Int32).toInt = 0 from rfl, show (14 : Int32).toInt = 14 from rfl, show (17 : Int32).toInt = 17 from rfl, show (18 : Int32).toInt = 18 from rfl, show (21 : Int32).toInt = 21 from rfl, show (22 : Int32).toInt = 22 from rfl, show (45 : Int32).toInt = 45 from rfl, show (46 : Int32).toInt = 46 from rfl, show (47 : Int32).toInt = 47 from rfl, show (64 : Int32).toInt = 64 from rfl] at hc3 hc9 hc19 hc29 hc35 hc41 ⊢
              omega
            ·
              refine own_st (T' := s₁) (F' := (mkF m 45 #[.val (.int x0)] [(.int x0)])) (fun _ k => XS.iloadN X0.here hx rfl (hb hby d1_44) rfl  k) ?_
              refine own_st (T' := s₁) (F' := (mkF m 47 #[.val (.int x0)] [(.int (47 : Int32)), (.int x0)])) (fun _ k => XS.bipush X0.here hx rfl (hb hby d1_45) k) ?_
              refine own_icmp X0 hx (pc' := 54) (pc2 := 50) (hb hby d1_47) (by decide) (by decide) rfl (fun (hc47 : ¬ (x0 = (47 : Int32))) => ?_) (fun (hc47 : x0 = (47 : Int32)) => ?_)
              ·
                refine own_st (T' := s₁) (F' := (mkF m 55 #[.val (.int x0)] [(.int x0)])) (fun _ k => XS.iloadN X0.here hx rfl (hb hby d1_54) rfl  k) ?_
                refine own_st (T' := s₁) (F' := (mkF m 57 #[.val (.int x0)] [(.int (46 : Int32)), (.int x0)])) (fun _ k => XS.bipush X0.here hx rfl (hb hby d1_55) k) ?_
                refine own_icmp X0 hx (pc' := 64) (pc2 := 60) (hb hby d1_57) (by decide) (by decide) rfl (fun (hc57 : ¬ (x0 = (46 : Int32))) => ?_) (fun (hc57 : x0 = (46 : Int32)) => ?_)
                ·
                  obtain ⟨T17, X17, e17, st17⟩ := getS2 X0 hx hZ hown (host := "") (Or.inl (hw _ (List.mem_of_getElem? (i := 4) rfl))) Via.refl e0 S_fN (g := (mkF m 64 #[.val (.int x0)] [])) rfl (hb hby d1_64)
                  refine own_st (T' := T17) (F' := (mkF m 67 #[.val (.int x0)] [(.ref fN)])) (fun _ k => st17 _ k) ?_
                  refine own_retA X17 hx hlk (t := (.object "com/example/fieldloom/fieldloom/CellFormat")) Bd.returns rfl rfl rfl (hb hby d1_67) ?_ (by decide) (by decide)
                  rw [e17]
                  refine ⟨⟨_, rfl, ?_⟩, N0, rfl⟩
                  refine Or.inr (Or.inr (Or.inr (Or.inr ( ⟨?_, rfl⟩))))
                  simp only [Int32.lt_iff_toInt_lt, ← Int32.toInt_inj, show (0 : Int32).toInt = 0 from rfl, show (14 : Int32).toInt = 14 from rfl, show (17 : Int32).toInt = 17 from rfl, show (18 : Int32).toInt = 18 from rfl, show (21 : Int32).toInt = 21 from rfl, show (22 : Int32).toInt = 22 from rfl, show (45 : Int32).toInt = 45 from rfl, show (46 : Int32).toInt = 46 from rfl, show (47 : Int32).toInt = 47 from rfl, show (64 : Int32).toInt = 64 from rfl] at hc3 hc9 hc19 hc29 hc35 hc41 hc47 hc57 ⊢
                  omega
                ·
                  obtain ⟨T18, X18, e18, st18⟩ := getS2 X0 hx hZ hown (host := "") (Or.inl (hw _ (List.mem_of_getElem? (i := 53) rfl))) Via.refl e0 S_fE (g := (mkF m 60 #[.val (.int x0)] [])) rfl (hb hby d1_60)
                  refine own_st (T' := T18) (F' := (mkF m 63 #[.val (.int x0)] [(.ref fE)])) (fun _ k => st18 _ k) ?_
                  refine own_retA X18 hx hlk (t := (.object "com/example/fieldloom/fieldloom/CellFormat")) Bd.returns rfl rfl rfl (hb hby d1_63) ?_ (by decide) (by decide)
                  rw [e18]
                  refine ⟨⟨_, rfl, ?_⟩, N0, rfl⟩
                  refine Or.inr (Or.inr (Or.inr (Or.inl ⟨?_, rfl⟩)))
                  simp only [Int32.lt_iff_toInt_lt, ← Int32.toInt_inj, show (0 : Int32).toInt = 0 from rfl, show (14 : Int32).toInt = 14 from rfl, show (17 : Int32).toInt = 17 from rfl, show (18 : Int32).toInt = 18 from rfl, show (21 : Int32).toInt = 21 from rfl, show (22 : Int32).toInt = 22 from rfl, show (45 : Int32).toInt = 45 from rfl, show (46 : Int32).toInt = 46 from rfl, show (47 : Int32).toInt = 47 from rfl, show (64 : Int32).toInt = 64 from rfl] at hc3 hc9 hc19 hc29 hc35 hc41 hc47 hc57 ⊢
                  omega
              ·
                obtain ⟨T19, X19, e19, st19⟩ := getS2 X0 hx hZ hown (host := "") (Or.inl (hw _ (List.mem_of_getElem? (i := 47) rfl))) Via.refl e0 S_fT (g := (mkF m 50 #[.val (.int x0)] [])) rfl (hb hby d1_50)
                refine own_st (T' := T19) (F' := (mkF m 53 #[.val (.int x0)] [(.ref fT)])) (fun _ k => st19 _ k) ?_
                refine own_retA X19 hx hlk (t := (.object "com/example/fieldloom/fieldloom/CellFormat")) Bd.returns rfl rfl rfl (hb hby d1_53) ?_ (by decide) (by decide)
                rw [e19]
                refine ⟨⟨_, rfl, ?_⟩, N0, rfl⟩
                refine Or.inr (Or.inr (Or.inl ⟨?_, rfl⟩))
                simp only [Int32.lt_iff_toInt_lt, ← Int32.toInt_inj, show (0 : Int32).toInt = 0 from rfl, show (14 : Int32).toInt = 14 from rfl, show (17 : Int32).toInt = 17 from rfl, show (18 : Int32).toInt = 18 from rfl, show (21 : Int32).toInt = 21 from rfl, show (22 : Int32).toInt = 22 from rfl, show (45 : Int32).toInt = 45 from rfl, show (46 : Int32).toInt = 46 from rfl, show (47 : Int32).toInt = 47 from rfl, show (64 : Int32).toInt = 64 from rfl] at hc3 hc9 hc19 hc29 hc35 hc41 hc47 ⊢
                omega
      ·
        obtain ⟨T20, X20, e20, st20⟩ := getS2 X0 hx hZ hown (host := "") (Or.inl (hw _ (List.mem_of_getElem? (i := 50) rfl))) Via.refl e0 S_fX (g := (mkF m 22 #[.val (.int x0)] [])) rfl (hb hby d1_22)
        refine own_st (T' := T20) (F' := (mkF m 25 #[.val (.int x0)] [(.ref fX)])) (fun _ k => st20 _ k) ?_
        refine own_retA X20 hx hlk (t := (.object "com/example/fieldloom/fieldloom/CellFormat")) Bd.returns rfl rfl rfl (hb hby d1_25) ?_ (by decide) (by decide)
        rw [e20]
        refine ⟨⟨_, rfl, ?_⟩, N0, rfl⟩
        refine Or.inr (Or.inl ⟨?_, rfl⟩)
        simp only [Int32.lt_iff_toInt_lt, ← Int32.toInt_inj, show (0 : Int32).toInt = 0 from rfl, show (14 : Int32).toInt = 14 from rfl, show (17 : Int32).toInt = 17 from rfl, show (18 : Int32).toInt = 18 from rfl, show (21 : Int32).toInt = 21 from rfl, show (22 : Int32).toInt = 22 from rfl, show (45 : Int32).toInt = 45 from rfl, show (46 : Int32).toInt = 46 from rfl, show (47 : Int32).toInt = 47 from rfl, show (64 : Int32).toInt = 64 from rfl] at hc3 hc9 hc19 ⊢
        omega
    ·
      obtain ⟨T21, X21, e21, st21⟩ := getS2 X0 hx hZ hown (host := "") (Or.inl (hw _ (List.mem_of_getElem? (i := 44) rfl))) Via.refl e0 S_fD (g := (mkF m 12 #[.val (.int x0)] [])) rfl (hb hby d1_12)
      refine own_st (T' := T21) (F' := (mkF m 15 #[.val (.int x0)] [(.ref fD)])) (fun _ k => st21 _ k) ?_
      refine own_retA X21 hx hlk (t := (.object "com/example/fieldloom/fieldloom/CellFormat")) Bd.returns rfl rfl rfl (hb hby d1_15) ?_ (by decide) (by decide)
      rw [e21]
      refine ⟨⟨_, rfl, ?_⟩, N0, rfl⟩
      refine Or.inl ⟨?_, rfl⟩
      simp only [Int32.lt_iff_toInt_lt, ← Int32.toInt_inj, show (0 : Int32).toInt = 0 from rfl, show (14 : Int32).toInt = 14 from rfl, show (17 : Int32).toInt = 17 from rfl, show (18 : Int32).toInt = 18 from rfl, show (21 : Int32).toInt = 21 from rfl, show (22 : Int32).toInt = 22 from rfl, show (45 : Int32).toInt = 45 from rfl, show (46 : Int32).toInt = 46 from rfl, show (47 : Int32).toInt = 47 from rfl, show (64 : Int32).toInt = 64 from rfl] at hc3 hc9 ⊢
      omega
theorem d7tr_0 : decode jdk_41_method_11_code 0 = .ok (.iload_n 0, 1) := by decide +kernel
theorem d7tr_1 : decode jdk_41_method_11_code 1 = .ok (.ifCond .lt 8, 3) := by decide +kernel
theorem d7tr_4 : decode jdk_41_method_11_code 4 = .ok (.iload_n 0, 1) := by decide +kernel
theorem d7tr_5 : decode jdk_41_method_11_code 5 = .ok (.iload_n 1, 1) := by decide +kernel
theorem d7tr_6 : decode jdk_41_method_11_code 6 = .ok (.if_icmp .lt 10, 3) := by decide +kernel
theorem d7tr_16 : decode jdk_41_method_11_code 16 = .ok (.iload_n 0, 1) := by decide +kernel
theorem d7tr_17 : decode jdk_41_method_11_code 17 = .ok (.ireturn, 1) := by decide +kernel
theorem own_pn7tr : plainName "jdk/internal/util/Preconditions" = true := by first | (simp [plainName, overriddenIn]; done) | decide +kernel
theorem own_ef7tr (m : MethodId) (x0 : Int32) (x1 : Int32) (x2 : Addr) : entryFrame m #[(.int x0), (.int x1), (.ref x2)] 3 = (mkF m 0 #[.val (.int x0), .val (.int x1), .val (.ref x2)] []) := by first | (simp [entryFrame, mkF, argsToLocals, Value.category]; done) | rfl
def Q7tr (Z : State) (x0 : Int32) (x1 : Int32) (x2 : Addr)  (h0 : Heap) (n0 : Nat) (v : Option Value) (h : Heap) (L : List Loc) : Prop := (∃ z : Int32, v = some (.int z) ∧ (z = x0)) ∧ Fr n0 L ∧ h = h0
set_option maxRecDepth 65536 in
set_option maxHeartbeats 40000000 in
theorem rm7tr (l : Launch) (Z : State) (a0 : Array Value) (hw : ∀ d ∈ tables_1, d.before a0 Z = true) (ws : List Jvm.Cond) (x0 : Int32) (x1 : Int32) (x2 : Addr)  (h0 : Heap) (n0 : Nat) (Z0 : n0 ≤ h0.size) (h0i : ¬ x0 < 0) (h1i : x0 < x1) :
    MetFree l (⟨"jdk/internal/util/Preconditions", "checkIndex", "(IILjava/util/function/BiFunction;)I"⟩ : MethodName) (head1 (Jvm.Cond.code (⟨"jdk/internal/util/Preconditions", "checkIndex", "(IILjava/util/function/BiFunction;)I"⟩ : MethodName) jdk_41_method_11_code 3 (some .int) :: ws) ({ frames := 0, cells := 0, slots := 0, locals := 0 } : Room)) (fun a U => a = #[(.int x0), (.int x1), (.ref x2)] ∧ Z.Warmed39 U.vm ∧ U.heap = h0) (fun _ _ _ _ _ => True) (fun _ U oc U' => ∃ v L, oc = .returned v ∧ Q7tr Z x0 x1 x2  h0 n0 v U'.heap L ∧ FrameEnd U oc U' L ({ frames := 0, cells := 0, slots := 0, locals := 0 } : Room).cells ({ frames := 0, cells := 0, slots := 0, locals := 0 } : Room).slots) := by
  refine MetFree.of_bodySF (plainFor_of_name own_pn7tr) hisR ?_
  intro p e s m args below meth c s₁ Bd hml0 hP hK
  obtain ⟨rfl, hZ, hh⟩ := hP
  have hx := Bd.exec
  have hby := Bd.bytes
  have hlk : meth.locks = false := BodyLoose.notSynchronized Bd
  have hml : c.maxLocals = 3 := hml0
  have hown : s.vm.findClass "jdk/internal/util/Preconditions" = some m.cls := findClass_of_methodNamed Bd.named
  have hnm := (name_of_methodNamed Bd.named Bd.method).1
  have X0 : Stand p l e ({ frames := 0, cells := 0, slots := 0, locals := 0 } : Room) s m #[(.int x0), (.int x1), (.ref x2)] below meth c s₁ [] 0 0 := Stand.of_body Bd
  have e0 : s₁.heap = h0 := by rw [← hh, Bd.state]; rfl
  have N0 := Fr.nil n0
  refine own_enter (own_ef7tr m x0 x1 x2) ?_
  show own_Go p e below (own_E s (Q7tr Z x0 x1 x2  h0 n0) ({ frames := 0, cells := 0, slots := 0, locals := 0 } : Room).cells ({ frames := 0, cells := 0, slots := 0, locals := 0 } : Room).slots) s₁ (mkF m 0 #[.val (.int x0), .val (.int x1), .val (.ref x2)] [])
  refine own_st (T' := s₁) (F' := (mkF m 1 #[.val (.int x0), .val (.int x1), .val (.ref x2)] [(.int x0)])) (fun _ k => XS.iloadN X0.here hx rfl (hb hby d7tr_0) rfl  k) ?_
  refine own_ifc X0 hx (pc' := 9) (pc2 := 4) (hb hby d7tr_1) (by decide) (by decide) rfl (fun (hc1 : x0 < (0 : Int32)) => ?_) (fun (hc1 : ¬ (x0 < (0 : Int32))) => ?_)
  ·
    exact absurd hc1 h0i
  ·
    refine own_st (T' := s₁) (F' := (mkF m 5 #[.val (.int x0), .val (.int x1), .val (.ref x2)] [(.int x0)])) (fun _ k => XS.iloadN X0.here hx rfl (hb hby d7tr_4) rfl  k) ?_
    refine own_st (T' := s₁) (F' := (mkF m 6 #[.val (.int x0), .val (.int x1), .val (.ref x2)] [(.int x1), (.int x0)])) (fun _ k => XS.iloadN X0.here hx rfl (hb hby d7tr_5) rfl  k) ?_
    refine own_icmp X0 hx (pc' := 16) (pc2 := 9) (hb hby d7tr_6) (by decide) (by decide) rfl (fun (hc6 : x0 < x1) => ?_) (fun (hc6 : ¬ (x0 < x1)) => ?_)
    ·
      refine own_st (T' := s₁) (F' := (mkF m 17 #[.val (.int x0), .val (.int x1), .val (.ref x2)] [(.int x0)])) (fun _ k => XS.iloadN X0.here hx rfl (hb hby d7tr_16) rfl  k) ?_
      refine own_retI X0 hx hlk Bd.returns (hb hby d7tr_17) ?_ (by decide) (by decide)
      rw [e0]
      refine ⟨⟨_, rfl, ?_⟩, N0, rfl⟩
      rfl
    ·
      exact absurd h1i hc6
theorem d7tn_0 : decode jdk_41_method_11_code 0 = .ok (.iload_n 0, 1) := by decide +kernel
theorem d7tn_1 : decode jdk_41_method_11_code 1 = .ok (.ifCond .lt 8, 3) := by decide +kernel
theorem d7tn_4 : decode jdk_41_method_11_code 4 = .ok (.iload_n 0, 1) := by decide +kernel
theorem d7tn_5 : decode jdk_41_method_11_code 5 = .ok (.iload_n 1, 1) := by decide +kernel
theorem d7tn_6 : decode jdk_41_method_11_code 6 = .ok (.if_icmp .lt 10, 3) := by decide +kernel
theorem d7tn_16 : decode jdk_41_method_11_code 16 = .ok (.iload_n 0, 1) := by decide +kernel
theorem d7tn_17 : decode jdk_41_method_11_code 17 = .ok (.ireturn, 1) := by decide +kernel
theorem own_pn7tn : plainName "jdk/internal/util/Preconditions" = true := by first | (simp [plainName, overriddenIn]; done) | decide +kernel
theorem own_ef7tn (m : MethodId) (x0 : Int32) (x1 : Int32) : entryFrame m #[(.int x0), (.int x1), .null] 3 = (mkF m 0 #[.val (.int x0), .val (.int x1), .val .null] []) := by first | (simp [entryFrame, mkF, argsToLocals, Value.category]; done) | rfl
def Q7tn (Z : State) (x0 : Int32) (x1 : Int32)  (h0 : Heap) (n0 : Nat) (v : Option Value) (h : Heap) (L : List Loc) : Prop := (∃ z : Int32, v = some (.int z) ∧ (z = x0)) ∧ Fr n0 L ∧ h = h0
set_option maxRecDepth 65536 in
set_option maxHeartbeats 40000000 in
theorem rm7tn (l : Launch) (Z : State) (a0 : Array Value) (hw : ∀ d ∈ tables_1, d.before a0 Z = true) (ws : List Jvm.Cond) (x0 : Int32) (x1 : Int32)  (h0 : Heap) (n0 : Nat) (Z0 : n0 ≤ h0.size) (h0i : ¬ x0 < 0) (h1i : x0 < x1) :
    MetFree l (⟨"jdk/internal/util/Preconditions", "checkIndex", "(IILjava/util/function/BiFunction;)I"⟩ : MethodName) (head1 (Jvm.Cond.code (⟨"jdk/internal/util/Preconditions", "checkIndex", "(IILjava/util/function/BiFunction;)I"⟩ : MethodName) jdk_41_method_11_code 3 (some .int) :: ws) ({ frames := 0, cells := 0, slots := 0, locals := 0 } : Room)) (fun a U => a = #[(.int x0), (.int x1), .null] ∧ Z.Warmed39 U.vm ∧ U.heap = h0) (fun _ _ _ _ _ => True) (fun _ U oc U' => ∃ v L, oc = .returned v ∧ Q7tn Z x0 x1  h0 n0 v U'.heap L ∧ FrameEnd U oc U' L ({ frames := 0, cells := 0, slots := 0, locals := 0 } : Room).cells ({ frames := 0, cells := 0, slots := 0, locals := 0 } : Room).slots) := by
  refine MetFree.of_bodySF (plainFor_of_name own_pn7tn) hisR ?_
  intro p e s m args below meth c s₁ Bd hml0 hP hK
  obtain ⟨rfl, hZ, hh⟩ := hP
  have hx := Bd.exec
  have hby := Bd.bytes
  have hlk : meth.locks = false := BodyLoose.notSynchronized Bd
  have hml : c.maxLocals = 3 := hml0
  have hown : s.vm.findClass "jdk/internal/util/Preconditions" = some m.cls := findClass_of_methodNamed Bd.named
  have hnm := (name_of_methodNamed Bd.named Bd.method).1
  have X0 : Stand p l e ({ frames := 0, cells := 0, slots := 0, locals := 0 } : Room) s m #[(.int x0), (.int x1), .null] below meth c s₁ [] 0 0 := Stand.of_body Bd
  have e0 : s₁.heap = h0 := by rw [← hh, Bd.state]; rfl
  have N0 := Fr.nil n0
  refine own_enter (own_ef7tn m x0 x1) ?_
  show own_Go p e below (own_E s (Q7tn Z x0 x1  h0 n0) ({ frames := 0, cells := 0, slots := 0, locals := 0 } : Room).cells ({ frames := 0, cells := 0, slots := 0, locals := 0 } : Room).slots) s₁ (mkF m 0 #[.val (.int x0), .val (.int x1), .val .null] [])
  refine own_st (T' := s₁) (F' := (mkF m 1 #[.val (.int x0), .val (.int x1), .val .null] [(.int x0)])) (fun _ k => XS.iloadN X0.here hx rfl (hb hby d7tn_0) rfl  k) ?_
  refine own_ifc X0 hx (pc' := 9) (pc2 := 4) (hb hby d7tn_1) (by decide) (by decide) rfl (fun (hc1 : x0 < (0 : Int32)) => ?_) (fun (hc1 : ¬ (x0 < (0 : Int32))) => ?_)
  ·
    exact absurd hc1 h0i
  ·
    refine own_st (T' := s₁) (F' := (mkF m 5 #[.val (.int x0), .val (.int x1), .val .null] [(.int x0)])) (fun _ k => XS.iloadN X0.here hx rfl (hb hby d7tn_4) rfl  k) ?_
    refine own_st (T' := s₁) (F' := (mkF m 6 #[.val (.int x0), .val (.int x1), .val .null] [(.int x1), (.int x0)])) (fun _ k => XS.iloadN X0.here hx rfl (hb hby d7tn_5) rfl  k) ?_
    refine own_icmp X0 hx (pc' := 16) (pc2 := 9) (hb hby d7tn_6) (by decide) (by decide) rfl (fun (hc6 : x0 < x1) => ?_) (fun (hc6 : ¬ (x0 < x1)) => ?_)
    ·
      refine own_st (T' := s₁) (F' := (mkF m 17 #[.val (.int x0), .val (.int x1), .val .null] [(.int x0)])) (fun _ k => XS.iloadN X0.here hx rfl (hb hby d7tn_16) rfl  k) ?_
      refine own_retI X0 hx hlk Bd.returns (hb hby d7tn_17) ?_ (by decide) (by decide)
      rw [e0]
      refine ⟨⟨_, rfl, ?_⟩, N0, rfl⟩
      rfl
    ·
      exact absurd h1i hc6
theorem own_pd0 : parseMethodDescriptor "(IILjava/util/function/BiFunction;)I" = some ⟨[.int, .int, (.object "java/util/function/BiFunction")], some .int⟩ := by decide +kernel
theorem d6_0 : decode jdk_42_method_155_code 0 = .ok (.iload_n 0, 1) := by decide +kernel
theorem d6_1 : decode jdk_42_method_155_code 1 = .ok (.iload_n 1, 1) := by decide +kernel
theorem d6_2 : decode jdk_42_method_155_code 2 = .ok (.getstatic 1053, 3) := by decide +kernel
theorem d6_5 : decode jdk_42_method_155_code 5 = .ok (.invokestatic 1059, 3) := by decide +kernel
theorem d6_8 : decode jdk_42_method_155_code 8 = .ok (.pop, 1) := by decide +kernel
theorem d6_9 : decode jdk_42_method_155_code 9 = .ok (.return_, 1) := by decide +kernel
theorem own_pn6 : plainName "java/lang/String" = true := by first | (simp [plainName, overriddenIn]; done) | decide +kernel
theorem own_ef6 (m : MethodId) (x0 : Int32) (x1 : Int32) : entryFrame m #[(.int x0), (.int x1)] 2 = (mkF m 0 #[.val (.int x0), .val (.int x1)] []) := by first | (simp [entryFrame, mkF, argsToLocals, Value.category]; done) | rfl
def Q6 (Z : State) (x0 : Int32) (x1 : Int32) (fv : Value) (h0 : Heap) (n0 : Nat) (v : Option Value) (h : Heap) (L : List Loc) : Prop := v = none ∧ Fr n0 L ∧ h = h0
set_option maxRecDepth 65536 in
set_option maxHeartbeats 40000000 in
theorem rm6 (l : Launch) (Z : State) (a0 : Array Value) (hw : ∀ d ∈ tables_1, d.before a0 Z = true) (ws : List Jvm.Cond) (x0 : Int32) (x1 : Int32) (fv : Value) (h0 : Heap) (n0 : Nat) (Z0 : n0 ≤ h0.size) (h0i : ¬ x0 < 0) (h1i : x0 < x1) (S_f : Sta Z h0 "jdk/internal/util/Preconditions" "SIOOBE_FORMATTER" "Ljava/util/function/BiFunction;" fv) (hfv : fv.isRef = true) :
    MetFree l (⟨"java/lang/String", "checkIndex", "(II)V"⟩ : MethodName) (head1 (Jvm.Cond.code (⟨"java/lang/String", "checkIndex", "(II)V"⟩ : MethodName) jdk_42_method_155_code 2 none :: ws) ({ frames := 1, cells := 0, slots := 0, locals := 14 } : Room)) (fun a U => a = #[(.int x0), (.int x1)] ∧ Z.Warmed39 U.vm ∧ U.heap = h0) (fun _ _ _ _ _ => True) (fun _ U oc U' => ∃ v L, oc = .returned v ∧ Q6 Z x0 x1 fv h0 n0 v U'.heap L ∧ FrameEnd U oc U' L ({ frames := 1, cells := 0, slots := 0, locals := 14 } : Room).cells ({ frames := 1, cells := 0, slots := 0, locals := 14 } : Room).slots) := by
  refine MetFree.of_bodySF (plainFor_of_name own_pn6) hisR ?_
  intro p e s m args below meth c s₁ Bd hml0 hP hK
  obtain ⟨rfl, hZ, hh⟩ := hP
  have hx := Bd.exec
  have hby := Bd.bytes
  have hlk : meth.locks = false := BodyLoose.notSynchronized Bd
  have hml : c.maxLocals = 2 := hml0
  have hown : s.vm.findClass "java/lang/String" = some m.cls := findClass_of_methodNamed Bd.named
  have hnm := (name_of_methodNamed Bd.named Bd.method).1
  have X0 : Stand p l e ({ frames := 1, cells := 0, slots := 0, locals := 14 } : Room) s m #[(.int x0), (.int x1)] below meth c s₁ [] 0 0 := Stand.of_body Bd
  have e0 : s₁.heap = h0 := by rw [← hh, Bd.state]; rfl
  have N0 := Fr.nil n0
  refine own_enter (own_ef6 m x0 x1) ?_
  show own_Go p e below (own_E s (Q6 Z x0 x1 fv h0 n0) ({ frames := 1, cells := 0, slots := 0, locals := 14 } : Room).cells ({ frames := 1, cells := 0, slots := 0, locals := 14 } : Room).slots) s₁ (mkF m 0 #[.val (.int x0), .val (.int x1)] [])
  refine own_st (T' := s₁) (F' := (mkF m 1 #[.val (.int x0), .val (.int x1)] [(.int x0)])) (fun _ k => XS.iloadN X0.here hx rfl (hb hby d6_0) rfl  k) ?_
  refine own_st (T' := s₁) (F' := (mkF m 2 #[.val (.int x0), .val (.int x1)] [(.int x1), (.int x0)])) (fun _ k => XS.iloadN X0.here hx rfl (hb hby d6_1) rfl  k) ?_
  rcases ref_cases hfv with rfl | ⟨af, rfl⟩
  ·
    obtain ⟨T1, X1, e1, st1⟩ := getS2 X0 hx hZ hown (host := "") (Or.inl (hw _ (List.mem_of_getElem? (i := 38) rfl))) Via.refl e0 S_f (g := (mkF m 2 #[.val (.int x0), .val (.int x1)] [(.int x1), (.int x0)])) rfl (hb hby d6_2)
    refine own_st (T' := T1) (F' := (mkF m 5 #[.val (.int x0), .val (.int x1)] [.null, (.int x1), (.int x0)])) (fun _ k => st1 _ k) ?_
    obtain ⟨_, _, ⟨T2, L2, k2, n2⟩, -, X2, ⟨Lc2, hQ2, l2, y2, z2⟩, st2⟩ := Jvm.LawKit.callS X1 hx (y := (⟨"jdk/internal/util/Preconditions", "checkIndex", "(IILjava/util/function/BiFunction;)I"⟩ : MethodName)) hown (mvT hZ (hw _ (List.mem_of_getElem? (i := 40) rfl))) (mvT hZ (hw _ (List.mem_of_getElem? (i := 41) rfl))) (mvT hZ (hw _ (List.mem_of_getElem? (i := 39) rfl))) (mvT hZ (hw _ (List.mem_of_getElem? (i := 42) rfl))) (by decide) (backOf (W := 0) (rm7tn l Z a0 hw [] x0 x1  h0 n0 Z0 h0i h1i) hZ (hw _ (List.mem_of_getElem? (i := 42) rfl)) (hw _ (List.mem_of_getElem? (i := 39) rfl)) (by decide) (by decide)) (g := (mkF m 5 #[.val (.int x0), .val (.int x1)] [.null, (.int x1), (.int x0)])) rfl (by rw [hml]; rfl) (argsL := [(.int x0), (.int x1), .null]) (rest := []) (lenOf own_pd0 rfl) rfl (by show 2 * 0 + _ ≤ _; exact Nat.le_of_eq rfl) (hb hby d6_5) (fun _ _ => ⟨rfl, e1, (by decide : 0 + 0 ≤ _), (by decide : 0 + 0 ≤ _)⟩)
    dsimp only [Pt.U, Pt.locs, Pt.cells, Pt.slots] at X2 l2 y2 z2 st2 hQ2
    subst l2 y2 z2
    obtain ⟨⟨r2, rfl, hr2⟩, Nq2, eq2⟩ := hQ2
    have N2 := Fr.app N0 Nq2
    refine own_st (T' := T2) (F' := (mkF m 8 #[.val (.int x0), .val (.int x1)] [(.int r2)])) (fun _ k => st2 _ k) ?_
    refine own_st (T' := T2) (F' := (mkF m 9 #[.val (.int x0), .val (.int x1)] [])) (fun _ k => XS.pop X2.here hx rfl (hb hby d6_8) rfl rfl k) ?_
    refine own_retV X2 hx hlk Bd.returns (hb hby d6_9) ?_ (by decide) (by decide)
    rw [eq2]
    refine ⟨rfl, N2, rfl⟩
  ·
    obtain ⟨T3, X3, e3, st3⟩ := getS2 X0 hx hZ hown (host := "") (Or.inl (hw _ (List.mem_of_getElem? (i := 38) rfl))) Via.refl e0 S_f (g := (mkF m 2 #[.val (.int x0), .val (.int x1)] [(.int x1), (.int x0)])) rfl (hb hby d6_2)
    refine own_st (T' := T3) (F' := (mkF m 5 #[.val (.int x0), .val (.int x1)] [(.ref af), (.int x1), (.int x0)])) (fun _ k => st3 _ k) ?_
    obtain ⟨_, _, ⟨T4, L4, k4, n4⟩, -, X4, ⟨Lc4, hQ4, l4, y4, z4⟩, st4⟩ := Jvm.LawKit.callS X3 hx (y := (⟨"jdk/internal/util/Preconditions", "checkIndex", "(IILjava/util/function/BiFunction;)I"⟩ : MethodName)) hown (mvT hZ (hw _ (List.mem_of_getElem? (i := 40) rfl))) (mvT hZ (hw _ (List.mem_of_getElem? (i := 41) rfl))) (mvT hZ (hw _ (List.mem_of_getElem? (i := 39) rfl))) (mvT hZ (hw _ (List.mem_of_getElem? (i := 42) rfl))) (by decide) (backOf (W := 0) (rm7tr l Z a0 hw [] x0 x1 af  h0 n0 Z0 h0i h1i) hZ (hw _ (List.mem_of_getElem? (i := 42) rfl)) (hw _ (List.mem_of_getElem? (i := 39) rfl)) (by decide) (by decide)) (g := (mkF m 5 #[.val (.int x0), .val (.int x1)] [(.ref af), (.int x1), (.int x0)])) rfl (by rw [hml]; rfl) (argsL := [(.int x0), (.int x1), (.ref af)]) (rest := []) (lenOf own_pd0 rfl) rfl (by show 2 * 0 + _ ≤ _; exact Nat.le_of_eq rfl) (hb hby d6_5) (fun _ _ => ⟨rfl, e3, (by decide : 0 + 0 ≤ _), (by decide : 0 + 0 ≤ _)⟩)
    dsimp only [Pt.U, Pt.locs, Pt.cells, Pt.slots] at X4 l4 y4 z4 st4 hQ4
    subst l4 y4 z4
    obtain ⟨⟨r4, rfl, hr4⟩, Nq4, eq4⟩ := hQ4
    have N4 := Fr.app N0 Nq4
    refine own_st (T' := T4) (F' := (mkF m 8 #[.val (.int x0), .val (.int x1)] [(.int r4)])) (fun _ k => st4 _ k) ?_
    refine own_st (T' := T4) (F' := (mkF m 9 #[.val (.int x0), .val (.int x1)] [])) (fun _ k => XS.pop X4.here hx rfl (hb hby d6_8) rfl rfl k) ?_
    refine own_retV X4 hx hlk Bd.returns (hb hby d6_9) ?_ (by decide) (by decide)
    rw [eq4]
    refine ⟨rfl, N4, rfl⟩
theorem own_pd1 : parseMethodDescriptor "(II)V" = some ⟨[.int, .int], none⟩ := by decide +kernel
theorem d5_0 : decode jdk_43_method_2_code 0 = .ok (.iload_n 1, 1) := by decide +kernel
theorem d5_1 : decode jdk_43_method_2_code 1 = .ok (.aload_n 0, 1) := by decide +kernel
theorem d5_2 : decode jdk_43_method_2_code 2 = .ok (.arraylength, 1) := by decide +kernel
theorem d5_3 : decode jdk_43_method_2_code 3 = .ok (.invokestatic 9, 3) := by decide +kernel
theorem d5_6 : decode jdk_43_method_2_code 6 = .ok (.aload_n 0, 1) := by decide +kernel
theorem d5_7 : decode jdk_43_method_2_code 7 = .ok (.iload_n 1, 1) := by decide +kernel
theorem d5_8 : decode jdk_43_method_2_code 8 = .ok (.baload, 1) := by decide +kernel
theorem d5_9 : decode jdk_43_method_2_code 9 = .ok (.sipush 255, 3) := by decide +kernel
theorem d5_12 : decode jdk_43_method_2_code 12 = .ok (.iand, 1) := by decide +kernel
theorem d5_13 : decode jdk_43_method_2_code 13 = .ok (.i2c, 1) := by decide +kernel
theorem d5_14 : decode jdk_43_method_2_code 14 = .ok (.ireturn, 1) := by decide +kernel
theorem own_pn5 : plainName "java/lang/StringLatin1" = true := by first | (simp [plainName, overriddenIn]; done) | decide +kernel
theorem own_ef5 (m : MethodId) (x0 : Addr) (x1 : Int32) : entryFrame m #[(.ref x0), (.int x1)] 2 = (mkF m 0 #[.val (.ref x0), .val (.int x1)] []) := by first | (simp [entryFrame, mkF, argsToLocals, Value.category]; done) | rfl
def Q5 (Z : State) (x0 : Addr) (x1 : Int32) (kb : ClassId) (n : Int32) (vs : List Value) (a : Int32) (fv : Value) (h0 : Heap) (n0 : Nat) (v : Option Value) (h : Heap) (L : List Loc) : Prop := (∃ z : Int32, v = some (.int z) ∧ (z = own_ch a)) ∧ Fr n0 L ∧ h = h0
set_option maxRecDepth 65536 in
set_option maxHeartbeats 40000000 in
theorem rm5 (l : Launch) (Z : State) (a0 : Array Value) (hw : ∀ d ∈ tables_1, d.before a0 Z = true) (ws : List Jvm.Cond) (x0 : Addr) (x1 : Int32) (kb : ClassId) (n : Int32) (vs : List Value) (a : Int32) (fv : Value) (h0 : Heap) (n0 : Nat) (Z0 : n0 ≤ h0.size) (V_b : Arv Z h0 x0 kb .byte n vs (.int (0 : Int32))) (S_f : Sta Z h0 "jdk/internal/util/Preconditions" "SIOOBE_FORMATTER" "Ljava/util/function/BiFunction;" fv) (hfv : fv.isRef = true) (hin : ¬ x1 < 0 ∧ x1 < n) (hat : vs.getD (x1).toNatClampNeg (.int (0 : Int32)) = .int a) :
    MetFree l (⟨"java/lang/StringLatin1", "charAt", "([BI)C"⟩ : MethodName) (head1 (Jvm.Cond.code (⟨"java/lang/StringLatin1", "charAt", "([BI)C"⟩ : MethodName) jdk_43_method_2_code 2 (some .char) :: ws) ({ frames := 2, cells := 0, slots := 0, locals := 27 } : Room)) (fun a U => a = #[(.ref x0), (.int x1)] ∧ Z.Warmed39 U.vm ∧ U.heap = h0) (fun _ _ _ _ _ => True) (fun _ U oc U' => ∃ v L, oc = .returned v ∧ Q5 Z x0 x1 kb n vs a fv h0 n0 v U'.heap L ∧ FrameEnd U oc U' L ({ frames := 2, cells := 0, slots := 0, locals := 27 } : Room).cells ({ frames := 2, cells := 0, slots := 0, locals := 27 } : Room).slots) := by
  refine MetFree.of_bodySF (plainFor_of_name own_pn5) hisR ?_
  intro p e s m args below meth c s₁ Bd hml0 hP hK
  obtain ⟨rfl, hZ, hh⟩ := hP
  have hx := Bd.exec
  have hby := Bd.bytes
  have hlk : meth.locks = false := BodyLoose.notSynchronized Bd
  have hml : c.maxLocals = 2 := hml0
  have hown : s.vm.findClass "java/lang/StringLatin1" = some m.cls := findClass_of_methodNamed Bd.named
  have hnm := (name_of_methodNamed Bd.named Bd.method).1
  have X0 : Stand p l e ({ frames := 2, cells := 0, slots := 0, locals := 27 } : Room) s m #[(.ref x0), (.int x1)] below meth c s₁ [] 0 0 := Stand.of_body Bd
  have e0 : s₁.heap = h0 := by rw [← hh, Bd.state]; rfl
  have N0 := Fr.nil n0
  refine own_enter (own_ef5 m x0 x1) ?_
  show own_Go p e below (own_E s (Q5 Z x0 x1 kb n vs a fv h0 n0) ({ frames := 2, cells := 0, slots := 0, locals := 27 } : Room).cells ({ frames := 2, cells := 0, slots := 0, locals := 27 } : Room).slots) s₁ (mkF m 0 #[.val (.ref x0), .val (.int x1)] [])
  refine own_st (T' := s₁) (F' := (mkF m 1 #[.val (.ref x0), .val (.int x1)] [(.int x1)])) (fun _ k => XS.iloadN X0.here hx rfl (hb hby d5_0) rfl  k) ?_
  refine own_st (T' := s₁) (F' := (mkF m 2 #[.val (.ref x0), .val (.int x1)] [(.ref x0), (.int x1)])) (fun _ k => XS.aloadN X0.here hx rfl (hb hby d5_1) rfl rfl k) ?_
  obtain ⟨cl1, Ar1, Aq1, As1, Am1, Ah1, Au1⟩ := id V_b
  refine own_st (T' := s₁) (F' := (mkF m 3 #[.val (.ref x0), .val (.int x1)] [(.int n), (.int x1)])) (fun _ k => X0.arraylength hx (cell := cl1) (by rw [e0]; exact Ar1.1) (State.isArrayOf_alike hZ.alike Ar1.2.1) (g := (mkF m 2 #[.val (.ref x0), .val (.int x1)] [(.ref x0), (.int x1)])) rfl (rest := [(.int x1)]) rfl (hb hby d5_2) _ (by rw [len_of As1 Am1]; exact k)) ?_
  obtain ⟨_, _, ⟨T2, L2, k2, n2⟩, -, X2, ⟨Lc2, hQ2, l2, y2, z2⟩, st2⟩ := Jvm.LawKit.callS X0 hx (y := (⟨"java/lang/String", "checkIndex", "(II)V"⟩ : MethodName)) hown (mvT hZ (hw _ (List.mem_of_getElem? (i := 35) rfl))) (mvT hZ (hw _ (List.mem_of_getElem? (i := 36) rfl))) (mvT hZ (hw _ (List.mem_of_getElem? (i := 11) rfl))) (mvT hZ (hw _ (List.mem_of_getElem? (i := 37) rfl))) (by decide) (backOf (W := 0) (rm6 l Z a0 hw [] x1 n fv h0 n0 Z0 hin.1 hin.2 S_f hfv) hZ (hw _ (List.mem_of_getElem? (i := 37) rfl)) (hw _ (List.mem_of_getElem? (i := 11) rfl)) (by decide) (by decide)) (g := (mkF m 3 #[.val (.ref x0), .val (.int x1)] [(.int n), (.int x1)])) rfl (by rw [hml]; rfl) (argsL := [(.int x1), (.int n)]) (rest := []) (lenOf own_pd1 rfl) rfl (by show 2 * 0 + _ ≤ _; exact Nat.le_of_eq rfl) (hb hby d5_3) (fun _ _ => ⟨rfl, e0, (by decide : 0 + 0 ≤ _), (by decide : 0 + 0 ≤ _)⟩)
  dsimp only [Pt.U, Pt.locs, Pt.cells, Pt.slots] at X2 l2 y2 z2 st2 hQ2
  subst l2 y2 z2
  obtain ⟨rfl, Nq2, eq2⟩ := hQ2
  have N2 := Fr.app N0 Nq2
  refine own_st (T' := T2) (F' := (mkF m 6 #[.val (.ref x0), .val (.int x1)] [])) (fun _ k => st2 _ k) ?_
  refine own_st (T' := T2) (F' := (mkF m 7 #[.val (.ref x0), .val (.int x1)] [(.ref x0)])) (fun _ k => XS.aloadN X2.here hx rfl (hb hby d5_6) rfl rfl k) ?_
  refine own_st (T' := T2) (F' := (mkF m 8 #[.val (.ref x0), .val (.int x1)] [(.int x1), (.ref x0)])) (fun _ k => XS.iloadN X2.here hx rfl (hb hby d5_7) rfl  k) ?_
  obtain ⟨cl3, Ar3, Aq3, As3, Am3, Ah3, Au3⟩ := id V_b
  have hin3 : ¬ (x1 < 0 ∨ cl3.slots.size ≤ (x1).toNatClampNeg) := inb_of As3 (hin)
  have hat3 : cl3.slots[(x1).toNatClampNeg]? = some (.int a) := Ah3.at hin3 (hat)
  refine own_st (T' := T2) (F' := (mkF m 9 #[.val (.ref x0), .val (.int x1)] [(.int a)])) (fun _ k => X2.baloadBytes hx (j := x1) (v := (.int a)) (by rw [eq2]; exact Ar3.1) (State.isArrayOf_alike hZ.alike Ar3.2.1) Ar3.2.2 hin3 hat3 (g := (mkF m 8 #[.val (.ref x0), .val (.int x1)] [(.int x1), (.ref x0)])) rfl rfl (hb hby d5_8) _ k) ?_
  refine own_st (T' := T2) (F' := (mkF m 12 #[.val (.ref x0), .val (.int x1)] [(.int (255 : Int32)), (.int a)])) (fun _ k => XS.sipush X2.here hx rfl (hb hby d5_9) k) ?_
  refine own_st (T' := T2) (F' := (mkF m 13 #[.val (.ref x0), .val (.int x1)] [(.int (a &&& (255 : Int32)))])) (fun _ k => XS.iand X2.here hx rfl (hb hby d5_12) rfl k) ?_
  refine own_st (T' := T2) (F' := (mkF m 14 #[.val (.ref x0), .val (.int x1)] [(.int ((a &&& (255 : Int32)).toUInt32.toUInt16.toUInt32.toInt32))])) (fun _ k => XS.i2c X2.here hx rfl (hb hby d5_13) rfl k) ?_
  refine own_retN X2 hx hlk (t := .char) Bd.returns (by simp) (hb hby d5_14) ?_ (by decide) (by decide)
  rw [eq2]
  refine ⟨⟨_, rfl, ?_⟩, N2, rfl⟩
  rfl
theorem d4_0 : decode jdk_42_method_154_code 0 = .ok (.getstatic 38, 3) := by decide +kernel
theorem d4_3 : decode jdk_42_method_154_code 3 = .ok (.ifCond .eq 14, 3) := by decide +kernel
theorem d4_6 : decode jdk_42_method_154_code 6 = .ok (.aload_n 0, 1) := by decide +kernel
theorem d4_7 : decode jdk_42_method_154_code 7 = .ok (.getfield 15, 3) := by decide +kernel
theorem d4_10 : decode jdk_42_method_154_code 10 = .ok (.ifCond .ne 7, 3) := by decide +kernel
theorem d4_13 : decode jdk_42_method_154_code 13 = .ok (.iconst 1, 1) := by decide +kernel
theorem d4_14 : decode jdk_42_method_154_code 14 = .ok (.goto 4, 3) := by decide +kernel
theorem d4_17 : decode jdk_42_method_154_code 17 = .ok (.iconst 0, 1) := by decide +kernel
theorem d4_18 : decode jdk_42_method_154_code 18 = .ok (.ireturn, 1) := by decide +kernel
theorem own_pn4 : plainName "java/lang/String" = true := by first | (simp [plainName, overriddenIn]; done) | decide +kernel
theorem own_ef4 (m : MethodId) (o : Addr) : entryFrame m #[(.ref o)] 1 = (mkF m 0 #[.val (.ref o)] []) := by first | (simp [entryFrame, mkF, argsToLocals, Value.category]; done) | rfl
def Q4 (Z : State) (o : Addr) (cs : Int32) (h0 : Heap) (n0 : Nat) (v : Option Value) (h : Heap) (L : List Loc) : Prop := (∃ z : Int32, v = some (.int z) ∧ (z = 1)) ∧ Fr n0 L ∧ h = h0
set_option maxRecDepth 65536 in
set_option maxHeartbeats 40000000 in
theorem rm4 (l : Launch) (Z : State) (a0 : Array Value) (hw : ∀ d ∈ tables_1, d.before a0 Z = true) (ws : List Jvm.Cond) (o : Addr) (cs : Int32) (h0 : Heap) (n0 : Nat) (Z0 : n0 ≤ h0.size) (S_cs : Sta Z h0 "java/lang/String" "COMPACT_STRINGS" "Z" (.int cs)) (hcs : ¬ (cs = 0)) (hFc : Fld Z h0 o "java/lang/String" "coder" "B" (.int (0 : Int32))) :
    MetFree l (⟨"java/lang/String", "isLatin1", "()Z"⟩ : MethodName) (head1 (Jvm.Cond.code (⟨"java/lang/String", "isLatin1", "()Z"⟩ : MethodName) jdk_42_method_154_code 1 (some .boolean) :: ws) ({ frames := 0, cells := 0, slots := 0, locals := 0 } : Room)) (fun a U => a = #[(.ref o)] ∧ Z.Warmed39 U.vm ∧ U.heap = h0) (fun _ _ _ _ _ => True) (fun _ U oc U' => ∃ v L, oc = .returned v ∧ Q4 Z o cs h0 n0 v U'.heap L ∧ FrameEnd U oc U' L ({ frames := 0, cells := 0, slots := 0, locals := 0 } : Room).cells ({ frames := 0, cells := 0, slots := 0, locals := 0 } : Room).slots) := by
  refine MetFree.of_bodySF (plainFor_of_name own_pn4) hisR ?_
  intro p e s m args below meth c s₁ Bd hml0 hP hK
  obtain ⟨rfl, hZ, hh⟩ := hP
  have hx := Bd.exec
  have hby := Bd.bytes
  have hlk : meth.locks = false := BodyLoose.notSynchronized Bd
  have hml : c.maxLocals = 1 := hml0
  have hown : s.vm.findClass "java/lang/String" = some m.cls := findClass_of_methodNamed Bd.named
  have hnm := (name_of_methodNamed Bd.named Bd.method).1
  have X0 : Stand p l e ({ frames := 0, cells := 0, slots := 0, locals := 0 } : Room) s m #[(.ref o)] below meth c s₁ [] 0 0 := Stand.of_body Bd
  have e0 : s₁.heap = h0 := by rw [← hh, Bd.state]; rfl
  have N0 := Fr.nil n0
  refine own_enter (own_ef4 m o) ?_
  show own_Go p e below (own_E s (Q4 Z o cs h0 n0) ({ frames := 0, cells := 0, slots := 0, locals := 0 } : Room).cells ({ frames := 0, cells := 0, slots := 0, locals := 0 } : Room).slots) s₁ (mkF m 0 #[.val (.ref o)] [])
  obtain ⟨T1, X1, e1, st1⟩ := getS2 X0 hx hZ hown (host := "") (Or.inl (hw _ (List.mem_of_getElem? (i := 28) rfl))) Via.refl e0 S_cs (g := (mkF m 0 #[.val (.ref o)] [])) rfl (hb hby d4_0)
  refine own_st (T' := T1) (F' := (mkF m 3 #[.val (.ref o)] [(.int cs)])) (fun _ k => st1 _ k) ?_
  have J18_2 : ∀ (j18_1 : Int32) (TJ2 : State) (LJ2 : List Loc) (XJ2 : Stand p l e ({ frames := 0, cells := 0, slots := 0, locals := 0 } : Room) s m #[(.ref o)] below meth c TJ2 LJ2 0 0) (NJ2 : Fr n0 LJ2) (eJ2 : TJ2.heap = h0), (((cs = (0 : Int32)) ∧ j18_1 = (0 : Int32)) ∨ ((¬ (cs = (0 : Int32))) ∧ j18_1 = (1 : Int32))) → own_Go p e below (own_E s (Q4 Z o cs h0 n0) ({ frames := 0, cells := 0, slots := 0, locals := 0 } : Room).cells ({ frames := 0, cells := 0, slots := 0, locals := 0 } : Room).slots) TJ2 (mkF m 18 #[.val (.ref o)] [(.int j18_1)]) := by
    intro j18_1 TJ2 LJ2 XJ2 NJ2 eJ2 hJ18_2
    refine own_retN XJ2 hx hlk (t := .boolean) Bd.returns (by simp) (hb hby d4_18) ?_ (by decide) (by decide)
    rw [eJ2]
    refine ⟨⟨_, rfl, ?_⟩, NJ2, rfl⟩
    rcases hJ18_2 with ⟨h, rfl⟩ | ⟨h, rfl⟩
    · exact absurd h hcs
    · rfl
  refine own_ifc X1 hx (pc' := 17) (pc2 := 6) (hb hby d4_3) (by decide) (by decide) rfl (fun (hc3 : cs = (0 : Int32)) => ?_) (fun (hc3 : ¬ (cs = (0 : Int32))) => ?_)
  ·
    refine own_st (T' := T1) (F' := (mkF m 18 #[.val (.ref o)] [(.int (0 : Int32))])) (fun _ k => XS.iconst X1.here hx rfl (hb hby d4_17) k) ?_
    exact J18_2 (0 : Int32) T1 _ X1 N0 e1 (Or.inl (⟨hc3, rfl⟩))
  ·
    refine own_st (T' := T1) (F' := (mkF m 7 #[.val (.ref o)] [(.ref o)])) (fun _ k => XS.aloadN X1.here hx rfl (hb hby d4_6) rfl rfl k) ?_
    obtain ⟨T3, X3, e3, st3⟩ := getF X1 hx hZ hown (host := "") (Or.inl (hw _ (List.mem_of_getElem? (i := 29) rfl))) Via.refl e1 hFc (g := (mkF m 7 #[.val (.ref o)] [(.ref o)])) rfl rfl (hb hby d4_7)
    refine own_st (T' := T3) (F' := (mkF m 10 #[.val (.ref o)] [(.int (0 : Int32))])) (fun _ k => st3 _ k) ?_
    refine own_ifc X3 hx (pc' := 17) (pc2 := 13) (hb hby d4_10) (by decide) (by decide) rfl (fun (hc10 : ¬ ((0 : Int32) = (0 : Int32))) => ?_) (fun (hc10 : (0 : Int32) = (0 : Int32)) => ?_)
    · exact absurd hc10 (by decide)
    refine own_st (T' := T3) (F' := (mkF m 14 #[.val (.ref o)] [(.int (1 : Int32))])) (fun _ k => XS.iconst X3.here hx rfl (hb hby d4_13) k) ?_
    refine own_st (T' := T3) (F' := (mkF m 18 #[.val (.ref o)] [(.int (1 : Int32))])) (fun _ k => XS.goto X3.here hx rfl (pc0 := 14) (pc' := 18) rfl (hb hby d4_14) (by decide) (by decide) k) ?_
    exact J18_2 (1 : Int32) T3 _ X3 N0 e3 (Or.inr (⟨hc3, rfl⟩))
theorem own_pd2 : parseMethodDescriptor "()Z" = some ⟨[], some .boolean⟩ := by decide +kernel
theorem own_pd3 : parseMethodDescriptor "([BI)C" = some ⟨[(.array .byte), .int], some .char⟩ := by decide +kernel
theorem d3_0 : decode jdk_42_method_56_code 0 = .ok (.aload_n 0, 1) := by decide +kernel
theorem d3_1 : decode jdk_42_method_56_code 1 = .ok (.invokevirtual 492, 3) := by decide +kernel
theorem d3_4 : decode jdk_42_method_56_code 4 = .ok (.ifCond .eq 12, 3) := by decide +kernel
theorem d3_7 : decode jdk_42_method_56_code 7 = .ok (.aload_n 0, 1) := by decide +kernel
theorem d3_8 : decode jdk_42_method_56_code 8 = .ok (.getfield 9, 3) := by decide +kernel
theorem d3_11 : decode jdk_42_method_56_code 11 = .ok (.iload_n 1, 1) := by decide +kernel
theorem d3_12 : decode jdk_42_method_56_code 12 = .ok (.invokestatic 495, 3) := by decide +kernel
theorem d3_15 : decode jdk_42_method_56_code 15 = .ok (.ireturn, 1) := by decide +kernel
theorem own_pn3 : plainName "java/lang/String" = true := by first | (simp [plainName, overriddenIn]; done) | decide +kernel
theorem own_ef3 (m : MethodId) (o : Addr) (x0 : Int32) : entryFrame m #[(.ref o), (.int x0)] 2 = (mkF m 0 #[.val (.ref o), .val (.int x0)] []) := by first | (simp [entryFrame, mkF, argsToLocals, Value.category]; done) | rfl
def Q3 (Z : State) (o : Addr) (x0 : Int32) (cs : Int32) (sb : Addr) (kb : ClassId) (n : Int32) (vs : List Value) (a : Int32) (fv : Value) (h0 : Heap) (n0 : Nat) (v : Option Value) (h : Heap) (L : List Loc) : Prop := (∃ z : Int32, v = some (.int z) ∧ (z = own_ch a)) ∧ Fr n0 L ∧ h = h0
set_option maxRecDepth 65536 in
set_option maxHeartbeats 40000000 in
theorem rm3 (l : Launch) (Z : State) (a0 : Array Value) (hw : ∀ d ∈ tables_1, d.before a0 Z = true) (ws : List Jvm.Cond) (o : Addr) (x0 : Int32) (cs : Int32) (sb : Addr) (kb : ClassId) (n : Int32) (vs : List Value) (a : Int32) (fv : Value) (h0 : Heap) (n0 : Nat) (Z0 : n0 ≤ h0.size) (S_cs : Sta Z h0 "java/lang/String" "COMPACT_STRINGS" "Z" (.int cs)) (hcs : ¬ (cs = 0)) (hFc : Fld Z h0 o "java/lang/String" "coder" "B" (.int (0 : Int32))) (hFv : Fld Z h0 o "java/lang/String" "value" "[B" (.ref sb)) (hEo : Exa Z h0 o "java/lang/String") (V_b : Arv Z h0 sb kb .byte n vs (.int (0 : Int32))) (S_f : Sta Z h0 "jdk/internal/util/Preconditions" "SIOOBE_FORMATTER" "Ljava/util/function/BiFunction;" fv) (hfv : fv.isRef = true) (hin : ¬ x0 < 0 ∧ x0 < n) (hat : vs.getD (x0).toNatClampNeg (.int (0 : Int32)) = .int a) :
    MetFree l (⟨"java/lang/String", "charAt", "(I)C"⟩ : MethodName) (head1 (Jvm.Cond.code (⟨"java/lang/String", "charAt", "(I)C"⟩ : MethodName) jdk_42_method_56_code 2 (some .char) :: ws) ({ frames := 3, cells := 0, slots := 0, locals := 40 } : Room)) (fun a U => a = #[(.ref o), (.int x0)] ∧ Z.Warmed39 U.vm ∧ U.heap = h0) (fun _ _ _ _ _ => True) (fun _ U oc U' => ∃ v L, oc = .returned v ∧ Q3 Z o x0 cs sb kb n vs a fv h0 n0 v U'.heap L ∧ FrameEnd U oc U' L ({ frames := 3, cells := 0, slots := 0, locals := 40 } : Room).cells ({ frames := 3, cells := 0, slots := 0, locals := 40 } : Room).slots) := by
  refine MetFree.of_bodySF (plainFor_of_name own_pn3) hisR ?_
  intro p e s m args below meth c s₁ Bd hml0 hP hK
  obtain ⟨rfl, hZ, hh⟩ := hP
  have hx := Bd.exec
  have hby := Bd.bytes
  have hlk : meth.locks = false := BodyLoose.notSynchronized Bd
  have hml : c.maxLocals = 2 := hml0
  have hown : s.vm.findClass "java/lang/String" = some m.cls := findClass_of_methodNamed Bd.named
  have hnm := (name_of_methodNamed Bd.named Bd.method).1
  have X0 : Stand p l e ({ frames := 3, cells := 0, slots := 0, locals := 40 } : Room) s m #[(.ref o), (.int x0)] below meth c s₁ [] 0 0 := Stand.of_body Bd
  have e0 : s₁.heap = h0 := by rw [← hh, Bd.state]; rfl
  have N0 := Fr.nil n0
  refine own_enter (own_ef3 m o x0) ?_
  show own_Go p e below (own_E s (Q3 Z o x0 cs sb kb n vs a fv h0 n0) ({ frames := 3, cells := 0, slots := 0, locals := 40 } : Room).cells ({ frames := 3, cells := 0, slots := 0, locals := 40 } : Room).slots) s₁ (mkF m 0 #[.val (.ref o), .val (.int x0)] [])
  refine own_st (T' := s₁) (F' := (mkF m 1 #[.val (.ref o), .val (.int x0)] [(.ref o)])) (fun _ k => XS.aloadN X0.here hx rfl (hb hby d3_0) rfl rfl k) ?_
  obtain ⟨cq1, kq1, q1a, q1b, q1c⟩ := isOf hZ e0 hEo
  obtain ⟨_, _, ⟨T1, L1, k1, n1⟩, -, X1, ⟨Lc1, hQ1, l1, y1, z1⟩, st1⟩ := X0.virtualBack hx (y := (⟨"java/lang/String", "isLatin1", "()Z"⟩ : MethodName)) (z := (⟨"java/lang/String", "isLatin1", "()Z"⟩ : MethodName)) hown (mvT hZ (hw _ (List.mem_of_getElem? (i := 23) rfl))) (mvT hZ (hw _ (List.mem_of_getElem? (i := 24) rfl))) (notFace_of_selects (args := #[]) (mvT hZ (hw _ (List.mem_of_getElem? (i := 26) rfl)))) (mvT hZ (hw _ (List.mem_of_getElem? (i := 26) rfl))) (mvT hZ (hw _ (List.mem_of_getElem? (i := 25) rfl))) (by decide) (backOf (W := 0) (rm4 l Z a0 hw [] o cs h0 n0 Z0 S_cs hcs hFc) hZ (hw _ (List.mem_of_getElem? (i := 27) rfl)) (hw _ (List.mem_of_getElem? (i := 11) rfl)) (by decide) (by decide)) q1a q1c (g := (mkF m 1 #[.val (.ref o), .val (.int x0)] [(.ref o)])) rfl (by rw [hml]; rfl) (Steps.refl _) (argsL := []) (rest := []) (lenOf own_pd2 rfl) rfl (by show 2 * 0 + _ ≤ _; exact Nat.le_of_eq rfl) (hb hby d3_1) (fun _ _ => ⟨rfl, e0, (by decide : 0 + 0 ≤ _), (by decide : 0 + 0 ≤ _)⟩)
  dsimp only [Pt.U, Pt.locs, Pt.cells, Pt.slots] at X1 l1 y1 z1 st1 hQ1
  subst l1 y1 z1
  obtain ⟨⟨r1, rfl, hr1⟩, Nq1, eq1⟩ := hQ1
  have N1 := Fr.app N0 Nq1
  refine own_tr (T' := T1) (F' := (mkF m 4 #[.val (.ref o), .val (.int x0)] [(.int r1)])) st1 ?_
  refine own_ifc X1 hx (pc' := 16) (pc2 := 7) (hb hby d3_4) (by decide) (by decide) rfl (fun (hc4 : r1 = (0 : Int32)) => ?_) (fun (hc4 : ¬ (r1 = (0 : Int32))) => ?_)
  ·
    exact absurd (hr1.symm.trans hc4) (by decide)
  ·
    refine own_st (T' := T1) (F' := (mkF m 8 #[.val (.ref o), .val (.int x0)] [(.ref o)])) (fun _ k => XS.aloadN X1.here hx rfl (hb hby d3_7) rfl rfl k) ?_
    obtain ⟨T2, X2, e2, st2⟩ := getF X1 hx hZ hown (host := "") (Or.inl (hw _ (List.mem_of_getElem? (i := 30) rfl))) Via.refl eq1 hFv (g := (mkF m 8 #[.val (.ref o), .val (.int x0)] [(.ref o)])) rfl rfl (hb hby d3_8)
    refine own_st (T' := T2) (F' := (mkF m 11 #[.val (.ref o), .val (.int x0)] [(.ref sb)])) (fun _ k => st2 _ k) ?_
    refine own_st (T' := T2) (F' := (mkF m 12 #[.val (.ref o), .val (.int x0)] [(.int x0), (.ref sb)])) (fun _ k => XS.iloadN X2.here hx rfl (hb hby d3_11) rfl  k) ?_
    obtain ⟨_, _, ⟨T3, L3, k3, n3⟩, -, X3, ⟨Lc3, hQ3, l3, y3, z3⟩, st3⟩ := Jvm.LawKit.callS X2 hx (y := (⟨"java/lang/StringLatin1", "charAt", "([BI)C"⟩ : MethodName)) hown (mvT hZ (hw _ (List.mem_of_getElem? (i := 31) rfl))) (mvT hZ (hw _ (List.mem_of_getElem? (i := 32) rfl))) (mvT hZ (hw _ (List.mem_of_getElem? (i := 33) rfl))) (mvT hZ (hw _ (List.mem_of_getElem? (i := 34) rfl))) (by decide) (backOf (W := 0) (rm5 l Z a0 hw [] sb x0 kb n vs a fv h0 n0 Z0 V_b S_f hfv hin hat) hZ (hw _ (List.mem_of_getElem? (i := 34) rfl)) (hw _ (List.mem_of_getElem? (i := 33) rfl)) (by decide) (by decide)) (g := (mkF m 12 #[.val (.ref o), .val (.int x0)] [(.int x0), (.ref sb)])) rfl (by rw [hml]; rfl) (argsL := [(.ref sb), (.int x0)]) (rest := []) (lenOf own_pd3 rfl) rfl (by show 2 * 0 + _ ≤ _; exact Nat.le_of_eq rfl) (hb hby d3_12) (fun _ _ => ⟨rfl, e2, (by decide : 0 + 0 ≤ _), (by decide : 0 + 0 ≤ _)⟩)
    dsimp only [Pt.U, Pt.locs, Pt.cells, Pt.slots] at X3 l3 y3 z3 st3 hQ3
    subst l3 y3 z3
    obtain ⟨⟨r3, rfl, hr3⟩, Nq3, eq3⟩ := hQ3
    have N3 := Fr.app N1 Nq3
    refine own_st (T' := T3) (F' := (mkF m 15 #[.val (.ref o), .val (.int x0)] [(.int r3)])) (fun _ k => st3 _ k) ?_
    refine own_retN X3 hx hlk (t := .char) Bd.returns (by simp) (hb hby d3_15) ?_ (by decide) (by decide)
    rw [eq3]
    refine ⟨⟨_, rfl, ?_⟩, N3, rfl⟩
    rw [hr3]; exact own_chn a
theorem own_pd4 : parseMethodDescriptor "(I)C" = some ⟨[.int], some .char⟩ := by decide +kernel
theorem d2_0 : decode method_3_code 0 = .ok (.iload_n 0, 1) := by decide +kernel
theorem d2_1 : decode method_3_code 1 = .ok (.ifCond .lt 9, 3) := by decide +kernel
theorem d2_4 : decode method_3_code 4 = .ok (.iload_n 0, 1) := by decide +kernel
theorem d2_5 : decode method_3_code 5 = .ok (.bipush 64, 2) := by decide +kernel
theorem d2_7 : decode method_3_code 7 = .ok (.if_icmp .lt 7, 3) := by decide +kernel
theorem d2_10 : decode method_3_code 10 = .ok (.getstatic 18, 3) := by decide +kernel
theorem d2_13 : decode method_3_code 13 = .ok (.areturn, 1) := by decide +kernel
theorem d2_14 : decode method_3_code 14 = .ok (.ldc 22, 2) := by decide +kernel
theorem d2_16 : decode method_3_code 16 = .ok (.iload_n 0, 1) := by decide +kernel
theorem d2_17 : decode method_3_code 17 = .ok (.invokevirtual 24, 3) := by decide +kernel
theorem d2_20 : decode method_3_code 20 = .ok (.istore_n 1, 1) := by decide +kernel
theorem d2_21 : decode method_3_code 21 = .ok (.iload_n 1, 1) := by decide +kernel
theorem d2_22 : decode method_3_code 22 = .ok (.bipush 68, 2) := by decide +kernel
theorem d2_24 : decode method_3_code 24 = .ok (.if_icmp .ne 7, 3) := by decide +kernel
theorem d2_27 : decode method_3_code 27 = .ok (.getstatic 30, 3) := by decide +kernel
theorem d2_30 : decode method_3_code 30 = .ok (.areturn, 1) := by decide +kernel
theorem d2_31 : decode method_3_code 31 = .ok (.iload_n 1, 1) := by decide +kernel
theorem d2_32 : decode method_3_code 32 = .ok (.bipush 84, 2) := by decide +kernel
theorem d2_34 : decode method_3_code 34 = .ok (.if_icmp .ne 7, 3) := by decide +kernel
theorem d2_37 : decode method_3_code 37 = .ok (.getstatic 33, 3) := by decide +kernel
theorem d2_40 : decode method_3_code 40 = .ok (.areturn, 1) := by decide +kernel
theorem d2_41 : decode method_3_code 41 = .ok (.iload_n 1, 1) := by decide +kernel
theorem d2_42 : decode method_3_code 42 = .ok (.bipush 88, 2) := by decide +kernel
theorem d2_44 : decode method_3_code 44 = .ok (.if_icmp .ne 7, 3) := by decide +kernel
theorem d2_47 : decode method_3_code 47 = .ok (.getstatic 36, 3) := by decide +kernel
theorem d2_50 : decode method_3_code 50 = .ok (.areturn, 1) := by decide +kernel
theorem d2_51 : decode method_3_code 51 = .ok (.iload_n 1, 1) := by decide +kernel
theorem d2_52 : decode method_3_code 52 = .ok (.bipush 69, 2) := by decide +kernel
theorem d2_54 : decode method_3_code 54 = .ok (.if_icmp .ne 7, 3) := by decide +kernel
theorem d2_57 : decode method_3_code 57 = .ok (.getstatic 39, 3) := by decide +kernel
theorem d2_60 : decode method_3_code 60 = .ok (.areturn, 1) := by decide +kernel
theorem d2_61 : decode method_3_code 61 = .ok (.getstatic 18, 3) := by decide +kernel
theorem d2_64 : decode method_3_code 64 = .ok (.areturn, 1) := by decide +kernel
theorem own_pn2 : plainName "com/example/fieldloom/fieldloom/CellFormatBuiltInPinLaw" = true := by first | (simp [plainName, overriddenIn]; done) | decide +kernel
theorem own_ef2 (m : MethodId) (x0 : Int32) : entryFrame m #[(.int x0)] 2 = (mkF m 0 #[.val (.int x0), .unset] []) := by first | (simp [entryFrame, mkF, argsToLocals, Value.category]; done) | rfl
def Q2 (Z : State) (x0 : Int32) (fN : Addr) (fD : Addr) (fT : Addr) (fX : Addr) (fE : Addr) (cs : Int32) (fv : Value) (h0 : Heap) (n0 : Nat) (v : Option Value) (h : Heap) (L : List Loc) : Prop := (∃ z : Addr, v = some (.ref z) ∧ (own_is fN fD fT fX fE x0 z)) ∧ Fr n0 L ∧ Keep h0 h []
set_option maxRecDepth 65536 in
set_option maxHeartbeats 40000000 in
theorem rm2 (l : Launch) (Z : State) (a0 : Array Value) (hw : ∀ d ∈ tables_1, d.before a0 Z = true) (ws : List Jvm.Cond) (x0 : Int32) (fN : Addr) (fD : Addr) (fT : Addr) (fX : Addr) (fE : Addr) (cs : Int32) (fv : Value) (h0 : Heap) (n0 : Nat) (Z0 : n0 ≤ h0.size) (S_fN : Sta Z h0 "com/example/fieldloom/fieldloom/CellFormat" "NUMBER" "Lcom/example/fieldloom/fieldloom/CellFormat;" (.ref fN)) (S_fD : Sta Z h0 "com/example/fieldloom/fieldloom/CellFormat" "DATE" "Lcom/example/fieldloom/fieldloom/CellFormat;" (.ref fD)) (S_fT : Sta Z h0 "com/example/fieldloom/fieldloom/CellFormat" "TIME" "Lcom/example/fieldloom/fieldloom/CellFormat;" (.ref fT)) (S_fX : Sta Z h0 "com/example/fieldloom/fieldloom/CellFormat" "DATE_TIME" "Lcom/example/fieldloom/fieldloom/CellFormat;" (.ref fX)) (S_fE : Sta Z h0 "com/example/fieldloom/fieldloom/CellFormat" "ELAPSED" "Lcom/example/fieldloom/fieldloom/CellFormat;" (.ref fE)) (S_cs : Sta Z h0 "java/lang/String" "COMPACT_STRINGS" "Z" (.int cs)) (hcs : ¬ (cs = 0)) (S_f : Sta Z h0 "jdk/internal/util/Preconditions" "SIOOBE_FORMATTER" "Ljava/util/function/BiFunction;" fv) (hfv : fv.isRef = true) :
    MetFree l (⟨"com/example/fieldloom/fieldloom/CellFormatBuiltInPinLaw", "expected", "(I)Lcom/example/fieldloom/fieldloom/CellFormat;"⟩ : MethodName) (head1 (Jvm.Cond.code (⟨"com/example/fieldloom/fieldloom/CellFormatBuiltInPinLaw", "expected", "(I)Lcom/example/fieldloom/fieldloom/CellFormat;"⟩ : MethodName) method_3_code 2 (some (.object "com/example/fieldloom/fieldloom/CellFormat")) :: ws) ({ frames := 4, cells := 2, slots := 260, locals := 53 } : Room)) (fun a U => a = #[(.int x0)] ∧ Z.Warmed39 U.vm ∧ U.heap = h0 ∧ CHv Z own_EL U.vm h0) (fun _ _ _ _ _ => True) (fun _ U oc U' => ∃ v L, oc = .returned v ∧ Q2 Z x0 fN fD fT fX fE cs fv h0 n0 v U'.heap L ∧ CHr Z own_EL U.vm U.heap U'.vm U'.heap ∧ ReturnedEndW U oc U' L ({ frames := 4, cells := 2, slots := 260, locals := 53 } : Room).cells ({ frames := 4, cells := 2, slots := 260, locals := 53 } : Room).slots) := by
  refine MetFree.of_bodySF (plainFor_of_name own_pn2) hisR ?_
  intro p e s m args below meth c s₁ Bd hml0 hP hK
  obtain ⟨rfl, hZ, hh, hCH0⟩ := hP
  have hx := Bd.exec
  have hby := Bd.bytes
  have hlk : meth.locks = false := BodyLoose.notSynchronized Bd
  have hml : c.maxLocals = 2 := hml0
  have hown : s.vm.findClass "com/example/fieldloom/fieldloom/CellFormatBuiltInPinLaw" = some m.cls := findClass_of_methodNamed Bd.named
  have hnm := (name_of_methodNamed Bd.named Bd.method).1
  have X0 : Stand p l e ({ frames := 4, cells := 2, slots := 260, locals := 53 } : Room) (s.setVm s.vm) m #[(.int x0)] below meth c s₁ [] 0 0 := Stand.of_body Bd
  have e0 : s₁.heap = h0 := by rw [← hh, Bd.state]; rfl
  have N0 := Fr.nil n0
  have hS0 : s.Since s.vm 0 := (State.WarmedH.refl s).since 0
  have hk0 : 0 ≤ h0.size := Nat.zero_le _
  have C0 : CHr Z own_EL s.vm s.heap s.vm h0 := by rw [hh]; exact CHr.refl hCH0
  have hEL : EW Z a0 own_EL := own_hEL hw
  have wS := own_wS hw
  refine own_enter (own_ef2 m x0) ?_
  show own_Go p e below (own_ES s Z own_EL (Q2 Z x0 fN fD fT fX fE cs fv h0 n0) ({ frames := 4, cells := 2, slots := 260, locals := 53 } : Room).cells ({ frames := 4, cells := 2, slots := 260, locals := 53 } : Room).slots) s₁ (mkF m 0 #[.val (.int x0), .unset] [])
  refine own_st (T' := s₁) (F' := (mkF m 1 #[.val (.int x0), .unset] [(.int x0)])) (fun _ k => XS.iloadN X0.here hx rfl (hb hby d2_0) rfl  k) ?_
  refine own_ifc X0 hx (pc' := 10) (pc2 := 4) (hb hby d2_1) (by decide) (by decide) rfl (fun (hc1 : x0 < (0 : Int32)) => ?_) (fun (hc1 : ¬ (x0 < (0 : Int32))) => ?_)
  ·
    obtain ⟨T1, X1, e1, st1⟩ := getS2 X0 hx hZ hown (host := "") (Or.inl (hw _ (List.mem_of_getElem? (i := 43) rfl))) Via.refl e0 S_fN (g := (mkF m 10 #[.val (.int x0), .unset] [])) rfl (hb hby d2_10)
    refine own_st (T' := T1) (F' := (mkF m 13 #[.val (.int x0), .unset] [(.ref fN)])) (fun _ k => st1 _ k) ?_
    refine own_sretA X1 hx hS0 (by rw [e1]; exact hk0) hlk (t := (.object "com/example/fieldloom/fieldloom/CellFormat")) Bd.returns rfl rfl rfl (hb hby d2_13) ?_ (by rw [e1]; exact C0.trans (CHv.at X1 hZ hEL C0.1)) (by decide) (by decide)
    rw [e1]
    refine ⟨⟨_, rfl, ?_⟩, N0, (Keep.refl h0 [])⟩
    refine Or.inr (Or.inr (Or.inr (Or.inr ⟨?_, rfl⟩)))
    simp only [Int32.lt_iff_toInt_lt, ← Int32.toInt_inj, show (0 : Int32).toInt = 0 from rfl, show (14 : Int32).toInt = 14 from rfl, show (17 : Int32).toInt = 17 from rfl, show (18 : Int32).toInt = 18 from rfl, show (21 : Int32).toInt = 21 from rfl, show (22 : Int32).toInt = 22 from rfl, show (45 : Int32).toInt = 45 from rfl, show (46 : Int32).toInt = 46 from rfl, show (47 : Int32).toInt = 47 from rfl, show (64 : Int32).toInt = 64 from rfl] at hc1 ⊢
    omega
  ·
    refine own_st (T' := s₁) (F' := (mkF m 5 #[.val (.int x0), .unset] [(.int x0)])) (fun _ k => XS.iloadN X0.here hx rfl (hb hby d2_4) rfl  k) ?_
    refine own_st (T' := s₁) (F' := (mkF m 7 #[.val (.int x0), .unset] [(.int (64 : Int32)), (.int x0)])) (fun _ k => XS.bipush X0.here hx rfl (hb hby d2_5) k) ?_
    refine own_icmp X0 hx (pc' := 14) (pc2 := 10) (hb hby d2_7) (by decide) (by decide) rfl (fun (hc7 : x0 < (64 : Int32)) => ?_) (fun (hc7 : ¬ (x0 < (64 : Int32))) => ?_)
    ·
      obtain ⟨a2, T2, h2, k2, b2, kk2, X2, e2, E2, hS2, hk2, hZ, hown, A2, f2a, f2b, V2, lt2a, lt2b, C2a, Lt2, Sf2, st2⟩ := ldcCH X0 hx hZ hown (hw _ (List.mem_of_getElem? (i := 10) rfl)) wS e0 hS0 hk0 hEL (List.mem_of_getElem? (i := 0) rfl) C0.1 (vs := (own_tab.map Value.int)) (z := (64 : Int32)) (own_lit0) (by decide) (by decide) (g := (mkF m 14 #[.val (.int x0), .unset] [])) rfl (hb hby d2_14) (n := 256) (by decide) (by decide) (by decide) (by decide)
      have f3 : Sta Z h2 "com/example/fieldloom/fieldloom/CellFormat" "NUMBER" "Lcom/example/fieldloom/fieldloom/CellFormat;" (.ref fN) := S_fN.ext E2
      have f4 : Sta Z h2 "com/example/fieldloom/fieldloom/CellFormat" "DATE" "Lcom/example/fieldloom/fieldloom/CellFormat;" (.ref fD) := S_fD.ext E2
      have f5 : Sta Z h2 "com/example/fieldloom/fieldloom/CellFormat" "TIME" "Lcom/example/fieldloom/fieldloom/CellFormat;" (.ref fT) := S_fT.ext E2
      have f6 : Sta Z h2 "com/example/fieldloom/fieldloom/CellFormat" "DATE_TIME" "Lcom/example/fieldloom/fieldloom/CellFormat;" (.ref fX) := S_fX.ext E2
      have f7 : Sta Z h2 "com/example/fieldloom/fieldloom/CellFormat" "ELAPSED" "Lcom/example/fieldloom/fieldloom/CellFormat;" (.ref fE) := S_fE.ext E2
      have f8 : Sta Z h2 "java/lang/String" "COMPACT_STRINGS" "Z" (.int cs) := S_cs.ext E2
      have f9 : Sta Z h2 "jdk/internal/util/Preconditions" "SIOOBE_FORMATTER" "Ljava/util/function/BiFunction;" fv := S_f.ext E2
      have K2 : Keep h0 h2 [] := (Keep.refl h0 []).ext E2
      have Zs2 : n0 ≤ h2.size := Nat.le_trans Z0 K2.1
      have C2 := C0.trans C2a
      refine own_st (T' := T2) (F' := (mkF m 16 #[.val (.int x0), .unset] [(.ref a2)])) (fun _ k => st2 _ k) ?_
      refine own_st (T' := T2) (F' := (mkF m 17 #[.val (.int x0), .unset] [(.int x0), (.ref a2)])) (fun _ k => XS.iloadN X2.here hx rfl (hb hby d2_16) rfl  k) ?_
      obtain ⟨cq10, kq10, q10a, q10b, q10c⟩ := isOf hZ e2 A2
      obtain ⟨_, _, ⟨T10, L10, k10, n10⟩, -, X10, ⟨Lc10, hQ10, l10, y10, z10⟩, st10⟩ := X2.virtualBack hx (y := (⟨"java/lang/String", "charAt", "(I)C"⟩ : MethodName)) (z := (⟨"java/lang/String", "charAt", "(I)C"⟩ : MethodName)) hown (mvT hZ (hw _ (List.mem_of_getElem? (i := 18) rfl))) (mvT hZ (hw _ (List.mem_of_getElem? (i := 19) rfl))) (notFace_of_selects (args := #[]) (mvT hZ (hw _ (List.mem_of_getElem? (i := 21) rfl)))) (mvT hZ (hw _ (List.mem_of_getElem? (i := 21) rfl))) (mvT hZ (hw _ (List.mem_of_getElem? (i := 20) rfl))) (by decide) (backOf (W := 0) (rm3 l Z a0 hw [] a2 x0 cs b2 kk2 (64 : Int32) (own_tab.map Value.int) (own_tab.getD x0.toNatClampNeg 0) fv h2 n0 Zs2 f8 hcs f2a f2b A2 V2 f9 hfv ⟨hc1, hc7⟩ (own_getm own_tab _)) hZ (hw _ (List.mem_of_getElem? (i := 22) rfl)) (hw _ (List.mem_of_getElem? (i := 11) rfl)) (by decide) (by decide)) q10a q10c (g := (mkF m 17 #[.val (.int x0), .unset] [(.int x0), (.ref a2)])) rfl (by rw [hml]; rfl) (Steps.refl _) (argsL := [(.int x0)]) (rest := []) (lenOf own_pd4 rfl) rfl (by show 2 * 0 + _ ≤ _; exact Nat.le_of_eq rfl) (hb hby d2_17) (fun _ _ => ⟨rfl, e2, (by decide : 2 + 0 ≤ _), (by decide : 260 + 0 ≤ _)⟩)
      dsimp only [Pt.U, Pt.locs, Pt.cells, Pt.slots] at X10 l10 y10 z10 st10 hQ10
      subst l10 y10 z10
      obtain ⟨⟨r10, rfl, hr10⟩, Nq10, eq10⟩ := hQ10
      have N10 := Fr.app N0 Nq10
      refine own_tr (T' := T10) (F' := (mkF m 20 #[.val (.int x0), .unset] [(.int r10)])) st10 ?_
      refine own_st (T' := T10) (F' := (mkF m 21 #[.val (.int x0), .val (.int r10)] [])) (fun _ k => XS.istoreN X10.here hx rfl (hb hby d2_20) rfl (l' := #[.val (.int x0), .val (.int r10)]) rfl k) ?_
      refine own_st (T' := T10) (F' := (mkF m 22 #[.val (.int x0), .val (.int r10)] [(.int r10)])) (fun _ k => XS.iloadN X10.here hx rfl (hb hby d2_21) rfl  k) ?_
      refine own_st (T' := T10) (F' := (mkF m 24 #[.val (.int x0), .val (.int r10)] [(.int (68 : Int32)), (.int r10)])) (fun _ k => XS.bipush X10.here hx rfl (hb hby d2_22) k) ?_
      refine own_icmp X10 hx (pc' := 31) (pc2 := 27) (hb hby d2_24) (by decide) (by decide) rfl (fun (hc24 : ¬ (r10 = (68 : Int32))) => ?_) (fun (hc24 : r10 = (68 : Int32)) => ?_)
      ·
        refine own_st (T' := T10) (F' := (mkF m 32 #[.val (.int x0), .val (.int r10)] [(.int r10)])) (fun _ k => XS.iloadN X10.here hx rfl (hb hby d2_31) rfl  k) ?_
        refine own_st (T' := T10) (F' := (mkF m 34 #[.val (.int x0), .val (.int r10)] [(.int (84 : Int32)), (.int r10)])) (fun _ k => XS.bipush X10.here hx rfl (hb hby d2_32) k) ?_
        refine own_icmp X10 hx (pc' := 41) (pc2 := 37) (hb hby d2_34) (by decide) (by decide) rfl (fun (hc34 : ¬ (r10 = (84 : Int32))) => ?_) (fun (hc34 : r10 = (84 : Int32)) => ?_)
        ·
          refine own_st (T' := T10) (F' := (mkF m 42 #[.val (.int x0), .val (.int r10)] [(.int r10)])) (fun _ k => XS.iloadN X10.here hx rfl (hb hby d2_41) rfl  k) ?_
          refine own_st (T' := T10) (F' := (mkF m 44 #[.val (.int x0), .val (.int r10)] [(.int (88 : Int32)), (.int r10)])) (fun _ k => XS.bipush X10.here hx rfl (hb hby d2_42) k) ?_
          refine own_icmp X10 hx (pc' := 51) (pc2 := 47) (hb hby d2_44) (by decide) (by decide) rfl (fun (hc44 : ¬ (r10 = (88 : Int32))) => ?_) (fun (hc44 : r10 = (88 : Int32)) => ?_)
          ·
            refine own_st (T' := T10) (F' := (mkF m 52 #[.val (.int x0), .val (.int r10)] [(.int r10)])) (fun _ k => XS.iloadN X10.here hx rfl (hb hby d2_51) rfl  k) ?_
            refine own_st (T' := T10) (F' := (mkF m 54 #[.val (.int x0), .val (.int r10)] [(.int (69 : Int32)), (.int r10)])) (fun _ k => XS.bipush X10.here hx rfl (hb hby d2_52) k) ?_
            refine own_icmp X10 hx (pc' := 61) (pc2 := 57) (hb hby d2_54) (by decide) (by decide) rfl (fun (hc54 : ¬ (r10 = (69 : Int32))) => ?_) (fun (hc54 : r10 = (69 : Int32)) => ?_)
            ·
              obtain ⟨T11, X11, e11, st11⟩ := getS2 X10 hx hZ hown (host := "") (Or.inl (hw _ (List.mem_of_getElem? (i := 43) rfl))) Via.refl eq10 f3 (g := (mkF m 61 #[.val (.int x0), .val (.int r10)] [])) rfl (hb hby d2_61)
              refine own_st (T' := T11) (F' := (mkF m 64 #[.val (.int x0), .val (.int r10)] [(.ref fN)])) (fun _ k => st11 _ k) ?_
              refine own_sretA X11 hx hS2 (by rw [e11]; exact hk2) hlk (t := (.object "com/example/fieldloom/fieldloom/CellFormat")) Bd.returns rfl rfl rfl (hb hby d2_64) ?_ (by rw [e11]; exact C2.trans (CHv.at X11 hZ hEL C2.1)) (by decide) (by decide)
              rw [e11]
              refine ⟨⟨_, rfl, ?_⟩, N10, K2⟩
              have T := own_tabs x0 hc1 hc7
              rw [← hr10] at T
              exact Or.inr (Or.inr (Or.inr (Or.inr ⟨⟨fun q => hc24 (T.1.mpr q), fun q => hc44 (T.2.2.1.mpr q), fun q => hc34 (T.2.1.mpr q), fun q => hc54 (T.2.2.2.mpr q)⟩, rfl⟩)))
            ·
              obtain ⟨T12, X12, e12, st12⟩ := getS2 X10 hx hZ hown (host := "") (Or.inl (hw _ (List.mem_of_getElem? (i := 55) rfl))) Via.refl eq10 f7 (g := (mkF m 57 #[.val (.int x0), .val (.int r10)] [])) rfl (hb hby d2_57)
              refine own_st (T' := T12) (F' := (mkF m 60 #[.val (.int x0), .val (.int r10)] [(.ref fE)])) (fun _ k => st12 _ k) ?_
              refine own_sretA X12 hx hS2 (by rw [e12]; exact hk2) hlk (t := (.object "com/example/fieldloom/fieldloom/CellFormat")) Bd.returns rfl rfl rfl (hb hby d2_60) ?_ (by rw [e12]; exact C2.trans (CHv.at X12 hZ hEL C2.1)) (by decide) (by decide)
              rw [e12]
              refine ⟨⟨_, rfl, ?_⟩, N10, K2⟩
              have T := own_tabs x0 hc1 hc7
              rw [← hr10] at T
              exact Or.inr (Or.inr (Or.inr (Or.inl ⟨T.2.2.2.mp hc54, rfl⟩)))
          ·
            obtain ⟨T13, X13, e13, st13⟩ := getS2 X10 hx hZ hown (host := "") (Or.inl (hw _ (List.mem_of_getElem? (i := 52) rfl))) Via.refl eq10 f6 (g := (mkF m 47 #[.val (.int x0), .val (.int r10)] [])) rfl (hb hby d2_47)
            refine own_st (T' := T13) (F' := (mkF m 50 #[.val (.int x0), .val (.int r10)] [(.ref fX)])) (fun _ k => st13 _ k) ?_
            refine own_sretA X13 hx hS2 (by rw [e13]; exact hk2) hlk (t := (.object "com/example/fieldloom/fieldloom/CellFormat")) Bd.returns rfl rfl rfl (hb hby d2_50) ?_ (by rw [e13]; exact C2.trans (CHv.at X13 hZ hEL C2.1)) (by decide) (by decide)
            rw [e13]
            refine ⟨⟨_, rfl, ?_⟩, N10, K2⟩
            have T := own_tabs x0 hc1 hc7
            rw [← hr10] at T
            exact Or.inr (Or.inl ⟨T.2.2.1.mp hc44, rfl⟩)
        ·
          obtain ⟨T14, X14, e14, st14⟩ := getS2 X10 hx hZ hown (host := "") (Or.inl (hw _ (List.mem_of_getElem? (i := 49) rfl))) Via.refl eq10 f5 (g := (mkF m 37 #[.val (.int x0), .val (.int r10)] [])) rfl (hb hby d2_37)
          refine own_st (T' := T14) (F' := (mkF m 40 #[.val (.int x0), .val (.int r10)] [(.ref fT)])) (fun _ k => st14 _ k) ?_
          refine own_sretA X14 hx hS2 (by rw [e14]; exact hk2) hlk (t := (.object "com/example/fieldloom/fieldloom/CellFormat")) Bd.returns rfl rfl rfl (hb hby d2_40) ?_ (by rw [e14]; exact C2.trans (CHv.at X14 hZ hEL C2.1)) (by decide) (by decide)
          rw [e14]
          refine ⟨⟨_, rfl, ?_⟩, N10, K2⟩
          have T := own_tabs x0 hc1 hc7
          rw [← hr10] at T
          exact Or.inr (Or.inr (Or.inl ⟨T.2.1.mp hc34, rfl⟩))
      ·
        obtain ⟨T15, X15, e15, st15⟩ := getS2 X10 hx hZ hown (host := "") (Or.inl (hw _ (List.mem_of_getElem? (i := 46) rfl))) Via.refl eq10 f4 (g := (mkF m 27 #[.val (.int x0), .val (.int r10)] [])) rfl (hb hby d2_27)
        refine own_st (T' := T15) (F' := (mkF m 30 #[.val (.int x0), .val (.int r10)] [(.ref fD)])) (fun _ k => st15 _ k) ?_
        refine own_sretA X15 hx hS2 (by rw [e15]; exact hk2) hlk (t := (.object "com/example/fieldloom/fieldloom/CellFormat")) Bd.returns rfl rfl rfl (hb hby d2_30) ?_ (by rw [e15]; exact C2.trans (CHv.at X15 hZ hEL C2.1)) (by decide) (by decide)
        rw [e15]
        refine ⟨⟨_, rfl, ?_⟩, N10, K2⟩
        have T := own_tabs x0 hc1 hc7
        rw [← hr10] at T
        exact Or.inl ⟨T.1.mp hc24, rfl⟩
    ·
      obtain ⟨T16, X16, e16, st16⟩ := getS2 X0 hx hZ hown (host := "") (Or.inl (hw _ (List.mem_of_getElem? (i := 43) rfl))) Via.refl e0 S_fN (g := (mkF m 10 #[.val (.int x0), .unset] [])) rfl (hb hby d2_10)
      refine own_st (T' := T16) (F' := (mkF m 13 #[.val (.int x0), .unset] [(.ref fN)])) (fun _ k => st16 _ k) ?_
      refine own_sretA X16 hx hS0 (by rw [e16]; exact hk0) hlk (t := (.object "com/example/fieldloom/fieldloom/CellFormat")) Bd.returns rfl rfl rfl (hb hby d2_13) ?_ (by rw [e16]; exact C0.trans (CHv.at X16 hZ hEL C0.1)) (by decide) (by decide)
      rw [e16]
      refine ⟨⟨_, rfl, ?_⟩, N0, (Keep.refl h0 [])⟩
      refine Or.inr (Or.inr (Or.inr (Or.inr ⟨?_, rfl⟩)))
      simp only [Int32.lt_iff_toInt_lt, ← Int32.toInt_inj, show (0 : Int32).toInt = 0 from rfl, show (14 : Int32).toInt = 14 from rfl, show (17 : Int32).toInt = 17 from rfl, show (18 : Int32).toInt = 18 from rfl, show (21 : Int32).toInt = 21 from rfl, show (22 : Int32).toInt = 22 from rfl, show (45 : Int32).toInt = 45 from rfl, show (46 : Int32).toInt = 46 from rfl, show (47 : Int32).toInt = 47 from rfl, show (64 : Int32).toInt = 64 from rfl] at hc1 hc7 ⊢
      omega
theorem own_pd5 : parseMethodDescriptor "(I)Lcom/example/fieldloom/fieldloom/CellFormat;" = some ⟨[.int], some (.object "com/example/fieldloom/fieldloom/CellFormat")⟩ := by decide +kernel
theorem own_pn0 : plainName "com/example/fieldloom/fieldloom/CellFormatBuiltInPinLaw" = true := by first | (simp [plainName, overriddenIn]; done) | decide +kernel
theorem own_ef0 (m : MethodId) (x0 : Int32) (x1 : Int32) : entryFrame m #[(.int x0), (.int x1)] maxLocals = (mkF m 0 #[.val (.int x0), .val (.int x1), .unset] []) := by first | (simp [entryFrame, mkF, argsToLocals, Value.category, maxLocals]; done) | rfl
def Q0 (Z : State) (x0 : Int32) (x1 : Int32) (fN : Addr) (fD : Addr) (fT : Addr) (fX : Addr) (fE : Addr) (cs : Int32) (fv : Value) (h0 : Heap) (n0 : Nat) (v : Option Value) (h : Heap) (L : List Loc) : Prop := (∃ z : Int32, v = some (.int z) ∧ (z = 1)) ∧ Fr n0 L
set_option maxRecDepth 65536 in
set_option maxHeartbeats 40000000 in
theorem rm0 (l : Launch) (Z : State) (a0 : Array Value) (hw : ∀ d ∈ tables_1, d.before a0 Z = true) (ws : List Jvm.Cond) (x0 : Int32) (x1 : Int32) (fN : Addr) (fD : Addr) (fT : Addr) (fX : Addr) (fE : Addr) (cs : Int32) (fv : Value) (h0 : Heap) (n0 : Nat) (Z0 : n0 ≤ h0.size) (S_fN : Sta Z h0 "com/example/fieldloom/fieldloom/CellFormat" "NUMBER" "Lcom/example/fieldloom/fieldloom/CellFormat;" (.ref fN)) (S_fD : Sta Z h0 "com/example/fieldloom/fieldloom/CellFormat" "DATE" "Lcom/example/fieldloom/fieldloom/CellFormat;" (.ref fD)) (S_fT : Sta Z h0 "com/example/fieldloom/fieldloom/CellFormat" "TIME" "Lcom/example/fieldloom/fieldloom/CellFormat;" (.ref fT)) (S_fX : Sta Z h0 "com/example/fieldloom/fieldloom/CellFormat" "DATE_TIME" "Lcom/example/fieldloom/fieldloom/CellFormat;" (.ref fX)) (S_fE : Sta Z h0 "com/example/fieldloom/fieldloom/CellFormat" "ELAPSED" "Lcom/example/fieldloom/fieldloom/CellFormat;" (.ref fE)) (S_cs : Sta Z h0 "java/lang/String" "COMPACT_STRINGS" "Z" (.int cs)) (hcs : ¬ (cs = 0)) (S_f : Sta Z h0 "jdk/internal/util/Preconditions" "SIOOBE_FORMATTER" "Ljava/util/function/BiFunction;" fv) (hfv : fv.isRef = true) :
    MetFree l x (head1 (Jvm.Cond.code x code maxLocals ret :: ws) room_1) (fun a U => a = #[(.int x0), (.int x1)] ∧ Z.Warmed39 U.vm ∧ U.heap = h0 ∧ CHv Z own_EL U.vm h0) (fun _ _ _ _ _ => True) (fun _ U oc U' => ∃ v L, oc = .returned v ∧ Q0 Z x0 x1 fN fD fT fX fE cs fv h0 n0 v U'.heap L ∧ CHr Z own_EL U.vm U.heap U'.vm U'.heap ∧ ReturnedEndW U oc U' L room_1.cells room_1.slots) := by
  refine MetFree.of_bodySF (plainFor_of_name own_pn0) hisR ?_
  intro p e s m args below meth c s₁ Bd hml0 hP hK
  obtain ⟨rfl, hZ, hh, hCH0⟩ := hP
  have hx := Bd.exec
  have hby := Bd.bytes
  have hlk : meth.locks = false := BodyLoose.notSynchronized Bd
  have hml : c.maxLocals = 3 := hml0
  have hown : s.vm.findClass "com/example/fieldloom/fieldloom/CellFormatBuiltInPinLaw" = some m.cls := findClass_of_methodNamed Bd.named
  have hnm := (name_of_methodNamed Bd.named Bd.method).1
  have X0 : Stand p l e room_1 (s.setVm s.vm) m #[(.int x0), (.int x1)] below meth c s₁ [] 0 0 := Stand.of_body Bd
  have e0 : s₁.heap = h0 := by rw [← hh, Bd.state]; rfl
  have N0 := Fr.nil n0
  have hS0 : s.Since s.vm 0 := (State.WarmedH.refl s).since 0
  have hk0 : 0 ≤ h0.size := Nat.zero_le _
  have C0 : CHr Z own_EL s.vm s.heap s.vm h0 := by rw [hh]; exact CHr.refl hCH0
  have hEL : EW Z a0 own_EL := own_hEL hw
  have wS := own_wS hw
  refine own_enter (own_ef0 m x0 x1) ?_
  show own_Go p e below (own_ES s Z own_EL (Q0 Z x0 x1 fN fD fT fX fE cs fv h0 n0) room_1.cells room_1.slots) s₁ (mkF m 0 #[.val (.int x0), .val (.int x1), .unset] [])
  refine own_st (T' := s₁) (F' := (mkF m 1 #[.val (.int x0), .val (.int x1), .unset] [(.int x1)])) (fun _ k => XS.iloadN X0.here hx rfl (hb hby at_0) rfl  k) ?_
  refine own_st (T' := s₁) (F' := (mkF m 3 #[.val (.int x0), .val (.int x1), .unset] [(.int (63 : Int32)), (.int x1)])) (fun _ k => XS.bipush X0.here hx rfl (hb hby at_1) k) ?_
  refine own_st (T' := s₁) (F' := (mkF m 4 #[.val (.int x0), .val (.int x1), .unset] [(.int (x1 &&& (63 : Int32)))])) (fun _ k => XS.iand X0.here hx rfl (hb hby at_3) rfl k) ?_
  refine own_st (T' := s₁) (F' := (mkF m 5 #[.val (.int x0), .val (.int x1), .val (.int (x1 &&& (63 : Int32)))] [])) (fun _ k => XS.istoreN X0.here hx rfl (hb hby at_4) rfl (l' := #[.val (.int x0), .val (.int x1), .val (.int (x1 &&& (63 : Int32)))]) rfl k) ?_
  refine own_st (T' := s₁) (F' := (mkF m 6 #[.val (.int x0), .val (.int x1), .val (.int (x1 &&& (63 : Int32)))] [(.int x0)])) (fun _ k => XS.iloadN X0.here hx rfl (hb hby at_5) rfl  k) ?_
  obtain ⟨_, _, ⟨T1, L1, k1, n1⟩, -, X1, ⟨Lc1, hQ1, l1, y1, z1⟩, st1⟩ := Jvm.LawKit.callS X0 hx (y := (⟨"com/example/fieldloom/fieldloom/CellFormat", "builtIn", "(I)Lcom/example/fieldloom/fieldloom/CellFormat;"⟩ : MethodName)) hown (mvT hZ (hw _ (List.mem_of_getElem? (i := 0) rfl))) (mvT hZ (hw _ (List.mem_of_getElem? (i := 1) rfl))) (mvT hZ (hw _ (List.mem_of_getElem? (i := 2) rfl))) (mvT hZ (hw _ (List.mem_of_getElem? (i := 3) rfl))) (by decide) (backOf (W := 0) (rm1 l Z a0 hw [] x0 fN fD fT fX fE h0 n0 Z0 S_fN S_fD S_fT S_fX S_fE) hZ (hw _ (List.mem_of_getElem? (i := 3) rfl)) (hw _ (List.mem_of_getElem? (i := 2) rfl)) (by decide) (by decide)) (g := (mkF m 6 #[.val (.int x0), .val (.int x1), .val (.int (x1 &&& (63 : Int32)))] [(.int x0)])) rfl (by rw [hml]; rfl) (argsL := [(.int x0)]) (rest := []) (lenOf own_pd5 rfl) rfl (by show 2 * 0 + _ ≤ _; exact Nat.le_of_eq rfl) (hb hby at_6) (fun _ _ => ⟨rfl, e0, (by decide : 0 + 0 ≤ _), (by decide : 0 + 0 ≤ _)⟩)
  dsimp only [Pt.U, Pt.locs, Pt.cells, Pt.slots] at X1 l1 y1 z1 st1 hQ1
  subst l1 y1 z1
  obtain ⟨⟨r1, rfl, hr1⟩, Nq1, eq1⟩ := hQ1
  have N1 := Fr.app N0 Nq1
  refine own_st (T' := T1) (F' := (mkF m 9 #[.val (.int x0), .val (.int x1), .val (.int (x1 &&& (63 : Int32)))] [(.ref r1)])) (fun _ k => st1 _ k) ?_
  refine own_st (T' := T1) (F' := (mkF m 10 #[.val (.int x0), .val (.int x1), .val (.int (x1 &&& (63 : Int32)))] [(.int x0), (.ref r1)])) (fun _ k => XS.iloadN X1.here hx rfl (hb hby at_9) rfl  k) ?_
  obtain ⟨_, _, ⟨T2, L2, k2, n2⟩, -, X2, hSa2, hgr2, ⟨Lc2, hQ2, l2, y2, z2, C2a⟩, st2⟩ := callSS X1 hx (y := (⟨"com/example/fieldloom/fieldloom/CellFormatBuiltInPinLaw", "expected", "(I)Lcom/example/fieldloom/fieldloom/CellFormat;"⟩ : MethodName)) hown (mvT hZ (hw _ (List.mem_of_getElem? (i := 6) rfl))) (mvT hZ (hw _ (List.mem_of_getElem? (i := 7) rfl))) (mvT hZ (hw _ (List.mem_of_getElem? (i := 8) rfl))) (mvT hZ (hw _ (List.mem_of_getElem? (i := 9) rfl))) (by decide) (backOfSH (W := 1) (rm2 l Z a0 hw [] x0 fN fD fT fX fE cs fv h0 n0 Z0 S_fN S_fD S_fT S_fX S_fE S_cs hcs S_f hfv) hZ (hw _ (List.mem_of_getElem? (i := 9) rfl)) (hw _ (List.mem_of_getElem? (i := 8) rfl)) (by decide) (by decide) hEL C0.1) (g := (mkF m 10 #[.val (.int x0), .val (.int x1), .val (.int (x1 &&& (63 : Int32)))] [(.int x0), (.ref r1)])) rfl (by rw [hml]; rfl) (argsL := [(.int x0)]) (rest := [(.ref r1)]) (lenOf own_pd5 rfl) rfl (by show 2 * 0 + _ ≤ _; exact Nat.le_of_eq rfl) (hb hby at_10) (fun _ _ => ⟨rfl, eq1, (by decide : 0 + 2 ≤ _), (by decide : 0 + 260 ≤ _)⟩)
  dsimp only [Pt.U, Pt.locs, Pt.cells, Pt.slots] at X2 l2 y2 z2 st2 hQ2 hSa2 hgr2 C2a
  subst l2 y2 z2
  have X2 := (show Stand p l e room_1 (s.setVm T2.vm) m #[(.int x0), (.int x1)] below meth c T2 _ _ _ from X2)
  have hS2 := foldS hS0 (by rw [eq1]; exact hk0) hSa2 hgr2
  have hk2 : T2.heap.size ≤ T2.heap.size := Nat.le_refl _
  have C2 := C0.trans C2a
  have hown : T2.vm.findClass "com/example/fieldloom/fieldloom/CellFormatBuiltInPinLaw" = some m.cls := by rw [hSa2.1.alike.findClass]; exact hown
  have hZ : Z.Warmed39 (s.setVm T2.vm).vm := State.Warmed39.trans hZ hSa2.1
  obtain ⟨⟨r2, rfl, hr2⟩, Nq2, g2_0⟩ := hQ2
  have N2 := Fr.app N1 Nq2
  have f3 : Sta Z T2.heap "com/example/fieldloom/fieldloom/CellFormat" "NUMBER" "Lcom/example/fieldloom/fieldloom/CellFormat;" (.ref fN) := own_stk S_fN g2_0 all0
  have f4 : Sta Z T2.heap "com/example/fieldloom/fieldloom/CellFormat" "DATE" "Lcom/example/fieldloom/fieldloom/CellFormat;" (.ref fD) := own_stk S_fD g2_0 all0
  have f5 : Sta Z T2.heap "com/example/fieldloom/fieldloom/CellFormat" "TIME" "Lcom/example/fieldloom/fieldloom/CellFormat;" (.ref fT) := own_stk S_fT g2_0 all0
  have f6 : Sta Z T2.heap "com/example/fieldloom/fieldloom/CellFormat" "DATE_TIME" "Lcom/example/fieldloom/fieldloom/CellFormat;" (.ref fX) := own_stk S_fX g2_0 all0
  have f7 : Sta Z T2.heap "com/example/fieldloom/fieldloom/CellFormat" "ELAPSED" "Lcom/example/fieldloom/fieldloom/CellFormat;" (.ref fE) := own_stk S_fE g2_0 all0
  have f8 : Sta Z T2.heap "java/lang/String" "COMPACT_STRINGS" "Z" (.int cs) := own_stk S_cs g2_0 all0
  have f9 : Sta Z T2.heap "jdk/internal/util/Preconditions" "SIOOBE_FORMATTER" "Ljava/util/function/BiFunction;" fv := own_stk S_f g2_0 all0
  have K2 : Keep h0 T2.heap [] := (Keep.refl h0 []).trans g2_0 all0
  have Zs2 : n0 ≤ T2.heap.size := Nat.le_trans Z0 K2.1
  refine own_tr (T' := T2) (F' := (mkF m 13 #[.val (.int x0), .val (.int x1), .val (.int (x1 &&& (63 : Int32)))] [(.ref r2), (.ref r1)])) st2 ?_
  refine own_acmp X2 hx (pc' := 31) (pc2 := 16) (hb hby at_13) (by decide) (by decide) rfl (fun (hc13 : r1 = r2) => ?_) (fun (hc13 : ¬ (r1 = r2)) => ?_)
  ·
    refine own_st (T' := T2) (F' := (mkF m 17 #[.val (.int x0), .val (.int x1), .val (.int (x1 &&& (63 : Int32)))] [(.int (x1 &&& (63 : Int32)))])) (fun _ k => XS.iloadN X2.here hx rfl (hb hby at_16) rfl  k) ?_
    obtain ⟨_, _, ⟨T10, L10, k10, n10⟩, -, X10, ⟨Lc10, hQ10, l10, y10, z10⟩, st10⟩ := Jvm.LawKit.callS X2 hx (y := (⟨"com/example/fieldloom/fieldloom/CellFormat", "builtIn", "(I)Lcom/example/fieldloom/fieldloom/CellFormat;"⟩ : MethodName)) hown (mvT hZ (hw _ (List.mem_of_getElem? (i := 0) rfl))) (mvT hZ (hw _ (List.mem_of_getElem? (i := 1) rfl))) (mvT hZ (hw _ (List.mem_of_getElem? (i := 2) rfl))) (mvT hZ (hw _ (List.mem_of_getElem? (i := 3) rfl))) (by decide) (backOf (W := 0) (rm1 l Z a0 hw [] (x1 &&& (63 : Int32)) fN fD fT fX fE T2.heap n0 Zs2 f3 f4 f5 f6 f7) hZ (hw _ (List.mem_of_getElem? (i := 3) rfl)) (hw _ (List.mem_of_getElem? (i := 2) rfl)) (by decide) (by decide)) (g := (mkF m 17 #[.val (.int x0), .val (.int x1), .val (.int (x1 &&& (63 : Int32)))] [(.int (x1 &&& (63 : Int32)))])) rfl (by rw [hml]; rfl) (argsL := [(.int (x1 &&& (63 : Int32)))]) (rest := []) (lenOf own_pd5 rfl) rfl (by show 2 * 0 + _ ≤ _; exact Nat.le_of_eq rfl) (hb hby at_17) (fun _ _ => ⟨rfl, rfl, (by decide : 2 + 0 ≤ _), (by decide : 260 + 0 ≤ _)⟩)
    dsimp only [Pt.U, Pt.locs, Pt.cells, Pt.slots] at X10 l10 y10 z10 st10 hQ10
    subst l10 y10 z10
    obtain ⟨⟨r10, rfl, hr10⟩, Nq10, eq10⟩ := hQ10
    have N10 := Fr.app N2 Nq10
    refine own_st (T' := T10) (F' := (mkF m 20 #[.val (.int x0), .val (.int x1), .val (.int (x1 &&& (63 : Int32)))] [(.ref r10)])) (fun _ k => st10 _ k) ?_
    refine own_st (T' := T10) (F' := (mkF m 21 #[.val (.int x0), .val (.int x1), .val (.int (x1 &&& (63 : Int32)))] [(.int (x1 &&& (63 : Int32))), (.ref r10)])) (fun _ k => XS.iloadN X10.here hx rfl (hb hby at_20) rfl  k) ?_
    obtain ⟨_, _, ⟨T11, L11, k11, n11⟩, -, X11, hSa11, hgr11, ⟨Lc11, hQ11, l11, y11, z11, C11a⟩, st11⟩ := callSS X10 hx (y := (⟨"com/example/fieldloom/fieldloom/CellFormatBuiltInPinLaw", "expected", "(I)Lcom/example/fieldloom/fieldloom/CellFormat;"⟩ : MethodName)) hown (mvT hZ (hw _ (List.mem_of_getElem? (i := 6) rfl))) (mvT hZ (hw _ (List.mem_of_getElem? (i := 7) rfl))) (mvT hZ (hw _ (List.mem_of_getElem? (i := 8) rfl))) (mvT hZ (hw _ (List.mem_of_getElem? (i := 9) rfl))) (by decide) (backOfSH (W := 1) (rm2 l Z a0 hw [] (x1 &&& (63 : Int32)) fN fD fT fX fE cs fv T2.heap n0 Zs2 f3 f4 f5 f6 f7 f8 hcs f9 hfv) hZ (hw _ (List.mem_of_getElem? (i := 9) rfl)) (hw _ (List.mem_of_getElem? (i := 8) rfl)) (by decide) (by decide) hEL C2.1) (g := (mkF m 21 #[.val (.int x0), .val (.int x1), .val (.int (x1 &&& (63 : Int32)))] [(.int (x1 &&& (63 : Int32))), (.ref r10)])) rfl (by rw [hml]; rfl) (argsL := [(.int (x1 &&& (63 : Int32)))]) (rest := [(.ref r10)]) (lenOf own_pd5 rfl) rfl (by show 2 * 0 + _ ≤ _; exact Nat.le_of_eq rfl) (hb hby at_21) (fun _ _ => ⟨rfl, eq10, (by decide : 2 + 2 ≤ _), (by decide : 260 + 260 ≤ _)⟩)
    dsimp only [Pt.U, Pt.locs, Pt.cells, Pt.slots] at X11 l11 y11 z11 st11 hQ11 hSa11 hgr11 C11a
    subst l11 y11 z11
    have X11 := (show Stand p l e room_1 (s.setVm T11.vm) m #[(.int x0), (.int x1)] below meth c T11 _ _ _ from X11)
    have hS11 := foldS hS2 (by rw [eq10]; exact hk2) hSa11 hgr11
    have hk11 : T11.heap.size ≤ T11.heap.size := Nat.le_refl _
    have C11 := C2.trans C11a
    have hown : T11.vm.findClass "com/example/fieldloom/fieldloom/CellFormatBuiltInPinLaw" = some m.cls := by rw [hSa11.1.alike.findClass]; exact hown
    have hZ : Z.Warmed39 (s.setVm T11.vm).vm := State.Warmed39.trans hZ hSa11.1
    obtain ⟨⟨r11, rfl, hr11⟩, Nq11, g11_0⟩ := hQ11
    have N11 := Fr.app N10 Nq11
    have f12 : Sta Z T11.heap "com/example/fieldloom/fieldloom/CellFormat" "NUMBER" "Lcom/example/fieldloom/fieldloom/CellFormat;" (.ref fN) := own_stk f3 g11_0 all0
    have f13 : Sta Z T11.heap "com/example/fieldloom/fieldloom/CellFormat" "DATE" "Lcom/example/fieldloom/fieldloom/CellFormat;" (.ref fD) := own_stk f4 g11_0 all0
    have f14 : Sta Z T11.heap "com/example/fieldloom/fieldloom/CellFormat" "TIME" "Lcom/example/fieldloom/fieldloom/CellFormat;" (.ref fT) := own_stk f5 g11_0 all0
    have f15 : Sta Z T11.heap "com/example/fieldloom/fieldloom/CellFormat" "DATE_TIME" "Lcom/example/fieldloom/fieldloom/CellFormat;" (.ref fX) := own_stk f6 g11_0 all0
    have f16 : Sta Z T11.heap "com/example/fieldloom/fieldloom/CellFormat" "ELAPSED" "Lcom/example/fieldloom/fieldloom/CellFormat;" (.ref fE) := own_stk f7 g11_0 all0
    have f17 : Sta Z T11.heap "java/lang/String" "COMPACT_STRINGS" "Z" (.int cs) := own_stk f8 g11_0 all0
    have f18 : Sta Z T11.heap "jdk/internal/util/Preconditions" "SIOOBE_FORMATTER" "Ljava/util/function/BiFunction;" fv := own_stk f9 g11_0 all0
    have K11 : Keep h0 T11.heap [] := K2.trans g11_0 all0
    have Zs11 : n0 ≤ T11.heap.size := Nat.le_trans Z0 K11.1
    refine own_tr (T' := T11) (F' := (mkF m 24 #[.val (.int x0), .val (.int x1), .val (.int (x1 &&& (63 : Int32)))] [(.ref r11), (.ref r10)])) st11 ?_
    refine own_acmp X11 hx (pc' := 31) (pc2 := 27) (hb hby at_24) (by decide) (by decide) rfl (fun (hc24 : r10 = r11) => ?_) (fun (hc24 : ¬ (r10 = r11)) => ?_)
    ·
      refine own_st (T' := T11) (F' := (mkF m 28 #[.val (.int x0), .val (.int x1), .val (.int (x1 &&& (63 : Int32)))] [(.int (1 : Int32))])) (fun _ k => XS.iconst X11.here hx rfl (hb hby at_27) k) ?_
      refine own_st (T' := T11) (F' := (mkF m 32 #[.val (.int x0), .val (.int x1), .val (.int (x1 &&& (63 : Int32)))] [(.int (1 : Int32))])) (fun _ k => XS.goto X11.here hx rfl (pc0 := 28) (pc' := 32) rfl (hb hby at_28) (by decide) (by decide) k) ?_
      refine own_sretN X11 hx hS11 (by exact hk11) hlk (t := .boolean) Bd.returns (by simp) (hb hby at_32) ?_ (by exact C11.trans (CHv.at X11 hZ hEL C11.1)) (by decide) (by decide)
      show Q0 Z x0 x1 fN fD fT fX fE cs fv h0 n0 _ T11.heap _
      refine ⟨⟨_, rfl, ?_⟩, N11⟩
      rfl
    ·
      refine own_st (T' := T11) (F' := (mkF m 32 #[.val (.int x0), .val (.int x1), .val (.int (x1 &&& (63 : Int32)))] [(.int (0 : Int32))])) (fun _ k => XS.iconst X11.here hx rfl (hb hby at_31) k) ?_
      refine own_sretN X11 hx hS11 (by exact hk11) hlk (t := .boolean) Bd.returns (by simp) (hb hby at_32) ?_ (by exact C11.trans (CHv.at X11 hZ hEL C11.1)) (by decide) (by decide)
      show Q0 Z x0 x1 fN fD fT fX fE cs fv h0 n0 _ T11.heap _
      refine ⟨⟨_, rfl, ?_⟩, N11⟩
      exact absurd (own_isu hr10 hr11) hc24
  ·
    refine own_st (T' := T2) (F' := (mkF m 32 #[.val (.int x0), .val (.int x1), .val (.int (x1 &&& (63 : Int32)))] [(.int (0 : Int32))])) (fun _ k => XS.iconst X2.here hx rfl (hb hby at_31) k) ?_
    refine own_sretN X2 hx hS2 (by exact hk2) hlk (t := .boolean) Bd.returns (by simp) (hb hby at_32) ?_ (by exact C2.trans (CHv.at X2 hZ hEL C2.1)) (by decide) (by decide)
    show Q0 Z x0 x1 fN fD fT fX fE cs fv h0 n0 _ T2.heap _
    refine ⟨⟨_, rfl, ?_⟩, N2⟩
    exact absurd (own_isu hr1 hr2) hc13
set_option maxRecDepth 65536 in
set_option maxHeartbeats 40000000 in
theorem comes_1 {Post : Tables → Env → Array Value → State → Outcome → State → Prop} (hpost : ∀ tb e args s v u, (limb_1_1.after args s (.returned v) u = true ∧ limb_1_2.after args s (.returned v) u = true ∧ True) → ReturnedEndW s (.returned v) u (Jvm.fieldLocs frame_1_writes args s ++ Jvm.arrayLocs frame_1_arrays args s ++ Jvm.staticLocs frame_1_statics s) 8 1088 → Post tb e args s (.returned v) u) :
    ArmFor flags0 classFile x code maxLocals ret World_1 tables_1 room_1 Calls_1 rest_1 Pre_1 Post := by
  intro l hfl _ _ p e ha hc hk s m args below hf hA hF happ hP
  obtain ⟨hcalls, hrest, hpre⟩ := hP
  obtain ⟨-, -, -, hnamed, -, -, -, hat⟩ := (Spec.applies_iff hf).mp happ
  obtain ⟨hg, hn⟩ := and_e (Cond.before_iff.mp (show (Jvm.Cond.and given_1 narrow_1).before args s = true from hpre))
  obtain ⟨g0, hg0⟩ := and_e hg
  obtain ⟨g1, hg1⟩ := and_e hg0
  obtain ⟨w0, w1, rfl⟩ : ∃ w0 w1 : Value, args = #[w0, w1] := by
    have hs : args.size = 2 := by simpa [Cond.value, given_1] using g0
    obtain ⟨L⟩ := args
    match L, hs with
    | [w0, w1], _ => exact ⟨w0, w1, rfl⟩
  have hw := fun d (hd : d ∈ tables_1) => atoms_spec (ws := Jvm.Cond.code x code maxLocals ret :: tables_1) hat d (List.mem_cons_of_mem _ hd)
  have hfit : Fit s := fun {y c} hc i hi => by
    obtain ⟨ha, rfl⟩ := Array.getElem?_eq_some_iff.mp hc
    have q := List.all_eq_true.mp ((Array.all_eq_true_iff_forall_mem.mp hF) _ (Array.getElem_mem ha)) i (List.mem_range.mpr hi)
    simpa [Array.getElem?_eq_getElem hi] using q
  obtain ⟨i0, ei0⟩ := is_v g1
  obtain rfl : w0 = (.int i0) := Option.some.inj ei0
  obtain ⟨i1, ei1⟩ := is_v hg1
  obtain rfl : w1 = (.int i1) := Option.some.inj ei1
  obtain ⟨nn0, hn0⟩ := and_e hn
  obtain ⟨nn1, hn1⟩ := and_e hn0
  obtain ⟨nn2, hn2⟩ := and_e hn1
  obtain ⟨nn3, hn3⟩ := and_e hn2
  have nn4 := hn3
  obtain ⟨ae0, ev0⟩ := exa_v nn0
  have SE0 := Sta.start ev0 (Or.inr ⟨(hw _ (List.mem_of_getElem? (i := 2) rfl)), (hw _ (List.mem_of_getElem? (i := 5) rfl))⟩)
  have EE0 := Exa.start ev0 nn0
  obtain ⟨ae1, ev1⟩ := exa_v nn1
  have SE1 := Sta.start ev1 (Or.inr ⟨(hw _ (List.mem_of_getElem? (i := 2) rfl)), (hw _ (List.mem_of_getElem? (i := 45) rfl))⟩)
  have EE1 := Exa.start ev1 nn1
  obtain ⟨ae2, ev2⟩ := exa_v nn2
  have SE2 := Sta.start ev2 (Or.inr ⟨(hw _ (List.mem_of_getElem? (i := 2) rfl)), (hw _ (List.mem_of_getElem? (i := 48) rfl))⟩)
  have EE2 := Exa.start ev2 nn2
  obtain ⟨ae3, ev3⟩ := exa_v nn3
  have SE3 := Sta.start ev3 (Or.inr ⟨(hw _ (List.mem_of_getElem? (i := 2) rfl)), (hw _ (List.mem_of_getElem? (i := 51) rfl))⟩)
  have EE3 := Exa.start ev3 nn3
  obtain ⟨ae4, ev4⟩ := exa_v nn4
  have SE4 := Sta.start ev4 (Or.inr ⟨(hw _ (List.mem_of_getElem? (i := 2) rfl)), (hw _ (List.mem_of_getElem? (i := 54) rfl))⟩)
  have EE4 := Exa.start ev4 nn4
  obtain ⟨hsets, hown0⟩ := atoms_of _ (rest_1_c_eq ▸ (show rest_1_c.before _ s = true from hrest))
  obtain ⟨cs, ecs⟩ := is_v (Cond.before_iff.mp (hsets _ (List.mem_of_getElem? (i := 1) rfl)))
  have Scs : Sta s s.heap "java/lang/String" "COMPACT_STRINGS" "Z" (.int cs) := Sta.start ecs (Or.inl (hsets _ (List.mem_of_getElem? (i := 0) rfl)))
  have hcs : ¬ (cs = 0) := gotF (Cond.eq_ints ecs (Term.int_eval (0))) (not_v (Cond.before_iff.mp (hsets _ (List.mem_of_getElem? (i := 2) rfl))))
  obtain ⟨fv, efv, hfv⟩ := isR_v (Cond.before_iff.mp (hsets _ (List.mem_of_getElem? (i := 8) rfl)))
  have Sfv := Sta.start efv (Or.inl (hsets _ (List.mem_of_getElem? (i := 7) rfl)))
  obtain ⟨n, o, h1, h2, h3, _, L, rfl, ⟨⟨_, rfl, rfl⟩, N⟩, _, hq⟩ := rm0 l s _ hw tables_1 i0 i1 ae0 ae1 ae2 ae3 ae4 cs fv s.heap s.heap.size (Nat.le_refl _) SE0 SE1 SE2 SE3 SE4 Scs hcs Sfv hfv p e ha hc hk s m _ below hf ((Spec.applies_iff_loose hf).mp happ).1 ⟨rfl, State.Warmed39.refl s, rfl, CHv.start (own_hEL hw) (fun p hp => hcalls.1 p hp) (hsets _ (List.mem_of_getElem? (i := 2) rfl)) (hw _ (List.mem_of_getElem? (i := 13) rfl)) (hw _ (List.mem_of_getElem? (i := 12) rfl))⟩ trivial
  refine ⟨n, _, h1, h2, h3, hpost _ _ _ _ _ _ ⟨Cond.after_iff.mpr rfl, Cond.after_iff.mpr (eq_i res_at (Term.int_eval (1)) rfl), trivial⟩ ⟨hq.1, hq.2.1, hq.2.2.1, (hq.2.2.2.sift fun y hy => Or.inr (N y hy)).mono (by decide) (by decide)⟩⟩
theorem main_1_1 : Claimed_1_1 := comes_1 fun _ _ _ _ _ _ h hF => ⟨h.1, hF⟩
theorem main_1_2 : Claimed_1_2 := comes_1 fun _ _ _ _ _ _ h hF => ⟨h.2.1, hF⟩
end Jvm.Pilot.@@N@@
namespace Jvm.Pilot.@@N@@
open Jvm Jvm.ClassFile Sem Op Lib Jvm.Free Jvm.Stand Jvm.Pilot.@@N@@.Jvm.D
/-! MADE BY PROGRAM (witnessworld.py) out of the Statement's table words and the real class files: 18 classes; the members and pool entries that the words name. The judged class is class 1, her method 1. -/
namespace start1
open Jvm.ClassFile
def u (s : String) : CpInfo := .utf8 (stringToUtf16 s)
/-- a pool by its gaps: so many unusable entries, then the entry; so many at the end -/
def gap : Nat → List CpInfo → List CpInfo
  | 0, r => r
  | n + 1, r => .unusable :: gap n r
def poolList (es : List (Nat × CpInfo)) (last : Nat) : List CpInfo := es.foldr (fun e r => gap e.1 (e.2 :: r)) (gap last [])
def pool (es : List (Nat × CpInfo)) (last : Nat) : Array CpInfo := ⟨poolList es last⟩
def fileOf (pool : Array CpInfo) (this : Nat) (attrs : Array Attribute := #[]) (ms : Array MethodInfo := #[]) (fl : Nat := 33) (sup : Nat := 0) (ifs : Array Nat := #[]) (fds : Array FieldInfo := #[]) : ClassFile where
  minorVersion := 0
  majorVersion := 65
  constantPool := pool
  accessFlags := fl
  thisClass := this
  superClass := sup
  interfaces := ifs
  fields := fds
  methods := ms
  attributes := attrs
def plain (name : String) (sup : Option ClassId) : Class where
  name := name
  kind := .ordinary
  loader := none
  accessFlags := 33
  super := sup
  interfaces := #[]
  cf := none
  fields := #[]
  methods := #[]
  instanceTypes := #[]
  staticTypes := #[]
  resolved := #[]
  callSites := []
  init := .initialized
  statics := none
  mirror := none

def pool0 : Array CpInfo := pool [(5, u "<init>"), (0, u "()V"), (1, .class_ 10), (1, u "java/lang/Object")] 113

def k0m0 : Method := { name := "<init>", desc := "()V", sig := { parameters := [], returnType := none }, accessFlags := 1, code := none }
/-- java/lang/Object -/
def k0 : Class := { plain "java/lang/Object" none with
  accessFlags := 33
  interfaces := #[]
  cf := some (fileOf pool0 8 #[] #[{ accessFlags := 1, nameIndex := 5, descriptorIndex := 6, attributes := #[] }] 33 0 #[] #[])
  fields := #[]
  methods := #[k0m0]
  instanceTypes := #[]
  staticTypes := #[]
  resolved := Array.replicate 124 none
  statics := none }

def pool1 : Array CpInfo := pool [(2, .class_ 4), (1, u "java/lang/Object"), (0, u "<init>"), (0, u "()V"), (0, .methodref 8 9), (0, .class_ 10), (0, .nameAndType 11 12), (0, u "com/example/fieldloom/fieldloom/CellFormat"), (0, u "builtIn"), (0, u "(I)Lcom/example/fieldloom/fieldloom/CellFormat;"), (0, .methodref 14 15), (0, .class_ 16), (0, .nameAndType 17 12), (0, u "com/example/fieldloom/fieldloom/CellFormatBuiltInPinLaw"), (0, u "expected"), (0, .fieldref 8 19), (0, .nameAndType 20 21), (0, u "NUMBER"), (0, u "Lcom/example/fieldloom/fieldloom/CellFormat;"), (0, .string 23), (0, u "NNNNNNNNNNNNNNDDDDTTTTXNNNNNNNNNNNNNNNNNNNNNNTETNNNNNNNNNNNNNNNN"), (0, .methodref 25 26), (0, .class_ 27), (0, .nameAndType 28 29), (0, u "java/lang/String"), (0, u "charAt"), (0, u "(I)C"), (0, .fieldref 8 31), (0, .nameAndType 32 21), (0, u "DATE"), (0, .fieldref 8 34), (0, .nameAndType 35 21), (0, u "TIME"), (0, .fieldref 8 37), (0, .nameAndType 38 21), (0, u "DATE_TIME"), (0, .fieldref 8 40), (0, .nameAndType 41 21), (0, u "ELAPSED"), (2, u "law"), (0, u "(II)Z")] 3

def k1m0 : Method := { name := "<init>", desc := "()V", sig := { parameters := [], returnType := none }, accessFlags := 1, code := none }
def k1c1 : Code := { maxStack := 2, maxLocals := 3, code := code, exceptionTable := #[], attributes := #[] }
def k1m1 : Method := { name := "law", desc := "(II)Z", sig := { parameters := [.int, .int], returnType := some .boolean }, accessFlags := 9, code := some k1c1 }
def k1c2 : Code := { maxStack := 2, maxLocals := 2, code := method_3_code, exceptionTable := #[], attributes := #[] }
def k1m2 : Method := { name := "expected", desc := "(I)Lcom/example/fieldloom/fieldloom/CellFormat;", sig := { parameters := [.int], returnType := some (.object "com/example/fieldloom/fieldloom/CellFormat") }, accessFlags := 10, code := some k1c2 }
/-- com/example/fieldloom/fieldloom/CellFormatBuiltInPinLaw -/
def k1 : Class := { plain "com/example/fieldloom/fieldloom/CellFormatBuiltInPinLaw" (some 0) with
  accessFlags := 49
  interfaces := #[]
  cf := some (fileOf pool1 14 #[] #[{ accessFlags := 1, nameIndex := 5, descriptorIndex := 6, attributes := #[] }, { accessFlags := 9, nameIndex := 44, descriptorIndex := 45, attributes := #[] }, { accessFlags := 10, nameIndex := 17, descriptorIndex := 12, attributes := #[] }] 49 2 #[] #[])
  fields := #[]
  methods := #[k1m0, k1m1, k1m2]
  instanceTypes := #[]
  staticTypes := #[]
  resolved := Array.replicate 49 none
  statics := none }

def pool2 : Array CpInfo := pool [(1, .class_ 2), (0, u "java/lang/constant/Constable"), (0, .class_ 4), (0, u "java/lang/Object")] 6

/-- java/lang/constant/Constable -/
def k2 : Class := { plain "java/lang/constant/Constable" (some 0) with
  accessFlags := 1537
  interfaces := #[]
  cf := some (fileOf pool2 1 #[] #[] 1537 3 #[] #[])
  fields := #[]
  methods := #[]
  instanceTypes := #[]
  staticTypes := #[]
  resolved := Array.replicate 11 none
  statics := none }

def pool3 : Array CpInfo := pool [(1, .class_ 2), (0, u "java/lang/Comparable"), (0, .class_ 4), (0, u "java/lang/Object")] 7

/-- java/lang/Comparable -/
def k3 : Class := { plain "java/lang/Comparable" (some 0) with
  accessFlags := 1537
  interfaces := #[]
  cf := some (fileOf pool3 1 #[] #[] 1537 3 #[] #[])
  fields := #[]
  methods := #[]
  instanceTypes := #[]
  staticTypes := #[]
  resolved := Array.replicate 12 none
  statics := none }

def pool4 : Array CpInfo := pool [(1, .class_ 2), (0, u "java/io/Serializable"), (0, .class_ 4), (0, u "java/lang/Object")] 2

/-- java/io/Serializable -/
def k4 : Class := { plain "java/io/Serializable" (some 0) with
  accessFlags := 1537
  interfaces := #[]
  cf := some (fileOf pool4 1 #[] #[] 1537 3 #[] #[])
  fields := #[]
  methods := #[]
  instanceTypes := #[]
  staticTypes := #[]
  resolved := Array.replicate 7 none
  statics := none }

def pool5 : Array CpInfo := pool [(2, .class_ 4), (1, u "java/lang/Enum"), (0, u "name"), (0, u "Ljava/lang/String;"), (2, u "ordinal"), (0, u "I"), (1, .class_ 14), (1, u "java/lang/Object"), (4, u "hash"), (86, .class_ 108), (1, u "java/lang/Enum$EnumDesc"), (2, .class_ 112), (0, u "java/lang/constant/Constable"), (0, .class_ 114), (0, u "java/lang/Comparable"), (0, .class_ 116), (0, u "java/io/Serializable")] 87

/-- java/lang/Enum -/
def k5 : Class := { plain "java/lang/Enum" (some 0) with
  accessFlags := 1057
  interfaces := #[2, 3, 4]
  cf := some (fileOf pool5 2 #[.nestMembers #[106]] #[] 1057 12 #[111, 113, 115] #[{ accessFlags := 18, nameIndex := 5, descriptorIndex := 6, attributes := #[] }, { accessFlags := 18, nameIndex := 9, descriptorIndex := 10, attributes := #[] }, { accessFlags := 2, nameIndex := 19, descriptorIndex := 10, attributes := #[] }])
  fields := #[{ name := "name", type := (.object "java/lang/String"), accessFlags := 18, slot := 0, constantValue := 0 }, { name := "ordinal", type := .int, accessFlags := 18, slot := 1, constantValue := 0 }, { name := "hash", type := .int, accessFlags := 2, slot := 2, constantValue := 0 }]
  methods := #[]
  instanceTypes := #[(.object "java/lang/String"), .int, .int]
  staticTypes := #[]
  resolved := Array.replicate 204 none
  statics := none }

def pool6 : Array CpInfo := pool [(1, .class_ 2), (0, u "com/example/fieldloom/fieldloom/CellFormat"), (0, .fieldref 1 4), (0, .nameAndType 5 6), (0, u "NUMBER"), (0, u "Lcom/example/fieldloom/fieldloom/CellFormat;"), (0, .fieldref 1 8), (0, .nameAndType 9 6), (0, u "DATE"), (0, .fieldref 1 11), (0, .nameAndType 12 6), (0, u "TIME"), (0, .fieldref 1 14), (0, .nameAndType 15 6), (0, u "DATE_TIME"), (0, .fieldref 1 17), (0, .nameAndType 18 6), (0, u "ELAPSED"), (2, u "$VALUES"), (0, u "[Lcom/example/fieldloom/fieldloom/CellFormat;"), (6, .class_ 31), (1, u "java/lang/Enum"), (61, u "LAST_SERIAL"), (0, u "Ljava/math/BigDecimal;"), (10, u "SECONDS_PER_DAY"), (86, u "SPREADSHEET_DIGITS"), (0, u "Ljava/math/MathContext;"), (31, u "MAX_STORED_LENGTH"), (0, u "I"), (9, u "builtIn"), (0, u "(I)Lcom/example/fieldloom/fieldloom/CellFormat;")] 22

def k6c0 : Code := { maxStack := 2, maxLocals := 1, code := prog_8_method_4_code, exceptionTable := #[], attributes := #[] }
def k6m0 : Method := { name := "builtIn", desc := "(I)Lcom/example/fieldloom/fieldloom/CellFormat;", sig := { parameters := [.int], returnType := some (.object "com/example/fieldloom/fieldloom/CellFormat") }, accessFlags := 8, code := some k6c0 }
/-- com/example/fieldloom/fieldloom/CellFormat -/
def k6 : Class := { plain "com/example/fieldloom/fieldloom/CellFormat" (some 5) with
  accessFlags := 16432
  interfaces := #[]
  cf := some (fileOf pool6 1 #[] #[{ accessFlags := 8, nameIndex := 236, descriptorIndex := 237, attributes := #[] }] 16432 29 #[] #[{ accessFlags := 16409, nameIndex := 5, descriptorIndex := 6, attributes := #[] }, { accessFlags := 16409, nameIndex := 9, descriptorIndex := 6, attributes := #[] }, { accessFlags := 16409, nameIndex := 12, descriptorIndex := 6, attributes := #[] }, { accessFlags := 16409, nameIndex := 15, descriptorIndex := 6, attributes := #[] }, { accessFlags := 16409, nameIndex := 18, descriptorIndex := 6, attributes := #[] }, { accessFlags := 26, nameIndex := 105, descriptorIndex := 94, attributes := #[] }, { accessFlags := 26, nameIndex := 93, descriptorIndex := 94, attributes := #[] }, { accessFlags := 26, nameIndex := 192, descriptorIndex := 193, attributes := #[] }, { accessFlags := 26, nameIndex := 225, descriptorIndex := 226, attributes := #[] }, { accessFlags := 4122, nameIndex := 21, descriptorIndex := 22, attributes := #[] }])
  fields := #[{ name := "NUMBER", type := (.object "com/example/fieldloom/fieldloom/CellFormat"), accessFlags := 16409, slot := 0, constantValue := 0 }, { name := "DATE", type := (.object "com/example/fieldloom/fieldloom/CellFormat"), accessFlags := 16409, slot := 1, constantValue := 0 }, { name := "TIME", type := (.object "com/example/fieldloom/fieldloom/CellFormat"), accessFlags := 16409, slot := 2, constantValue := 0 }, { name := "DATE_TIME", type := (.object "com/example/fieldloom/fieldloom/CellFormat"), accessFlags := 16409, slot := 3, constantValue := 0 }, { name := "ELAPSED", type := (.object "com/example/fieldloom/fieldloom/CellFormat"), accessFlags := 16409, slot := 4, constantValue := 0 }, { name := "SECONDS_PER_DAY", type := (.object "java/math/BigDecimal"), accessFlags := 26, slot := 5, constantValue := 0 }, { name := "LAST_SERIAL", type := (.object "java/math/BigDecimal"), accessFlags := 26, slot := 6, constantValue := 0 }, { name := "SPREADSHEET_DIGITS", type := (.object "java/math/MathContext"), accessFlags := 26, slot := 7, constantValue := 0 }, { name := "MAX_STORED_LENGTH", type := .int, accessFlags := 26, slot := 8, constantValue := 0 }, { name := "$VALUES", type := (.array (.object "com/example/fieldloom/fieldloom/CellFormat")), accessFlags := 4122, slot := 9, constantValue := 0 }]
  methods := #[k6m0]
  instanceTypes := #[(.object "java/lang/String"), .int, .int]
  staticTypes := #[(.object "com/example/fieldloom/fieldloom/CellFormat"), (.object "com/example/fieldloom/fieldloom/CellFormat"), (.object "com/example/fieldloom/fieldloom/CellFormat"), (.object "com/example/fieldloom/fieldloom/CellFormat"), (.object "com/example/fieldloom/fieldloom/CellFormat"), (.object "java/math/BigDecimal"), (.object "java/math/BigDecimal"), (.object "java/math/MathContext"), .int, (.array (.object "com/example/fieldloom/fieldloom/CellFormat"))]
  resolved := Array.replicate 260 none
  statics := some 0 }

def pool7 : Array CpInfo := pool [(2, .class_ 4), (1, u "java/lang/CharSequence"), (42, .class_ 48), (0, u "java/lang/CharSequence$1CodePointIterator"), (10, .class_ 60), (0, u "java/lang/CharSequence$1CharIterator"), (5, .class_ 67), (0, u "java/lang/Object")] 63

/-- java/lang/CharSequence -/
def k7 : Class := { plain "java/lang/CharSequence" (some 0) with
  accessFlags := 1537
  interfaces := #[]
  cf := some (fileOf pool7 2 #[.nestMembers #[47, 59]] #[] 1537 66 #[] #[])
  fields := #[]
  methods := #[]
  instanceTypes := #[]
  staticTypes := #[]
  resolved := Array.replicate 131 none
  statics := none }

def pool8 : Array CpInfo := pool [(1, .class_ 2), (0, u "java/lang/constant/ConstantDesc"), (0, .class_ 4), (0, u "java/lang/Object")] 32

/-- java/lang/constant/ConstantDesc -/
def k8 : Class := { plain "java/lang/constant/ConstantDesc" (some 0) with
  accessFlags := 1537
  interfaces := #[]
  cf := some (fileOf pool8 1 #[] #[] 1537 3 #[] #[])
  fields := #[]
  methods := #[]
  instanceTypes := #[]
  staticTypes := #[]
  resolved := Array.replicate 37 none
  statics := none }

def pool9 : Array CpInfo := pool [(2, .class_ 4), (1, u "java/lang/Object"), (0, u "<init>"), (0, u "()V"), (2, .fieldref 10 11), (0, .class_ 12), (0, .nameAndType 13 14), (0, u "java/lang/String"), (0, u "value"), (0, u "[B"), (0, .fieldref 10 16), (0, .nameAndType 17 18), (0, u "coder"), (0, u "B"), (2, u "hash"), (0, u "I"), (2, u "hashIsZero"), (0, u "Z"), (11, .fieldref 10 39), (0, .nameAndType 40 26), (0, u "COMPACT_STRINGS"), (66, .class_ 109), (1, u "java/lang/StringLatin1"), (32, u "()Z"), (220, u "([BI)C"), (27, u "(II)V"), (35, u "(I)C"), (64, .methodref 10 493), (0, .nameAndType 494 142), (0, u "isLatin1"), (0, .methodref 107 496), (0, .nameAndType 497 363), (0, u "charAt"), (3, u "checkIndex"), (73, .class_ 576), (0, u "java/lang/CharSequence"), (22, u "CASE_INSENSITIVE_ORDER"), (0, u "Ljava/util/Comparator;"), (452, .fieldref 1054 1055), (0, .class_ 1056), (0, .nameAndType 1057 1058), (0, u "jdk/internal/util/Preconditions"), (0, u "SIOOBE_FORMATTER"), (0, u "Ljava/util/function/BiFunction;"), (0, .methodref 1054 1060), (0, .nameAndType 501 1061), (0, u "(IILjava/util/function/BiFunction;)I"), (39, u "serialPersistentFields"), (0, u "[Ljava/io/ObjectStreamField;"), (0, .class_ 1104), (0, u "java/lang/String$CaseInsensitiveComparator"), (1, .class_ 1107), (0, u "java/io/Serializable"), (0, .class_ 1109), (0, u "java/lang/Comparable"), (0, .class_ 1111), (0, u "java/lang/constant/Constable"), (0, .class_ 1113), (0, u "java/lang/constant/ConstantDesc"), (2, u "serialVersionUID"), (0, u "J"), (3, u "REPL"), (0, u "C"), (2, u "LATIN1"), (1, u "UTF16")] 323

def k9m0 : Method := { name := "<init>", desc := "()V", sig := { parameters := [], returnType := none }, accessFlags := 1, code := none }
def k9c1 : Code := { maxStack := 2, maxLocals := 2, code := jdk_42_method_56_code, exceptionTable := #[], attributes := #[] }
def k9m1 : Method := { name := "charAt", desc := "(I)C", sig := { parameters := [.int], returnType := some .char }, accessFlags := 1, code := some k9c1 }
def k9c2 : Code := { maxStack := 1, maxLocals := 1, code := jdk_42_method_154_code, exceptionTable := #[], attributes := #[] }
def k9m2 : Method := { name := "isLatin1", desc := "()Z", sig := { parameters := [], returnType := some .boolean }, accessFlags := 0, code := some k9c2 }
def k9c3 : Code := { maxStack := 3, maxLocals := 2, code := jdk_42_method_155_code, exceptionTable := #[], attributes := #[] }
def k9m3 : Method := { name := "checkIndex", desc := "(II)V", sig := { parameters := [.int, .int], returnType := none }, accessFlags := 8, code := some k9c3 }
/-- java/lang/String -/
def k9 : Class := { plain "java/lang/String" (some 0) with
  accessFlags := 49
  interfaces := #[4, 3, 7, 2, 8]
  cf := some (fileOf pool9 10 #[.nestMembers #[1103]] #[{ accessFlags := 1, nameIndex := 5, descriptorIndex := 6, attributes := #[] }, { accessFlags := 1, nameIndex := 497, descriptorIndex := 427, attributes := #[] }, { accessFlags := 0, nameIndex := 494, descriptorIndex := 142, attributes := #[] }, { accessFlags := 8, nameIndex := 501, descriptorIndex := 391, attributes := #[] }] 49 2 #[1106, 1108, 575, 1110, 1112] #[{ accessFlags := 18, nameIndex := 13, descriptorIndex := 14, attributes := #[] }, { accessFlags := 18, nameIndex := 17, descriptorIndex := 18, attributes := #[] }, { accessFlags := 2, nameIndex := 21, descriptorIndex := 22, attributes := #[] }, { accessFlags := 2, nameIndex := 25, descriptorIndex := 26, attributes := #[] }, { accessFlags := 26, nameIndex := 1116, descriptorIndex := 1117, attributes := #[] }, { accessFlags := 24, nameIndex := 40, descriptorIndex := 26, attributes := #[] }, { accessFlags := 26, nameIndex := 1101, descriptorIndex := 1102, attributes := #[] }, { accessFlags := 26, nameIndex := 1121, descriptorIndex := 1122, attributes := #[] }, { accessFlags := 25, nameIndex := 599, descriptorIndex := 600, attributes := #[] }, { accessFlags := 24, nameIndex := 1125, descriptorIndex := 18, attributes := #[] }, { accessFlags := 24, nameIndex := 1127, descriptorIndex := 18, attributes := #[] }])
  fields := #[{ name := "value", type := (.array .byte), accessFlags := 18, slot := 0, constantValue := 0 }, { name := "coder", type := .byte, accessFlags := 18, slot := 1, constantValue := 0 }, { name := "hash", type := .int, accessFlags := 2, slot := 2, constantValue := 0 }, { name := "hashIsZero", type := .boolean, accessFlags := 2, slot := 3, constantValue := 0 }, { name := "serialVersionUID", type := .long, accessFlags := 26, slot := 0, constantValue := 0 }, { name := "COMPACT_STRINGS", type := .boolean, accessFlags := 24, slot := 1, constantValue := 0 }, { name := "serialPersistentFields", type := (.array (.object "java/io/ObjectStreamField")), accessFlags := 26, slot := 2, constantValue := 0 }, { name := "REPL", type := .char, accessFlags := 26, slot := 3, constantValue := 0 }, { name := "CASE_INSENSITIVE_ORDER", type := (.object "java/util/Comparator"), accessFlags := 25, slot := 4, constantValue := 0 }, { name := "LATIN1", type := .byte, accessFlags := 24, slot := 5, constantValue := 0 }, { name := "UTF16", type := .byte, accessFlags := 24, slot := 6, constantValue := 0 }]
  methods := #[k9m0, k9m1, k9m2, k9m3]
  instanceTypes := #[(.array .byte), .byte, .int, .boolean]
  staticTypes := #[.long, .boolean, (.array (.object "java/io/ObjectStreamField")), .char, (.object "java/util/Comparator"), .byte, .byte]
  resolved := Array.replicate 1451 none
  statics := some 1 }

def pool10 : Array CpInfo := pool [(1, .class_ 2), (0, u "java/lang/String"), (1, .class_ 6), (1, u "java/lang/Object"), (0, u "<init>"), (0, u "()V"), (0, .methodref 1 10), (0, .nameAndType 11 12), (0, u "checkIndex"), (0, u "(II)V"), (1, .class_ 16), (1, u "java/lang/StringLatin1"), (36, u "([BI)C"), (67, u "$assertionsDisabled"), (0, u "Z"), (98, .class_ 223), (1, u "java/lang/StringLatin1$LinesSpliterator"), (28, u "charAt"), (137, .class_ 391), (0, u "java/lang/StringLatin1$CharsSpliterator")] 3

def k10m0 : Method := { name := "<init>", desc := "()V", sig := { parameters := [], returnType := none }, accessFlags := 0, code := none }
def k10c1 : Code := { maxStack := 2, maxLocals := 2, code := jdk_43_method_2_code, exceptionTable := #[], attributes := #[] }
def k10m1 : Method := { name := "charAt", desc := "([BI)C", sig := { parameters := [(.array .byte), .int], returnType := some .char }, accessFlags := 9, code := some k10c1 }
/-- java/lang/StringLatin1 -/
def k10 : Class := { plain "java/lang/StringLatin1" (some 0) with
  accessFlags := 48
  interfaces := #[]
  cf := some (fileOf pool10 14 #[.nestMembers #[390, 221]] #[{ accessFlags := 0, nameIndex := 7, descriptorIndex := 8, attributes := #[] }, { accessFlags := 9, nameIndex := 252, descriptorIndex := 53, attributes := #[] }] 48 4 #[] #[{ accessFlags := 4120, nameIndex := 121, descriptorIndex := 122, attributes := #[] }])
  fields := #[{ name := "$assertionsDisabled", type := .boolean, accessFlags := 4120, slot := 0, constantValue := 0 }]
  methods := #[k10m0, k10m1]
  instanceTypes := #[]
  staticTypes := #[.boolean]
  resolved := Array.replicate 395 none
  statics := none }

def pool11 : Array CpInfo := pool [(2, .class_ 4), (1, u "java/lang/Object"), (0, u "<init>"), (0, u "()V"), (17, .class_ 26), (1, u "jdk/internal/util/Preconditions"), (6, u "checkIndex"), (21, .class_ 56), (0, u "jdk/internal/util/Preconditions$4"), (57, .class_ 115), (0, u "jdk/internal/util/Preconditions$1"), (7, u "SIOOBE_FORMATTER"), (0, u "Ljava/util/function/BiFunction;"), (0, .class_ 126), (0, u "jdk/internal/util/Preconditions$2"), (3, u "AIOOBE_FORMATTER"), (0, .class_ 132), (0, u "jdk/internal/util/Preconditions$3"), (3, u "IOOBE_FORMATTER"), (41, u "(IILjava/util/function/BiFunction;)I")] 15

def k11m0 : Method := { name := "<init>", desc := "()V", sig := { parameters := [], returnType := none }, accessFlags := 1, code := none }
def k11c1 : Code := { maxStack := 3, maxLocals := 3, code := jdk_41_method_11_code, exceptionTable := #[], attributes := #[] }
def k11m1 : Method := { name := "checkIndex", desc := "(IILjava/util/function/BiFunction;)I", sig := { parameters := [.int, .int, (.object "java/util/function/BiFunction")], returnType := some .int }, accessFlags := 9, code := some k11c1 }
/-- jdk/internal/util/Preconditions -/
def k11 : Class := { plain "jdk/internal/util/Preconditions" (some 0) with
  accessFlags := 33
  interfaces := #[]
  cf := some (fileOf pool11 24 #[.nestMembers #[55, 131, 125, 114]] #[{ accessFlags := 1, nameIndex := 5, descriptorIndex := 6, attributes := #[] }, { accessFlags := 9, nameIndex := 33, descriptorIndex := 178, attributes := #[] }] 33 2 #[] #[{ accessFlags := 25, nameIndex := 123, descriptorIndex := 124, attributes := #[] }, { accessFlags := 25, nameIndex := 130, descriptorIndex := 124, attributes := #[] }, { accessFlags := 25, nameIndex := 136, descriptorIndex := 124, attributes := #[] }])
  fields := #[{ name := "SIOOBE_FORMATTER", type := (.object "java/util/function/BiFunction"), accessFlags := 25, slot := 0, constantValue := 0 }, { name := "AIOOBE_FORMATTER", type := (.object "java/util/function/BiFunction"), accessFlags := 25, slot := 1, constantValue := 0 }, { name := "IOOBE_FORMATTER", type := (.object "java/util/function/BiFunction"), accessFlags := 25, slot := 2, constantValue := 0 }]
  methods := #[k11m0, k11m1]
  instanceTypes := #[]
  staticTypes := #[(.object "java/util/function/BiFunction"), (.object "java/util/function/BiFunction"), (.object "java/util/function/BiFunction")]
  resolved := Array.replicate 194 none
  statics := some 2 }

def pool12 : Array CpInfo := pool [(9, u "<init>"), (6, .class_ 18), (1, u "java/lang/Object"), (0, u "()V"), (1, .class_ 23), (1, u "jdk/internal/util/ArraysSupport"), (0, u "LOG2_ARRAY_LONG_INDEX_SCALE"), (0, u "I"), (2, u "U"), (0, u "Ljdk/internal/misc/Unsafe;"), (8, u "BIG_ENDIAN"), (0, u "Z"), (8, u "LOG2_BYTE_BIT_SIZE"), (4, u "LOG2_ARRAY_INT_INDEX_SCALE"), (54, u "JLA"), (0, u "Ljdk/internal/access/JavaLangAccess;"), (11, u "LOG2_ARRAY_BOOLEAN_INDEX_SCALE"), (9, u "LOG2_ARRAY_BYTE_INDEX_SCALE"), (5, u "LOG2_ARRAY_CHAR_INDEX_SCALE"), (5, u "LOG2_ARRAY_SHORT_INDEX_SCALE"), (18, u "LOG2_ARRAY_FLOAT_INDEX_SCALE"), (24, u "LOG2_ARRAY_DOUBLE_INDEX_SCALE"), (89, u "T_BOOLEAN"), (2, u "T_CHAR"), (1, u "T_FLOAT"), (1, u "T_DOUBLE"), (1, u "T_BYTE"), (1, u "T_SHORT"), (1, u "T_INT"), (1, u "T_LONG"), (1, u "SOFT_MAX_ARRAY_LENGTH")] 83

def k12m0 : Method := { name := "<init>", desc := "()V", sig := { parameters := [], returnType := none }, accessFlags := 2, code := none }
/-- jdk/internal/util/ArraysSupport -/
def k12 : Class := { plain "jdk/internal/util/ArraysSupport" (some 0) with
  accessFlags := 33
  interfaces := #[]
  cf := some (fileOf pool12 21 #[] #[{ accessFlags := 2, nameIndex := 9, descriptorIndex := 19, attributes := #[] }] 33 16 #[] #[{ accessFlags := 24, nameIndex := 28, descriptorIndex := 29, attributes := #[] }, { accessFlags := 26, nameIndex := 38, descriptorIndex := 39, attributes := #[] }, { accessFlags := 25, nameIndex := 121, descriptorIndex := 25, attributes := #[] }, { accessFlags := 25, nameIndex := 131, descriptorIndex := 25, attributes := #[] }, { accessFlags := 25, nameIndex := 137, descriptorIndex := 25, attributes := #[] }, { accessFlags := 25, nameIndex := 143, descriptorIndex := 25, attributes := #[] }, { accessFlags := 25, nameIndex := 53, descriptorIndex := 25, attributes := #[] }, { accessFlags := 25, nameIndex := 24, descriptorIndex := 25, attributes := #[] }, { accessFlags := 25, nameIndex := 162, descriptorIndex := 25, attributes := #[] }, { accessFlags := 25, nameIndex := 187, descriptorIndex := 25, attributes := #[] }, { accessFlags := 26, nameIndex := 48, descriptorIndex := 25, attributes := #[] }, { accessFlags := 25, nameIndex := 277, descriptorIndex := 25, attributes := #[] }, { accessFlags := 25, nameIndex := 280, descriptorIndex := 25, attributes := #[] }, { accessFlags := 25, nameIndex := 282, descriptorIndex := 25, attributes := #[] }, { accessFlags := 25, nameIndex := 284, descriptorIndex := 25, attributes := #[] }, { accessFlags := 25, nameIndex := 286, descriptorIndex := 25, attributes := #[] }, { accessFlags := 25, nameIndex := 288, descriptorIndex := 25, attributes := #[] }, { accessFlags := 25, nameIndex := 290, descriptorIndex := 25, attributes := #[] }, { accessFlags := 25, nameIndex := 292, descriptorIndex := 25, attributes := #[] }, { accessFlags := 26, nameIndex := 108, descriptorIndex := 109, attributes := #[] }, { accessFlags := 25, nameIndex := 294, descriptorIndex := 25, attributes := #[] }])
  fields := #[{ name := "U", type := (.object "jdk/internal/misc/Unsafe"), accessFlags := 24, slot := 0, constantValue := 0 }, { name := "BIG_ENDIAN", type := .boolean, accessFlags := 26, slot := 1, constantValue := 0 }, { name := "LOG2_ARRAY_BOOLEAN_INDEX_SCALE", type := .int, accessFlags := 25, slot := 2, constantValue := 0 }, { name := "LOG2_ARRAY_BYTE_INDEX_SCALE", type := .int, accessFlags := 25, slot := 3, constantValue := 0 }, { name := "LOG2_ARRAY_CHAR_INDEX_SCALE", type := .int, accessFlags := 25, slot := 4, constantValue := 0 }, { name := "LOG2_ARRAY_SHORT_INDEX_SCALE", type := .int, accessFlags := 25, slot := 5, constantValue := 0 }, { name := "LOG2_ARRAY_INT_INDEX_SCALE", type := .int, accessFlags := 25, slot := 6, constantValue := 0 }, { name := "LOG2_ARRAY_LONG_INDEX_SCALE", type := .int, accessFlags := 25, slot := 7, constantValue := 0 }, { name := "LOG2_ARRAY_FLOAT_INDEX_SCALE", type := .int, accessFlags := 25, slot := 8, constantValue := 0 }, { name := "LOG2_ARRAY_DOUBLE_INDEX_SCALE", type := .int, accessFlags := 25, slot := 9, constantValue := 0 }, { name := "LOG2_BYTE_BIT_SIZE", type := .int, accessFlags := 26, slot := 10, constantValue := 0 }, { name := "T_BOOLEAN", type := .int, accessFlags := 25, slot := 11, constantValue := 0 }, { name := "T_CHAR", type := .int, accessFlags := 25, slot := 12, constantValue := 0 }, { name := "T_FLOAT", type := .int, accessFlags := 25, slot := 13, constantValue := 0 }, { name := "T_DOUBLE", type := .int, accessFlags := 25, slot := 14, constantValue := 0 }, { name := "T_BYTE", type := .int, accessFlags := 25, slot := 15, constantValue := 0 }, { name := "T_SHORT", type := .int, accessFlags := 25, slot := 16, constantValue := 0 }, { name := "T_INT", type := .int, accessFlags := 25, slot := 17, constantValue := 0 }, { name := "T_LONG", type := .int, accessFlags := 25, slot := 18, constantValue := 0 }, { name := "JLA", type := (.object "jdk/internal/access/JavaLangAccess"), accessFlags := 26, slot := 19, constantValue := 0 }, { name := "SOFT_MAX_ARRAY_LENGTH", type := .int, accessFlags := 25, slot := 20, constantValue := 0 }]
  methods := #[k12m0]
  instanceTypes := #[]
  staticTypes := #[(.object "jdk/internal/misc/Unsafe"), .boolean, .int, .int, .int, .int, .int, .int, .int, .int, .int, .int, .int, .int, .int, .int, .int, .int, .int, (.object "jdk/internal/access/JavaLangAccess"), .int]
  resolved := Array.replicate 378 none
  statics := none }

def pool13 : Array CpInfo := pool [(1, u "java/lang/Cloneable"), (0, .class_ 1), (0, u "java/lang/Object"), (0, .class_ 3)] 3

/-- java/lang/Cloneable -/
def k13 : Class := { plain "java/lang/Cloneable" (some 0) with
  accessFlags := 1537
  interfaces := #[]
  cf := some (fileOf pool13 2 #[] #[] 1537 4 #[] #[])
  fields := #[]
  methods := #[]
  instanceTypes := #[]
  staticTypes := #[]
  resolved := Array.replicate 8 none
  statics := none }

/-- the primitive byte -/
def k14 : Class := { plain "byte" none with kind := .primitive 'B', accessFlags := 0x411 }
/-- [B -/
def k15 : Class := { plain "[B" (some 0) with kind := .array 14 .byte, interfaces := #[13, 4], accessFlags := 1041 }

/-- the primitive int -/
def k16 : Class := { plain "int" none with kind := .primitive 'I', accessFlags := 0x411 }
/-- [I -/
def k17 : Class := { plain "[I" (some 0) with kind := .array 16 .int, interfaces := #[13, 4], accessFlags := 1041 }

def heap : Heap := #[{ cls := 6, slots := #[.ref 3, .ref 4, .ref 5, .ref 6, .ref 7, .null, .null, .null, .int 0, .null], vm := .statics 6 },
  { cls := 9, slots := #[.long 0, .int 1, .null, .int 0, .null, .int 0, .int 0], vm := .statics 9 },
  { cls := 11, slots := #[.null, .null, .null], vm := .statics 11 },
  { cls := 6, slots := #[.null, .int 0, .int 0], vm := .none },
  { cls := 6, slots := #[.null, .int 1, .int 0], vm := .none },
  { cls := 6, slots := #[.null, .int 2, .int 0], vm := .none },
  { cls := 6, slots := #[.null, .int 3, .int 0], vm := .none },
  { cls := 6, slots := #[.null, .int 4, .int 0], vm := .none }]
def classes : Array Class := #[k0, k1, k2, k3, k4, k5, k6, k7, k8, k9, k10, k11, k12, k13, k14, k15, k16, k17]
def interned : List (Array UInt16 × Addr) := []
def slotsUsed : Nat := 35
def theMethod : MethodId := ⟨1, 1⟩
def args0 : Array Value := #[.int 5, .int 1]
def aboutOver (below : List Frame) : State where
  vm := { classes := classes, interned := interned.toArray }
  heap := heap
  slotsUsed := slotsUsed
  threads := #[{ frames := .invoking theMethod args0 :: below }]
def below0 : List Frame := [.native { method := ⟨0, 0⟩, args := #[] }]
def about1 : State := aboutOver below0
def p0 : Program := .bare "" "" ""
def e0 : Env := launch0.env 0 0 0
theorem w_frames : about1.frames = Frame.invoking theMethod args0 :: below0 := rfl
set_option maxRecDepth 65536 in
theorem w_args : argsFit about1.vm theMethod args0 = true := by decide +kernel
set_option maxRecDepth 65536 in
theorem w_heap : heapFits about1 = true := by decide +kernel
set_option maxRecDepth 65536 in
theorem w_runnable : about1.curStatus? = some .runnable := by decide +kernel
set_option maxRecDepth 65536 in
theorem w_alone : about1.alone = true := by decide +kernel
set_option maxRecDepth 65536 in
theorem w_named : about1.methodNamed? x = some theMethod := by decide +kernel
set_option maxRecDepth 65536 in
theorem w_hears : about1.hears theMethod below0 = true := by decide +kernel
set_option maxRecDepth 65536 in
theorem w_ripe : about1.ripe theMethod args0 below0 = true := by decide +kernel
theorem w_running : about1.status = .running := rfl
set_option maxRecDepth 65536 in
theorem w_room : about1.hasRoom e0.platform room_1 = true :=
  launch0.hasRoom_least _ room_1 (by decide +kernel) (by decide +kernel) (by decide +kernel) (by decide +kernel) (by decide +kernel) (by decide +kernel)
theorem allAtoms_all (ts : List Jvm.Cond) (a : Array Jvm.Value) (st : Jvm.State) : (allAtoms ts).before a st = ts.all (fun c => c.before a st) := by
  induction ts with
  | nil => rfl
  | cons c t ih =>
    show (Jvm.Cond.and c (allAtoms t)).before a st = _
    rw [Jvm.Cond.before_and, ih, List.all_cons]
def words1 : List Jvm.Cond := Jvm.Cond.code x code maxLocals ret :: tables_1
/-- a 'code' word, met by the world's own term for the bytes: nothing is compared byte by byte -/
theorem code_word {y : MethodName} {bytes : ByteArray} {mx : Nat} {rt : Option FieldType} {a : Array Value} {s : State} {m : MethodId} {meth : Method} {c : Code} (h1 : s.methodNamed? y = some m) (h2 : s.vm.method? m = some meth) (h3 : meth.code = some c) (h4 : c.code = bytes)
    (h5 : (c.maxLocals == mx && c.exceptionTable.isEmpty && decide (c.maxStack ≤ mostOperands) && decide (meth.sig.returnType = rt) && !meth.locks && decide (parseMethodDescriptor y.desc = some meth.sig)) = true) : (Jvm.Cond.code y bytes mx rt).before a s = true := by
  simp only [Bool.and_eq_true, beq_iff_eq, Bool.not_eq_true', decide_eq_true_eq] at h5
  obtain ⟨⟨⟨⟨⟨g1, g2⟩, g3⟩, g4⟩, g5⟩, g6⟩ := h5
  simp [Cond.before, Cond.holds, Cond.value, h1, h2, h3, h4, g1, g2, g3, g4, g5, g6]
def isCode : Jvm.Cond → Bool
  | .code _ _ _ _ => true
  | _ => false
theorem all_split {L : List Jvm.Cond} {P : Jvm.Cond → Bool} (h1 : L.all (fun c => isCode c || P c) = true) (h2 : ∀ c ∈ L.filter isCode, P c = true) : L.all P = true := by
  refine List.all_eq_true.mpr fun c hc => ?_
  have h := List.all_eq_true.mp h1 c hc
  rcases Bool.eq_false_or_eq_true (isCode c) with hi | hi
  · exact h2 c (List.mem_filter.mpr ⟨hc, hi⟩)
  · simpa [hi] using h
set_option maxRecDepth 65536 in
theorem w_c0 : (Jvm.Cond.code x code maxLocals ret).before args0 about1 = true := code_word (m := ⟨1, 1⟩) (meth := k1m1) (c := k1c1) (by decide +kernel) rfl rfl rfl (by decide +kernel)
set_option maxRecDepth 65536 in
theorem w_c1 : (Jvm.Cond.code ({ cls := "com/example/fieldloom/fieldloom/CellFormat", name := "builtIn", desc := "(I)Lcom/example/fieldloom/fieldloom/CellFormat;" } : Jvm.MethodName) prog_8_method_4_code (1 : Nat) (Option.some (Jvm.ClassFile.FieldType.object "com/example/fieldloom/fieldloom/CellFormat"))).before args0 about1 = true := code_word (m := ⟨6, 0⟩) (meth := k6m0) (c := k6c0) (by decide +kernel) rfl rfl rfl (by decide +kernel)
set_option maxRecDepth 65536 in
theorem w_c2 : (Jvm.Cond.code ({ cls := "com/example/fieldloom/fieldloom/CellFormatBuiltInPinLaw", name := "expected", desc := "(I)Lcom/example/fieldloom/fieldloom/CellFormat;" } : Jvm.MethodName) method_3_code (2 : Nat) (Option.some (Jvm.ClassFile.FieldType.object "com/example/fieldloom/fieldloom/CellFormat"))).before args0 about1 = true := code_word (m := ⟨1, 2⟩) (meth := k1m2) (c := k1c2) (by decide +kernel) rfl rfl rfl (by decide +kernel)
set_option maxRecDepth 65536 in
theorem w_c3 : (Jvm.Cond.code ({ cls := "java/lang/String", name := "charAt", desc := "(I)C" } : Jvm.MethodName) jdk_42_method_56_code (2 : Nat) (Option.some Jvm.ClassFile.FieldType.char)).before args0 about1 = true := code_word (m := ⟨9, 1⟩) (meth := k9m1) (c := k9c1) (by decide +kernel) rfl rfl rfl (by decide +kernel)
set_option maxRecDepth 65536 in
theorem w_c4 : (Jvm.Cond.code ({ cls := "java/lang/String", name := "isLatin1", desc := "()Z" } : Jvm.MethodName) jdk_42_method_154_code (1 : Nat) (Option.some Jvm.ClassFile.FieldType.boolean)).before args0 about1 = true := code_word (m := ⟨9, 2⟩) (meth := k9m2) (c := k9c2) (by decide +kernel) rfl rfl rfl (by decide +kernel)
set_option maxRecDepth 65536 in
theorem w_c5 : (Jvm.Cond.code ({ cls := "java/lang/StringLatin1", name := "charAt", desc := "([BI)C" } : Jvm.MethodName) jdk_43_method_2_code (2 : Nat) (Option.some Jvm.ClassFile.FieldType.char)).before args0 about1 = true := code_word (m := ⟨10, 1⟩) (meth := k10m1) (c := k10c1) (by decide +kernel) rfl rfl rfl (by decide +kernel)
set_option maxRecDepth 65536 in
theorem w_c6 : (Jvm.Cond.code ({ cls := "java/lang/String", name := "checkIndex", desc := "(II)V" } : Jvm.MethodName) jdk_42_method_155_code (2 : Nat) (Option.none : Option Jvm.ClassFile.FieldType)).before args0 about1 = true := code_word (m := ⟨9, 3⟩) (meth := k9m3) (c := k9c3) (by decide +kernel) rfl rfl rfl (by decide +kernel)
set_option maxRecDepth 65536 in
theorem w_c7 : (Jvm.Cond.code ({ cls := "jdk/internal/util/Preconditions", name := "checkIndex", desc := "(IILjava/util/function/BiFunction;)I" } : Jvm.MethodName) jdk_41_method_11_code (3 : Nat) (Option.some Jvm.ClassFile.FieldType.int)).before args0 about1 = true := code_word (m := ⟨11, 1⟩) (meth := k11m1) (c := k11c1) (by decide +kernel) rfl rfl rfl (by decide +kernel)
def codes1 : List Jvm.Cond := [Jvm.Cond.code x code maxLocals ret, Jvm.Cond.code ({ cls := "com/example/fieldloom/fieldloom/CellFormat", name := "builtIn", desc := "(I)Lcom/example/fieldloom/fieldloom/CellFormat;" } : Jvm.MethodName) prog_8_method_4_code (1 : Nat) (Option.some (Jvm.ClassFile.FieldType.object "com/example/fieldloom/fieldloom/CellFormat")), Jvm.Cond.code ({ cls := "com/example/fieldloom/fieldloom/CellFormatBuiltInPinLaw", name := "expected", desc := "(I)Lcom/example/fieldloom/fieldloom/CellFormat;" } : Jvm.MethodName) method_3_code (2 : Nat) (Option.some (Jvm.ClassFile.FieldType.object "com/example/fieldloom/fieldloom/CellFormat")), Jvm.Cond.code ({ cls := "java/lang/String", name := "charAt", desc := "(I)C" } : Jvm.MethodName) jdk_42_method_56_code (2 : Nat) (Option.some Jvm.ClassFile.FieldType.char), Jvm.Cond.code ({ cls := "java/lang/String", name := "isLatin1", desc := "()Z" } : Jvm.MethodName) jdk_42_method_154_code (1 : Nat) (Option.some Jvm.ClassFile.FieldType.boolean), Jvm.Cond.code ({ cls := "java/lang/StringLatin1", name := "charAt", desc := "([BI)C" } : Jvm.MethodName) jdk_43_method_2_code (2 : Nat) (Option.some Jvm.ClassFile.FieldType.char), Jvm.Cond.code ({ cls := "java/lang/String", name := "checkIndex", desc := "(II)V" } : Jvm.MethodName) jdk_42_method_155_code (2 : Nat) (Option.none : Option Jvm.ClassFile.FieldType), Jvm.Cond.code ({ cls := "jdk/internal/util/Preconditions", name := "checkIndex", desc := "(IILjava/util/function/BiFunction;)I" } : Jvm.MethodName) jdk_41_method_11_code (3 : Nat) (Option.some Jvm.ClassFile.FieldType.int)]
set_option maxRecDepth 65536 in
theorem codes_eq : words1.filter isCode = codes1 := rfl
theorem w_codes : ∀ c ∈ words1.filter isCode, c.before args0 about1 = true := by
  rw [codes_eq]
  intro c hc
  simp only [codes1, List.mem_cons, List.not_mem_nil, or_false] at hc
  rcases hc with rfl | rfl | rfl | rfl | rfl | rfl | rfl | rfl
  · exact w_c0
  · exact w_c1
  · exact w_c2
  · exact w_c3
  · exact w_c4
  · exact w_c5
  · exact w_c6
  · exact w_c7
set_option maxRecDepth 65536 in
theorem w_t1 : (words1.take 24).all (fun c => isCode c || c.before args0 about1) = true := by decide +kernel
set_option maxRecDepth 65536 in
theorem w_t2 : ((words1.drop 24).take 24).all (fun c => isCode c || c.before args0 about1) = true := by decide +kernel
set_option maxRecDepth 65536 in
theorem w_t3 : ((words1.drop 24).drop 24).all (fun c => isCode c || c.before args0 about1) = true := by decide +kernel
theorem w_tables : (allAtoms (Jvm.Cond.code x code maxLocals ret :: tables_1)).before args0 about1 = true := by
  rw [allAtoms_all]
  show words1.all (fun c => c.before args0 about1) = true
  refine all_split ?_ w_codes
  rw [← List.take_append_drop 24 words1, List.all_append, w_t1, ← List.take_append_drop 24 (words1.drop 24), List.all_append, w_t2, w_t3]
  rfl
set_option maxRecDepth 65536 in
theorem w_rest : rest_1_c.before args0 about1 = true := by decide +kernel
set_option maxRecDepth 65536 in
theorem w_case : (Jvm.Cond.and given_1 narrow_1).before args0 about1 = true := by decide +kernel
set_option maxRecDepth 65536 in
theorem w_consts : constsHeld consts_1 about1 := Jvm.Lit.constsHeldB_iff.mp (by decide +kernel)
theorem w_applies : (headSpec (Jvm.Cond.code x code maxLocals ret :: tables_1) room_1).applies x e0.platform about1 = true :=
  (Spec.applies_iff w_frames).mpr ⟨w_running, w_runnable, w_alone, w_named, w_hears, w_ripe, w_room, w_tables⟩
theorem atStart : AtStart classFile x code maxLocals ret World_1 tables_1 room_1 Calls_1 rest_1 Pre_1 launch0 p0 e0 about1 theMethod args0 below0 :=
  ⟨lists_1, trivial, launch0.admits_env _ _ _, launch0.least_env, fairChoices_fair.cas, fairChoices_fair.clock, w_frames, w_args, w_heap, w_applies, ⟨w_consts, trivial⟩, w_rest, w_case⟩
end start1
theorem witness_1 : WitnessClaimed_1 := ⟨start1.p0, start1.e0, start1.about1, start1.theMethod, start1.args0, start1.below0, start1.atStart⟩
end Jvm.Pilot.@@N@@
