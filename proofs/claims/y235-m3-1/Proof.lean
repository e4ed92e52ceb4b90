import JvmDerived
import JvmDerived.Pilot.@@N@@Statement
import JvmDerived.Pilot.@@N@@Code
set_option linter.unusedVariables false
set_option linter.unusedSimpArgs false
namespace Jvm.Pilot.@@N@@
open Jvm Jvm.ClassFile Sem Op Lib Jvm.Free Jvm.Stand Jvm.LawKit Jvm.RoadKit Bundle Jvm.Pilot.@@N@@.Jvm.D
section Own
variable {p : Program} {l : Launch} {e : Env} {R : Room} {s : State} {m : MethodId} {args : Array Value} {below : List Frame} {meth : Method} {c : Code} {T T' : State} {locs : List Loc} {cells slots : Nat} {Qf : Option Value → Heap → List Loc → Prop} {C S : Nat} {F F' : JFrame} {G : Outcome → State → Prop} {Z : State} {EL : List (String × Nat)} {vm0 : Vm} {k0 : Nat}
/-- from the state T with the frame F on top the invocation ends as G says -/
def own_Go (p : Program) (e : Env) (below : List Frame) (G : Outcome → State → Prop) (T : State) (F : JFrame) : Prop :=
  ∃ s₂ o, Steps p.tables e below (T.setTop F) s₂ ∧ s₂.status = .running ∧ Ended s₂ below o ∧ G o s₂
def own_E (s : State) (Qf : Option Value → Heap → List Loc → Prop) (C S : Nat) (o : Outcome) (s₂ : State) : Prop := ∃ v L, o = .returned v ∧ Qf v s₂.heap L ∧ FrameEnd s o s₂ L C S
def own_ES (s Z : State) (EL : List (String × Nat)) (Qf : Option Value → Heap → List Loc → Prop) (C S : Nat) (o : Outcome) (s₂ : State) : Prop := ∃ v L, o = .returned v ∧ Qf v s₂.heap L ∧ CHr Z EL s.vm s.heap s₂.vm s₂.heap ∧ ReturnedEndW s o s₂ L C S
theorem own_enter (q : F = F') (hr : own_Go p e below G T F') : ∃ s₂ o, Steps p.tables e below (T.setTop F) s₂ ∧ s₂.status = .running ∧ Ended s₂ below o ∧ G o s₂ := by
  subst q; exact hr
theorem own_st (st : ∀ t, Steps p.tables e below (T'.setTop F') t → Steps p.tables e below (T.setTop F) t) (hr : own_Go p e below G T' F') : own_Go p e below G T F := by
  obtain ⟨s2, o, h1, h2⟩ := hr
  exact ⟨s2, o, st _ h1, h2⟩
theorem own_tr (st : Steps p.tables e below (T.setTop F) (T'.setTop F')) (hr : own_Go p e below G T' F') : own_Go p e below G T F := by
  obtain ⟨s2, o, h1, h2⟩ := hr
  exact ⟨s2, o, st.trans h1, h2⟩
theorem own_ret (X : Stand p l e R s m args below meth c T locs cells slots) (hlk : meth.locks = false) {v : Option Value} (hv : meth.sig.returnType = none → v = none)
    (st : ∀ fs, (∀ (f : JFrame) (acts : List Action), f.method = m → f.locked = none → f.entered = [] → (doReturn e (T.setTop f) acts v).1 = T.setFrames fs) → Steps p.tables e below (T.setTop F) (T.setFrames fs))
    (hQ : Qf v T.heap locs) (hC : cells ≤ C) (hS : slots ≤ S) : own_Go p e below (own_E s Qf C S) T F := by
  obtain ⟨fs, hr, hrun, hended, hW, hsame⟩ := X.leave (v := v) hv hlk
  exact ⟨_, _, st fs hr, hrun, hended, _, _, rfl, hQ, ⟨_, rfl⟩, hW, hsame.mono hC hS⟩
theorem own_retN (X : Stand p l e R s m args below meth c T locs cells slots) (hx : p.tables.exec = Jvm.exec) (hlk : meth.locks = false) {pc : Nat} {Ls : Array Slot} {z : Int32} {t : FieldType} {rest : List Value} (hret : meth.sig.returnType = some t) (ht : t = .boolean ∨ t = .byte ∨ t = .char ∨ t = .short) (hd : decode c.code pc = .ok (.ireturn, 1))
    (hQ : Qf (some (.int (nar t z))) T.heap locs) (hC : cells ≤ C) (hS : slots ≤ S) : own_Go p e below (own_E s Qf C S) T (mkF m pc Ls (.int z :: rest)) :=
  own_ret X hlk (fun h => by rw [hret] at h; cases h) (fun _ hr => retN X hx hret ht hd hr) hQ hC hS
theorem own_retI (X : Stand p l e R s m args below meth c T locs cells slots) (hx : p.tables.exec = Jvm.exec) (hlk : meth.locks = false) {pc : Nat} {Ls : Array Slot} {z : Int32} {rest : List Value} (hret : meth.sig.returnType = some .int) (hd : decode c.code pc = .ok (.ireturn, 1))
    (hQ : Qf (some (.int z)) T.heap locs) (hC : cells ≤ C) (hS : slots ≤ S) : own_Go p e below (own_E s Qf C S) T (mkF m pc Ls (.int z :: rest)) :=
  own_ret X hlk (fun h => by rw [hret] at h; cases h) (fun _ hr => retOut X hx hret rfl (Or.inl ⟨rfl, Or.inl rfl, _, rfl⟩) hd hr) hQ hC hS
theorem own_retJ (X : Stand p l e R s m args below meth c T locs cells slots) (hx : p.tables.exec = Jvm.exec) (hlk : meth.locks = false) {pc : Nat} {Ls : Array Slot} {z : Int64} {rest : List Value} (hret : meth.sig.returnType = some .long) (hd : decode c.code pc = .ok (.lreturn, 1))
    (hQ : Qf (some (.long z)) T.heap locs) (hC : cells ≤ C) (hS : slots ≤ S) : own_Go p e below (own_E s Qf C S) T (mkF m pc Ls (.long z :: rest)) :=
  own_ret X hlk (fun h => by rw [hret] at h; cases h) (fun _ hr => retOut X hx hret rfl (Or.inr (Or.inl ⟨rfl, rfl, _, rfl⟩)) hd hr) hQ hC hS
theorem own_retA (X : Stand p l e R s m args below meth c T locs cells slots) (hx : p.tables.exec = Jvm.exec) (hlk : meth.locks = false) {pc : Nat} {Ls : Array Slot} {w : Value} {t : FieldType} {rest : List Value} (hret : meth.sig.returnType = some t) (ht : t.isReference = true) (hw : w.isRef = true) (hn : narrow t w = w) (hd : decode c.code pc = .ok (.areturn, 1))
    (hQ : Qf (some w) T.heap locs) (hC : cells ≤ C) (hS : slots ≤ S) : own_Go p e below (own_E s Qf C S) T (mkF m pc Ls (w :: rest)) :=
  own_ret X hlk (fun h => by rw [hret] at h; cases h) (fun _ hr => retOut X hx hret hn (Or.inr (Or.inr (Or.inr (Or.inr ⟨rfl, ht, hw⟩)))) hd hr) hQ hC hS
theorem own_retV (X : Stand p l e R s m args below meth c T locs cells slots) (hx : p.tables.exec = Jvm.exec) (hlk : meth.locks = false) {pc : Nat} {Ls : Array Slot} (hret : meth.sig.returnType = none) (hd : decode c.code pc = .ok (.return_, 1))
    (hQ : Qf none T.heap locs) (hC : cells ≤ C) (hS : slots ≤ S) : own_Go p e below (own_E s Qf C S) T (mkF m pc Ls []) :=
  own_ret X hlk (fun _ => rfl) (fun _ hr => X.returnOut hx hret hd hr) hQ hC hS
theorem own_sret (X : Stand p l e R (s.setVm vm0) m args below meth c T locs cells slots) (hS : s.Since vm0 k0) (hk : k0 ≤ T.heap.size) (hlk : meth.locks = false) {v : Option Value} (hv : meth.sig.returnType = none → v = none)
    (st : ∀ fs, (∀ (f : JFrame) (acts : List Action), f.method = m → f.locked = none → f.entered = [] → (doReturn e (T.setTop f) acts v).1 = T.setFrames fs) → Steps p.tables e below (T.setTop F) (T.setFrames fs))
    (hQ : Qf v T.heap locs) (hCH : CHr Z EL s.vm s.heap T.vm T.heap) (hC : cells ≤ C) (hS2 : slots ≤ S) : own_Go p e below (own_ES s Z EL Qf C S) T F := by
  obtain ⟨fs, hr, hrun, hended, r1, r2, r3, r4⟩ := X.leaveW hS hk (v := v) hv hlk
  exact ⟨_, _, st fs hr, hrun, hended, _, _, rfl, hQ, hCH, r1, r2, r3, r4.mono hC hS2⟩
theorem own_sretN (X : Stand p l e R (s.setVm vm0) m args below meth c T locs cells slots) (hx : p.tables.exec = Jvm.exec) (hS : s.Since vm0 k0) (hk : k0 ≤ T.heap.size) (hlk : meth.locks = false) {pc : Nat} {Ls : Array Slot} {z : Int32} {t : FieldType} {rest : List Value} (hret : meth.sig.returnType = some t) (ht : t = .boolean ∨ t = .byte ∨ t = .char ∨ t = .short) (hd : decode c.code pc = .ok (.ireturn, 1))
    (hQ : Qf (some (.int (nar t z))) T.heap locs) (hCH : CHr Z EL s.vm s.heap T.vm T.heap) (hC : cells ≤ C) (hS2 : slots ≤ S) : own_Go p e below (own_ES s Z EL Qf C S) T (mkF m pc Ls (.int z :: rest)) :=
  own_sret X hS hk hlk (fun h => by rw [hret] at h; cases h) (fun _ hr => retN X hx hret ht hd hr) hQ hCH hC hS2
theorem own_sretI (X : Stand p l e R (s.setVm vm0) m args below meth c T locs cells slots) (hx : p.tables.exec = Jvm.exec) (hS : s.Since vm0 k0) (hk : k0 ≤ T.heap.size) (hlk : meth.locks = false) {pc : Nat} {Ls : Array Slot} {z : Int32} {rest : List Value} (hret : meth.sig.returnType = some .int) (hd : decode c.code pc = .ok (.ireturn, 1))
    (hQ : Qf (some (.int z)) T.heap locs) (hCH : CHr Z EL s.vm s.heap T.vm T.heap) (hC : cells ≤ C) (hS2 : slots ≤ S) : own_Go p e below (own_ES s Z EL Qf C S) T (mkF m pc Ls (.int z :: rest)) :=
  own_sret X hS hk hlk (fun h => by rw [hret] at h; cases h) (fun _ hr => retOut X hx hret rfl (Or.inl ⟨rfl, Or.inl rfl, _, rfl⟩) hd hr) hQ hCH hC hS2
theorem own_sretJ (X : Stand p l e R (s.setVm vm0) m args below meth c T locs cells slots) (hx : p.tables.exec = Jvm.exec) (hS : s.Since vm0 k0) (hk : k0 ≤ T.heap.size) (hlk : meth.locks = false) {pc : Nat} {Ls : Array Slot} {z : Int64} {rest : List Value} (hret : meth.sig.returnType = some .long) (hd : decode c.code pc = .ok (.lreturn, 1))
    (hQ : Qf (some (.long z)) T.heap locs) (hCH : CHr Z EL s.vm s.heap T.vm T.heap) (hC : cells ≤ C) (hS2 : slots ≤ S) : own_Go p e below (own_ES s Z EL Qf C S) T (mkF m pc Ls (.long z :: rest)) :=
  own_sret X hS hk hlk (fun h => by rw [hret] at h; cases h) (fun _ hr => retOut X hx hret rfl (Or.inr (Or.inl ⟨rfl, rfl, _, rfl⟩)) hd hr) hQ hCH hC hS2
theorem own_sretA (X : Stand p l e R (s.setVm vm0) m args below meth c T locs cells slots) (hx : p.tables.exec = Jvm.exec) (hS : s.Since vm0 k0) (hk : k0 ≤ T.heap.size) (hlk : meth.locks = false) {pc : Nat} {Ls : Array Slot} {w : Value} {t : FieldType} {rest : List Value} (hret : meth.sig.returnType = some t) (ht : t.isReference = true) (hw : w.isRef = true) (hn : narrow t w = w) (hd : decode c.code pc = .ok (.areturn, 1))
    (hQ : Qf (some w) T.heap locs) (hCH : CHr Z EL s.vm s.heap T.vm T.heap) (hC : cells ≤ C) (hS2 : slots ≤ S) : own_Go p e below (own_ES s Z EL Qf C S) T (mkF m pc Ls (w :: rest)) :=
  own_sret X hS hk hlk (fun h => by rw [hret] at h; cases h) (fun _ hr => retOut X hx hret hn (Or.inr (Or.inr (Or.inr (Or.inr ⟨rfl, ht, hw⟩)))) hd hr) hQ hCH hC hS2
theorem own_sretV (X : Stand p l e R (s.setVm vm0) m args below meth c T locs cells slots) (hx : p.tables.exec = Jvm.exec) (hS : s.Since vm0 k0) (hk : k0 ≤ T.heap.size) (hlk : meth.locks = false) {pc : Nat} {Ls : Array Slot} (hret : meth.sig.returnType = none) (hd : decode c.code pc = .ok (.return_, 1))
    (hQ : Qf none T.heap locs) (hCH : CHr Z EL s.vm s.heap T.vm T.heap) (hC : cells ≤ C) (hS2 : slots ≤ S) : own_Go p e below (own_ES s Z EL Qf C S) T (mkF m pc Ls []) :=
  own_sret X hS hk hlk (fun _ => rfl) (fun _ hr => X.returnOut hx hret hd hr) hQ hCH hC hS2
def own_cc : ClassFile.Cond → Int32 → Int32 → Prop
  | .eq, x, y => x = y
  | .ne, x, y => ¬ x = y
  | .lt, x, y => x < y
  | .ge, x, y => ¬ x < y
  | .gt, x, y => y < x
  | .le, x, y => ¬ y < x
def own_nn : ClassFile.Cond → Int32 → Int32 → Prop
  | .eq, x, y => ¬ x = y
  | .ne, x, y => x = y
  | .lt, x, y => ¬ x < y
  | .ge, x, y => x < y
  | .gt, x, y => ¬ y < x
  | .le, x, y => y < x
theorem own_split (cd : ClassFile.Cond) (x y : Int32) : (own_cc cd x y ∧ if_icmp.holds cd x y = true) ∨ (own_nn cd x y ∧ if_icmp.holds cd x y = false) := by
  cases cd
  · by_cases h : x = y
    · exact Or.inl ⟨h, (teq h).1⟩
    · exact Or.inr ⟨h, (feq h).1⟩
  · by_cases h : x = y
    · exact Or.inr ⟨h, (teq h).2⟩
    · exact Or.inl ⟨h, (feq h).2⟩
  · by_cases h : x < y
    · exact Or.inl ⟨h, (tlt h).1⟩
    · exact Or.inr ⟨h, (flt h).1⟩
  · by_cases h : x < y
    · exact Or.inr ⟨h, (tlt h).2.1⟩
    · exact Or.inl ⟨h, (flt h).2.1⟩
  · by_cases h : y < x
    · exact Or.inl ⟨h, (tlt h).2.2.1⟩
    · exact Or.inr ⟨h, (flt h).2.2.1⟩
  · by_cases h : y < x
    · exact Or.inr ⟨h, (tlt h).2.2.2⟩
    · exact Or.inl ⟨h, (flt h).2.2.2⟩
theorem own_icmp (X : Stand p l e R s m args below meth c T locs cells slots) (hx : p.tables.exec = Jvm.exec) {pc pc' pc2 : Nat} {Ls : Array Slot} {st : List Value} {x y : Int32} {cd : ClassFile.Cond} {o : Int} (hd : decode c.code pc = .ok (.if_icmp cd o, 3)) (ho : 0 ≤ (pc : Int) + o) (hp : ((pc : Int) + o).toNat = pc') (h2 : pc + 3 = pc2)
    (hY : own_cc cd x y → own_Go p e below G T (mkF m pc' Ls st)) (hN : own_nn cd x y → own_Go p e below G T (mkF m pc2 Ls st)) : own_Go p e below G T (mkF m pc Ls (.int y :: .int x :: st)) := by
  subst h2
  rcases own_split cd x y with ⟨h, q⟩ | ⟨h, q⟩
  · exact own_st (fun _ k => XS.icmpYes X.here hx rfl (pc0 := pc) (pc' := pc') rfl hd rfl q ho hp k) (hY h)
  · exact own_st (fun _ k => XS.icmpNo X.here hx rfl hd rfl q k) (hN h)
theorem own_ifc (X : Stand p l e R s m args below meth c T locs cells slots) (hx : p.tables.exec = Jvm.exec) {pc pc' pc2 : Nat} {Ls : Array Slot} {st : List Value} {x : Int32} {cd : ClassFile.Cond} {o : Int} (hd : decode c.code pc = .ok (.ifCond cd o, 3)) (ho : 0 ≤ (pc : Int) + o) (hp : ((pc : Int) + o).toNat = pc') (h2 : pc + 3 = pc2)
    (hY : own_cc cd x 0 → own_Go p e below G T (mkF m pc' Ls st)) (hN : own_nn cd x 0 → own_Go p e below G T (mkF m pc2 Ls st)) : own_Go p e below G T (mkF m pc Ls (.int x :: st)) := by
  subst h2
  rcases own_split cd x 0 with ⟨h, q⟩ | ⟨h, q⟩
  · exact own_st (fun _ k => XS.ifYes X.here hx rfl (pc0 := pc) (pc' := pc') rfl hd rfl ((if0 _ _).trans q) ho hp k) (hY h)
  · exact own_st (fun _ k => XS.ifNo X.here hx rfl hd rfl ((if0 _ _).trans q) k) (hN h)
def own_ccL : ClassFile.Cond → Int64 → Int64 → Prop
  | .eq, x, y => x = y
  | .ne, x, y => ¬ x = y
  | .lt, x, y => x < y
  | .ge, x, y => ¬ x < y
  | .gt, x, y => y < x
  | .le, x, y => ¬ y < x
def own_nnL : ClassFile.Cond → Int64 → Int64 → Prop
  | .eq, x, y => ¬ x = y
  | .ne, x, y => x = y
  | .lt, x, y => ¬ x < y
  | .ge, x, y => x < y
  | .gt, x, y => ¬ y < x
  | .le, x, y => y < x
theorem own_lc (cd : ClassFile.Cond) (x y : Int64) : (own_cc cd (lcmpW x y) 0 → own_ccL cd x y) ∧ (own_nn cd (lcmpW x y) 0 → own_nnL cd x y) := by
  have h1 : x > y → lcmpW x y = 1 := fun h => by simp [lcmpW, h]
  have h2 : x = y → lcmpW x y = 0 := fun h => by subst h; simp [lcmpW, Int64.lt_irrefl]
  have h3 : ¬ x > y → ¬ x = y → lcmpW x y = -1 := fun h h' => by simp [lcmpW, h, h']
  have lt : x < y ↔ lcmpW x y < 0 := by
    by_cases a : x > y
    · rw [h1 a]; exact ⟨fun b => absurd (Int64.lt_trans a b) (Int64.lt_irrefl), fun b => absurd b (by decide)⟩
    · by_cases b : x = y
      · rw [h2 b, b]; exact ⟨fun q => absurd q (Int64.lt_irrefl), fun q => absurd q (by decide)⟩
      · rw [h3 a b]; exact ⟨fun _ => by decide, fun _ => by
          rw [Int64.lt_iff_toInt_lt]; simp only [gt_iff_lt, Int64.lt_iff_toInt_lt] at a
          have : x.toInt ≠ y.toInt := fun q => b (Int64.toInt_inj.mp q)
          omega⟩
  have gt : y < x ↔ 0 < lcmpW x y := by
    by_cases a : x > y
    · rw [h1 a]; exact ⟨fun _ => by decide, fun _ => a⟩
    · by_cases b : x = y
      · rw [h2 b]; exact ⟨fun q => absurd q a, fun q => absurd q (by decide)⟩
      · rw [h3 a b]; exact ⟨fun q => absurd q a, fun q => absurd q (by decide)⟩
  have eq : x = y ↔ lcmpW x y = 0 := by
    by_cases a : x > y
    · rw [h1 a]; exact ⟨fun b => absurd a (by rw [b]; exact Int64.lt_irrefl), fun b => absurd b (by decide)⟩
    · by_cases b : x = y
      · exact ⟨fun _ => h2 b, fun _ => b⟩
      · rw [h3 a b]; exact ⟨fun q => absurd q b, fun q => absurd q (by decide)⟩
  cases cd
  · exact ⟨fun h => eq.mpr h, fun h q => h (eq.mp q)⟩
  · exact ⟨fun h q => h (eq.mp q), fun h => eq.mpr h⟩
  · exact ⟨fun h => lt.mpr h, fun h q => h (lt.mp q)⟩
  · exact ⟨fun h q => h (lt.mp q), fun h => lt.mpr h⟩
  · exact ⟨fun h => gt.mpr h, fun h q => h (gt.mp q)⟩
  · exact ⟨fun h q => h (gt.mp q), fun h => gt.mpr h⟩
theorem own_iflc (X : Stand p l e R s m args below meth c T locs cells slots) (hx : p.tables.exec = Jvm.exec) {pc pc' pc2 : Nat} {Ls : Array Slot} {st : List Value} {x y : Int64} {cd : ClassFile.Cond} {o : Int} (hd : decode c.code pc = .ok (.ifCond cd o, 3)) (ho : 0 ≤ (pc : Int) + o) (hp : ((pc : Int) + o).toNat = pc') (h2 : pc + 3 = pc2)
    (hY : own_ccL cd x y → own_Go p e below G T (mkF m pc' Ls st)) (hN : own_nnL cd x y → own_Go p e below G T (mkF m pc2 Ls st)) : own_Go p e below G T (mkF m pc Ls (.int (lcmpW x y) :: st)) :=
  own_ifc X hx hd ho hp h2 (fun h => hY ((own_lc cd x y).1 h)) (fun h => hN ((own_lc cd x y).2 h))
theorem own_acmp (X : Stand p l e R s m args below meth c T locs cells slots) (hx : p.tables.exec = Jvm.exec) {pc pc' pc2 : Nat} {Ls : Array Slot} {st : List Value} {x y : Addr} {o : Int} {cd : ACond} (hd : decode c.code pc = .ok (.if_acmp cd o, 3)) (ho : 0 ≤ (pc : Int) + o) (hp : ((pc : Int) + o).toNat = pc') (h2 : pc + 3 = pc2)
    (hE : x = y → own_Go p e below G T (mkF m (if acV cd true = true then pc' else pc2) Ls st)) (hN : ¬ x = y → own_Go p e below G T (mkF m (if acV cd false = true then pc' else pc2) Ls st)) : own_Go p e below G T (mkF m pc Ls (.ref y :: .ref x :: st)) := by
  subst h2 hp
  by_cases h : x = y
  · exact own_st (fun _ k => Jvm.RoadKit.acmp (g := mkF m pc Ls (.ref y :: .ref x :: st)) X hx rfl rfl rfl (pc0 := pc) (same := true) rfl hd rfl (decide_eq_true (congrArg Value.ref h)) ho rfl k) (hE h)
  · exact own_st (fun _ k => Jvm.RoadKit.acmp (g := mkF m pc Ls (.ref y :: .ref x :: st)) X hx rfl rfl rfl (pc0 := pc) (same := false) rfl hd rfl (decide_eq_false fun q => h (Value.ref.inj q)) ho rfl k) (hN h)
theorem own_ord {Z : State} {a0 : Array Value} {t : Term} {a : Addr} {C n d : String} {k : Int32} (ev : t.eval a0 Z none [] Z = some (.ref a)) (h : (Cond.eq (Term.field t C n d) (Term.int k)).value a0 Z none Z [] = some true) : Fld Z Z.heap a C n d (.int k) := by
  have e1 : (Term.field t C n d).eval a0 Z none [] Z = Z.fieldOf? a C n d := fld_at ev
  simp only [Cond.value, e1] at h
  cases hq : Z.fieldOf? a C n d with
  | none => simp [hq] at h
  | some v =>
    rw [hq] at h
    cases v <;> simp [Term.eval] at h
    subst h
    exact Fld.start hq
theorem own_narb {z : Int32} (h : z = 0 ∨ z = 1) : nar .boolean z = z := by rcases h with rfl | rfl <;> rfl
theorem own_stk {Z : State} {h h' : Heap} {C n d : String} {v : Value} {ws : List Addr} (F : Sta Z h C n d v) (K : Keep h h' ws) (q : ∀ x ∈ ws, ∀ c : Cell, h[x]? = some c → c.vm.isStatics = false) : Sta Z h' C n d v := by
  obtain ⟨cf, i, k, f, st, cell, h1, h2, h3, h4, h5, h6, h7⟩ := F
  exact ⟨cf, i, k, f, st, cell, h1, h2, h3, h4, K.2.1 st cell h5 (fun z => by rw [q st z cell h5] at h6; cases h6), h6, h7⟩
theorem own_npE {Z : State} {h : Heap} {a : Addr} {C : String} (E : Exa Z h a C) : ∀ c : Cell, h[a]? = some c → c.vm.isStatics = false := fun c hc => by
  obtain ⟨cell, k, h1, h2, h3, h4, h5⟩ := E
  cases h1.symm.trans hc
  exact h4
theorem own_npA {Z : State} {h : Heap} {a : Addr} {k : ClassId} {ty : FieldType} {z : Int32} {vs : List Value} {dv : Value} (V : Arv Z h a k ty z vs dv) : ∀ c : Cell, h[a]? = some c → c.vm.isStatics = false := fun c hc => by
  obtain ⟨cl, A, r⟩ := V
  cases A.1.symm.trans hc
  exact A.plain
theorem own_len {Z : State} {a0 : Array Value} {t : Term} {a : Addr} {cl : Cell} {ty : FieldType} {k : Int32} (ev : t.eval a0 Z none [] Z = some (.ref a)) (A : Arr Z Z.heap a cl ty) (h : (Cond.eq (Term.length t) (Term.int k)).value a0 Z none Z [] = some true) : cl.slots.size < 2 ^ 31 ∧ cl.slots.size.toInt32 = k := by
  have ha : Z.arrayAt? a = some cl := IntBox.arrayAt_of A.1 A.2.1 A.2.2
  simp only [Cond.value, Term.eval, ev, Option.bind_eq_bind, Option.bind_some, ha] at h
  by_cases q : cl.slots.size < 2 ^ 31
  · simp [q] at h; exact ⟨q, h⟩
  · simp [q] at h
theorem own_elem {Z : State} {a0 : Array Value} {t : Term} {a : Addr} {cl : Cell} {ty : FieldType} {j v : Int32} (ev : t.eval a0 Z none [] Z = some (.ref a)) (A : Arr Z Z.heap a cl ty) (hj : ¬ j < 0) (h : (Cond.eq (Term.elem t (Term.int j)) (Term.int v)).value a0 Z none Z [] = some true) : cl.slots[j.toNatClampNeg]? = some (.int v) := by
  have ha : Z.arrayAt? a = some cl := IntBox.arrayAt_of A.1 A.2.1 A.2.2
  have e1 : (Term.elem t (Term.int j)).eval a0 Z none [] Z = cl.slots[j.toNatClampNeg]? := elem_f ev rfl ha hj
  simp only [Cond.value, e1] at h
  cases hq : cl.slots[j.toNatClampNeg]? with
  | none => simp [hq] at h
  | some w =>
    rw [hq] at h
    cases w <;> simp [Term.eval] at h
    rw [h]
theorem own_arvex {Z : State} {a : Addr} {cl : Cell} {ty : FieldType} {z : Int32} {dv : Value} (hf : Fit Z) (A : Arr Z Z.heap a cl ty) (q : cl.slots.size < 2 ^ 31) (e : cl.slots.size.toInt32 = z) (hz : ¬ z < 0) : ∃ vs, Arv Z Z.heap a cl.cls ty z vs dv := by
  have S : cl.slots.size = z.toNatClampNeg := by rw [← e]; simp only [Int32.toNatClampNeg, len_toInt q]; rfl
  have H : Has cl cl.slots.toList dv := fun k hk => by
    rw [List.getD_eq_getElem?_getD, Array.getElem?_toList, Array.getElem?_eq_getElem hk]; rfl
  refine ⟨cl.slots.toList, cl, A, rfl, S, hz, H, fun j hj => ?_⟩
  have e1 : (Nat.toInt32 j).toNatClampNeg = j := by simp only [Int32.toNatClampNeg, len_toInt (Nat.lt_trans hj q)]; rfl
  exact elem_fits (j := Nat.toInt32 j) hf A (idx_in hj q) (by rw [e1]; exact H j hj)
theorem own_selp {s : State} {args : Array Value} {y : MethodName} {n : Nat} (wi : (Cond.instantiable y.cls n).before args s = true) (hp : s.PrivateAt y) (hi : (Cond.instanceMethod y).before args s = true) (hy : y.cls ≠ "java/lang/invoke/MethodHandle" ∧ y.cls ≠ "java/lang/invoke/VarHandle") : (Cond.selects y.cls y y).before args s = true := by
  obtain ⟨c, k, hc, hk, -, hf, -⟩ := Cond.instantiable_spec wi
  exact selects_self_of_private hc hk (by simp only [Bool.or_eq_false_iff] at hf; exact hf.1) hp hi hy
theorem own_nar0 : nar .boolean (0 : Int32) = 0 := rfl
theorem own_nar1 : nar .boolean (1 : Int32) = 1 := rfl
end Own

def own_sT : List Int32 := [84, 82, 85, 69]
def own_sF : List Int32 := [70, 65, 76, 83, 69]
def own_sY : List Int32 := [89, 69, 83]
def own_sN : List Int32 := [78, 79]
def own_sE : List Int32 := []
def own_EL : List (String × Nat) := [("com/example/fieldloom/fieldloom/Kind$3", 29), ("com/example/fieldloom/fieldloom/Kind$3", 38), ("com/example/fieldloom/fieldloom/Kind$4", 29), ("com/example/fieldloom/fieldloom/Kind$4", 35), ("com/example/fieldloom/fieldloom/Kind$4", 40), ("com/example/fieldloom/fieldloom/Kind$4", 42), ("com/example/fieldloom/fieldloom/KindIsFlagPinLaw", 24), ("com/example/fieldloom/fieldloom/KindIsFlagPinLaw", 36), ("java/lang/String", 7)]
theorem own_lit0 : (∀ c ∈ "TRUE".toList, c.toNat < 256) ∧ "TRUE".toList.map (fun c => Value.int (Jvm.Lit.byteI c.toNat.toUInt16)) = own_sT.map Value.int := by
  constructor
  · decide
  · rfl
theorem own_lit1 : (∀ c ∈ "FALSE".toList, c.toNat < 256) ∧ "FALSE".toList.map (fun c => Value.int (Jvm.Lit.byteI c.toNat.toUInt16)) = own_sF.map Value.int := by
  constructor
  · decide
  · rfl
theorem own_lit2 : (∀ c ∈ "TRUE".toList, c.toNat < 256) ∧ "TRUE".toList.map (fun c => Value.int (Jvm.Lit.byteI c.toNat.toUInt16)) = own_sT.map Value.int := by
  constructor
  · decide
  · rfl
theorem own_lit3 : (∀ c ∈ "YES".toList, c.toNat < 256) ∧ "YES".toList.map (fun c => Value.int (Jvm.Lit.byteI c.toNat.toUInt16)) = own_sY.map Value.int := by
  constructor
  · decide
  · rfl
theorem own_lit4 : (∀ c ∈ "FALSE".toList, c.toNat < 256) ∧ "FALSE".toList.map (fun c => Value.int (Jvm.Lit.byteI c.toNat.toUInt16)) = own_sF.map Value.int := by
  constructor
  · decide
  · rfl
theorem own_lit5 : (∀ c ∈ "NO".toList, c.toNat < 256) ∧ "NO".toList.map (fun c => Value.int (Jvm.Lit.byteI c.toNat.toUInt16)) = own_sN.map Value.int := by
  constructor
  · decide
  · rfl
theorem own_lit6 : (∀ c ∈ "TRUE".toList, c.toNat < 256) ∧ "TRUE".toList.map (fun c => Value.int (Jvm.Lit.byteI c.toNat.toUInt16)) = own_sT.map Value.int := by
  constructor
  · decide
  · rfl
theorem own_lit7 : (∀ c ∈ "FALSE".toList, c.toNat < 256) ∧ "FALSE".toList.map (fun c => Value.int (Jvm.Lit.byteI c.toNat.toUInt16)) = own_sF.map Value.int := by
  constructor
  · decide
  · rfl
theorem own_lit8 : (∀ c ∈ "".toList, c.toNat < 256) ∧ "".toList.map (fun c => Value.int (Jvm.Lit.byteI c.toNat.toUInt16)) = own_sE.map Value.int := by
  constructor
  · decide
  · rfl
theorem own_hEL {Z : State} {a0 : Array Value} (hw : ∀ d ∈ tables_1, d.before a0 Z = true) : EW Z a0 own_EL := (EW.cons (hw _ (List.mem_of_getElem? (i := 168) rfl)) own_lit0.1 (EW.cons (hw _ (List.mem_of_getElem? (i := 171) rfl)) own_lit1.1 (EW.cons (hw _ (List.mem_of_getElem? (i := 103) rfl)) own_lit2.1 (EW.cons (hw _ (List.mem_of_getElem? (i := 153) rfl)) own_lit3.1 (EW.cons (hw _ (List.mem_of_getElem? (i := 154) rfl)) own_lit4.1 (EW.cons (hw _ (List.mem_of_getElem? (i := 156) rfl)) own_lit5.1 (EW.cons (hw _ (List.mem_of_getElem? (i := 51) rfl)) own_lit6.1 (EW.cons (hw _ (List.mem_of_getElem? (i := 64) rfl)) own_lit7.1 (EW.cons (hw _ (List.mem_of_getElem? (i := 88) rfl)) own_lit8.1 EW.nil)))))))))
theorem own_wS {Z : State} {a0 : Array Value} (hw : ∀ d ∈ tables_1, d.before a0 Z = true) : ∀ a ∈ Bundle.stringAtoms, a.before a0 Z = true := fun a ha => by
  simp only [Bundle.stringAtoms, List.mem_cons, List.not_mem_nil, or_false] at ha
  rcases ha with rfl | rfl | rfl | rfl | rfl | rfl | rfl
  · exact (hw _ (List.mem_of_getElem? (i := 14) rfl))
  · exact (hw _ (List.mem_of_getElem? (i := 13) rfl))
  · exact (hw _ (List.mem_of_getElem? (i := 31) rfl))
  · exact (hw _ (List.mem_of_getElem? (i := 41) rfl))
  · exact (hw _ (List.mem_of_getElem? (i := 39) rfl))
  · exact (hw _ (List.mem_of_getElem? (i := 52) rfl))
  · exact (hw _ (List.mem_of_getElem? (i := 53) rfl))
def own_ch (a : Int32) : Int32 := nar .char ((a &&& 255).toUInt32.toUInt16.toUInt32.toInt32)
theorem own_chv (a : Int32) : own_ch a = a &&& 255 := by
  unfold own_ch
  rw [i2c_mask]
  exact i2c_mask a
theorem own_chn (a : Int32) : nar .char (own_ch a) = own_ch a := by
  rw [own_chv]
  exact i2c_mask a
theorem own_getm (l : List Int32) (i : Nat) : (l.map Value.int).getD i (.int 0) = .int (l.getD i 0) := by
  simp only [List.getD_eq_getElem?_getD, List.getElem?_map]
  cases l[i]? <;> rfl
def own_up (x : Int32) : Int32 := if x < 97 then x else if 122 < x then x else ((x - 97) + 65).toUInt32.toUInt16.toUInt32.toInt32
theorem own_shr0 (n : Int32) : n >>> ((0 : Int32) &&& 31) = n := by
  rw [show ((0 : Int32) &&& 31) = 0 from rfl]; simp
theorem own_inc {i n : Int32} (h0 : ¬ i < 0) (h : i < n) : ¬ (i + 1) < 0 ∧ (n.toInt - (i + 1).toInt).toNat < (n.toInt - i.toInt).toNat := by
  have e0 : (0 : Int32).toInt = 0 := rfl
  have r1 := rng32 n
  have r2 := rng32 i
  rw [Int32.lt_iff_toInt_lt] at h0 h
  have e : (i + 1).toInt = i.toInt + 1 := by
    rw [Int32.toInt_add, show (1 : Int32).toInt = 1 from rfl]
    apply Int.bmod_eq_of_le <;> omega
  rw [Int32.lt_iff_toInt_lt]
  omega
theorem own_safe0 {Z : State} {EL : List (String × Nat)} {vm : Vm} {h : Heap} {x : Addr} (hal : Z.vm.Alike vm) (E : Exa Z h x "java/lang/String") (F : Fld Z h x "java/lang/String" "value" "[B" .null) : Safe Z EL vm h x := fun B => by
  obtain ⟨p, -, u, a, -, q, -, S, rfl | rfl⟩ := B
  · obtain ⟨cS, ⟨⟨s1, s2, s3, ⟨cv, kv, iv, s4, s4'⟩, -, s6, -, s8, -⟩, -⟩, -⟩ := S
    obtain ⟨kv', z4⟩ := ff_back (U := Wst Z vm h) hal s4
    have G : Fld Z h q.sa "java/lang/String" "value" "[B" (.ref q.sd) := ⟨q.sC, cv, kv', iv, q.fSV, s1, z4, s6, s2, s3, by rw [← hal.assignable]; exact s4', s8⟩
    exact Fld.ne F G (by simp) rfl
  · have hd := S.hd
    obtain ⟨cS, -, -, f, -⟩ := S
    obtain ⟨cell, k, e1, e2, -⟩ := E
    cases (show h[q.sd]? = some q.SA from hd).symm.trans e1
    obtain ⟨k1, q1, q2⟩ := Vm.findClass_spec ((hal.findClass _ _).symm.trans f)
    obtain ⟨k2, q3, q4⟩ := Vm.findClass_spec e2
    cases q1.symm.trans q3
    exact absurd (q2.symm.trans q4) (by decide)
theorem own_all_own_sT (i : Int32) (h0 : ¬ i < 0) (h1 : i < (4 : Int32)) : own_up (own_ch (own_sT.getD (i).toNatClampNeg 0)) = own_ch (own_sT.getD (i).toNatClampNeg 0) := by
  have key : ∀ k : Fin 4, own_up (own_ch (own_sT.getD k.val 0)) = own_ch (own_sT.getD k.val 0) := by decide +kernel
  have e : (4 : Int32).toInt = 4 := rfl
  have e0 : (0 : Int32).toInt = 0 := rfl
  rw [Int32.lt_iff_toInt_lt] at h0 h1
  exact key ⟨i.toNatClampNeg, by simp only [Int32.toNatClampNeg]; omega⟩
theorem own_all_own_sF (i : Int32) (h0 : ¬ i < 0) (h1 : i < (5 : Int32)) : own_up (own_ch (own_sF.getD (i).toNatClampNeg 0)) = own_ch (own_sF.getD (i).toNatClampNeg 0) := by
  have key : ∀ k : Fin 5, own_up (own_ch (own_sF.getD k.val 0)) = own_ch (own_sF.getD k.val 0) := by decide +kernel
  have e : (5 : Int32).toInt = 5 := rfl
  have e0 : (0 : Int32).toInt = 0 := rfl
  rw [Int32.lt_iff_toInt_lt] at h0 h1
  exact key ⟨i.toNatClampNeg, by simp only [Int32.toNatClampNeg]; omega⟩
theorem own_c255 (x : Int64) : ¬ ((255 : Int32) < nar .char ((x &&& (255 : Int64)).toInt32.toUInt32.toUInt16.toUInt32.toInt32)) := by
  have e : (x &&& (255 : Int64)).toInt32 = x.toInt32 &&& 255 := by
    rw [Int64.toInt32_and]; rfl
  rw [e, i2c_mask]
  show ¬ (255 : Int32) < (x.toInt32 &&& 255).toUInt32.toUInt16.toUInt32.toInt32
  rw [i2c_mask]
  have h := (c_and x.toInt32 255 (by decide)).2
  rw [Int32.lt_iff_toInt_lt]
  omega

theorem d19tr_0 : decode jdk_41_method_11_code 0 = .ok (.iload_n 0, 1) := by decide +kernel
theorem d19tr_1 : decode jdk_41_method_11_code 1 = .ok (.ifCond .lt 8, 3) := by decide +kernel
theorem d19tr_4 : decode jdk_41_method_11_code 4 = .ok (.iload_n 0, 1) := by decide +kernel
theorem d19tr_5 : decode jdk_41_method_11_code 5 = .ok (.iload_n 1, 1) := by decide +kernel
theorem d19tr_6 : decode jdk_41_method_11_code 6 = .ok (.if_icmp .lt 10, 3) := by decide +kernel
theorem d19tr_16 : decode jdk_41_method_11_code 16 = .ok (.iload_n 0, 1) := by decide +kernel
theorem d19tr_17 : decode jdk_41_method_11_code 17 = .ok (.ireturn, 1) := by decide +kernel
theorem own_pn19tr : plainName "jdk/internal/util/Preconditions" = true := by first | (simp [plainName, overriddenIn]; done) | decide +kernel
theorem own_ef19tr (m : MethodId) (x0 : Int32) (x1 : Int32) (x2 : Addr) : entryFrame m #[(.int x0), (.int x1), (.ref x2)] 3 = (mkF m 0 #[.val (.int x0), .val (.int x1), .val (.ref x2)] []) := by first | (simp [entryFrame, mkF, argsToLocals, Value.category]; done) | rfl
def Q19tr (Z : State) (x0 : Int32) (x1 : Int32) (x2 : Addr)  (h0 : Heap) (n0 : Nat) (v : Option Value) (h : Heap) (L : List Loc) : Prop := v = some (.int x0) ∧ Fr n0 L ∧ h = h0
set_option maxRecDepth 65536 in
set_option maxHeartbeats 40000000 in
theorem rm19tr (l : Launch) (Z : State) (a0 : Array Value) (hw : ∀ d ∈ tables_1, d.before a0 Z = true) (ws : List Jvm.Cond) (x0 : Int32) (x1 : Int32) (x2 : Addr)  (h0 : Heap) (n0 : Nat) (Z0 : n0 ≤ h0.size) (h0i : ¬ x0 < 0) (h1i : x0 < x1) :
    MetFree l (⟨"jdk/internal/util/Preconditions", "checkIndex", "(IILjava/util/function/BiFunction;)I"⟩ : MethodName) (head1 (Jvm.Cond.code (⟨"jdk/internal/util/Preconditions", "checkIndex", "(IILjava/util/function/BiFunction;)I"⟩ : MethodName) jdk_41_method_11_code 3 (some .int) :: ws) ({ frames := 0, cells := 0, slots := 0, locals := 0 } : Room)) (fun a U => a = #[(.int x0), (.int x1), (.ref x2)] ∧ Z.Warmed39 U.vm ∧ U.heap = h0) (fun _ _ _ _ _ => True) (fun _ U oc U' => ∃ v L, oc = .returned v ∧ Q19tr Z x0 x1 x2  h0 n0 v U'.heap L ∧ FrameEnd U oc U' L ({ frames := 0, cells := 0, slots := 0, locals := 0 } : Room).cells ({ frames := 0, cells := 0, slots := 0, locals := 0 } : Room).slots) := by
  refine MetFree.of_bodySF (plainFor_of_name own_pn19tr) hisR ?_
  intro p e s m args below meth c s₁ Bd hml0 hP hK
  obtain ⟨rfl, hZ, hh⟩ := hP
  have hx := Bd.exec
  have hby := Bd.bytes
  have hlk : meth.locks = false := BodyLoose.notSynchronized Bd
  have hml : c.maxLocals = 3 := hml0
  have hown : s.vm.findClass "jdk/internal/util/Preconditions" = some m.cls := findClass_of_methodNamed Bd.named
  have hnm := (name_of_methodNamed Bd.named Bd.method).1
  have X0 : Stand p l e ({ frames := 0, cells := 0, slots := 0, locals := 0 } : Room) s m #[(.int x0), (.int x1), (.ref x2)] below meth c s₁ [] 0 0 := Stand.of_body Bd
  have e0 : s₁.heap = h0 := by rw [← hh, Bd.state]; rfl
  have N0 := Fr.nil n0
  refine own_enter (own_ef19tr m x0 x1 x2) ?_
  show own_Go p e below (own_E s (Q19tr Z x0 x1 x2  h0 n0) ({ frames := 0, cells := 0, slots := 0, locals := 0 } : Room).cells ({ frames := 0, cells := 0, slots := 0, locals := 0 } : Room).slots) s₁ (mkF m 0 #[.val (.int x0), .val (.int x1), .val (.ref x2)] [])
  refine own_st (T' := s₁) (F' := (mkF m 1 #[.val (.int x0), .val (.int x1), .val (.ref x2)] [(.int x0)])) (fun _ k => XS.iloadN X0.here hx rfl (hb hby d19tr_0) rfl  k) ?_
  refine own_ifc X0 hx (pc' := 9) (pc2 := 4) (hb hby d19tr_1) (by decide) (by decide) rfl (fun (hc1 : x0 < (0 : Int32)) => ?_) (fun (hc1 : ¬ (x0 < (0 : Int32))) => ?_)
  ·
    exact absurd hc1 h0i
  ·
    refine own_st (T' := s₁) (F' := (mkF m 5 #[.val (.int x0), .val (.int x1), .val (.ref x2)] [(.int x0)])) (fun _ k => XS.iloadN X0.here hx rfl (hb hby d19tr_4) rfl  k) ?_
    refine own_st (T' := s₁) (F' := (mkF m 6 #[.val (.int x0), .val (.int x1), .val (.ref x2)] [(.int x1), (.int x0)])) (fun _ k => XS.iloadN X0.here hx rfl (hb hby d19tr_5) rfl  k) ?_
    refine own_icmp X0 hx (pc' := 16) (pc2 := 9) (hb hby d19tr_6) (by decide) (by decide) rfl (fun (hc6 : x0 < x1) => ?_) (fun (hc6 : ¬ (x0 < x1)) => ?_)
    ·
      refine own_st (T' := s₁) (F' := (mkF m 17 #[.val (.int x0), .val (.int x1), .val (.ref x2)] [(.int x0)])) (fun _ k => XS.iloadN X0.here hx rfl (hb hby d19tr_16) rfl  k) ?_
      refine own_retI X0 hx hlk Bd.returns (hb hby d19tr_17) ?_ (by decide) (by decide)
      rw [e0]
      refine ⟨?_, N0, rfl⟩
      rfl
    ·
      exact absurd h1i hc6
theorem d19tn_0 : decode jdk_41_method_11_code 0 = .ok (.iload_n 0, 1) := by decide +kernel
theorem d19tn_1 : decode jdk_41_method_11_code 1 = .ok (.ifCond .lt 8, 3) := by decide +kernel
theorem d19tn_4 : decode jdk_41_method_11_code 4 = .ok (.iload_n 0, 1) := by decide +kernel
theorem d19tn_5 : decode jdk_41_method_11_code 5 = .ok (.iload_n 1, 1) := by decide +kernel
theorem d19tn_6 : decode jdk_41_method_11_code 6 = .ok (.if_icmp .lt 10, 3) := by decide +kernel
theorem d19tn_16 : decode jdk_41_method_11_code 16 = .ok (.iload_n 0, 1) := by decide +kernel
theorem d19tn_17 : decode jdk_41_method_11_code 17 = .ok (.ireturn, 1) := by decide +kernel
theorem own_pn19tn : plainName "jdk/internal/util/Preconditions" = true := by first | (simp [plainName, overriddenIn]; done) | decide +kernel
theorem own_ef19tn (m : MethodId) (x0 : Int32) (x1 : Int32) : entryFrame m #[(.int x0), (.int x1), .null] 3 = (mkF m 0 #[.val (.int x0), .val (.int x1), .val .null] []) := by first | (simp [entryFrame, mkF, argsToLocals, Value.category]; done) | rfl
def Q19tn (Z : State) (x0 : Int32) (x1 : Int32)  (h0 : Heap) (n0 : Nat) (v : Option Value) (h : Heap) (L : List Loc) : Prop := v = some (.int x0) ∧ Fr n0 L ∧ h = h0
set_option maxRecDepth 65536 in
set_option maxHeartbeats 40000000 in
theorem rm19tn (l : Launch) (Z : State) (a0 : Array Value) (hw : ∀ d ∈ tables_1, d.before a0 Z = true) (ws : List Jvm.Cond) (x0 : Int32) (x1 : Int32)  (h0 : Heap) (n0 : Nat) (Z0 : n0 ≤ h0.size) (h0i : ¬ x0 < 0) (h1i : x0 < x1) :
    MetFree l (⟨"jdk/internal/util/Preconditions", "checkIndex", "(IILjava/util/function/BiFunction;)I"⟩ : MethodName) (head1 (Jvm.Cond.code (⟨"jdk/internal/util/Preconditions", "checkIndex", "(IILjava/util/function/BiFunction;)I"⟩ : MethodName) jdk_41_method_11_code 3 (some .int) :: ws) ({ frames := 0, cells := 0, slots := 0, locals := 0 } : Room)) (fun a U => a = #[(.int x0), (.int x1), .null] ∧ Z.Warmed39 U.vm ∧ U.heap = h0) (fun _ _ _ _ _ => True) (fun _ U oc U' => ∃ v L, oc = .returned v ∧ Q19tn Z x0 x1  h0 n0 v U'.heap L ∧ FrameEnd U oc U' L ({ frames := 0, cells := 0, slots := 0, locals := 0 } : Room).cells ({ frames := 0, cells := 0, slots := 0, locals := 0 } : Room).slots) := by
  refine MetFree.of_bodySF (plainFor_of_name own_pn19tn) hisR ?_
  intro p e s m args below meth c s₁ Bd hml0 hP hK
  obtain ⟨rfl, hZ, hh⟩ := hP
  have hx := Bd.exec
  have hby := Bd.bytes
  have hlk : meth.locks = false := BodyLoose.notSynchronized Bd
  have hml : c.maxLocals = 3 := hml0
  have hown : s.vm.findClass "jdk/internal/util/Preconditions" = some m.cls := findClass_of_methodNamed Bd.named
  have hnm := (name_of_methodNamed Bd.named Bd.method).1
  have X0 : Stand p l e ({ frames := 0, cells := 0, slots := 0, locals := 0 } : Room) s m #[(.int x0), (.int x1), .null] below meth c s₁ [] 0 0 := Stand.of_body Bd
  have e0 : s₁.heap = h0 := by rw [← hh, Bd.state]; rfl
  have N0 := Fr.nil n0
  refine own_enter (own_ef19tn m x0 x1) ?_
  show own_Go p e below (own_E s (Q19tn Z x0 x1  h0 n0) ({ frames := 0, cells := 0, slots := 0, locals := 0 } : Room).cells ({ frames := 0, cells := 0, slots := 0, locals := 0 } : Room).slots) s₁ (mkF m 0 #[.val (.int x0), .val (.int x1), .val .null] [])
  refine own_st (T' := s₁) (F' := (mkF m 1 #[.val (.int x0), .val (.int x1), .val .null] [(.int x0)])) (fun _ k => XS.iloadN X0.here hx rfl (hb hby d19tn_0) rfl  k) ?_
  refine own_ifc X0 hx (pc' := 9) (pc2 := 4) (hb hby d19tn_1) (by decide) (by decide) rfl (fun (hc1 : x0 < (0 : Int32)) => ?_) (fun (hc1 : ¬ (x0 < (0 : Int32))) => ?_)
  ·
    exact absurd hc1 h0i
  ·
    refine own_st (T' := s₁) (F' := (mkF m 5 #[.val (.int x0), .val (.int x1), .val .null] [(.int x0)])) (fun _ k => XS.iloadN X0.here hx rfl (hb hby d19tn_4) rfl  k) ?_
    refine own_st (T' := s₁) (F' := (mkF m 6 #[.val (.int x0), .val (.int x1), .val .null] [(.int x1), (.int x0)])) (fun _ k => XS.iloadN X0.here hx rfl (hb hby d19tn_5) rfl  k) ?_
    refine own_icmp X0 hx (pc' := 16) (pc2 := 9) (hb hby d19tn_6) (by decide) (by decide) rfl (fun (hc6 : x0 < x1) => ?_) (fun (hc6 : ¬ (x0 < x1)) => ?_)
    ·
      refine own_st (T' := s₁) (F' := (mkF m 17 #[.val (.int x0), .val (.int x1), .val .null] [(.int x0)])) (fun _ k => XS.iloadN X0.here hx rfl (hb hby d19tn_16) rfl  k) ?_
      refine own_retI X0 hx hlk Bd.returns (hb hby d19tn_17) ?_ (by decide) (by decide)
      rw [e0]
      refine ⟨?_, N0, rfl⟩
      rfl
    ·
      exact absurd h1i hc6
theorem own_pd0 : parseMethodDescriptor "(IILjava/util/function/BiFunction;)I" = some ⟨[.int, .int, (.object "java/util/function/BiFunction")], some .int⟩ := by decide +kernel
theorem d18_0 : decode jdk_42_method_155_code 0 = .ok (.iload_n 0, 1) := by decide +kernel
theorem d18_1 : decode jdk_42_method_155_code 1 = .ok (.iload_n 1, 1) := by decide +kernel
theorem d18_2 : decode jdk_42_method_155_code 2 = .ok (.getstatic 1053, 3) := by decide +kernel
theorem d18_5 : decode jdk_42_method_155_code 5 = .ok (.invokestatic 1059, 3) := by decide +kernel
theorem d18_8 : decode jdk_42_method_155_code 8 = .ok (.pop, 1) := by decide +kernel
theorem d18_9 : decode jdk_42_method_155_code 9 = .ok (.return_, 1) := by decide +kernel
theorem own_pn18 : plainName "java/lang/String" = true := by first | (simp [plainName, overriddenIn]; done) | decide +kernel
theorem own_ef18 (m : MethodId) (x0 : Int32) (x1 : Int32) : entryFrame m #[(.int x0), (.int x1)] 2 = (mkF m 0 #[.val (.int x0), .val (.int x1)] []) := by first | (simp [entryFrame, mkF, argsToLocals, Value.category]; done) | rfl
def Q18 (Z : State) (x0 : Int32) (x1 : Int32) (fv : Value) (h0 : Heap) (n0 : Nat) (v : Option Value) (h : Heap) (L : List Loc) : Prop := v = none ∧ Fr n0 L ∧ h = h0
set_option maxRecDepth 65536 in
set_option maxHeartbeats 40000000 in
theorem rm18 (l : Launch) (Z : State) (a0 : Array Value) (hw : ∀ d ∈ tables_1, d.before a0 Z = true) (ws : List Jvm.Cond) (x0 : Int32) (x1 : Int32) (fv : Value) (h0 : Heap) (n0 : Nat) (Z0 : n0 ≤ h0.size) (h0i : ¬ x0 < 0) (h1i : x0 < x1) (S_f : Sta Z h0 "jdk/internal/util/Preconditions" "SIOOBE_FORMATTER" "Ljava/util/function/BiFunction;" fv) (hfv : fv.isRef = true) :
    MetFree l (⟨"java/lang/String", "checkIndex", "(II)V"⟩ : MethodName) (head1 (Jvm.Cond.code (⟨"java/lang/String", "checkIndex", "(II)V"⟩ : MethodName) jdk_42_method_155_code 2 none :: ws) ({ frames := 1, cells := 0, slots := 0, locals := 14 } : Room)) (fun a U => a = #[(.int x0), (.int x1)] ∧ Z.Warmed39 U.vm ∧ U.heap = h0) (fun _ _ _ _ _ => True) (fun _ U oc U' => ∃ v L, oc = .returned v ∧ Q18 Z x0 x1 fv h0 n0 v U'.heap L ∧ FrameEnd U oc U' L ({ frames := 1, cells := 0, slots := 0, locals := 14 } : Room).cells ({ frames := 1, cells := 0, slots := 0, locals := 14 } : Room).slots) := by
  refine MetFree.of_bodySF (plainFor_of_name own_pn18) hisR ?_
  intro p e s m args below meth c s₁ Bd hml0 hP hK
  obtain ⟨rfl, hZ, hh⟩ := hP
  have hx := Bd.exec
  have hby := Bd.bytes
  have hlk : meth.locks = false := BodyLoose.notSynchronized Bd
  have hml : c.maxLocals = 2 := hml0
  have hown : s.vm.findClass "java/lang/String" = some m.cls := findClass_of_methodNamed Bd.named
  have hnm := (name_of_methodNamed Bd.named Bd.method).1
  have X0 : Stand p l e ({ frames := 1, cells := 0, slots := 0, locals := 14 } : Room) s m #[(.int x0), (.int x1)] below meth c s₁ [] 0 0 := Stand.of_body Bd
  have e0 : s₁.heap = h0 := by rw [← hh, Bd.state]; rfl
  have N0 := Fr.nil n0
  refine own_enter (own_ef18 m x0 x1) ?_
  show own_Go p e below (own_E s (Q18 Z x0 x1 fv h0 n0) ({ frames := 1, cells := 0, slots := 0, locals := 14 } : Room).cells ({ frames := 1, cells := 0, slots := 0, locals := 14 } : Room).slots) s₁ (mkF m 0 #[.val (.int x0), .val (.int x1)] [])
  refine own_st (T' := s₁) (F' := (mkF m 1 #[.val (.int x0), .val (.int x1)] [(.int x0)])) (fun _ k => XS.iloadN X0.here hx rfl (hb hby d18_0) rfl  k) ?_
  refine own_st (T' := s₁) (F' := (mkF m 2 #[.val (.int x0), .val (.int x1)] [(.int x1), (.int x0)])) (fun _ k => XS.iloadN X0.here hx rfl (hb hby d18_1) rfl  k) ?_
  rcases ref_cases hfv with rfl | ⟨af, rfl⟩
  ·
    obtain ⟨T1, X1, e1, st1⟩ := getS2 X0 hx hZ hown (host := "") (Or.inl (hw _ (List.mem_of_getElem? (i := 144) rfl))) Via.refl e0 S_f (g := (mkF m 2 #[.val (.int x0), .val (.int x1)] [(.int x1), (.int x0)])) rfl (hb hby d18_2)
    refine own_st (T' := T1) (F' := (mkF m 5 #[.val (.int x0), .val (.int x1)] [.null, (.int x1), (.int x0)])) (fun _ k => st1 _ k) ?_
    obtain ⟨_, _, ⟨T2, L2, k2, n2⟩, -, X2, ⟨Lc2, hQ2, l2, y2, z2⟩, st2⟩ := Jvm.LawKit.callS X1 hx (y := (⟨"jdk/internal/util/Preconditions", "checkIndex", "(IILjava/util/function/BiFunction;)I"⟩ : MethodName)) hown (mvT hZ (hw _ (List.mem_of_getElem? (i := 146) rfl))) (mvT hZ (hw _ (List.mem_of_getElem? (i := 147) rfl))) (mvT hZ (hw _ (List.mem_of_getElem? (i := 145) rfl))) (mvT hZ (hw _ (List.mem_of_getElem? (i := 148) rfl))) (by decide) (backOf (W := 0) (rm19tn l Z a0 hw [] x0 x1  h0 n0 Z0 h0i h1i) hZ (hw _ (List.mem_of_getElem? (i := 148) rfl)) (hw _ (List.mem_of_getElem? (i := 145) rfl)) (by decide) (by decide)) (g := (mkF m 5 #[.val (.int x0), .val (.int x1)] [.null, (.int x1), (.int x0)])) rfl (by rw [hml]; rfl) (argsL := [(.int x0), (.int x1), .null]) (rest := []) (lenOf own_pd0 rfl) rfl (by show 2 * 0 + _ ≤ _; exact Nat.le_of_eq rfl) (hb hby d18_5) (fun _ _ => ⟨rfl, e1, (by decide : 0 + 0 ≤ _), (by decide : 0 + 0 ≤ _)⟩)
    dsimp only [Pt.U, Pt.locs, Pt.cells, Pt.slots] at X2 l2 y2 z2 st2 hQ2
    subst l2 y2 z2
    obtain ⟨rfl, Nq2, eq2⟩ := hQ2
    have N2 := Fr.app N0 Nq2
    refine own_st (T' := T2) (F' := (mkF m 8 #[.val (.int x0), .val (.int x1)] [(.int x0)])) (fun _ k => st2 _ k) ?_
    refine own_st (T' := T2) (F' := (mkF m 9 #[.val (.int x0), .val (.int x1)] [])) (fun _ k => XS.pop X2.here hx rfl (hb hby d18_8) rfl rfl k) ?_
    refine own_retV X2 hx hlk Bd.returns (hb hby d18_9) ?_ (by decide) (by decide)
    rw [eq2]
    refine ⟨rfl, N2, rfl⟩
  ·
    obtain ⟨T3, X3, e3, st3⟩ := getS2 X0 hx hZ hown (host := "") (Or.inl (hw _ (List.mem_of_getElem? (i := 144) rfl))) Via.refl e0 S_f (g := (mkF m 2 #[.val (.int x0), .val (.int x1)] [(.int x1), (.int x0)])) rfl (hb hby d18_2)
    refine own_st (T' := T3) (F' := (mkF m 5 #[.val (.int x0), .val (.int x1)] [(.ref af), (.int x1), (.int x0)])) (fun _ k => st3 _ k) ?_
    obtain ⟨_, _, ⟨T4, L4, k4, n4⟩, -, X4, ⟨Lc4, hQ4, l4, y4, z4⟩, st4⟩ := Jvm.LawKit.callS X3 hx (y := (⟨"jdk/internal/util/Preconditions", "checkIndex", "(IILjava/util/function/BiFunction;)I"⟩ : MethodName)) hown (mvT hZ (hw _ (List.mem_of_getElem? (i := 146) rfl))) (mvT hZ (hw _ (List.mem_of_getElem? (i := 147) rfl))) (mvT hZ (hw _ (List.mem_of_getElem? (i := 145) rfl))) (mvT hZ (hw _ (List.mem_of_getElem? (i := 148) rfl))) (by decide) (backOf (W := 0) (rm19tr l Z a0 hw [] x0 x1 af  h0 n0 Z0 h0i h1i) hZ (hw _ (List.mem_of_getElem? (i := 148) rfl)) (hw _ (List.mem_of_getElem? (i := 145) rfl)) (by decide) (by decide)) (g := (mkF m 5 #[.val (.int x0), .val (.int x1)] [(.ref af), (.int x1), (.int x0)])) rfl (by rw [hml]; rfl) (argsL := [(.int x0), (.int x1), (.ref af)]) (rest := []) (lenOf own_pd0 rfl) rfl (by show 2 * 0 + _ ≤ _; exact Nat.le_of_eq rfl) (hb hby d18_5) (fun _ _ => ⟨rfl, e3, (by decide : 0 + 0 ≤ _), (by decide : 0 + 0 ≤ _)⟩)
    dsimp only [Pt.U, Pt.locs, Pt.cells, Pt.slots] at X4 l4 y4 z4 st4 hQ4
    subst l4 y4 z4
    obtain ⟨rfl, Nq4, eq4⟩ := hQ4
    have N4 := Fr.app N0 Nq4
    refine own_st (T' := T4) (F' := (mkF m 8 #[.val (.int x0), .val (.int x1)] [(.int x0)])) (fun _ k => st4 _ k) ?_
    refine own_st (T' := T4) (F' := (mkF m 9 #[.val (.int x0), .val (.int x1)] [])) (fun _ k => XS.pop X4.here hx rfl (hb hby d18_8) rfl rfl k) ?_
    refine own_retV X4 hx hlk Bd.returns (hb hby d18_9) ?_ (by decide) (by decide)
    rw [eq4]
    refine ⟨rfl, N4, rfl⟩
theorem own_pd1 : parseMethodDescriptor "(II)V" = some ⟨[.int, .int], none⟩ := by decide +kernel
theorem d17_0 : decode jdk_43_method_2_code 0 = .ok (.iload_n 1, 1) := by decide +kernel
theorem d17_1 : decode jdk_43_method_2_code 1 = .ok (.aload_n 0, 1) := by decide +kernel
theorem d17_2 : decode jdk_43_method_2_code 2 = .ok (.arraylength, 1) := by decide +kernel
theorem d17_3 : decode jdk_43_method_2_code 3 = .ok (.invokestatic 9, 3) := by decide +kernel
theorem d17_6 : decode jdk_43_method_2_code 6 = .ok (.aload_n 0, 1) := by decide +kernel
theorem d17_7 : decode jdk_43_method_2_code 7 = .ok (.iload_n 1, 1) := by decide +kernel
theorem d17_8 : decode jdk_43_method_2_code 8 = .ok (.baload, 1) := by decide +kernel
theorem d17_9 : decode jdk_43_method_2_code 9 = .ok (.sipush 255, 3) := by decide +kernel
theorem d17_12 : decode jdk_43_method_2_code 12 = .ok (.iand, 1) := by decide +kernel
theorem d17_13 : decode jdk_43_method_2_code 13 = .ok (.i2c, 1) := by decide +kernel
theorem d17_14 : decode jdk_43_method_2_code 14 = .ok (.ireturn, 1) := by decide +kernel
theorem own_pn17 : plainName "java/lang/StringLatin1" = true := by first | (simp [plainName, overriddenIn]; done) | decide +kernel
theorem own_ef17 (m : MethodId) (x0 : Addr) (x1 : Int32) : entryFrame m #[(.ref x0), (.int x1)] 2 = (mkF m 0 #[.val (.ref x0), .val (.int x1)] []) := by first | (simp [entryFrame, mkF, argsToLocals, Value.category]; done) | rfl
def Q17 (Z : State) (x0 : Addr) (x1 : Int32) (kb : ClassId) (n : Int32) (vs : List Value) (a : Int32) (fv : Value) (h0 : Heap) (n0 : Nat) (v : Option Value) (h : Heap) (L : List Loc) : Prop := v = some (.int (own_ch a)) ∧ Fr n0 L ∧ h = h0
set_option maxRecDepth 65536 in
set_option maxHeartbeats 40000000 in
theorem rm17 (l : Launch) (Z : State) (a0 : Array Value) (hw : ∀ d ∈ tables_1, d.before a0 Z = true) (ws : List Jvm.Cond) (x0 : Addr) (x1 : Int32) (kb : ClassId) (n : Int32) (vs : List Value) (a : Int32) (fv : Value) (h0 : Heap) (n0 : Nat) (Z0 : n0 ≤ h0.size) (V_b : Arv Z h0 x0 kb .byte n vs (.int (0 : Int32))) (S_f : Sta Z h0 "jdk/internal/util/Preconditions" "SIOOBE_FORMATTER" "Ljava/util/function/BiFunction;" fv) (hfv : fv.isRef = true) (hin : ¬ x1 < 0 ∧ x1 < n) (hat : vs.getD (x1).toNatClampNeg (.int (0 : Int32)) = .int a) :
    MetFree l (⟨"java/lang/StringLatin1", "charAt", "([BI)C"⟩ : MethodName) (head1 (Jvm.Cond.code (⟨"java/lang/StringLatin1", "charAt", "([BI)C"⟩ : MethodName) jdk_43_method_2_code 2 (some .char) :: ws) ({ frames := 2, cells := 0, slots := 0, locals := 27 } : Room)) (fun a U => a = #[(.ref x0), (.int x1)] ∧ Z.Warmed39 U.vm ∧ U.heap = h0) (fun _ _ _ _ _ => True) (fun _ U oc U' => ∃ v L, oc = .returned v ∧ Q17 Z x0 x1 kb n vs a fv h0 n0 v U'.heap L ∧ FrameEnd U oc U' L ({ frames := 2, cells := 0, slots := 0, locals := 27 } : Room).cells ({ frames := 2, cells := 0, slots := 0, locals := 27 } : Room).slots) := by
  refine MetFree.of_bodySF (plainFor_of_name own_pn17) hisR ?_
  intro p e s m args below meth c s₁ Bd hml0 hP hK
  obtain ⟨rfl, hZ, hh⟩ := hP
  have hx := Bd.exec
  have hby := Bd.bytes
  have hlk : meth.locks = false := BodyLoose.notSynchronized Bd
  have hml : c.maxLocals = 2 := hml0
  have hown : s.vm.findClass "java/lang/StringLatin1" = some m.cls := findClass_of_methodNamed Bd.named
  have hnm := (name_of_methodNamed Bd.named Bd.method).1
  have X0 : Stand p l e ({ frames := 2, cells := 0, slots := 0, locals := 27 } : Room) s m #[(.ref x0), (.int x1)] below meth c s₁ [] 0 0 := Stand.of_body Bd
  have e0 : s₁.heap = h0 := by rw [← hh, Bd.state]; rfl
  have N0 := Fr.nil n0
  refine own_enter (own_ef17 m x0 x1) ?_
  show own_Go p e below (own_E s (Q17 Z x0 x1 kb n vs a fv h0 n0) ({ frames := 2, cells := 0, slots := 0, locals := 27 } : Room).cells ({ frames := 2, cells := 0, slots := 0, locals := 27 } : Room).slots) s₁ (mkF m 0 #[.val (.ref x0), .val (.int x1)] [])
  refine own_st (T' := s₁) (F' := (mkF m 1 #[.val (.ref x0), .val (.int x1)] [(.int x1)])) (fun _ k => XS.iloadN X0.here hx rfl (hb hby d17_0) rfl  k) ?_
  refine own_st (T' := s₁) (F' := (mkF m 2 #[.val (.ref x0), .val (.int x1)] [(.ref x0), (.int x1)])) (fun _ k => XS.aloadN X0.here hx rfl (hb hby d17_1) rfl rfl k) ?_
  obtain ⟨cl1, Ar1, Aq1, As1, Am1, Ah1, Au1⟩ := id V_b
  refine own_st (T' := s₁) (F' := (mkF m 3 #[.val (.ref x0), .val (.int x1)] [(.int n), (.int x1)])) (fun _ k => X0.arraylength hx (cell := cl1) (by rw [e0]; exact Ar1.1) (State.isArrayOf_alike hZ.alike Ar1.2.1) (g := (mkF m 2 #[.val (.ref x0), .val (.int x1)] [(.ref x0), (.int x1)])) rfl (rest := [(.int x1)]) rfl (hb hby d17_2) _ (by rw [len_of As1 Am1]; exact k)) ?_
  obtain ⟨_, _, ⟨T2, L2, k2, n2⟩, -, X2, ⟨Lc2, hQ2, l2, y2, z2⟩, st2⟩ := Jvm.LawKit.callS X0 hx (y := (⟨"java/lang/String", "checkIndex", "(II)V"⟩ : MethodName)) hown (mvT hZ (hw _ (List.mem_of_getElem? (i := 141) rfl))) (mvT hZ (hw _ (List.mem_of_getElem? (i := 142) rfl))) (mvT hZ (hw _ (List.mem_of_getElem? (i := 14) rfl))) (mvT hZ (hw _ (List.mem_of_getElem? (i := 143) rfl))) (by decide) (backOf (W := 0) (rm18 l Z a0 hw [] x1 n fv h0 n0 Z0 hin.1 hin.2 S_f hfv) hZ (hw _ (List.mem_of_getElem? (i := 143) rfl)) (hw _ (List.mem_of_getElem? (i := 14) rfl)) (by decide) (by decide)) (g := (mkF m 3 #[.val (.ref x0), .val (.int x1)] [(.int n), (.int x1)])) rfl (by rw [hml]; rfl) (argsL := [(.int x1), (.int n)]) (rest := []) (lenOf own_pd1 rfl) rfl (by show 2 * 0 + _ ≤ _; exact Nat.le_of_eq rfl) (hb hby d17_3) (fun _ _ => ⟨rfl, e0, (by decide : 0 + 0 ≤ _), (by decide : 0 + 0 ≤ _)⟩)
  dsimp only [Pt.U, Pt.locs, Pt.cells, Pt.slots] at X2 l2 y2 z2 st2 hQ2
  subst l2 y2 z2
  obtain ⟨rfl, Nq2, eq2⟩ := hQ2
  have N2 := Fr.app N0 Nq2
  refine own_st (T' := T2) (F' := (mkF m 6 #[.val (.ref x0), .val (.int x1)] [])) (fun _ k => st2 _ k) ?_
  refine own_st (T' := T2) (F' := (mkF m 7 #[.val (.ref x0), .val (.int x1)] [(.ref x0)])) (fun _ k => XS.aloadN X2.here hx rfl (hb hby d17_6) rfl rfl k) ?_
  refine own_st (T' := T2) (F' := (mkF m 8 #[.val (.ref x0), .val (.int x1)] [(.int x1), (.ref x0)])) (fun _ k => XS.iloadN X2.here hx rfl (hb hby d17_7) rfl  k) ?_
  obtain ⟨cl3, Ar3, Aq3, As3, Am3, Ah3, Au3⟩ := id V_b
  have hin3 : ¬ (x1 < 0 ∨ cl3.slots.size ≤ (x1).toNatClampNeg) := inb_of As3 (hin)
  have hat3 : cl3.slots[(x1).toNatClampNeg]? = some (.int a) := Ah3.at hin3 (hat)
  refine own_st (T' := T2) (F' := (mkF m 9 #[.val (.ref x0), .val (.int x1)] [(.int a)])) (fun _ k => X2.baloadBytes hx (j := x1) (v := (.int a)) (by rw [eq2]; exact Ar3.1) (State.isArrayOf_alike hZ.alike Ar3.2.1) Ar3.2.2 hin3 hat3 (g := (mkF m 8 #[.val (.ref x0), .val (.int x1)] [(.int x1), (.ref x0)])) rfl rfl (hb hby d17_8) _ k) ?_
  refine own_st (T' := T2) (F' := (mkF m 12 #[.val (.ref x0), .val (.int x1)] [(.int (255 : Int32)), (.int a)])) (fun _ k => XS.sipush X2.here hx rfl (hb hby d17_9) k) ?_
  refine own_st (T' := T2) (F' := (mkF m 13 #[.val (.ref x0), .val (.int x1)] [(.int (a &&& (255 : Int32)))])) (fun _ k => XS.iand X2.here hx rfl (hb hby d17_12) rfl k) ?_
  refine own_st (T' := T2) (F' := (mkF m 14 #[.val (.ref x0), .val (.int x1)] [(.int ((a &&& (255 : Int32)).toUInt32.toUInt16.toUInt32.toInt32))])) (fun _ k => XS.i2c X2.here hx rfl (hb hby d17_13) rfl k) ?_
  refine own_retN X2 hx hlk (t := .char) Bd.returns (by simp) (hb hby d17_14) ?_ (by decide) (by decide)
  rw [eq2]
  refine ⟨?_, N2, rfl⟩
  rfl
theorem d16_0 : decode jdk_42_method_154_code 0 = .ok (.getstatic 38, 3) := by decide +kernel
theorem d16_3 : decode jdk_42_method_154_code 3 = .ok (.ifCond .eq 14, 3) := by decide +kernel
theorem d16_6 : decode jdk_42_method_154_code 6 = .ok (.aload_n 0, 1) := by decide +kernel
theorem d16_7 : decode jdk_42_method_154_code 7 = .ok (.getfield 15, 3) := by decide +kernel
theorem d16_10 : decode jdk_42_method_154_code 10 = .ok (.ifCond .ne 7, 3) := by decide +kernel
theorem d16_13 : decode jdk_42_method_154_code 13 = .ok (.iconst 1, 1) := by decide +kernel
theorem d16_14 : decode jdk_42_method_154_code 14 = .ok (.goto 4, 3) := by decide +kernel
theorem d16_18 : decode jdk_42_method_154_code 18 = .ok (.ireturn, 1) := by decide +kernel
theorem own_pn16 : plainName "java/lang/String" = true := by first | (simp [plainName, overriddenIn]; done) | decide +kernel
theorem own_ef16 (m : MethodId) (o : Addr) : entryFrame m #[(.ref o)] 1 = (mkF m 0 #[.val (.ref o)] []) := by first | (simp [entryFrame, mkF, argsToLocals, Value.category]; done) | rfl
def Q16 (Z : State) (o : Addr) (cs : Int32) (h0 : Heap) (n0 : Nat) (v : Option Value) (h : Heap) (L : List Loc) : Prop := v = some (.int (1 : Int32)) ∧ Fr n0 L ∧ h = h0
set_option maxRecDepth 65536 in
set_option maxHeartbeats 40000000 in
theorem rm16 (l : Launch) (Z : State) (a0 : Array Value) (hw : ∀ d ∈ tables_1, d.before a0 Z = true) (ws : List Jvm.Cond) (o : Addr) (cs : Int32) (h0 : Heap) (n0 : Nat) (Z0 : n0 ≤ h0.size) (S_cs : Sta Z h0 "java/lang/String" "COMPACT_STRINGS" "Z" (.int cs)) (hcs : ¬ (cs = 0)) (hFc : Fld Z h0 o "java/lang/String" "coder" "B" (.int (0 : Int32))) :
    MetFree l (⟨"java/lang/String", "isLatin1", "()Z"⟩ : MethodName) (head1 (Jvm.Cond.code (⟨"java/lang/String", "isLatin1", "()Z"⟩ : MethodName) jdk_42_method_154_code 1 (some .boolean) :: ws) ({ frames := 0, cells := 0, slots := 0, locals := 0 } : Room)) (fun a U => a = #[(.ref o)] ∧ Z.Warmed39 U.vm ∧ U.heap = h0) (fun _ _ _ _ _ => True) (fun _ U oc U' => ∃ v L, oc = .returned v ∧ Q16 Z o cs h0 n0 v U'.heap L ∧ FrameEnd U oc U' L ({ frames := 0, cells := 0, slots := 0, locals := 0 } : Room).cells ({ frames := 0, cells := 0, slots := 0, locals := 0 } : Room).slots) := by
  refine MetFree.of_bodySF (plainFor_of_name own_pn16) hisR ?_
  intro p e s m args below meth c s₁ Bd hml0 hP hK
  obtain ⟨rfl, hZ, hh⟩ := hP
  have hx := Bd.exec
  have hby := Bd.bytes
  have hlk : meth.locks = false := BodyLoose.notSynchronized Bd
  have hml : c.maxLocals = 1 := hml0
  have hown : s.vm.findClass "java/lang/String" = some m.cls := findClass_of_methodNamed Bd.named
  have hnm := (name_of_methodNamed Bd.named Bd.method).1
  have X0 : Stand p l e ({ frames := 0, cells := 0, slots := 0, locals := 0 } : Room) s m #[(.ref o)] below meth c s₁ [] 0 0 := Stand.of_body Bd
  have e0 : s₁.heap = h0 := by rw [← hh, Bd.state]; rfl
  have N0 := Fr.nil n0
  refine own_enter (own_ef16 m o) ?_
  show own_Go p e below (own_E s (Q16 Z o cs h0 n0) ({ frames := 0, cells := 0, slots := 0, locals := 0 } : Room).cells ({ frames := 0, cells := 0, slots := 0, locals := 0 } : Room).slots) s₁ (mkF m 0 #[.val (.ref o)] [])
  obtain ⟨T1, X1, e1, st1⟩ := getS2 X0 hx hZ hown (host := "") (Or.inl (hw _ (List.mem_of_getElem? (i := 26) rfl))) Via.refl e0 S_cs (g := (mkF m 0 #[.val (.ref o)] [])) rfl (hb hby d16_0)
  refine own_st (T' := T1) (F' := (mkF m 3 #[.val (.ref o)] [(.int cs)])) (fun _ k => st1 _ k) ?_
  refine own_ifc X1 hx (pc' := 17) (pc2 := 6) (hb hby d16_3) (by decide) (by decide) rfl (fun (hc3 : cs = (0 : Int32)) => ?_) (fun (hc3 : ¬ (cs = (0 : Int32))) => ?_)
  ·
    exact absurd hc3 hcs
  ·
    refine own_st (T' := T1) (F' := (mkF m 7 #[.val (.ref o)] [(.ref o)])) (fun _ k => XS.aloadN X1.here hx rfl (hb hby d16_6) rfl rfl k) ?_
    obtain ⟨T2, X2, e2, st2⟩ := getF X1 hx hZ hown (host := "") (Or.inl (hw _ (List.mem_of_getElem? (i := 38) rfl))) Via.refl e1 hFc (g := (mkF m 7 #[.val (.ref o)] [(.ref o)])) rfl rfl (hb hby d16_7)
    refine own_st (T' := T2) (F' := (mkF m 10 #[.val (.ref o)] [(.int (0 : Int32))])) (fun _ k => st2 _ k) ?_
    refine own_ifc X2 hx (pc' := 17) (pc2 := 13) (hb hby d16_10) (by decide) (by decide) rfl (fun (hc10 : ¬ ((0 : Int32) = (0 : Int32))) => ?_) (fun (hc10 : (0 : Int32) = (0 : Int32)) => ?_)
    · exact absurd hc10 (by decide)
    refine own_st (T' := T2) (F' := (mkF m 14 #[.val (.ref o)] [(.int (1 : Int32))])) (fun _ k => XS.iconst X2.here hx rfl (hb hby d16_13) k) ?_
    refine own_st (T' := T2) (F' := (mkF m 18 #[.val (.ref o)] [(.int (1 : Int32))])) (fun _ k => XS.goto X2.here hx rfl (pc0 := 14) (pc' := 18) rfl (hb hby d16_14) (by decide) (by decide) k) ?_
    refine own_retN X2 hx hlk (t := .boolean) Bd.returns (by simp) (hb hby d16_18) ?_ (by decide) (by decide)
    rw [e2]
    refine ⟨?_, N0, rfl⟩
    rfl
theorem own_pd2 : parseMethodDescriptor "()Z" = some ⟨[], some .boolean⟩ := by decide +kernel
theorem own_pd3 : parseMethodDescriptor "([BI)C" = some ⟨[(.array .byte), .int], some .char⟩ := by decide +kernel
theorem d15_0 : decode jdk_42_method_56_code 0 = .ok (.aload_n 0, 1) := by decide +kernel
theorem d15_1 : decode jdk_42_method_56_code 1 = .ok (.invokevirtual 492, 3) := by decide +kernel
theorem d15_4 : decode jdk_42_method_56_code 4 = .ok (.ifCond .eq 12, 3) := by decide +kernel
theorem d15_7 : decode jdk_42_method_56_code 7 = .ok (.aload_n 0, 1) := by decide +kernel
theorem d15_8 : decode jdk_42_method_56_code 8 = .ok (.getfield 9, 3) := by decide +kernel
theorem d15_11 : decode jdk_42_method_56_code 11 = .ok (.iload_n 1, 1) := by decide +kernel
theorem d15_12 : decode jdk_42_method_56_code 12 = .ok (.invokestatic 495, 3) := by decide +kernel
theorem d15_15 : decode jdk_42_method_56_code 15 = .ok (.ireturn, 1) := by decide +kernel
theorem own_pn15 : plainName "java/lang/String" = true := by first | (simp [plainName, overriddenIn]; done) | decide +kernel
theorem own_ef15 (m : MethodId) (o : Addr) (x0 : Int32) : entryFrame m #[(.ref o), (.int x0)] 2 = (mkF m 0 #[.val (.ref o), .val (.int x0)] []) := by first | (simp [entryFrame, mkF, argsToLocals, Value.category]; done) | rfl
def Q15 (Z : State) (o : Addr) (x0 : Int32) (cs : Int32) (sb : Addr) (kb : ClassId) (n : Int32) (vs : List Value) (a : Int32) (fv : Value) (h0 : Heap) (n0 : Nat) (v : Option Value) (h : Heap) (L : List Loc) : Prop := v = some (.int (own_ch a)) ∧ Fr n0 L ∧ h = h0
set_option maxRecDepth 65536 in
set_option maxHeartbeats 40000000 in
theorem rm15 (l : Launch) (Z : State) (a0 : Array Value) (hw : ∀ d ∈ tables_1, d.before a0 Z = true) (ws : List Jvm.Cond) (o : Addr) (x0 : Int32) (cs : Int32) (sb : Addr) (kb : ClassId) (n : Int32) (vs : List Value) (a : Int32) (fv : Value) (h0 : Heap) (n0 : Nat) (Z0 : n0 ≤ h0.size) (S_cs : Sta Z h0 "java/lang/String" "COMPACT_STRINGS" "Z" (.int cs)) (hcs : ¬ (cs = 0)) (hFc : Fld Z h0 o "java/lang/String" "coder" "B" (.int (0 : Int32))) (hFv : Fld Z h0 o "java/lang/String" "value" "[B" (.ref sb)) (hEo : Exa Z h0 o "java/lang/String") (V_b : Arv Z h0 sb kb .byte n vs (.int (0 : Int32))) (S_f : Sta Z h0 "jdk/internal/util/Preconditions" "SIOOBE_FORMATTER" "Ljava/util/function/BiFunction;" fv) (hfv : fv.isRef = true) (hin : ¬ x0 < 0 ∧ x0 < n) (hat : vs.getD (x0).toNatClampNeg (.int (0 : Int32)) = .int a) :
    MetFree l (⟨"java/lang/String", "charAt", "(I)C"⟩ : MethodName) (head1 (Jvm.Cond.code (⟨"java/lang/String", "charAt", "(I)C"⟩ : MethodName) jdk_42_method_56_code 2 (some .char) :: ws) ({ frames := 3, cells := 0, slots := 0, locals := 40 } : Room)) (fun a U => a = #[(.ref o), (.int x0)] ∧ Z.Warmed39 U.vm ∧ U.heap = h0) (fun _ _ _ _ _ => True) (fun _ U oc U' => ∃ v L, oc = .returned v ∧ Q15 Z o x0 cs sb kb n vs a fv h0 n0 v U'.heap L ∧ FrameEnd U oc U' L ({ frames := 3, cells := 0, slots := 0, locals := 40 } : Room).cells ({ frames := 3, cells := 0, slots := 0, locals := 40 } : Room).slots) := by
  refine MetFree.of_bodySF (plainFor_of_name own_pn15) hisR ?_
  intro p e s m args below meth c s₁ Bd hml0 hP hK
  obtain ⟨rfl, hZ, hh⟩ := hP
  have hx := Bd.exec
  have hby := Bd.bytes
  have hlk : meth.locks = false := BodyLoose.notSynchronized Bd
  have hml : c.maxLocals = 2 := hml0
  have hown : s.vm.findClass "java/lang/String" = some m.cls := findClass_of_methodNamed Bd.named
  have hnm := (name_of_methodNamed Bd.named Bd.method).1
  have X0 : Stand p l e ({ frames := 3, cells := 0, slots := 0, locals := 40 } : Room) s m #[(.ref o), (.int x0)] below meth c s₁ [] 0 0 := Stand.of_body Bd
  have e0 : s₁.heap = h0 := by rw [← hh, Bd.state]; rfl
  have N0 := Fr.nil n0
  refine own_enter (own_ef15 m o x0) ?_
  show own_Go p e below (own_E s (Q15 Z o x0 cs sb kb n vs a fv h0 n0) ({ frames := 3, cells := 0, slots := 0, locals := 40 } : Room).cells ({ frames := 3, cells := 0, slots := 0, locals := 40 } : Room).slots) s₁ (mkF m 0 #[.val (.ref o), .val (.int x0)] [])
  refine own_st (T' := s₁) (F' := (mkF m 1 #[.val (.ref o), .val (.int x0)] [(.ref o)])) (fun _ k => XS.aloadN X0.here hx rfl (hb hby d15_0) rfl rfl k) ?_
  obtain ⟨cq1, kq1, q1a, q1b, q1c⟩ := isOf hZ e0 hEo
  obtain ⟨_, _, ⟨T1, L1, k1, n1⟩, -, X1, ⟨Lc1, hQ1, l1, y1, z1⟩, st1⟩ := X0.virtualBack hx (y := (⟨"java/lang/String", "isLatin1", "()Z"⟩ : MethodName)) (z := (⟨"java/lang/String", "isLatin1", "()Z"⟩ : MethodName)) hown (mvT hZ (hw _ (List.mem_of_getElem? (i := 132) rfl))) (mvT hZ (hw _ (List.mem_of_getElem? (i := 133) rfl))) (notFace_of_selects (args := #[]) (mvT hZ (hw _ (List.mem_of_getElem? (i := 135) rfl)))) (mvT hZ (hw _ (List.mem_of_getElem? (i := 135) rfl))) (mvT hZ (hw _ (List.mem_of_getElem? (i := 134) rfl))) (by decide) (backOf (W := 0) (rm16 l Z a0 hw [] o cs h0 n0 Z0 S_cs hcs hFc) hZ (hw _ (List.mem_of_getElem? (i := 136) rfl)) (hw _ (List.mem_of_getElem? (i := 14) rfl)) (by decide) (by decide)) q1a q1c (g := (mkF m 1 #[.val (.ref o), .val (.int x0)] [(.ref o)])) rfl (by rw [hml]; rfl) (Steps.refl _) (argsL := []) (rest := []) (lenOf own_pd2 rfl) rfl (by show 2 * 0 + _ ≤ _; exact Nat.le_of_eq rfl) (hb hby d15_1) (fun _ _ => ⟨rfl, e0, (by decide : 0 + 0 ≤ _), (by decide : 0 + 0 ≤ _)⟩)
  dsimp only [Pt.U, Pt.locs, Pt.cells, Pt.slots] at X1 l1 y1 z1 st1 hQ1
  subst l1 y1 z1
  obtain ⟨rfl, Nq1, eq1⟩ := hQ1
  have N1 := Fr.app N0 Nq1
  refine own_tr (T' := T1) (F' := (mkF m 4 #[.val (.ref o), .val (.int x0)] [(.int (1 : Int32))])) st1 ?_
  refine own_ifc X1 hx (pc' := 16) (pc2 := 7) (hb hby d15_4) (by decide) (by decide) rfl (fun (hc4 : (1 : Int32) = (0 : Int32)) => ?_) (fun (hc4 : ¬ ((1 : Int32) = (0 : Int32))) => ?_)
  · exact absurd hc4 (by decide)
  refine own_st (T' := T1) (F' := (mkF m 8 #[.val (.ref o), .val (.int x0)] [(.ref o)])) (fun _ k => XS.aloadN X1.here hx rfl (hb hby d15_7) rfl rfl k) ?_
  obtain ⟨T2, X2, e2, st2⟩ := getF X1 hx hZ hown (host := "") (Or.inl (hw _ (List.mem_of_getElem? (i := 40) rfl))) Via.refl eq1 hFv (g := (mkF m 8 #[.val (.ref o), .val (.int x0)] [(.ref o)])) rfl rfl (hb hby d15_8)
  refine own_st (T' := T2) (F' := (mkF m 11 #[.val (.ref o), .val (.int x0)] [(.ref sb)])) (fun _ k => st2 _ k) ?_
  refine own_st (T' := T2) (F' := (mkF m 12 #[.val (.ref o), .val (.int x0)] [(.int x0), (.ref sb)])) (fun _ k => XS.iloadN X2.here hx rfl (hb hby d15_11) rfl  k) ?_
  obtain ⟨_, _, ⟨T3, L3, k3, n3⟩, -, X3, ⟨Lc3, hQ3, l3, y3, z3⟩, st3⟩ := Jvm.LawKit.callS X2 hx (y := (⟨"java/lang/StringLatin1", "charAt", "([BI)C"⟩ : MethodName)) hown (mvT hZ (hw _ (List.mem_of_getElem? (i := 137) rfl))) (mvT hZ (hw _ (List.mem_of_getElem? (i := 138) rfl))) (mvT hZ (hw _ (List.mem_of_getElem? (i := 139) rfl))) (mvT hZ (hw _ (List.mem_of_getElem? (i := 140) rfl))) (by decide) (backOf (W := 0) (rm17 l Z a0 hw [] sb x0 kb n vs a fv h0 n0 Z0 V_b S_f hfv hin hat) hZ (hw _ (List.mem_of_getElem? (i := 140) rfl)) (hw _ (List.mem_of_getElem? (i := 139) rfl)) (by decide) (by decide)) (g := (mkF m 12 #[.val (.ref o), .val (.int x0)] [(.int x0), (.ref sb)])) rfl (by rw [hml]; rfl) (argsL := [(.ref sb), (.int x0)]) (rest := []) (lenOf own_pd3 rfl) rfl (by show 2 * 0 + _ ≤ _; exact Nat.le_of_eq rfl) (hb hby d15_12) (fun _ _ => ⟨rfl, e2, (by decide : 0 + 0 ≤ _), (by decide : 0 + 0 ≤ _)⟩)
  dsimp only [Pt.U, Pt.locs, Pt.cells, Pt.slots] at X3 l3 y3 z3 st3 hQ3
  subst l3 y3 z3
  obtain ⟨rfl, Nq3, eq3⟩ := hQ3
  have N3 := Fr.app N1 Nq3
  refine own_st (T' := T3) (F' := (mkF m 15 #[.val (.ref o), .val (.int x0)] [(.int (own_ch a))])) (fun _ k => st3 _ k) ?_
  refine own_retN X3 hx hlk (t := .char) Bd.returns (by simp) (hb hby d15_15) ?_ (by decide) (by decide)
  rw [eq3]
  refine ⟨?_, N3, rfl⟩
  show some (Value.int (nar .char (own_ch a))) = _
  rw [own_chn]
theorem d14_0 : decode jdk_42_method_152_code 0 = .ok (.getstatic 38, 3) := by decide +kernel
theorem d14_3 : decode jdk_42_method_152_code 3 = .ok (.ifCond .eq 10, 3) := by decide +kernel
theorem d14_6 : decode jdk_42_method_152_code 6 = .ok (.aload_n 0, 1) := by decide +kernel
theorem d14_7 : decode jdk_42_method_152_code 7 = .ok (.getfield 15, 3) := by decide +kernel
theorem d14_10 : decode jdk_42_method_152_code 10 = .ok (.goto 4, 3) := by decide +kernel
theorem d14_14 : decode jdk_42_method_152_code 14 = .ok (.ireturn, 1) := by decide +kernel
theorem own_pn14 : plainName "java/lang/String" = true := by first | (simp [plainName, overriddenIn]; done) | decide +kernel
theorem own_ef14 (m : MethodId) (o : Addr) : entryFrame m #[(.ref o)] 1 = (mkF m 0 #[.val (.ref o)] []) := by first | (simp [entryFrame, mkF, argsToLocals, Value.category]; done) | rfl
def Q14 (Z : State) (o : Addr) (cs : Int32) (h0 : Heap) (n0 : Nat) (v : Option Value) (h : Heap) (L : List Loc) : Prop := v = some (.int (0 : Int32)) ∧ Fr n0 L ∧ h = h0
set_option maxRecDepth 65536 in
set_option maxHeartbeats 40000000 in
theorem rm14 (l : Launch) (Z : State) (a0 : Array Value) (hw : ∀ d ∈ tables_1, d.before a0 Z = true) (ws : List Jvm.Cond) (o : Addr) (cs : Int32) (h0 : Heap) (n0 : Nat) (Z0 : n0 ≤ h0.size) (S_cs : Sta Z h0 "java/lang/String" "COMPACT_STRINGS" "Z" (.int cs)) (hcs : ¬ (cs = 0)) (hFc : Fld Z h0 o "java/lang/String" "coder" "B" (.int (0 : Int32))) :
    MetFree l (⟨"java/lang/String", "coder", "()B"⟩ : MethodName) (head1 (Jvm.Cond.code (⟨"java/lang/String", "coder", "()B"⟩ : MethodName) jdk_42_method_152_code 1 (some .byte) :: ws) ({ frames := 0, cells := 0, slots := 0, locals := 0 } : Room)) (fun a U => a = #[(.ref o)] ∧ Z.Warmed39 U.vm ∧ U.heap = h0) (fun _ _ _ _ _ => True) (fun _ U oc U' => ∃ v L, oc = .returned v ∧ Q14 Z o cs h0 n0 v U'.heap L ∧ FrameEnd U oc U' L ({ frames := 0, cells := 0, slots := 0, locals := 0 } : Room).cells ({ frames := 0, cells := 0, slots := 0, locals := 0 } : Room).slots) := by
  refine MetFree.of_bodySF (plainFor_of_name own_pn14) hisR ?_
  intro p e s m args below meth c s₁ Bd hml0 hP hK
  obtain ⟨rfl, hZ, hh⟩ := hP
  have hx := Bd.exec
  have hby := Bd.bytes
  have hlk : meth.locks = false := BodyLoose.notSynchronized Bd
  have hml : c.maxLocals = 1 := hml0
  have hown : s.vm.findClass "java/lang/String" = some m.cls := findClass_of_methodNamed Bd.named
  have hnm := (name_of_methodNamed Bd.named Bd.method).1
  have X0 : Stand p l e ({ frames := 0, cells := 0, slots := 0, locals := 0 } : Room) s m #[(.ref o)] below meth c s₁ [] 0 0 := Stand.of_body Bd
  have e0 : s₁.heap = h0 := by rw [← hh, Bd.state]; rfl
  have N0 := Fr.nil n0
  refine own_enter (own_ef14 m o) ?_
  show own_Go p e below (own_E s (Q14 Z o cs h0 n0) ({ frames := 0, cells := 0, slots := 0, locals := 0 } : Room).cells ({ frames := 0, cells := 0, slots := 0, locals := 0 } : Room).slots) s₁ (mkF m 0 #[.val (.ref o)] [])
  obtain ⟨T1, X1, e1, st1⟩ := getS2 X0 hx hZ hown (host := "") (Or.inl (hw _ (List.mem_of_getElem? (i := 26) rfl))) Via.refl e0 S_cs (g := (mkF m 0 #[.val (.ref o)] [])) rfl (hb hby d14_0)
  refine own_st (T' := T1) (F' := (mkF m 3 #[.val (.ref o)] [(.int cs)])) (fun _ k => st1 _ k) ?_
  refine own_ifc X1 hx (pc' := 13) (pc2 := 6) (hb hby d14_3) (by decide) (by decide) rfl (fun (hc3 : cs = (0 : Int32)) => ?_) (fun (hc3 : ¬ (cs = (0 : Int32))) => ?_)
  ·
    exact absurd hc3 hcs
  ·
    refine own_st (T' := T1) (F' := (mkF m 7 #[.val (.ref o)] [(.ref o)])) (fun _ k => XS.aloadN X1.here hx rfl (hb hby d14_6) rfl rfl k) ?_
    obtain ⟨T2, X2, e2, st2⟩ := getF X1 hx hZ hown (host := "") (Or.inl (hw _ (List.mem_of_getElem? (i := 38) rfl))) Via.refl e1 hFc (g := (mkF m 7 #[.val (.ref o)] [(.ref o)])) rfl rfl (hb hby d14_7)
    refine own_st (T' := T2) (F' := (mkF m 10 #[.val (.ref o)] [(.int (0 : Int32))])) (fun _ k => st2 _ k) ?_
    refine own_st (T' := T2) (F' := (mkF m 14 #[.val (.ref o)] [(.int (0 : Int32))])) (fun _ k => XS.goto X2.here hx rfl (pc0 := 10) (pc' := 14) rfl (hb hby d14_10) (by decide) (by decide) k) ?_
    refine own_retN X2 hx hlk (t := .byte) Bd.returns (by simp) (hb hby d14_14) ?_ (by decide) (by decide)
    rw [e2]
    refine ⟨?_, N0, rfl⟩
    rfl
theorem own_pd4 : parseMethodDescriptor "()B" = some ⟨[], some .byte⟩ := by decide +kernel
theorem d13_0 : decode jdk_42_method_54_code 0 = .ok (.aload_n 0, 1) := by decide +kernel
theorem d13_1 : decode jdk_42_method_54_code 1 = .ok (.getfield 9, 3) := by decide +kernel
theorem d13_4 : decode jdk_42_method_54_code 4 = .ok (.arraylength, 1) := by decide +kernel
theorem d13_5 : decode jdk_42_method_54_code 5 = .ok (.aload_n 0, 1) := by decide +kernel
theorem d13_6 : decode jdk_42_method_54_code 6 = .ok (.invokevirtual 335, 3) := by decide +kernel
theorem d13_9 : decode jdk_42_method_54_code 9 = .ok (.ishr, 1) := by decide +kernel
theorem d13_10 : decode jdk_42_method_54_code 10 = .ok (.ireturn, 1) := by decide +kernel
theorem own_pn13 : plainName "java/lang/String" = true := by first | (simp [plainName, overriddenIn]; done) | decide +kernel
theorem own_ef13 (m : MethodId) (o : Addr) : entryFrame m #[(.ref o)] 1 = (mkF m 0 #[.val (.ref o)] []) := by first | (simp [entryFrame, mkF, argsToLocals, Value.category]; done) | rfl
def Q13 (Z : State) (o : Addr) (cs : Int32) (sb : Addr) (kb : ClassId) (n : Int32) (vs : List Value) (h0 : Heap) (n0 : Nat) (v : Option Value) (h : Heap) (L : List Loc) : Prop := v = some (.int n) ∧ Fr n0 L ∧ h = h0
set_option maxRecDepth 65536 in
set_option maxHeartbeats 40000000 in
theorem rm13 (l : Launch) (Z : State) (a0 : Array Value) (hw : ∀ d ∈ tables_1, d.before a0 Z = true) (ws : List Jvm.Cond) (o : Addr) (cs : Int32) (sb : Addr) (kb : ClassId) (n : Int32) (vs : List Value) (h0 : Heap) (n0 : Nat) (Z0 : n0 ≤ h0.size) (S_cs : Sta Z h0 "java/lang/String" "COMPACT_STRINGS" "Z" (.int cs)) (hcs : ¬ (cs = 0)) (hFc : Fld Z h0 o "java/lang/String" "coder" "B" (.int (0 : Int32))) (hFv : Fld Z h0 o "java/lang/String" "value" "[B" (.ref sb)) (hEo : Exa Z h0 o "java/lang/String") (V_b : Arv Z h0 sb kb .byte n vs (.int (0 : Int32))) :
    MetFree l (⟨"java/lang/String", "length", "()I"⟩ : MethodName) (head1 (Jvm.Cond.code (⟨"java/lang/String", "length", "()I"⟩ : MethodName) jdk_42_method_54_code 1 (some .int) :: ws) ({ frames := 1, cells := 0, slots := 0, locals := 13 } : Room)) (fun a U => a = #[(.ref o)] ∧ Z.Warmed39 U.vm ∧ U.heap = h0) (fun _ _ _ _ _ => True) (fun _ U oc U' => ∃ v L, oc = .returned v ∧ Q13 Z o cs sb kb n vs h0 n0 v U'.heap L ∧ FrameEnd U oc U' L ({ frames := 1, cells := 0, slots := 0, locals := 13 } : Room).cells ({ frames := 1, cells := 0, slots := 0, locals := 13 } : Room).slots) := by
  refine MetFree.of_bodySF (plainFor_of_name own_pn13) hisR ?_
  intro p e s m args below meth c s₁ Bd hml0 hP hK
  obtain ⟨rfl, hZ, hh⟩ := hP
  have hx := Bd.exec
  have hby := Bd.bytes
  have hlk : meth.locks = false := BodyLoose.notSynchronized Bd
  have hml : c.maxLocals = 1 := hml0
  have hown : s.vm.findClass "java/lang/String" = some m.cls := findClass_of_methodNamed Bd.named
  have hnm := (name_of_methodNamed Bd.named Bd.method).1
  have X0 : Stand p l e ({ frames := 1, cells := 0, slots := 0, locals := 13 } : Room) s m #[(.ref o)] below meth c s₁ [] 0 0 := Stand.of_body Bd
  have e0 : s₁.heap = h0 := by rw [← hh, Bd.state]; rfl
  have N0 := Fr.nil n0
  refine own_enter (own_ef13 m o) ?_
  show own_Go p e below (own_E s (Q13 Z o cs sb kb n vs h0 n0) ({ frames := 1, cells := 0, slots := 0, locals := 13 } : Room).cells ({ frames := 1, cells := 0, slots := 0, locals := 13 } : Room).slots) s₁ (mkF m 0 #[.val (.ref o)] [])
  refine own_st (T' := s₁) (F' := (mkF m 1 #[.val (.ref o)] [(.ref o)])) (fun _ k => XS.aloadN X0.here hx rfl (hb hby d13_0) rfl rfl k) ?_
  obtain ⟨T1, X1, e1, st1⟩ := getF X0 hx hZ hown (host := "") (Or.inl (hw _ (List.mem_of_getElem? (i := 40) rfl))) Via.refl e0 hFv (g := (mkF m 1 #[.val (.ref o)] [(.ref o)])) rfl rfl (hb hby d13_1)
  refine own_st (T' := T1) (F' := (mkF m 4 #[.val (.ref o)] [(.ref sb)])) (fun _ k => st1 _ k) ?_
  obtain ⟨cl2, Ar2, Aq2, As2, Am2, Ah2, Au2⟩ := id V_b
  refine own_st (T' := T1) (F' := (mkF m 5 #[.val (.ref o)] [(.int n)])) (fun _ k => X1.arraylength hx (cell := cl2) (by rw [e1]; exact Ar2.1) (State.isArrayOf_alike hZ.alike Ar2.2.1) (g := (mkF m 4 #[.val (.ref o)] [(.ref sb)])) rfl (rest := []) rfl (hb hby d13_4) _ (by rw [len_of As2 Am2]; exact k)) ?_
  refine own_st (T' := T1) (F' := (mkF m 6 #[.val (.ref o)] [(.ref o), (.int n)])) (fun _ k => XS.aloadN X1.here hx rfl (hb hby d13_5) rfl rfl k) ?_
  obtain ⟨cq3, kq3, q3a, q3b, q3c⟩ := isOf hZ e1 hEo
  obtain ⟨_, _, ⟨T3, L3, k3, n3⟩, -, X3, ⟨Lc3, hQ3, l3, y3, z3⟩, st3⟩ := X1.virtualBack hx (y := (⟨"java/lang/String", "coder", "()B"⟩ : MethodName)) (z := (⟨"java/lang/String", "coder", "()B"⟩ : MethodName)) hown (mvT hZ (hw _ (List.mem_of_getElem? (i := 116) rfl))) (mvT hZ (hw _ (List.mem_of_getElem? (i := 117) rfl))) (notFace_of_selects (args := #[]) (mvT hZ (hw _ (List.mem_of_getElem? (i := 119) rfl)))) (mvT hZ (hw _ (List.mem_of_getElem? (i := 119) rfl))) (mvT hZ (hw _ (List.mem_of_getElem? (i := 118) rfl))) (by decide) (backOf (W := 1) (rm14 l Z a0 hw [] o cs h0 n0 Z0 S_cs hcs hFc) hZ (hw _ (List.mem_of_getElem? (i := 120) rfl)) (hw _ (List.mem_of_getElem? (i := 14) rfl)) (by decide) (by decide)) q3a q3c (g := (mkF m 6 #[.val (.ref o)] [(.ref o), (.int n)])) rfl (by rw [hml]; rfl) (Steps.refl _) (argsL := []) (rest := [(.int n)]) (lenOf own_pd4 rfl) rfl (by show 2 * 0 + _ ≤ _; exact Nat.le_of_eq rfl) (hb hby d13_6) (fun _ _ => ⟨rfl, e1, (by decide : 0 + 0 ≤ _), (by decide : 0 + 0 ≤ _)⟩)
  dsimp only [Pt.U, Pt.locs, Pt.cells, Pt.slots] at X3 l3 y3 z3 st3 hQ3
  subst l3 y3 z3
  obtain ⟨rfl, Nq3, eq3⟩ := hQ3
  have N3 := Fr.app N0 Nq3
  refine own_tr (T' := T3) (F' := (mkF m 9 #[.val (.ref o)] [(.int (0 : Int32)), (.int n)])) st3 ?_
  refine own_st (T' := T3) (F' := (mkF m 10 #[.val (.ref o)] [(.int (n >>> ((0 : Int32) &&& 31)))])) (fun _ k => XS.ishr X3.here hx rfl (hb hby d13_9) rfl k) ?_
  refine own_retI X3 hx hlk Bd.returns (hb hby d13_10) ?_ (by decide) (by decide)
  rw [eq3]
  refine ⟨?_, N3, rfl⟩
  rw [own_shr0]
theorem own_pd5 : parseMethodDescriptor "()I" = some ⟨[], some .int⟩ := by decide +kernel
theorem own_pd6 : parseMethodDescriptor "(I)C" = some ⟨[.int], some .char⟩ := by decide +kernel
theorem d12_0 : decode prog_37_method_9_code 0 = .ok (.aload_n 0, 1) := by decide +kernel
theorem d12_1 : decode prog_37_method_9_code 1 = .ok (.invokeinterface 79 1, 5) := by decide +kernel
theorem d12_6 : decode prog_37_method_9_code 6 = .ok (.aload_n 1, 1) := by decide +kernel
theorem d12_7 : decode prog_37_method_9_code 7 = .ok (.invokevirtual 85, 3) := by decide +kernel
theorem d12_10 : decode prog_37_method_9_code 10 = .ok (.if_icmp .eq 5, 3) := by decide +kernel
theorem d12_13 : decode prog_37_method_9_code 13 = .ok (.iconst 0, 1) := by decide +kernel
theorem d12_14 : decode prog_37_method_9_code 14 = .ok (.ireturn, 1) := by decide +kernel
theorem d12_15 : decode prog_37_method_9_code 15 = .ok (.iconst 0, 1) := by decide +kernel
theorem d12_16 : decode prog_37_method_9_code 16 = .ok (.istore_n 2, 1) := by decide +kernel
theorem d12_17 : decode prog_37_method_9_code 17 = .ok (.iload_n 2, 1) := by decide +kernel
theorem d12_18 : decode prog_37_method_9_code 18 = .ok (.aload_n 0, 1) := by decide +kernel
theorem d12_19 : decode prog_37_method_9_code 19 = .ok (.invokeinterface 79 1, 5) := by decide +kernel
theorem d12_24 : decode prog_37_method_9_code 24 = .ok (.if_icmp .ge 55, 3) := by decide +kernel
theorem d12_27 : decode prog_37_method_9_code 27 = .ok (.aload_n 0, 1) := by decide +kernel
theorem d12_28 : decode prog_37_method_9_code 28 = .ok (.iload_n 2, 1) := by decide +kernel
theorem d12_29 : decode prog_37_method_9_code 29 = .ok (.invokeinterface 88 2, 5) := by decide +kernel
theorem d12_34 : decode prog_37_method_9_code 34 = .ok (.istore_n 3, 1) := by decide +kernel
theorem d12_35 : decode prog_37_method_9_code 35 = .ok (.iload_n 3, 1) := by decide +kernel
theorem d12_36 : decode prog_37_method_9_code 36 = .ok (.bipush 97, 2) := by decide +kernel
theorem d12_38 : decode prog_37_method_9_code 38 = .ok (.if_icmp .lt 20, 3) := by decide +kernel
theorem d12_41 : decode prog_37_method_9_code 41 = .ok (.iload_n 3, 1) := by decide +kernel
theorem d12_42 : decode prog_37_method_9_code 42 = .ok (.bipush 122, 2) := by decide +kernel
theorem d12_44 : decode prog_37_method_9_code 44 = .ok (.if_icmp .gt 14, 3) := by decide +kernel
theorem d12_47 : decode prog_37_method_9_code 47 = .ok (.iload_n 3, 1) := by decide +kernel
theorem d12_48 : decode prog_37_method_9_code 48 = .ok (.bipush 97, 2) := by decide +kernel
theorem d12_50 : decode prog_37_method_9_code 50 = .ok (.isub, 1) := by decide +kernel
theorem d12_51 : decode prog_37_method_9_code 51 = .ok (.bipush 65, 2) := by decide +kernel
theorem d12_53 : decode prog_37_method_9_code 53 = .ok (.iadd, 1) := by decide +kernel
theorem d12_54 : decode prog_37_method_9_code 54 = .ok (.i2c, 1) := by decide +kernel
theorem d12_55 : decode prog_37_method_9_code 55 = .ok (.goto 4, 3) := by decide +kernel
theorem d12_58 : decode prog_37_method_9_code 58 = .ok (.iload_n 3, 1) := by decide +kernel
theorem d12_59 : decode prog_37_method_9_code 59 = .ok (.istore 4, 2) := by decide +kernel
theorem d12_61 : decode prog_37_method_9_code 61 = .ok (.iload 4, 2) := by decide +kernel
theorem d12_63 : decode prog_37_method_9_code 63 = .ok (.aload_n 1, 1) := by decide +kernel
theorem d12_64 : decode prog_37_method_9_code 64 = .ok (.iload_n 2, 1) := by decide +kernel
theorem d12_65 : decode prog_37_method_9_code 65 = .ok (.invokevirtual 92, 3) := by decide +kernel
theorem d12_68 : decode prog_37_method_9_code 68 = .ok (.if_icmp .eq 5, 3) := by decide +kernel
theorem d12_71 : decode prog_37_method_9_code 71 = .ok (.iconst 0, 1) := by decide +kernel
theorem d12_72 : decode prog_37_method_9_code 72 = .ok (.ireturn, 1) := by decide +kernel
theorem d12_73 : decode prog_37_method_9_code 73 = .ok (.iinc 2 1, 3) := by decide +kernel
theorem d12_76 : decode prog_37_method_9_code 76 = .ok (.goto (-59), 3) := by decide +kernel
theorem d12_79 : decode prog_37_method_9_code 79 = .ok (.iconst 1, 1) := by decide +kernel
theorem d12_80 : decode prog_37_method_9_code 80 = .ok (.ireturn, 1) := by decide +kernel
theorem own_pn12 : plainName "com/example/fieldloom/fieldloom/Kind" = true := by first | (simp [plainName, overriddenIn]; done) | decide +kernel
theorem own_ef12 (m : MethodId) (x0 : Addr) (x1 : Addr) : entryFrame m #[(.ref x0), (.ref x1)] 5 = (mkF m 0 #[.val (.ref x0), .val (.ref x1), .unset, .unset, .unset] []) := by first | (simp [entryFrame, mkF, argsToLocals, Value.category]; done) | rfl
def Q12 (Z : State) (x0 : Addr) (x1 : Addr) (cs : Int32) (fv : Value) (vb1 : Addr) (vk1 : ClassId) (vn1 : Int32) (vg1 : List Int32) (vb2 : Addr) (vk2 : ClassId) (vn2 : Int32) (vg2 : List Int32) (h0 : Heap) (n0 : Nat) (v : Option Value) (h : Heap) (L : List Loc) : Prop := (∃ z : Int32, v = some (.int z) ∧ ((z = 0 ∨ z = 1) ∧ (¬ vn1 = vn2 → z = 0) ∧ (vn1 = vn2 → (∀ i : Int32, ¬ i < 0 → i < vn1 → own_up (own_ch (vg1.getD (i).toNatClampNeg 0)) = own_ch (vg2.getD (i).toNatClampNeg 0)) → z = 1))) ∧ Fr n0 L ∧ h = h0
set_option maxRecDepth 65536 in
set_option maxHeartbeats 40000000 in
theorem rm12 (l : Launch) (Z : State) (a0 : Array Value) (hw : ∀ d ∈ tables_1, d.before a0 Z = true) (ws : List Jvm.Cond) (x0 : Addr) (x1 : Addr) (cs : Int32) (fv : Value) (vb1 : Addr) (vk1 : ClassId) (vn1 : Int32) (vg1 : List Int32) (vb2 : Addr) (vk2 : ClassId) (vn2 : Int32) (vg2 : List Int32) (h0 : Heap) (n0 : Nat) (Z0 : n0 ≤ h0.size) (S_cs : Sta Z h0 "java/lang/String" "COMPACT_STRINGS" "Z" (.int cs)) (hcs : ¬ (cs = 0)) (S_f : Sta Z h0 "jdk/internal/util/Preconditions" "SIOOBE_FORMATTER" "Ljava/util/function/BiFunction;" fv) (hfv : fv.isRef = true) (hE1 : Exa Z h0 x0 "java/lang/String") (hFc1 : Fld Z h0 x0 "java/lang/String" "coder" "B" (.int (0 : Int32))) (hFv1 : Fld Z h0 x0 "java/lang/String" "value" "[B" (.ref vb1)) (hV1 : Arv Z h0 vb1 vk1 .byte vn1 (vg1.map Value.int) (.int (0 : Int32))) (hE2 : Exa Z h0 x1 "java/lang/String") (hFc2 : Fld Z h0 x1 "java/lang/String" "coder" "B" (.int (0 : Int32))) (hFv2 : Fld Z h0 x1 "java/lang/String" "value" "[B" (.ref vb2)) (hV2 : Arv Z h0 vb2 vk2 .byte vn2 (vg2.map Value.int) (.int (0 : Int32))) :
    MetFree l (⟨"com/example/fieldloom/fieldloom/Kind", "equalsIgnoringAsciiCase", "(Ljava/lang/CharSequence;Ljava/lang/String;)Z"⟩ : MethodName) (head1 (Jvm.Cond.code (⟨"com/example/fieldloom/fieldloom/Kind", "equalsIgnoringAsciiCase", "(Ljava/lang/CharSequence;Ljava/lang/String;)Z"⟩ : MethodName) prog_37_method_9_code 5 (some .boolean) :: ws) ({ frames := 4, cells := 0, slots := 0, locals := 54 } : Room)) (fun a U => a = #[(.ref x0), (.ref x1)] ∧ Z.Warmed39 U.vm ∧ U.heap = h0) (fun _ _ _ _ _ => True) (fun _ U oc U' => ∃ v L, oc = .returned v ∧ Q12 Z x0 x1 cs fv vb1 vk1 vn1 vg1 vb2 vk2 vn2 vg2 h0 n0 v U'.heap L ∧ FrameEnd U oc U' L ({ frames := 4, cells := 0, slots := 0, locals := 54 } : Room).cells ({ frames := 4, cells := 0, slots := 0, locals := 54 } : Room).slots) := by
  refine MetFree.of_bodySF (plainFor_of_name own_pn12) hisR ?_
  intro p e s m args below meth c s₁ Bd hml0 hP hK
  obtain ⟨rfl, hZ, hh⟩ := hP
  have hx := Bd.exec
  have hby := Bd.bytes
  have hlk : meth.locks = false := BodyLoose.notSynchronized Bd
  have hml : c.maxLocals = 5 := hml0
  have hown : s.vm.findClass "com/example/fieldloom/fieldloom/Kind" = some m.cls := findClass_of_methodNamed Bd.named
  have hnm := (name_of_methodNamed Bd.named Bd.method).1
  have X0 : Stand p l e ({ frames := 4, cells := 0, slots := 0, locals := 54 } : Room) s m #[(.ref x0), (.ref x1)] below meth c s₁ [] 0 0 := Stand.of_body Bd
  have e0 : s₁.heap = h0 := by rw [← hh, Bd.state]; rfl
  have N0 := Fr.nil n0
  refine own_enter (own_ef12 m x0 x1) ?_
  show own_Go p e below (own_E s (Q12 Z x0 x1 cs fv vb1 vk1 vn1 vg1 vb2 vk2 vn2 vg2 h0 n0) ({ frames := 4, cells := 0, slots := 0, locals := 54 } : Room).cells ({ frames := 4, cells := 0, slots := 0, locals := 54 } : Room).slots) s₁ (mkF m 0 #[.val (.ref x0), .val (.ref x1), .unset, .unset, .unset] [])
  refine own_st (T' := s₁) (F' := (mkF m 1 #[.val (.ref x0), .val (.ref x1), .unset, .unset, .unset] [(.ref x0)])) (fun _ k => XS.aloadN X0.here hx rfl (hb hby d12_0) rfl rfl k) ?_
  obtain ⟨cq1, kq1, q1a, q1b, q1c⟩ := isOf hZ e0 hE1
  obtain ⟨_, _, ⟨T1, L1, k1, n1⟩, -, X1, ⟨Lc1, hQ1, l1, y1, z1⟩, st1⟩ := X0.interfaceBack hx (xi := (⟨"java/lang/CharSequence", "length", "()I"⟩ : MethodName)) (y := (⟨"java/lang/String", "length", "()I"⟩ : MethodName)) hown (mvT hZ (hw _ (List.mem_of_getElem? (i := 107) rfl))) (mvT hZ (hw _ (List.mem_of_getElem? (i := 108) rfl))) (mvT hZ (hw _ (List.mem_of_getElem? (i := 109) rfl))) (mvT hZ (hw _ (List.mem_of_getElem? (i := 110) rfl))) (mvT hZ (hw _ (List.mem_of_getElem? (i := 111) rfl))) (mvT hZ (hw _ (List.mem_of_getElem? (i := 112) rfl))) (mvT hZ (hw _ (List.mem_of_getElem? (i := 113) rfl))) (mvT hZ (hw _ (List.mem_of_getElem? (i := 114) rfl))) (by decide) (backOf (W := 0) (rm13 l Z a0 hw [] x0 cs vb1 vk1 vn1 (vg1.map Value.int) h0 n0 Z0 S_cs hcs hFc1 hFv1 hE1 hV1) hZ (hw _ (List.mem_of_getElem? (i := 115) rfl)) (hw _ (List.mem_of_getElem? (i := 14) rfl)) (by decide) (by decide)) q1a q1b q1c (g := (mkF m 1 #[.val (.ref x0), .val (.ref x1), .unset, .unset, .unset] [(.ref x0)])) rfl (by rw [hml]; rfl) (Steps.refl _) (argsL := []) (rest := []) (lenOf own_pd5 rfl) rfl (by show 2 * 0 + _ ≤ _; exact Nat.le_of_eq rfl) (hb hby d12_1) (fun _ _ => ⟨rfl, e0, (by decide : 0 + 0 ≤ _), (by decide : 0 + 0 ≤ _)⟩)
  dsimp only [Pt.U, Pt.locs, Pt.cells, Pt.slots] at X1 l1 y1 z1 st1 hQ1
  subst l1 y1 z1
  obtain ⟨rfl, Nq1, eq1⟩ := hQ1
  have N1 := Fr.app N0 Nq1
  refine own_tr (T' := T1) (F' := (mkF m 6 #[.val (.ref x0), .val (.ref x1), .unset, .unset, .unset] [(.int vn1)])) st1 ?_
  refine own_st (T' := T1) (F' := (mkF m 7 #[.val (.ref x0), .val (.ref x1), .unset, .unset, .unset] [(.ref x1), (.int vn1)])) (fun _ k => XS.aloadN X1.here hx rfl (hb hby d12_6) rfl rfl k) ?_
  obtain ⟨cq2, kq2, q2a, q2b, q2c⟩ := isOf hZ eq1 hE2
  obtain ⟨_, _, ⟨T2, L2, k2, n2⟩, -, X2, ⟨Lc2, hQ2, l2, y2, z2⟩, st2⟩ := X1.virtualBack hx (y := (⟨"java/lang/String", "length", "()I"⟩ : MethodName)) (z := (⟨"java/lang/String", "length", "()I"⟩ : MethodName)) hown (mvT hZ (hw _ (List.mem_of_getElem? (i := 121) rfl))) (mvT hZ (hw _ (List.mem_of_getElem? (i := 122) rfl))) (notFace_of_selects (args := #[]) (mvT hZ (hw _ (List.mem_of_getElem? (i := 123) rfl)))) (mvT hZ (hw _ (List.mem_of_getElem? (i := 123) rfl))) (mvT hZ (hw _ (List.mem_of_getElem? (i := 111) rfl))) (by decide) (backOf (W := 1) (rm13 l Z a0 hw [] x1 cs vb2 vk2 vn2 (vg2.map Value.int) h0 n0 Z0 S_cs hcs hFc2 hFv2 hE2 hV2) hZ (hw _ (List.mem_of_getElem? (i := 115) rfl)) (hw _ (List.mem_of_getElem? (i := 14) rfl)) (by decide) (by decide)) q2a q2c (g := (mkF m 7 #[.val (.ref x0), .val (.ref x1), .unset, .unset, .unset] [(.ref x1), (.int vn1)])) rfl (by rw [hml]; rfl) (Steps.refl _) (argsL := []) (rest := [(.int vn1)]) (lenOf own_pd5 rfl) rfl (by show 2 * 0 + _ ≤ _; exact Nat.le_of_eq rfl) (hb hby d12_7) (fun _ _ => ⟨rfl, eq1, (by decide : 0 + 0 ≤ _), (by decide : 0 + 0 ≤ _)⟩)
  dsimp only [Pt.U, Pt.locs, Pt.cells, Pt.slots] at X2 l2 y2 z2 st2 hQ2
  subst l2 y2 z2
  obtain ⟨rfl, Nq2, eq2⟩ := hQ2
  have N2 := Fr.app N1 Nq2
  refine own_tr (T' := T2) (F' := (mkF m 10 #[.val (.ref x0), .val (.ref x1), .unset, .unset, .unset] [(.int vn2), (.int vn1)])) st2 ?_
  refine own_icmp X2 hx (pc' := 15) (pc2 := 13) (hb hby d12_10) (by decide) (by decide) rfl (fun (hc10 : vn1 = vn2) => ?_) (fun (hc10 : ¬ (vn1 = vn2)) => ?_)
  ·
    refine own_st (T' := T2) (F' := (mkF m 16 #[.val (.ref x0), .val (.ref x1), .unset, .unset, .unset] [(.int (0 : Int32))])) (fun _ k => XS.iconst X2.here hx rfl (hb hby d12_15) k) ?_
    refine own_st (T' := T2) (F' := (mkF m 17 #[.val (.ref x0), .val (.ref x1), .val (.int (0 : Int32)), .unset, .unset] [])) (fun _ k => XS.istoreN X2.here hx rfl (hb hby d12_16) rfl (l' := #[.val (.ref x0), .val (.ref x1), .val (.int (0 : Int32)), .unset, .unset]) rfl k) ?_
    have LP3 : ∀ (fuel : Nat) (ii : Int32) (q3 : Slot) (q4 : Slot) (TL3 : State) (LL3 : List Loc) (XL3 : Stand p l e ({ frames := 4, cells := 0, slots := 0, locals := 54 } : Room) s m #[(.ref x0), (.ref x1)] below meth c TL3 LL3 0 0) (NL3 : Fr n0 LL3) (eL3 : TL3.heap = h0), (vn1.toInt - ii.toInt).toNat = fuel → (¬ ii < 0 ∧ One q3 ∧ One q4) → own_Go p e below (own_E s (Q12 Z x0 x1 cs fv vb1 vk1 vn1 vg1 vb2 vk2 vn2 vg2 h0 n0) ({ frames := 4, cells := 0, slots := 0, locals := 54 } : Room).cells ({ frames := 4, cells := 0, slots := 0, locals := 54 } : Room).slots) TL3 (mkF m 17 #[.val (.ref x0), .val (.ref x1), .val (.int ii), q3, q4] []) := by
      intro fuel
      induction fuel using Nat.strongRecOn with
      | _ fuel ih => ?_
      intro ii q3 q4 TL3 LL3 XL3 NL3 eL3 hfuel3 hinv3
      refine own_st (T' := TL3) (F' := (mkF m 18 #[.val (.ref x0), .val (.ref x1), .val (.int ii), q3, q4] [(.int ii)])) (fun _ k => XS.iloadN XL3.here hx rfl (hb hby d12_17) rfl  k) ?_
      refine own_st (T' := TL3) (F' := (mkF m 19 #[.val (.ref x0), .val (.ref x1), .val (.int ii), q3, q4] [(.ref x0), (.int ii)])) (fun _ k => XS.aloadN XL3.here hx rfl (hb hby d12_18) rfl rfl k) ?_
      obtain ⟨cq4, kq4, q4a, q4b, q4c⟩ := isOf hZ eL3 hE1
      obtain ⟨_, _, ⟨T4, L4, k4, n4⟩, -, X4, ⟨Lc4, hQ4, l4, y4, z4⟩, st4⟩ := XL3.interfaceBack hx (xi := (⟨"java/lang/CharSequence", "length", "()I"⟩ : MethodName)) (y := (⟨"java/lang/String", "length", "()I"⟩ : MethodName)) hown (mvT hZ (hw _ (List.mem_of_getElem? (i := 107) rfl))) (mvT hZ (hw _ (List.mem_of_getElem? (i := 108) rfl))) (mvT hZ (hw _ (List.mem_of_getElem? (i := 109) rfl))) (mvT hZ (hw _ (List.mem_of_getElem? (i := 110) rfl))) (mvT hZ (hw _ (List.mem_of_getElem? (i := 111) rfl))) (mvT hZ (hw _ (List.mem_of_getElem? (i := 112) rfl))) (mvT hZ (hw _ (List.mem_of_getElem? (i := 113) rfl))) (mvT hZ (hw _ (List.mem_of_getElem? (i := 114) rfl))) (by decide) (backOf (W := 1) (rm13 l Z a0 hw [] x0 cs vb1 vk1 vn1 (vg1.map Value.int) h0 n0 Z0 S_cs hcs hFc1 hFv1 hE1 hV1) hZ (hw _ (List.mem_of_getElem? (i := 115) rfl)) (hw _ (List.mem_of_getElem? (i := 14) rfl)) (by decide) (by decide)) q4a q4b q4c (g := (mkF m 19 #[.val (.ref x0), .val (.ref x1), .val (.int ii), q3, q4] [(.ref x0), (.int ii)])) rfl (by rw [hml]; rfl) (Steps.refl _) (argsL := []) (rest := [(.int ii)]) (lenOf own_pd5 rfl) rfl (by show 2 * 0 + _ ≤ _; exact Nat.le_of_eq rfl) (hb hby d12_19) (fun _ _ => ⟨rfl, eL3, (by decide : 0 + 0 ≤ _), (by decide : 0 + 0 ≤ _)⟩)
      dsimp only [Pt.U, Pt.locs, Pt.cells, Pt.slots] at X4 l4 y4 z4 st4 hQ4
      subst l4 y4 z4
      obtain ⟨rfl, Nq4, eq4⟩ := hQ4
      have N4 := Fr.app NL3 Nq4
      refine own_tr (T' := T4) (F' := (mkF m 24 #[.val (.ref x0), .val (.ref x1), .val (.int ii), q3, q4] [(.int vn1), (.int ii)])) st4 ?_
      refine own_icmp X4 hx (pc' := 79) (pc2 := 27) (hb hby d12_24) (by decide) (by decide) rfl (fun (hc24 : ¬ (ii < vn1)) => ?_) (fun (hc24 : ii < vn1) => ?_)
      ·
        refine own_st (T' := T4) (F' := (mkF m 80 #[.val (.ref x0), .val (.ref x1), .val (.int ii), q3, q4] [(.int (1 : Int32))])) (fun _ k => XS.iconst X4.here hx rfl (hb hby d12_79) k) ?_
        refine own_retN X4 hx hlk (t := .boolean) Bd.returns (by simp) (hb hby d12_80) ?_ (by decide) (by decide)
        rw [eq4]
        refine ⟨⟨_, rfl, ?_⟩, N4, rfl⟩
        exact ⟨Or.inr rfl, fun q => absurd hc10 q, fun _ _ => rfl⟩
      ·
        refine own_st (T' := T4) (F' := (mkF m 28 #[.val (.ref x0), .val (.ref x1), .val (.int ii), q3, q4] [(.ref x0)])) (fun _ k => XS.aloadN X4.here hx rfl (hb hby d12_27) rfl rfl k) ?_
        refine own_st (T' := T4) (F' := (mkF m 29 #[.val (.ref x0), .val (.ref x1), .val (.int ii), q3, q4] [(.int ii), (.ref x0)])) (fun _ k => XS.iloadN X4.here hx rfl (hb hby d12_28) rfl  k) ?_
        obtain ⟨cq5, kq5, q5a, q5b, q5c⟩ := isOf hZ eq4 hE1
        obtain ⟨_, _, ⟨T5, L5, k5, n5⟩, -, X5, ⟨Lc5, hQ5, l5, y5, z5⟩, st5⟩ := X4.interfaceBack hx (xi := (⟨"java/lang/CharSequence", "charAt", "(I)C"⟩ : MethodName)) (y := (⟨"java/lang/String", "charAt", "(I)C"⟩ : MethodName)) hown (mvT hZ (hw _ (List.mem_of_getElem? (i := 124) rfl))) (mvT hZ (hw _ (List.mem_of_getElem? (i := 125) rfl))) (mvT hZ (hw _ (List.mem_of_getElem? (i := 126) rfl))) (mvT hZ (hw _ (List.mem_of_getElem? (i := 127) rfl))) (mvT hZ (hw _ (List.mem_of_getElem? (i := 128) rfl))) (mvT hZ (hw _ (List.mem_of_getElem? (i := 129) rfl))) (mvT hZ (hw _ (List.mem_of_getElem? (i := 130) rfl))) (mvT hZ (hw _ (List.mem_of_getElem? (i := 114) rfl))) (by decide) (backOf (W := 0) (rm15 l Z a0 hw [] x0 ii cs vb1 vk1 vn1 (vg1.map Value.int) (vg1.getD (ii).toNatClampNeg 0) fv h0 n0 Z0 S_cs hcs hFc1 hFv1 hE1 hV1 S_f hfv ⟨hinv3.1, hc24⟩ (own_getm vg1 _)) hZ (hw _ (List.mem_of_getElem? (i := 131) rfl)) (hw _ (List.mem_of_getElem? (i := 14) rfl)) (by decide) (by decide)) q5a q5b q5c (g := (mkF m 29 #[.val (.ref x0), .val (.ref x1), .val (.int ii), q3, q4] [(.int ii), (.ref x0)])) rfl (by rw [hml]; rfl) (Steps.refl _) (argsL := [(.int ii)]) (rest := []) (lenOf own_pd6 rfl) rfl (by show 2 * 0 + _ ≤ _; exact Nat.le_of_eq rfl) (hb hby d12_29) (fun _ _ => ⟨rfl, eq4, (by decide : 0 + 0 ≤ _), (by decide : 0 + 0 ≤ _)⟩)
        dsimp only [Pt.U, Pt.locs, Pt.cells, Pt.slots] at X5 l5 y5 z5 st5 hQ5
        subst l5 y5 z5
        obtain ⟨rfl, Nq5, eq5⟩ := hQ5
        have N5 := Fr.app N4 Nq5
        refine own_tr (T' := T5) (F' := (mkF m 34 #[.val (.ref x0), .val (.ref x1), .val (.int ii), q3, q4] [(.int (own_ch (vg1.getD (ii).toNatClampNeg 0)))])) st5 ?_
        refine own_st (T' := T5) (F' := (mkF m 35 #[.val (.ref x0), .val (.ref x1), .val (.int ii), .val (.int (own_ch (vg1.getD (ii).toNatClampNeg 0))), q4] [])) (fun _ k => XS.istoreNS X5.here hx rfl (hb hby d12_34) rfl rfl hinv3.2.1 k) ?_
        refine own_st (T' := T5) (F' := (mkF m 36 #[.val (.ref x0), .val (.ref x1), .val (.int ii), .val (.int (own_ch (vg1.getD (ii).toNatClampNeg 0))), q4] [(.int (own_ch (vg1.getD (ii).toNatClampNeg 0)))])) (fun _ k => XS.iloadN X5.here hx rfl (hb hby d12_35) rfl  k) ?_
        refine own_st (T' := T5) (F' := (mkF m 38 #[.val (.ref x0), .val (.ref x1), .val (.int ii), .val (.int (own_ch (vg1.getD (ii).toNatClampNeg 0))), q4] [(.int (97 : Int32)), (.int (own_ch (vg1.getD (ii).toNatClampNeg 0)))])) (fun _ k => XS.bipush X5.here hx rfl (hb hby d12_36) k) ?_
        have J59_6 : ∀ (j59_1 : Int32), (j59_1 = own_up (own_ch (vg1.getD (ii).toNatClampNeg 0))) → own_Go p e below (own_E s (Q12 Z x0 x1 cs fv vb1 vk1 vn1 vg1 vb2 vk2 vn2 vg2 h0 n0) ({ frames := 4, cells := 0, slots := 0, locals := 54 } : Room).cells ({ frames := 4, cells := 0, slots := 0, locals := 54 } : Room).slots) T5 (mkF m 59 #[.val (.ref x0), .val (.ref x1), .val (.int ii), .val (.int (own_ch (vg1.getD (ii).toNatClampNeg 0))), q4] [(.int j59_1)]) := by
          intro j59_1 hJ59_6
          refine own_st (T' := T5) (F' := (mkF m 61 #[.val (.ref x0), .val (.ref x1), .val (.int ii), .val (.int (own_ch (vg1.getD (ii).toNatClampNeg 0))), .val (.int j59_1)] [])) (fun _ k => XS.istoreS X5.here hx rfl (hb hby d12_59) rfl rfl hinv3.2.2 k) ?_
          refine own_st (T' := T5) (F' := (mkF m 63 #[.val (.ref x0), .val (.ref x1), .val (.int ii), .val (.int (own_ch (vg1.getD (ii).toNatClampNeg 0))), .val (.int j59_1)] [(.int j59_1)])) (fun _ k => XS.iload X5.here hx rfl (hb hby d12_61) rfl  k) ?_
          refine own_st (T' := T5) (F' := (mkF m 64 #[.val (.ref x0), .val (.ref x1), .val (.int ii), .val (.int (own_ch (vg1.getD (ii).toNatClampNeg 0))), .val (.int j59_1)] [(.ref x1), (.int j59_1)])) (fun _ k => XS.aloadN X5.here hx rfl (hb hby d12_63) rfl rfl k) ?_
          refine own_st (T' := T5) (F' := (mkF m 65 #[.val (.ref x0), .val (.ref x1), .val (.int ii), .val (.int (own_ch (vg1.getD (ii).toNatClampNeg 0))), .val (.int j59_1)] [(.int ii), (.ref x1), (.int j59_1)])) (fun _ k => XS.iloadN X5.here hx rfl (hb hby d12_64) rfl  k) ?_
          obtain ⟨cq7, kq7, q7a, q7b, q7c⟩ := isOf hZ eq5 hE2
          obtain ⟨_, _, ⟨T7, L7, k7, n7⟩, -, X7, ⟨Lc7, hQ7, l7, y7, z7⟩, st7⟩ := X5.virtualBack hx (y := (⟨"java/lang/String", "charAt", "(I)C"⟩ : MethodName)) (z := (⟨"java/lang/String", "charAt", "(I)C"⟩ : MethodName)) hown (mvT hZ (hw _ (List.mem_of_getElem? (i := 149) rfl))) (mvT hZ (hw _ (List.mem_of_getElem? (i := 150) rfl))) (notFace_of_selects (args := #[]) (mvT hZ (hw _ (List.mem_of_getElem? (i := 151) rfl)))) (mvT hZ (hw _ (List.mem_of_getElem? (i := 151) rfl))) (mvT hZ (hw _ (List.mem_of_getElem? (i := 128) rfl))) (by decide) (backOf (W := 1) (rm15 l Z a0 hw [] x1 ii cs vb2 vk2 vn2 (vg2.map Value.int) (vg2.getD (ii).toNatClampNeg 0) fv h0 n0 Z0 S_cs hcs hFc2 hFv2 hE2 hV2 S_f hfv ⟨hinv3.1, hc10 ▸ hc24⟩ (own_getm vg2 _)) hZ (hw _ (List.mem_of_getElem? (i := 131) rfl)) (hw _ (List.mem_of_getElem? (i := 14) rfl)) (by decide) (by decide)) q7a q7c (g := (mkF m 65 #[.val (.ref x0), .val (.ref x1), .val (.int ii), .val (.int (own_ch (vg1.getD (ii).toNatClampNeg 0))), .val (.int j59_1)] [(.int ii), (.ref x1), (.int j59_1)])) rfl (by rw [hml]; rfl) (Steps.refl _) (argsL := [(.int ii)]) (rest := [(.int j59_1)]) (lenOf own_pd6 rfl) rfl (by show 2 * 0 + _ ≤ _; exact Nat.le_of_eq rfl) (hb hby d12_65) (fun _ _ => ⟨rfl, eq5, (by decide : 0 + 0 ≤ _), (by decide : 0 + 0 ≤ _)⟩)
          dsimp only [Pt.U, Pt.locs, Pt.cells, Pt.slots] at X7 l7 y7 z7 st7 hQ7
          subst l7 y7 z7
          obtain ⟨rfl, Nq7, eq7⟩ := hQ7
          have N7 := Fr.app N5 Nq7
          refine own_tr (T' := T7) (F' := (mkF m 68 #[.val (.ref x0), .val (.ref x1), .val (.int ii), .val (.int (own_ch (vg1.getD (ii).toNatClampNeg 0))), .val (.int j59_1)] [(.int (own_ch (vg2.getD (ii).toNatClampNeg 0))), (.int j59_1)])) st7 ?_
          refine own_icmp X7 hx (pc' := 73) (pc2 := 71) (hb hby d12_68) (by decide) (by decide) rfl (fun (hc68 : j59_1 = (own_ch (vg2.getD (ii).toNatClampNeg 0))) => ?_) (fun (hc68 : ¬ (j59_1 = (own_ch (vg2.getD (ii).toNatClampNeg 0)))) => ?_)
          ·
            refine own_st (T' := T7) (F' := (mkF m 76 #[.val (.ref x0), .val (.ref x1), .val (.int (ii + (1 : Int32))), .val (.int (own_ch (vg1.getD (ii).toNatClampNeg 0))), .val (.int j59_1)] [])) (fun _ k => XS.iinc X7.here hx rfl (hb hby d12_73) rfl (l' := #[.val (.ref x0), .val (.ref x1), .val (.int (ii + (1 : Int32))), .val (.int (own_ch (vg1.getD (ii).toNatClampNeg 0))), .val (.int j59_1)]) rfl k) ?_
            refine own_st (T' := T7) (F' := (mkF m 17 #[.val (.ref x0), .val (.ref x1), .val (.int (ii + (1 : Int32))), .val (.int (own_ch (vg1.getD (ii).toNatClampNeg 0))), .val (.int j59_1)] [])) (fun _ k => XS.goto X7.here hx rfl (pc0 := 76) (pc' := 17) rfl (hb hby d12_76) (by decide) (by decide) k) ?_
            exact ih _ (hfuel3 ▸ (own_inc hinv3.1 hc24).2) (ii + (1 : Int32)) (.val (.int (own_ch (vg1.getD (ii).toNatClampNeg 0)))) (.val (.int j59_1)) T7 _ X7 N7 eq7 rfl (⟨(own_inc hinv3.1 hc24).1, One.val rfl, One.val rfl⟩)
          ·
            refine own_st (T' := T7) (F' := (mkF m 72 #[.val (.ref x0), .val (.ref x1), .val (.int ii), .val (.int (own_ch (vg1.getD (ii).toNatClampNeg 0))), .val (.int j59_1)] [(.int (0 : Int32))])) (fun _ k => XS.iconst X7.here hx rfl (hb hby d12_71) k) ?_
            refine own_retN X7 hx hlk (t := .boolean) Bd.returns (by simp) (hb hby d12_72) ?_ (by decide) (by decide)
            rw [eq7]
            refine ⟨⟨_, rfl, ?_⟩, N7, rfl⟩
            exact ⟨Or.inl rfl, fun _ => rfl, fun _ q => absurd (hJ59_6.trans (q ii hinv3.1 hc24)) hc68⟩
        refine own_icmp X5 hx (pc' := 58) (pc2 := 41) (hb hby d12_38) (by decide) (by decide) rfl (fun (hc38 : (own_ch (vg1.getD (ii).toNatClampNeg 0)) < (97 : Int32)) => ?_) (fun (hc38 : ¬ ((own_ch (vg1.getD (ii).toNatClampNeg 0)) < (97 : Int32))) => ?_)
        ·
          refine own_st (T' := T5) (F' := (mkF m 59 #[.val (.ref x0), .val (.ref x1), .val (.int ii), .val (.int (own_ch (vg1.getD (ii).toNatClampNeg 0))), q4] [(.int (own_ch (vg1.getD (ii).toNatClampNeg 0)))])) (fun _ k => XS.iloadN X5.here hx rfl (hb hby d12_58) rfl  k) ?_
          exact J59_6 (own_ch (vg1.getD (ii).toNatClampNeg 0)) ((by unfold own_up; rw [if_pos hc38]))
        ·
          refine own_st (T' := T5) (F' := (mkF m 42 #[.val (.ref x0), .val (.ref x1), .val (.int ii), .val (.int (own_ch (vg1.getD (ii).toNatClampNeg 0))), q4] [(.int (own_ch (vg1.getD (ii).toNatClampNeg 0)))])) (fun _ k => XS.iloadN X5.here hx rfl (hb hby d12_41) rfl  k) ?_
          refine own_st (T' := T5) (F' := (mkF m 44 #[.val (.ref x0), .val (.ref x1), .val (.int ii), .val (.int (own_ch (vg1.getD (ii).toNatClampNeg 0))), q4] [(.int (122 : Int32)), (.int (own_ch (vg1.getD (ii).toNatClampNeg 0)))])) (fun _ k => XS.bipush X5.here hx rfl (hb hby d12_42) k) ?_
          refine own_icmp X5 hx (pc' := 58) (pc2 := 47) (hb hby d12_44) (by decide) (by decide) rfl (fun (hc44 : (122 : Int32) < (own_ch (vg1.getD (ii).toNatClampNeg 0))) => ?_) (fun (hc44 : ¬ ((122 : Int32) < (own_ch (vg1.getD (ii).toNatClampNeg 0)))) => ?_)
          ·
            refine own_st (T' := T5) (F' := (mkF m 59 #[.val (.ref x0), .val (.ref x1), .val (.int ii), .val (.int (own_ch (vg1.getD (ii).toNatClampNeg 0))), q4] [(.int (own_ch (vg1.getD (ii).toNatClampNeg 0)))])) (fun _ k => XS.iloadN X5.here hx rfl (hb hby d12_58) rfl  k) ?_
            exact J59_6 (own_ch (vg1.getD (ii).toNatClampNeg 0)) ((by unfold own_up; rw [if_neg hc38, if_pos hc44]))
          ·
            refine own_st (T' := T5) (F' := (mkF m 48 #[.val (.ref x0), .val (.ref x1), .val (.int ii), .val (.int (own_ch (vg1.getD (ii).toNatClampNeg 0))), q4] [(.int (own_ch (vg1.getD (ii).toNatClampNeg 0)))])) (fun _ k => XS.iloadN X5.here hx rfl (hb hby d12_47) rfl  k) ?_
            refine own_st (T' := T5) (F' := (mkF m 50 #[.val (.ref x0), .val (.ref x1), .val (.int ii), .val (.int (own_ch (vg1.getD (ii).toNatClampNeg 0))), q4] [(.int (97 : Int32)), (.int (own_ch (vg1.getD (ii).toNatClampNeg 0)))])) (fun _ k => XS.bipush X5.here hx rfl (hb hby d12_48) k) ?_
            refine own_st (T' := T5) (F' := (mkF m 51 #[.val (.ref x0), .val (.ref x1), .val (.int ii), .val (.int (own_ch (vg1.getD (ii).toNatClampNeg 0))), q4] [(.int ((own_ch (vg1.getD (ii).toNatClampNeg 0)) - (97 : Int32)))])) (fun _ k => XS.isub X5.here hx rfl (hb hby d12_50) rfl k) ?_
            refine own_st (T' := T5) (F' := (mkF m 53 #[.val (.ref x0), .val (.ref x1), .val (.int ii), .val (.int (own_ch (vg1.getD (ii).toNatClampNeg 0))), q4] [(.int (65 : Int32)), (.int ((own_ch (vg1.getD (ii).toNatClampNeg 0)) - (97 : Int32)))])) (fun _ k => XS.bipush X5.here hx rfl (hb hby d12_51) k) ?_
            refine own_st (T' := T5) (F' := (mkF m 54 #[.val (.ref x0), .val (.ref x1), .val (.int ii), .val (.int (own_ch (vg1.getD (ii).toNatClampNeg 0))), q4] [(.int (((own_ch (vg1.getD (ii).toNatClampNeg 0)) - (97 : Int32)) + (65 : Int32)))])) (fun _ k => XS.iadd X5.here hx rfl (hb hby d12_53) rfl k) ?_
            refine own_st (T' := T5) (F' := (mkF m 55 #[.val (.ref x0), .val (.ref x1), .val (.int ii), .val (.int (own_ch (vg1.getD (ii).toNatClampNeg 0))), q4] [(.int ((((own_ch (vg1.getD (ii).toNatClampNeg 0)) - (97 : Int32)) + (65 : Int32)).toUInt32.toUInt16.toUInt32.toInt32))])) (fun _ k => XS.i2c X5.here hx rfl (hb hby d12_54) rfl k) ?_
            refine own_st (T' := T5) (F' := (mkF m 59 #[.val (.ref x0), .val (.ref x1), .val (.int ii), .val (.int (own_ch (vg1.getD (ii).toNatClampNeg 0))), q4] [(.int ((((own_ch (vg1.getD (ii).toNatClampNeg 0)) - (97 : Int32)) + (65 : Int32)).toUInt32.toUInt16.toUInt32.toInt32))])) (fun _ k => XS.goto X5.here hx rfl (pc0 := 55) (pc' := 59) rfl (hb hby d12_55) (by decide) (by decide) k) ?_
            exact J59_6 ((((own_ch (vg1.getD (ii).toNatClampNeg 0)) - (97 : Int32)) + (65 : Int32)).toUInt32.toUInt16.toUInt32.toInt32) ((by unfold own_up; rw [if_neg hc38, if_neg hc44]))
    exact LP3 _ (0 : Int32) (.unset) (.unset) T2 _ X2 N2 eq2 rfl (⟨by decide, One.u, One.u⟩)
  ·
    refine own_st (T' := T2) (F' := (mkF m 14 #[.val (.ref x0), .val (.ref x1), .unset, .unset, .unset] [(.int (0 : Int32))])) (fun _ k => XS.iconst X2.here hx rfl (hb hby d12_13) k) ?_
    refine own_retN X2 hx hlk (t := .boolean) Bd.returns (by simp) (hb hby d12_14) ?_ (by decide) (by decide)
    rw [eq2]
    refine ⟨⟨_, rfl, ?_⟩, N2, rfl⟩
    exact ⟨Or.inl rfl, fun _ => rfl, fun q => absurd q hc10⟩
theorem d10_0 : decode prog_37_method_8_code 0 = .ok (.getstatic 73, 3) := by decide +kernel
theorem d10_3 : decode prog_37_method_8_code 3 = .ok (.areturn, 1) := by decide +kernel
theorem own_pn10 : plainName "com/example/fieldloom/fieldloom/Kind" = true := by first | (simp [plainName, overriddenIn]; done) | decide +kernel
theorem own_ef10 (m : MethodId) (o : Addr) (x0 : Addr) : entryFrame m #[(.ref o), (.ref x0)] 2 = (mkF m 0 #[.val (.ref o), .val (.ref x0)] []) := by first | (simp [entryFrame, mkF, argsToLocals, Value.category]; done) | rfl
def Q10 (Z : State) (o : Addr) (x0 : Addr) (fU : Addr) (h0 : Heap) (n0 : Nat) (v : Option Value) (h : Heap) (L : List Loc) : Prop := v = some (.ref fU) ∧ Fr n0 L ∧ h = h0
set_option maxRecDepth 65536 in
set_option maxHeartbeats 40000000 in
theorem rm10 (l : Launch) (Z : State) (a0 : Array Value) (hw : ∀ d ∈ tables_1, d.before a0 Z = true) (ws : List Jvm.Cond) (o : Addr) (x0 : Addr) (fU : Addr) (h0 : Heap) (n0 : Nat) (Z0 : n0 ≤ h0.size) (S_fU : Sta Z h0 "com/example/fieldloom/fieldloom/Flag" "UNKNOWN" "Lcom/example/fieldloom/fieldloom/Flag;" (.ref fU)) :
    MetFree l (⟨"com/example/fieldloom/fieldloom/Kind", "flag", "(Ljava/lang/CharSequence;)Lcom/example/fieldloom/fieldloom/Flag;"⟩ : MethodName) (head1 (Jvm.Cond.code (⟨"com/example/fieldloom/fieldloom/Kind", "flag", "(Ljava/lang/CharSequence;)Lcom/example/fieldloom/fieldloom/Flag;"⟩ : MethodName) prog_37_method_8_code 2 (some (.object "com/example/fieldloom/fieldloom/Flag")) :: ws) ({ frames := 0, cells := 0, slots := 0, locals := 0 } : Room)) (fun a U => a = #[(.ref o), (.ref x0)] ∧ Z.Warmed39 U.vm ∧ U.heap = h0) (fun _ _ _ _ _ => True) (fun _ U oc U' => ∃ v L, oc = .returned v ∧ Q10 Z o x0 fU h0 n0 v U'.heap L ∧ FrameEnd U oc U' L ({ frames := 0, cells := 0, slots := 0, locals := 0 } : Room).cells ({ frames := 0, cells := 0, slots := 0, locals := 0 } : Room).slots) := by
  refine MetFree.of_bodySF (plainFor_of_name own_pn10) hisR ?_
  intro p e s m args below meth c s₁ Bd hml0 hP hK
  obtain ⟨rfl, hZ, hh⟩ := hP
  have hx := Bd.exec
  have hby := Bd.bytes
  have hlk : meth.locks = false := BodyLoose.notSynchronized Bd
  have hml : c.maxLocals = 2 := hml0
  have hown : s.vm.findClass "com/example/fieldloom/fieldloom/Kind" = some m.cls := findClass_of_methodNamed Bd.named
  have hnm := (name_of_methodNamed Bd.named Bd.method).1
  have X0 : Stand p l e ({ frames := 0, cells := 0, slots := 0, locals := 0 } : Room) s m #[(.ref o), (.ref x0)] below meth c s₁ [] 0 0 := Stand.of_body Bd
  have e0 : s₁.heap = h0 := by rw [← hh, Bd.state]; rfl
  have N0 := Fr.nil n0
  refine own_enter (own_ef10 m o x0) ?_
  show own_Go p e below (own_E s (Q10 Z o x0 fU h0 n0) ({ frames := 0, cells := 0, slots := 0, locals := 0 } : Room).cells ({ frames := 0, cells := 0, slots := 0, locals := 0 } : Room).slots) s₁ (mkF m 0 #[.val (.ref o), .val (.ref x0)] [])
  obtain ⟨T1, X1, e1, st1⟩ := getS2 X0 hx hZ hown (host := "") (Or.inl (hw _ (List.mem_of_getElem? (i := 59) rfl))) Via.refl e0 S_fU (g := (mkF m 0 #[.val (.ref o), .val (.ref x0)] [])) rfl (hb hby d10_0)
  refine own_st (T' := T1) (F' := (mkF m 3 #[.val (.ref o), .val (.ref x0)] [(.ref fU)])) (fun _ k => st1 _ k) ?_
  refine own_retA X1 hx hlk (t := (.object "com/example/fieldloom/fieldloom/Flag")) Bd.returns rfl rfl rfl (hb hby d10_3) ?_ (by decide) (by decide)
  rw [e1]
  refine ⟨?_, N0, rfl⟩
  rfl
theorem own_pd7 : parseMethodDescriptor "(Ljava/lang/CharSequence;Ljava/lang/String;)Z" = some ⟨[(.object "java/lang/CharSequence"), (.object "java/lang/String")], some .boolean⟩ := by decide +kernel
theorem d20tT_0 : decode prog_44_method_3_code 0 = .ok (.aload_n 1, 1) := by decide +kernel
theorem d20tT_1 : decode prog_44_method_3_code 1 = .ok (.ldc 29, 2) := by decide +kernel
theorem d20tT_3 : decode prog_44_method_3_code 3 = .ok (.invokestatic 31, 3) := by decide +kernel
theorem d20tT_6 : decode prog_44_method_3_code 6 = .ok (.ifCond .eq 7, 3) := by decide +kernel
theorem d20tT_9 : decode prog_44_method_3_code 9 = .ok (.getstatic 35, 3) := by decide +kernel
theorem d20tT_12 : decode prog_44_method_3_code 12 = .ok (.areturn, 1) := by decide +kernel
theorem own_pn20tT : plainName "com/example/fieldloom/fieldloom/Kind$3" = true := by first | (simp [plainName, overriddenIn]; done) | decide +kernel
theorem own_ef20tT (m : MethodId) (o : Addr) (x0 : Addr) : entryFrame m #[(.ref o), (.ref x0)] 2 = (mkF m 0 #[.val (.ref o), .val (.ref x0)] []) := by first | (simp [entryFrame, mkF, argsToLocals, Value.category]; done) | rfl
def Q20tT (Z : State) (o : Addr) (x0 : Addr) (cs : Int32) (fv : Value) (fU : Addr) (fS : Addr) (fL : Addr) (vb1 : Addr) (vk1 : ClassId) (h0 : Heap) (n0 : Nat) (v : Option Value) (h : Heap) (L : List Loc) : Prop := (∃ z : Addr, v = some (.ref z) ∧ (z = fS)) ∧ Fr n0 L ∧ Keep h0 h []
set_option maxRecDepth 65536 in
set_option maxHeartbeats 40000000 in
theorem rm20tT (l : Launch) (Z : State) (a0 : Array Value) (hw : ∀ d ∈ tables_1, d.before a0 Z = true) (ws : List Jvm.Cond) (o : Addr) (x0 : Addr) (cs : Int32) (fv : Value) (fU : Addr) (fS : Addr) (fL : Addr) (vb1 : Addr) (vk1 : ClassId) (h0 : Heap) (n0 : Nat) (Z0 : n0 ≤ h0.size) (S_cs : Sta Z h0 "java/lang/String" "COMPACT_STRINGS" "Z" (.int cs)) (hcs : ¬ (cs = 0)) (S_f : Sta Z h0 "jdk/internal/util/Preconditions" "SIOOBE_FORMATTER" "Ljava/util/function/BiFunction;" fv) (hfv : fv.isRef = true) (S_fU : Sta Z h0 "com/example/fieldloom/fieldloom/Flag" "UNKNOWN" "Lcom/example/fieldloom/fieldloom/Flag;" (.ref fU)) (S_fS : Sta Z h0 "com/example/fieldloom/fieldloom/Flag" "SET" "Lcom/example/fieldloom/fieldloom/Flag;" (.ref fS)) (S_fL : Sta Z h0 "com/example/fieldloom/fieldloom/Flag" "CLEAR" "Lcom/example/fieldloom/fieldloom/Flag;" (.ref fL)) (hE1 : Exa Z h0 x0 "java/lang/String") (hFc1 : Fld Z h0 x0 "java/lang/String" "coder" "B" (.int (0 : Int32))) (hFv1 : Fld Z h0 x0 "java/lang/String" "value" "[B" (.ref vb1)) (hV1 : Arv Z h0 vb1 vk1 .byte (4 : Int32) (own_sT.map Value.int) (.int (0 : Int32))) :
    MetFree l (⟨"com/example/fieldloom/fieldloom/Kind$3", "flag", "(Ljava/lang/CharSequence;)Lcom/example/fieldloom/fieldloom/Flag;"⟩ : MethodName) (head1 (Jvm.Cond.code (⟨"com/example/fieldloom/fieldloom/Kind$3", "flag", "(Ljava/lang/CharSequence;)Lcom/example/fieldloom/fieldloom/Flag;"⟩ : MethodName) prog_44_method_3_code 2 (some (.object "com/example/fieldloom/fieldloom/Flag")) :: ws) ({ frames := 5, cells := 2, slots := 20, locals := 70 } : Room)) (fun a U => a = #[(.ref o), (.ref x0)] ∧ Z.Warmed39 U.vm ∧ U.heap = h0 ∧ CHv Z own_EL U.vm h0) (fun _ _ _ _ _ => True) (fun _ U oc U' => ∃ v L, oc = .returned v ∧ Q20tT Z o x0 cs fv fU fS fL vb1 vk1 h0 n0 v U'.heap L ∧ CHr Z own_EL U.vm U.heap U'.vm U'.heap ∧ ReturnedEndW U oc U' L ({ frames := 5, cells := 2, slots := 20, locals := 70 } : Room).cells ({ frames := 5, cells := 2, slots := 20, locals := 70 } : Room).slots) := by
  refine MetFree.of_bodySF (plainFor_of_name own_pn20tT) hisR ?_
  intro p e s m args below meth c s₁ Bd hml0 hP hK
  obtain ⟨rfl, hZ, hh, hCH0⟩ := hP
  have hx := Bd.exec
  have hby := Bd.bytes
  have hlk : meth.locks = false := BodyLoose.notSynchronized Bd
  have hml : c.maxLocals = 2 := hml0
  have hown : s.vm.findClass "com/example/fieldloom/fieldloom/Kind$3" = some m.cls := findClass_of_methodNamed Bd.named
  have hnm := (name_of_methodNamed Bd.named Bd.method).1
  have X0 : Stand p l e ({ frames := 5, cells := 2, slots := 20, locals := 70 } : Room) (s.setVm s.vm) m #[(.ref o), (.ref x0)] below meth c s₁ [] 0 0 := Stand.of_body Bd
  have e0 : s₁.heap = h0 := by rw [← hh, Bd.state]; rfl
  have N0 := Fr.nil n0
  have hS0 : s.Since s.vm 0 := (State.WarmedH.refl s).since 0
  have hk0 : 0 ≤ h0.size := Nat.zero_le _
  have C0 : CHr Z own_EL s.vm s.heap s.vm h0 := by rw [hh]; exact CHr.refl hCH0
  have hEL : EW Z a0 own_EL := own_hEL hw
  have wS := own_wS hw
  refine own_enter (own_ef20tT m o x0) ?_
  show own_Go p e below (own_ES s Z own_EL (Q20tT Z o x0 cs fv fU fS fL vb1 vk1 h0 n0) ({ frames := 5, cells := 2, slots := 20, locals := 70 } : Room).cells ({ frames := 5, cells := 2, slots := 20, locals := 70 } : Room).slots) s₁ (mkF m 0 #[.val (.ref o), .val (.ref x0)] [])
  refine own_st (T' := s₁) (F' := (mkF m 1 #[.val (.ref o), .val (.ref x0)] [(.ref x0)])) (fun _ k => XS.aloadN X0.here hx rfl (hb hby d20tT_0) rfl rfl k) ?_
  obtain ⟨a1, T1, h1, k1, b1, kk1, X1, e1, E1, hS1, hk1, hZ, hown, A1, f1a, f1b, V1, lt1a, lt1b, C1a, Lt1, Sf1, st1⟩ := ldcCH X0 hx hZ hown (hw _ (List.mem_of_getElem? (i := 168) rfl)) wS e0 hS0 hk0 hEL (List.mem_of_getElem? (i := 0) rfl) C0.1 (vs := (own_sT.map Value.int)) (z := (4 : Int32)) (own_lit0) (by decide) (by decide) (g := (mkF m 1 #[.val (.ref o), .val (.ref x0)] [(.ref x0)])) rfl (hb hby d20tT_1) (n := 16) (by decide) (by decide) (by decide) (by decide)
  have f2 : Sta Z h1 "java/lang/String" "COMPACT_STRINGS" "Z" (.int cs) := S_cs.ext E1
  have f3 : Sta Z h1 "jdk/internal/util/Preconditions" "SIOOBE_FORMATTER" "Ljava/util/function/BiFunction;" fv := S_f.ext E1
  have f4 : Sta Z h1 "com/example/fieldloom/fieldloom/Flag" "UNKNOWN" "Lcom/example/fieldloom/fieldloom/Flag;" (.ref fU) := S_fU.ext E1
  have f5 : Sta Z h1 "com/example/fieldloom/fieldloom/Flag" "SET" "Lcom/example/fieldloom/fieldloom/Flag;" (.ref fS) := S_fS.ext E1
  have f6 : Sta Z h1 "com/example/fieldloom/fieldloom/Flag" "CLEAR" "Lcom/example/fieldloom/fieldloom/Flag;" (.ref fL) := S_fL.ext E1
  have f7 : Exa Z h1 x0 "java/lang/String" := hE1.ext E1
  have f8 : Fld Z h1 x0 "java/lang/String" "coder" "B" (.int (0 : Int32)) := hFc1.ext E1
  have f9 : Fld Z h1 x0 "java/lang/String" "value" "[B" (.ref vb1) := hFv1.ext E1
  have f10 : Arv Z h1 vb1 vk1 .byte (4 : Int32) (own_sT.map Value.int) (.int (0 : Int32)) := hV1.ext E1
  have K1 : Keep h0 h1 [] := (Keep.refl h0 []).ext E1
  have Zs1 : n0 ≤ h1.size := Nat.le_trans Z0 K1.1
  have C1 := C0.trans C1a
  refine own_st (T' := T1) (F' := (mkF m 3 #[.val (.ref o), .val (.ref x0)] [(.ref a1), (.ref x0)])) (fun _ k => st1 _ k) ?_
  obtain ⟨_, _, ⟨T11, L11, k11, n11⟩, -, X11, ⟨Lc11, hQ11, l11, y11, z11⟩, st11⟩ := callSN X1 hx (y := (⟨"com/example/fieldloom/fieldloom/Kind", "equalsIgnoringAsciiCase", "(Ljava/lang/CharSequence;Ljava/lang/String;)Z"⟩ : MethodName)) hown (Cond.methodLinkNest_wide hZ (hw _ (List.mem_of_getElem? (i := 169) rfl)) :) (mvT hZ (hw _ (List.mem_of_getElem? (i := 105) rfl))) (mvT hZ (hw _ (List.mem_of_getElem? (i := 6) rfl))) (mvT hZ (hw _ (List.mem_of_getElem? (i := 106) rfl))) (by decide) (backOf (W := 0) (rm12 l Z a0 hw [] x0 a1 cs fv vb1 vk1 (4 : Int32) own_sT b1 kk1 (4 : Int32) own_sT h1 n0 Zs1 f2 hcs f3 hfv f7 f8 f9 f10 A1 f1a f1b V1) hZ (hw _ (List.mem_of_getElem? (i := 106) rfl)) (hw _ (List.mem_of_getElem? (i := 6) rfl)) (by decide) (by decide)) (g := (mkF m 3 #[.val (.ref o), .val (.ref x0)] [(.ref a1), (.ref x0)])) rfl (by rw [hml]; rfl) (argsL := [(.ref x0), (.ref a1)]) (rest := []) (lenOf own_pd7 rfl) rfl (by show 2 * 0 + _ ≤ _; exact Nat.le_of_eq rfl) (hb hby d20tT_3) (fun _ _ => ⟨rfl, e1, (by decide : 2 + 0 ≤ _), (by decide : 20 + 0 ≤ _)⟩)
  dsimp only [Pt.U, Pt.locs, Pt.cells, Pt.slots] at X11 l11 y11 z11 st11 hQ11
  subst l11 y11 z11
  obtain ⟨⟨r11, rfl, hr11⟩, Nq11, eq11⟩ := hQ11
  have N11 := Fr.app N0 Nq11
  refine own_tr (T' := T11) (F' := (mkF m 6 #[.val (.ref o), .val (.ref x0)] [(.int r11)])) st11 ?_
  obtain rfl : r11 = (1 : Int32) := hr11.2.2 rfl (own_all_own_sT)
  refine own_ifc X11 hx (pc' := 13) (pc2 := 9) (hb hby d20tT_6) (by decide) (by decide) rfl (fun (hc6 : (1 : Int32) = (0 : Int32)) => ?_) (fun (hc6 : ¬ ((1 : Int32) = (0 : Int32))) => ?_)
  · exact absurd hc6 (by decide)
  obtain ⟨T12, X12, e12, st12⟩ := getS2 X11 hx hZ hown (host := "") (Or.inl (hw _ (List.mem_of_getElem? (i := 170) rfl))) Via.refl eq11 f5 (g := (mkF m 9 #[.val (.ref o), .val (.ref x0)] [])) rfl (hb hby d20tT_9)
  refine own_st (T' := T12) (F' := (mkF m 12 #[.val (.ref o), .val (.ref x0)] [(.ref fS)])) (fun _ k => st12 _ k) ?_
  refine own_sretA X12 hx hS1 (by rw [e12]; exact hk1) hlk (t := (.object "com/example/fieldloom/fieldloom/Flag")) Bd.returns rfl rfl rfl (hb hby d20tT_12) ?_ (by rw [e12]; exact C1.trans (CHv.at X12 hZ hEL C1.1)) (by decide) (by decide)
  rw [e12]
  refine ⟨⟨_, rfl, ?_⟩, N11, K1⟩
  rfl
theorem d20tF_0 : decode prog_44_method_3_code 0 = .ok (.aload_n 1, 1) := by decide +kernel
theorem d20tF_1 : decode prog_44_method_3_code 1 = .ok (.ldc 29, 2) := by decide +kernel
theorem d20tF_3 : decode prog_44_method_3_code 3 = .ok (.invokestatic 31, 3) := by decide +kernel
theorem d20tF_6 : decode prog_44_method_3_code 6 = .ok (.ifCond .eq 7, 3) := by decide +kernel
theorem d20tF_13 : decode prog_44_method_3_code 13 = .ok (.aload_n 1, 1) := by decide +kernel
theorem d20tF_14 : decode prog_44_method_3_code 14 = .ok (.ldc 38, 2) := by decide +kernel
theorem d20tF_16 : decode prog_44_method_3_code 16 = .ok (.invokestatic 31, 3) := by decide +kernel
theorem d20tF_19 : decode prog_44_method_3_code 19 = .ok (.ifCond .eq 7, 3) := by decide +kernel
theorem d20tF_22 : decode prog_44_method_3_code 22 = .ok (.getstatic 40, 3) := by decide +kernel
theorem d20tF_25 : decode prog_44_method_3_code 25 = .ok (.areturn, 1) := by decide +kernel
theorem own_pn20tF : plainName "com/example/fieldloom/fieldloom/Kind$3" = true := by first | (simp [plainName, overriddenIn]; done) | decide +kernel
theorem own_ef20tF (m : MethodId) (o : Addr) (x0 : Addr) : entryFrame m #[(.ref o), (.ref x0)] 2 = (mkF m 0 #[.val (.ref o), .val (.ref x0)] []) := by first | (simp [entryFrame, mkF, argsToLocals, Value.category]; done) | rfl
def Q20tF (Z : State) (o : Addr) (x0 : Addr) (cs : Int32) (fv : Value) (fU : Addr) (fS : Addr) (fL : Addr) (vb1 : Addr) (vk1 : ClassId) (h0 : Heap) (n0 : Nat) (v : Option Value) (h : Heap) (L : List Loc) : Prop := (∃ z : Addr, v = some (.ref z) ∧ (z = fL)) ∧ Fr n0 L ∧ Keep h0 h []
set_option maxRecDepth 65536 in
set_option maxHeartbeats 40000000 in
theorem rm20tF (l : Launch) (Z : State) (a0 : Array Value) (hw : ∀ d ∈ tables_1, d.before a0 Z = true) (ws : List Jvm.Cond) (o : Addr) (x0 : Addr) (cs : Int32) (fv : Value) (fU : Addr) (fS : Addr) (fL : Addr) (vb1 : Addr) (vk1 : ClassId) (h0 : Heap) (n0 : Nat) (Z0 : n0 ≤ h0.size) (S_cs : Sta Z h0 "java/lang/String" "COMPACT_STRINGS" "Z" (.int cs)) (hcs : ¬ (cs = 0)) (S_f : Sta Z h0 "jdk/internal/util/Preconditions" "SIOOBE_FORMATTER" "Ljava/util/function/BiFunction;" fv) (hfv : fv.isRef = true) (S_fU : Sta Z h0 "com/example/fieldloom/fieldloom/Flag" "UNKNOWN" "Lcom/example/fieldloom/fieldloom/Flag;" (.ref fU)) (S_fS : Sta Z h0 "com/example/fieldloom/fieldloom/Flag" "SET" "Lcom/example/fieldloom/fieldloom/Flag;" (.ref fS)) (S_fL : Sta Z h0 "com/example/fieldloom/fieldloom/Flag" "CLEAR" "Lcom/example/fieldloom/fieldloom/Flag;" (.ref fL)) (hE1 : Exa Z h0 x0 "java/lang/String") (hFc1 : Fld Z h0 x0 "java/lang/String" "coder" "B" (.int (0 : Int32))) (hFv1 : Fld Z h0 x0 "java/lang/String" "value" "[B" (.ref vb1)) (hV1 : Arv Z h0 vb1 vk1 .byte (5 : Int32) (own_sF.map Value.int) (.int (0 : Int32))) :
    MetFree l (⟨"com/example/fieldloom/fieldloom/Kind$3", "flag", "(Ljava/lang/CharSequence;)Lcom/example/fieldloom/fieldloom/Flag;"⟩ : MethodName) (head1 (Jvm.Cond.code (⟨"com/example/fieldloom/fieldloom/Kind$3", "flag", "(Ljava/lang/CharSequence;)Lcom/example/fieldloom/fieldloom/Flag;"⟩ : MethodName) prog_44_method_3_code 2 (some (.object "com/example/fieldloom/fieldloom/Flag")) :: ws) ({ frames := 5, cells := 4, slots := 44, locals := 70 } : Room)) (fun a U => a = #[(.ref o), (.ref x0)] ∧ Z.Warmed39 U.vm ∧ U.heap = h0 ∧ CHv Z own_EL U.vm h0) (fun _ _ _ _ _ => True) (fun _ U oc U' => ∃ v L, oc = .returned v ∧ Q20tF Z o x0 cs fv fU fS fL vb1 vk1 h0 n0 v U'.heap L ∧ CHr Z own_EL U.vm U.heap U'.vm U'.heap ∧ ReturnedEndW U oc U' L ({ frames := 5, cells := 4, slots := 44, locals := 70 } : Room).cells ({ frames := 5, cells := 4, slots := 44, locals := 70 } : Room).slots) := by
  refine MetFree.of_bodySF (plainFor_of_name own_pn20tF) hisR ?_
  intro p e s m args below meth c s₁ Bd hml0 hP hK
  obtain ⟨rfl, hZ, hh, hCH0⟩ := hP
  have hx := Bd.exec
  have hby := Bd.bytes
  have hlk : meth.locks = false := BodyLoose.notSynchronized Bd
  have hml : c.maxLocals = 2 := hml0
  have hown : s.vm.findClass "com/example/fieldloom/fieldloom/Kind$3" = some m.cls := findClass_of_methodNamed Bd.named
  have hnm := (name_of_methodNamed Bd.named Bd.method).1
  have X0 : Stand p l e ({ frames := 5, cells := 4, slots := 44, locals := 70 } : Room) (s.setVm s.vm) m #[(.ref o), (.ref x0)] below meth c s₁ [] 0 0 := Stand.of_body Bd
  have e0 : s₁.heap = h0 := by rw [← hh, Bd.state]; rfl
  have N0 := Fr.nil n0
  have hS0 : s.Since s.vm 0 := (State.WarmedH.refl s).since 0
  have hk0 : 0 ≤ h0.size := Nat.zero_le _
  have C0 : CHr Z own_EL s.vm s.heap s.vm h0 := by rw [hh]; exact CHr.refl hCH0
  have hEL : EW Z a0 own_EL := own_hEL hw
  have wS := own_wS hw
  refine own_enter (own_ef20tF m o x0) ?_
  show own_Go p e below (own_ES s Z own_EL (Q20tF Z o x0 cs fv fU fS fL vb1 vk1 h0 n0) ({ frames := 5, cells := 4, slots := 44, locals := 70 } : Room).cells ({ frames := 5, cells := 4, slots := 44, locals := 70 } : Room).slots) s₁ (mkF m 0 #[.val (.ref o), .val (.ref x0)] [])
  refine own_st (T' := s₁) (F' := (mkF m 1 #[.val (.ref o), .val (.ref x0)] [(.ref x0)])) (fun _ k => XS.aloadN X0.here hx rfl (hb hby d20tF_0) rfl rfl k) ?_
  obtain ⟨a1, T1, h1, k1, b1, kk1, X1, e1, E1, hS1, hk1, hZ, hown, A1, f1a, f1b, V1, lt1a, lt1b, C1a, Lt1, Sf1, st1⟩ := ldcCH X0 hx hZ hown (hw _ (List.mem_of_getElem? (i := 168) rfl)) wS e0 hS0 hk0 hEL (List.mem_of_getElem? (i := 0) rfl) C0.1 (vs := (own_sT.map Value.int)) (z := (4 : Int32)) (own_lit0) (by decide) (by decide) (g := (mkF m 1 #[.val (.ref o), .val (.ref x0)] [(.ref x0)])) rfl (hb hby d20tF_1) (n := 16) (by decide) (by decide) (by decide) (by decide)
  have f2 : Sta Z h1 "java/lang/String" "COMPACT_STRINGS" "Z" (.int cs) := S_cs.ext E1
  have f3 : Sta Z h1 "jdk/internal/util/Preconditions" "SIOOBE_FORMATTER" "Ljava/util/function/BiFunction;" fv := S_f.ext E1
  have f4 : Sta Z h1 "com/example/fieldloom/fieldloom/Flag" "UNKNOWN" "Lcom/example/fieldloom/fieldloom/Flag;" (.ref fU) := S_fU.ext E1
  have f5 : Sta Z h1 "com/example/fieldloom/fieldloom/Flag" "SET" "Lcom/example/fieldloom/fieldloom/Flag;" (.ref fS) := S_fS.ext E1
  have f6 : Sta Z h1 "com/example/fieldloom/fieldloom/Flag" "CLEAR" "Lcom/example/fieldloom/fieldloom/Flag;" (.ref fL) := S_fL.ext E1
  have f7 : Exa Z h1 x0 "java/lang/String" := hE1.ext E1
  have f8 : Fld Z h1 x0 "java/lang/String" "coder" "B" (.int (0 : Int32)) := hFc1.ext E1
  have f9 : Fld Z h1 x0 "java/lang/String" "value" "[B" (.ref vb1) := hFv1.ext E1
  have f10 : Arv Z h1 vb1 vk1 .byte (5 : Int32) (own_sF.map Value.int) (.int (0 : Int32)) := hV1.ext E1
  have K1 : Keep h0 h1 [] := (Keep.refl h0 []).ext E1
  have Zs1 : n0 ≤ h1.size := Nat.le_trans Z0 K1.1
  have C1 := C0.trans C1a
  refine own_st (T' := T1) (F' := (mkF m 3 #[.val (.ref o), .val (.ref x0)] [(.ref a1), (.ref x0)])) (fun _ k => st1 _ k) ?_
  obtain ⟨_, _, ⟨T11, L11, k11, n11⟩, -, X11, ⟨Lc11, hQ11, l11, y11, z11⟩, st11⟩ := callSN X1 hx (y := (⟨"com/example/fieldloom/fieldloom/Kind", "equalsIgnoringAsciiCase", "(Ljava/lang/CharSequence;Ljava/lang/String;)Z"⟩ : MethodName)) hown (Cond.methodLinkNest_wide hZ (hw _ (List.mem_of_getElem? (i := 169) rfl)) :) (mvT hZ (hw _ (List.mem_of_getElem? (i := 105) rfl))) (mvT hZ (hw _ (List.mem_of_getElem? (i := 6) rfl))) (mvT hZ (hw _ (List.mem_of_getElem? (i := 106) rfl))) (by decide) (backOf (W := 0) (rm12 l Z a0 hw [] x0 a1 cs fv vb1 vk1 (5 : Int32) own_sF b1 kk1 (4 : Int32) own_sT h1 n0 Zs1 f2 hcs f3 hfv f7 f8 f9 f10 A1 f1a f1b V1) hZ (hw _ (List.mem_of_getElem? (i := 106) rfl)) (hw _ (List.mem_of_getElem? (i := 6) rfl)) (by decide) (by decide)) (g := (mkF m 3 #[.val (.ref o), .val (.ref x0)] [(.ref a1), (.ref x0)])) rfl (by rw [hml]; rfl) (argsL := [(.ref x0), (.ref a1)]) (rest := []) (lenOf own_pd7 rfl) rfl (by show 2 * 0 + _ ≤ _; exact Nat.le_of_eq rfl) (hb hby d20tF_3) (fun _ _ => ⟨rfl, e1, (by decide : 2 + 0 ≤ _), (by decide : 20 + 0 ≤ _)⟩)
  dsimp only [Pt.U, Pt.locs, Pt.cells, Pt.slots] at X11 l11 y11 z11 st11 hQ11
  subst l11 y11 z11
  obtain ⟨⟨r11, rfl, hr11⟩, Nq11, eq11⟩ := hQ11
  have N11 := Fr.app N0 Nq11
  refine own_tr (T' := T11) (F' := (mkF m 6 #[.val (.ref o), .val (.ref x0)] [(.int r11)])) st11 ?_
  obtain rfl : r11 = (0 : Int32) := hr11.2.1 (by decide)
  refine own_ifc X11 hx (pc' := 13) (pc2 := 9) (hb hby d20tF_6) (by decide) (by decide) rfl (fun (hc6 : (0 : Int32) = (0 : Int32)) => ?_) (fun (hc6 : ¬ ((0 : Int32) = (0 : Int32))) => ?_)
  rotate_left
  · exact absurd hc6 (by decide)
  refine own_st (T' := T11) (F' := (mkF m 14 #[.val (.ref o), .val (.ref x0)] [(.ref x0)])) (fun _ k => XS.aloadN X11.here hx rfl (hb hby d20tF_13) rfl rfl k) ?_
  obtain ⟨a12, T12, h12, k12, b12, kk12, X12, e12, E12, hS12, hk12, hZ, hown, A12, f12a, f12b, V12, lt12a, lt12b, C12a, Lt12, Sf12, st12⟩ := ldcCH X11 hx hZ hown (hw _ (List.mem_of_getElem? (i := 171) rfl)) wS eq11 hS1 hk1 hEL (List.mem_of_getElem? (i := 1) rfl) C1.1 (vs := (own_sF.map Value.int)) (z := (5 : Int32)) (own_lit1) (by decide) (by decide) (g := (mkF m 14 #[.val (.ref o), .val (.ref x0)] [(.ref x0)])) rfl (hb hby d20tF_14) (n := 20) (by decide) (by decide) (by decide) (by decide)
  have f13 : Sta Z h12 "java/lang/String" "COMPACT_STRINGS" "Z" (.int cs) := f2.ext E12
  have f14 : Sta Z h12 "jdk/internal/util/Preconditions" "SIOOBE_FORMATTER" "Ljava/util/function/BiFunction;" fv := f3.ext E12
  have f15 : Sta Z h12 "com/example/fieldloom/fieldloom/Flag" "UNKNOWN" "Lcom/example/fieldloom/fieldloom/Flag;" (.ref fU) := f4.ext E12
  have f16 : Sta Z h12 "com/example/fieldloom/fieldloom/Flag" "SET" "Lcom/example/fieldloom/fieldloom/Flag;" (.ref fS) := f5.ext E12
  have f17 : Sta Z h12 "com/example/fieldloom/fieldloom/Flag" "CLEAR" "Lcom/example/fieldloom/fieldloom/Flag;" (.ref fL) := f6.ext E12
  have f18 : Exa Z h12 x0 "java/lang/String" := f7.ext E12
  have f19 : Fld Z h12 x0 "java/lang/String" "coder" "B" (.int (0 : Int32)) := f8.ext E12
  have f20 : Fld Z h12 x0 "java/lang/String" "value" "[B" (.ref vb1) := f9.ext E12
  have f21 : Arv Z h12 vb1 vk1 .byte (5 : Int32) (own_sF.map Value.int) (.int (0 : Int32)) := f10.ext E12
  have f22 : Exa Z h12 a1 "java/lang/String" := A1.ext E12
  have f23 : Fld Z h12 a1 "java/lang/String" "coder" "B" (.int (0 : Int32)) := f1a.ext E12
  have f24 : Fld Z h12 a1 "java/lang/String" "value" "[B" (.ref b1) := f1b.ext E12
  have f25 : Arv Z h12 b1 kk1 .byte (4 : Int32) (own_sT.map Value.int) (.int (0 : Int32)) := V1.ext E12
  have K12 : Keep h0 h12 [] := K1.ext E12
  have Zs12 : n0 ≤ h12.size := Nat.le_trans Z0 K12.1
  have C12 := C1.trans C12a
  refine own_st (T' := T12) (F' := (mkF m 16 #[.val (.ref o), .val (.ref x0)] [(.ref a12), (.ref x0)])) (fun _ k => st12 _ k) ?_
  obtain ⟨_, _, ⟨T26, L26, k26, n26⟩, -, X26, ⟨Lc26, hQ26, l26, y26, z26⟩, st26⟩ := callSN X12 hx (y := (⟨"com/example/fieldloom/fieldloom/Kind", "equalsIgnoringAsciiCase", "(Ljava/lang/CharSequence;Ljava/lang/String;)Z"⟩ : MethodName)) hown (Cond.methodLinkNest_wide hZ (hw _ (List.mem_of_getElem? (i := 169) rfl)) :) (mvT hZ (hw _ (List.mem_of_getElem? (i := 105) rfl))) (mvT hZ (hw _ (List.mem_of_getElem? (i := 6) rfl))) (mvT hZ (hw _ (List.mem_of_getElem? (i := 106) rfl))) (by decide) (backOf (W := 0) (rm12 l Z a0 hw [] x0 a12 cs fv vb1 vk1 (5 : Int32) own_sF b12 kk12 (5 : Int32) own_sF h12 n0 Zs12 f13 hcs f14 hfv f18 f19 f20 f21 A12 f12a f12b V12) hZ (hw _ (List.mem_of_getElem? (i := 106) rfl)) (hw _ (List.mem_of_getElem? (i := 6) rfl)) (by decide) (by decide)) (g := (mkF m 16 #[.val (.ref o), .val (.ref x0)] [(.ref a12), (.ref x0)])) rfl (by rw [hml]; rfl) (argsL := [(.ref x0), (.ref a12)]) (rest := []) (lenOf own_pd7 rfl) rfl (by show 2 * 0 + _ ≤ _; exact Nat.le_of_eq rfl) (hb hby d20tF_16) (fun _ _ => ⟨rfl, e12, (by decide : 4 + 0 ≤ _), (by decide : 44 + 0 ≤ _)⟩)
  dsimp only [Pt.U, Pt.locs, Pt.cells, Pt.slots] at X26 l26 y26 z26 st26 hQ26
  subst l26 y26 z26
  obtain ⟨⟨r26, rfl, hr26⟩, Nq26, eq26⟩ := hQ26
  have N26 := Fr.app N11 Nq26
  refine own_tr (T' := T26) (F' := (mkF m 19 #[.val (.ref o), .val (.ref x0)] [(.int r26)])) st26 ?_
  obtain rfl : r26 = (1 : Int32) := hr26.2.2 rfl (own_all_own_sF)
  refine own_ifc X26 hx (pc' := 26) (pc2 := 22) (hb hby d20tF_19) (by decide) (by decide) rfl (fun (hc19 : (1 : Int32) = (0 : Int32)) => ?_) (fun (hc19 : ¬ ((1 : Int32) = (0 : Int32))) => ?_)
  · exact absurd hc19 (by decide)
  obtain ⟨T27, X27, e27, st27⟩ := getS2 X26 hx hZ hown (host := "") (Or.inl (hw _ (List.mem_of_getElem? (i := 172) rfl))) Via.refl eq26 f17 (g := (mkF m 22 #[.val (.ref o), .val (.ref x0)] [])) rfl (hb hby d20tF_22)
  refine own_st (T' := T27) (F' := (mkF m 25 #[.val (.ref o), .val (.ref x0)] [(.ref fL)])) (fun _ k => st27 _ k) ?_
  refine own_sretA X27 hx hS12 (by rw [e27]; exact hk12) hlk (t := (.object "com/example/fieldloom/fieldloom/Flag")) Bd.returns rfl rfl rfl (hb hby d20tF_25) ?_ (by rw [e27]; exact C12.trans (CHv.at X27 hZ hEL C12.1)) (by decide) (by decide)
  rw [e27]
  refine ⟨⟨_, rfl, ?_⟩, N26, K12⟩
  rfl
theorem d20ts_0 : decode prog_44_method_3_code 0 = .ok (.aload_n 1, 1) := by decide +kernel
theorem d20ts_1 : decode prog_44_method_3_code 1 = .ok (.ldc 29, 2) := by decide +kernel
theorem d20ts_3 : decode prog_44_method_3_code 3 = .ok (.invokestatic 31, 3) := by decide +kernel
theorem d20ts_6 : decode prog_44_method_3_code 6 = .ok (.ifCond .eq 7, 3) := by decide +kernel
theorem d20ts_9 : decode prog_44_method_3_code 9 = .ok (.getstatic 35, 3) := by decide +kernel
theorem d20ts_12 : decode prog_44_method_3_code 12 = .ok (.areturn, 1) := by decide +kernel
theorem d20ts_13 : decode prog_44_method_3_code 13 = .ok (.aload_n 1, 1) := by decide +kernel
theorem d20ts_14 : decode prog_44_method_3_code 14 = .ok (.ldc 38, 2) := by decide +kernel
theorem d20ts_16 : decode prog_44_method_3_code 16 = .ok (.invokestatic 31, 3) := by decide +kernel
theorem d20ts_19 : decode prog_44_method_3_code 19 = .ok (.ifCond .eq 7, 3) := by decide +kernel
theorem d20ts_22 : decode prog_44_method_3_code 22 = .ok (.getstatic 40, 3) := by decide +kernel
theorem d20ts_25 : decode prog_44_method_3_code 25 = .ok (.areturn, 1) := by decide +kernel
theorem d20ts_26 : decode prog_44_method_3_code 26 = .ok (.getstatic 13, 3) := by decide +kernel
theorem d20ts_29 : decode prog_44_method_3_code 29 = .ok (.areturn, 1) := by decide +kernel
theorem own_pn20ts : plainName "com/example/fieldloom/fieldloom/Kind$3" = true := by first | (simp [plainName, overriddenIn]; done) | decide +kernel
theorem own_ef20ts (m : MethodId) (o : Addr) (x0 : Addr) : entryFrame m #[(.ref o), (.ref x0)] 2 = (mkF m 0 #[.val (.ref o), .val (.ref x0)] []) := by first | (simp [entryFrame, mkF, argsToLocals, Value.category]; done) | rfl
def Q20ts (Z : State) (o : Addr) (x0 : Addr) (cs : Int32) (fv : Value) (fU : Addr) (fS : Addr) (fL : Addr) (vb1 : Addr) (vk1 : ClassId) (vn1 : Int32) (vg1 : List Int32) (h0 : Heap) (n0 : Nat) (v : Option Value) (h : Heap) (L : List Loc) : Prop := (∃ z : Addr, v = some (.ref z) ∧ (True)) ∧ Fr n0 L ∧ Keep h0 h []
set_option maxRecDepth 65536 in
set_option maxHeartbeats 40000000 in
theorem rm20ts (l : Launch) (Z : State) (a0 : Array Value) (hw : ∀ d ∈ tables_1, d.before a0 Z = true) (ws : List Jvm.Cond) (o : Addr) (x0 : Addr) (cs : Int32) (fv : Value) (fU : Addr) (fS : Addr) (fL : Addr) (vb1 : Addr) (vk1 : ClassId) (vn1 : Int32) (vg1 : List Int32) (h0 : Heap) (n0 : Nat) (Z0 : n0 ≤ h0.size) (S_cs : Sta Z h0 "java/lang/String" "COMPACT_STRINGS" "Z" (.int cs)) (hcs : ¬ (cs = 0)) (S_f : Sta Z h0 "jdk/internal/util/Preconditions" "SIOOBE_FORMATTER" "Ljava/util/function/BiFunction;" fv) (hfv : fv.isRef = true) (S_fU : Sta Z h0 "com/example/fieldloom/fieldloom/Flag" "UNKNOWN" "Lcom/example/fieldloom/fieldloom/Flag;" (.ref fU)) (S_fS : Sta Z h0 "com/example/fieldloom/fieldloom/Flag" "SET" "Lcom/example/fieldloom/fieldloom/Flag;" (.ref fS)) (S_fL : Sta Z h0 "com/example/fieldloom/fieldloom/Flag" "CLEAR" "Lcom/example/fieldloom/fieldloom/Flag;" (.ref fL)) (hE1 : Exa Z h0 x0 "java/lang/String") (hFc1 : Fld Z h0 x0 "java/lang/String" "coder" "B" (.int (0 : Int32))) (hFv1 : Fld Z h0 x0 "java/lang/String" "value" "[B" (.ref vb1)) (hV1 : Arv Z h0 vb1 vk1 .byte vn1 (vg1.map Value.int) (.int (0 : Int32))) :
    MetFree l (⟨"com/example/fieldloom/fieldloom/Kind$3", "flag", "(Ljava/lang/CharSequence;)Lcom/example/fieldloom/fieldloom/Flag;"⟩ : MethodName) (head1 (Jvm.Cond.code (⟨"com/example/fieldloom/fieldloom/Kind$3", "flag", "(Ljava/lang/CharSequence;)Lcom/example/fieldloom/fieldloom/Flag;"⟩ : MethodName) prog_44_method_3_code 2 (some (.object "com/example/fieldloom/fieldloom/Flag")) :: ws) ({ frames := 5, cells := 4, slots := 44, locals := 70 } : Room)) (fun a U => a = #[(.ref o), (.ref x0)] ∧ Z.Warmed39 U.vm ∧ U.heap = h0 ∧ CHv Z own_EL U.vm h0) (fun _ _ _ _ _ => True) (fun _ U oc U' => ∃ v L, oc = .returned v ∧ Q20ts Z o x0 cs fv fU fS fL vb1 vk1 vn1 vg1 h0 n0 v U'.heap L ∧ CHr Z own_EL U.vm U.heap U'.vm U'.heap ∧ ReturnedEndW U oc U' L ({ frames := 5, cells := 4, slots := 44, locals := 70 } : Room).cells ({ frames := 5, cells := 4, slots := 44, locals := 70 } : Room).slots) := by
  refine MetFree.of_bodySF (plainFor_of_name own_pn20ts) hisR ?_
  intro p e s m args below meth c s₁ Bd hml0 hP hK
  obtain ⟨rfl, hZ, hh, hCH0⟩ := hP
  have hx := Bd.exec
  have hby := Bd.bytes
  have hlk : meth.locks = false := BodyLoose.notSynchronized Bd
  have hml : c.maxLocals = 2 := hml0
  have hown : s.vm.findClass "com/example/fieldloom/fieldloom/Kind$3" = some m.cls := findClass_of_methodNamed Bd.named
  have hnm := (name_of_methodNamed Bd.named Bd.method).1
  have X0 : Stand p l e ({ frames := 5, cells := 4, slots := 44, locals := 70 } : Room) (s.setVm s.vm) m #[(.ref o), (.ref x0)] below meth c s₁ [] 0 0 := Stand.of_body Bd
  have e0 : s₁.heap = h0 := by rw [← hh, Bd.state]; rfl
  have N0 := Fr.nil n0
  have hS0 : s.Since s.vm 0 := (State.WarmedH.refl s).since 0
  have hk0 : 0 ≤ h0.size := Nat.zero_le _
  have C0 : CHr Z own_EL s.vm s.heap s.vm h0 := by rw [hh]; exact CHr.refl hCH0
  have hEL : EW Z a0 own_EL := own_hEL hw
  have wS := own_wS hw
  refine own_enter (own_ef20ts m o x0) ?_
  show own_Go p e below (own_ES s Z own_EL (Q20ts Z o x0 cs fv fU fS fL vb1 vk1 vn1 vg1 h0 n0) ({ frames := 5, cells := 4, slots := 44, locals := 70 } : Room).cells ({ frames := 5, cells := 4, slots := 44, locals := 70 } : Room).slots) s₁ (mkF m 0 #[.val (.ref o), .val (.ref x0)] [])
  refine own_st (T' := s₁) (F' := (mkF m 1 #[.val (.ref o), .val (.ref x0)] [(.ref x0)])) (fun _ k => XS.aloadN X0.here hx rfl (hb hby d20ts_0) rfl rfl k) ?_
  obtain ⟨a1, T1, h1, k1, b1, kk1, X1, e1, E1, hS1, hk1, hZ, hown, A1, f1a, f1b, V1, lt1a, lt1b, C1a, Lt1, Sf1, st1⟩ := ldcCH X0 hx hZ hown (hw _ (List.mem_of_getElem? (i := 168) rfl)) wS e0 hS0 hk0 hEL (List.mem_of_getElem? (i := 0) rfl) C0.1 (vs := (own_sT.map Value.int)) (z := (4 : Int32)) (own_lit0) (by decide) (by decide) (g := (mkF m 1 #[.val (.ref o), .val (.ref x0)] [(.ref x0)])) rfl (hb hby d20ts_1) (n := 16) (by decide) (by decide) (by decide) (by decide)
  have f2 : Sta Z h1 "java/lang/String" "COMPACT_STRINGS" "Z" (.int cs) := S_cs.ext E1
  have f3 : Sta Z h1 "jdk/internal/util/Preconditions" "SIOOBE_FORMATTER" "Ljava/util/function/BiFunction;" fv := S_f.ext E1
  have f4 : Sta Z h1 "com/example/fieldloom/fieldloom/Flag" "UNKNOWN" "Lcom/example/fieldloom/fieldloom/Flag;" (.ref fU) := S_fU.ext E1
  have f5 : Sta Z h1 "com/example/fieldloom/fieldloom/Flag" "SET" "Lcom/example/fieldloom/fieldloom/Flag;" (.ref fS) := S_fS.ext E1
  have f6 : Sta Z h1 "com/example/fieldloom/fieldloom/Flag" "CLEAR" "Lcom/example/fieldloom/fieldloom/Flag;" (.ref fL) := S_fL.ext E1
  have f7 : Exa Z h1 x0 "java/lang/String" := hE1.ext E1
  have f8 : Fld Z h1 x0 "java/lang/String" "coder" "B" (.int (0 : Int32)) := hFc1.ext E1
  have f9 : Fld Z h1 x0 "java/lang/String" "value" "[B" (.ref vb1) := hFv1.ext E1
  have f10 : Arv Z h1 vb1 vk1 .byte vn1 (vg1.map Value.int) (.int (0 : Int32)) := hV1.ext E1
  have K1 : Keep h0 h1 [] := (Keep.refl h0 []).ext E1
  have Zs1 : n0 ≤ h1.size := Nat.le_trans Z0 K1.1
  have C1 := C0.trans C1a
  refine own_st (T' := T1) (F' := (mkF m 3 #[.val (.ref o), .val (.ref x0)] [(.ref a1), (.ref x0)])) (fun _ k => st1 _ k) ?_
  obtain ⟨_, _, ⟨T11, L11, k11, n11⟩, -, X11, ⟨Lc11, hQ11, l11, y11, z11⟩, st11⟩ := callSN X1 hx (y := (⟨"com/example/fieldloom/fieldloom/Kind", "equalsIgnoringAsciiCase", "(Ljava/lang/CharSequence;Ljava/lang/String;)Z"⟩ : MethodName)) hown (Cond.methodLinkNest_wide hZ (hw _ (List.mem_of_getElem? (i := 169) rfl)) :) (mvT hZ (hw _ (List.mem_of_getElem? (i := 105) rfl))) (mvT hZ (hw _ (List.mem_of_getElem? (i := 6) rfl))) (mvT hZ (hw _ (List.mem_of_getElem? (i := 106) rfl))) (by decide) (backOf (W := 0) (rm12 l Z a0 hw [] x0 a1 cs fv vb1 vk1 vn1 vg1 b1 kk1 (4 : Int32) own_sT h1 n0 Zs1 f2 hcs f3 hfv f7 f8 f9 f10 A1 f1a f1b V1) hZ (hw _ (List.mem_of_getElem? (i := 106) rfl)) (hw _ (List.mem_of_getElem? (i := 6) rfl)) (by decide) (by decide)) (g := (mkF m 3 #[.val (.ref o), .val (.ref x0)] [(.ref a1), (.ref x0)])) rfl (by rw [hml]; rfl) (argsL := [(.ref x0), (.ref a1)]) (rest := []) (lenOf own_pd7 rfl) rfl (by show 2 * 0 + _ ≤ _; exact Nat.le_of_eq rfl) (hb hby d20ts_3) (fun _ _ => ⟨rfl, e1, (by decide : 2 + 0 ≤ _), (by decide : 20 + 0 ≤ _)⟩)
  dsimp only [Pt.U, Pt.locs, Pt.cells, Pt.slots] at X11 l11 y11 z11 st11 hQ11
  subst l11 y11 z11
  obtain ⟨⟨r11, rfl, hr11⟩, Nq11, eq11⟩ := hQ11
  have N11 := Fr.app N0 Nq11
  refine own_tr (T' := T11) (F' := (mkF m 6 #[.val (.ref o), .val (.ref x0)] [(.int r11)])) st11 ?_
  refine own_ifc X11 hx (pc' := 13) (pc2 := 9) (hb hby d20ts_6) (by decide) (by decide) rfl (fun (hc6 : r11 = (0 : Int32)) => ?_) (fun (hc6 : ¬ (r11 = (0 : Int32))) => ?_)
  ·
    refine own_st (T' := T11) (F' := (mkF m 14 #[.val (.ref o), .val (.ref x0)] [(.ref x0)])) (fun _ k => XS.aloadN X11.here hx rfl (hb hby d20ts_13) rfl rfl k) ?_
    obtain ⟨a12, T12, h12, k12, b12, kk12, X12, e12, E12, hS12, hk12, hZ, hown, A12, f12a, f12b, V12, lt12a, lt12b, C12a, Lt12, Sf12, st12⟩ := ldcCH X11 hx hZ hown (hw _ (List.mem_of_getElem? (i := 171) rfl)) wS eq11 hS1 hk1 hEL (List.mem_of_getElem? (i := 1) rfl) C1.1 (vs := (own_sF.map Value.int)) (z := (5 : Int32)) (own_lit1) (by decide) (by decide) (g := (mkF m 14 #[.val (.ref o), .val (.ref x0)] [(.ref x0)])) rfl (hb hby d20ts_14) (n := 20) (by decide) (by decide) (by decide) (by decide)
    have f13 : Sta Z h12 "java/lang/String" "COMPACT_STRINGS" "Z" (.int cs) := f2.ext E12
    have f14 : Sta Z h12 "jdk/internal/util/Preconditions" "SIOOBE_FORMATTER" "Ljava/util/function/BiFunction;" fv := f3.ext E12
    have f15 : Sta Z h12 "com/example/fieldloom/fieldloom/Flag" "UNKNOWN" "Lcom/example/fieldloom/fieldloom/Flag;" (.ref fU) := f4.ext E12
    have f16 : Sta Z h12 "com/example/fieldloom/fieldloom/Flag" "SET" "Lcom/example/fieldloom/fieldloom/Flag;" (.ref fS) := f5.ext E12
    have f17 : Sta Z h12 "com/example/fieldloom/fieldloom/Flag" "CLEAR" "Lcom/example/fieldloom/fieldloom/Flag;" (.ref fL) := f6.ext E12
    have f18 : Exa Z h12 x0 "java/lang/String" := f7.ext E12
    have f19 : Fld Z h12 x0 "java/lang/String" "coder" "B" (.int (0 : Int32)) := f8.ext E12
    have f20 : Fld Z h12 x0 "java/lang/String" "value" "[B" (.ref vb1) := f9.ext E12
    have f21 : Arv Z h12 vb1 vk1 .byte vn1 (vg1.map Value.int) (.int (0 : Int32)) := f10.ext E12
    have f22 : Exa Z h12 a1 "java/lang/String" := A1.ext E12
    have f23 : Fld Z h12 a1 "java/lang/String" "coder" "B" (.int (0 : Int32)) := f1a.ext E12
    have f24 : Fld Z h12 a1 "java/lang/String" "value" "[B" (.ref b1) := f1b.ext E12
    have f25 : Arv Z h12 b1 kk1 .byte (4 : Int32) (own_sT.map Value.int) (.int (0 : Int32)) := V1.ext E12
    have K12 : Keep h0 h12 [] := K1.ext E12
    have Zs12 : n0 ≤ h12.size := Nat.le_trans Z0 K12.1
    have C12 := C1.trans C12a
    refine own_st (T' := T12) (F' := (mkF m 16 #[.val (.ref o), .val (.ref x0)] [(.ref a12), (.ref x0)])) (fun _ k => st12 _ k) ?_
    obtain ⟨_, _, ⟨T26, L26, k26, n26⟩, -, X26, ⟨Lc26, hQ26, l26, y26, z26⟩, st26⟩ := callSN X12 hx (y := (⟨"com/example/fieldloom/fieldloom/Kind", "equalsIgnoringAsciiCase", "(Ljava/lang/CharSequence;Ljava/lang/String;)Z"⟩ : MethodName)) hown (Cond.methodLinkNest_wide hZ (hw _ (List.mem_of_getElem? (i := 169) rfl)) :) (mvT hZ (hw _ (List.mem_of_getElem? (i := 105) rfl))) (mvT hZ (hw _ (List.mem_of_getElem? (i := 6) rfl))) (mvT hZ (hw _ (List.mem_of_getElem? (i := 106) rfl))) (by decide) (backOf (W := 0) (rm12 l Z a0 hw [] x0 a12 cs fv vb1 vk1 vn1 vg1 b12 kk12 (5 : Int32) own_sF h12 n0 Zs12 f13 hcs f14 hfv f18 f19 f20 f21 A12 f12a f12b V12) hZ (hw _ (List.mem_of_getElem? (i := 106) rfl)) (hw _ (List.mem_of_getElem? (i := 6) rfl)) (by decide) (by decide)) (g := (mkF m 16 #[.val (.ref o), .val (.ref x0)] [(.ref a12), (.ref x0)])) rfl (by rw [hml]; rfl) (argsL := [(.ref x0), (.ref a12)]) (rest := []) (lenOf own_pd7 rfl) rfl (by show 2 * 0 + _ ≤ _; exact Nat.le_of_eq rfl) (hb hby d20ts_16) (fun _ _ => ⟨rfl, e12, (by decide : 4 + 0 ≤ _), (by decide : 44 + 0 ≤ _)⟩)
    dsimp only [Pt.U, Pt.locs, Pt.cells, Pt.slots] at X26 l26 y26 z26 st26 hQ26
    subst l26 y26 z26
    obtain ⟨⟨r26, rfl, hr26⟩, Nq26, eq26⟩ := hQ26
    have N26 := Fr.app N11 Nq26
    refine own_tr (T' := T26) (F' := (mkF m 19 #[.val (.ref o), .val (.ref x0)] [(.int r26)])) st26 ?_
    refine own_ifc X26 hx (pc' := 26) (pc2 := 22) (hb hby d20ts_19) (by decide) (by decide) rfl (fun (hc19 : r26 = (0 : Int32)) => ?_) (fun (hc19 : ¬ (r26 = (0 : Int32))) => ?_)
    ·
      obtain ⟨T27, X27, e27, st27⟩ := getS2 X26 hx hZ hown (host := "") (Or.inl (hw _ (List.mem_of_getElem? (i := 173) rfl))) Via.refl eq26 f15 (g := (mkF m 26 #[.val (.ref o), .val (.ref x0)] [])) rfl (hb hby d20ts_26)
      refine own_st (T' := T27) (F' := (mkF m 29 #[.val (.ref o), .val (.ref x0)] [(.ref fU)])) (fun _ k => st27 _ k) ?_
      refine own_sretA X27 hx hS12 (by rw [e27]; exact hk12) hlk (t := (.object "com/example/fieldloom/fieldloom/Flag")) Bd.returns rfl rfl rfl (hb hby d20ts_29) ?_ (by rw [e27]; exact C12.trans (CHv.at X27 hZ hEL C12.1)) (by decide) (by decide)
      rw [e27]
      refine ⟨⟨_, rfl, ?_⟩, N26, K12⟩
      trivial
    ·
      obtain ⟨T28, X28, e28, st28⟩ := getS2 X26 hx hZ hown (host := "") (Or.inl (hw _ (List.mem_of_getElem? (i := 172) rfl))) Via.refl eq26 f17 (g := (mkF m 22 #[.val (.ref o), .val (.ref x0)] [])) rfl (hb hby d20ts_22)
      refine own_st (T' := T28) (F' := (mkF m 25 #[.val (.ref o), .val (.ref x0)] [(.ref fL)])) (fun _ k => st28 _ k) ?_
      refine own_sretA X28 hx hS12 (by rw [e28]; exact hk12) hlk (t := (.object "com/example/fieldloom/fieldloom/Flag")) Bd.returns rfl rfl rfl (hb hby d20ts_25) ?_ (by rw [e28]; exact C12.trans (CHv.at X28 hZ hEL C12.1)) (by decide) (by decide)
      rw [e28]
      refine ⟨⟨_, rfl, ?_⟩, N26, K12⟩
      trivial
  ·
    obtain ⟨T29, X29, e29, st29⟩ := getS2 X11 hx hZ hown (host := "") (Or.inl (hw _ (List.mem_of_getElem? (i := 170) rfl))) Via.refl eq11 f5 (g := (mkF m 9 #[.val (.ref o), .val (.ref x0)] [])) rfl (hb hby d20ts_9)
    refine own_st (T' := T29) (F' := (mkF m 12 #[.val (.ref o), .val (.ref x0)] [(.ref fS)])) (fun _ k => st29 _ k) ?_
    refine own_sretA X29 hx hS1 (by rw [e29]; exact hk1) hlk (t := (.object "com/example/fieldloom/fieldloom/Flag")) Bd.returns rfl rfl rfl (hb hby d20ts_12) ?_ (by rw [e29]; exact C1.trans (CHv.at X29 hZ hEL C1.1)) (by decide) (by decide)
    rw [e29]
    refine ⟨⟨_, rfl, ?_⟩, N11, K1⟩
    trivial
theorem d11tT_0 : decode prog_45_method_3_code 0 = .ok (.aload_n 1, 1) := by decide +kernel
theorem d11tT_1 : decode prog_45_method_3_code 1 = .ok (.ldc 29, 2) := by decide +kernel
theorem d11tT_3 : decode prog_45_method_3_code 3 = .ok (.invokestatic 31, 3) := by decide +kernel
theorem d11tT_6 : decode prog_45_method_3_code 6 = .ok (.ifCond .ne 12, 3) := by decide +kernel
theorem d11tT_18 : decode prog_45_method_3_code 18 = .ok (.getstatic 37, 3) := by decide +kernel
theorem d11tT_21 : decode prog_45_method_3_code 21 = .ok (.areturn, 1) := by decide +kernel
theorem own_pn11tT : plainName "com/example/fieldloom/fieldloom/Kind$4" = true := by first | (simp [plainName, overriddenIn]; done) | decide +kernel
theorem own_ef11tT (m : MethodId) (o : Addr) (x0 : Addr) : entryFrame m #[(.ref o), (.ref x0)] 2 = (mkF m 0 #[.val (.ref o), .val (.ref x0)] []) := by first | (simp [entryFrame, mkF, argsToLocals, Value.category]; done) | rfl
def Q11tT (Z : State) (o : Addr) (x0 : Addr) (cs : Int32) (fv : Value) (fU : Addr) (fS : Addr) (fL : Addr) (vb1 : Addr) (vk1 : ClassId) (h0 : Heap) (n0 : Nat) (v : Option Value) (h : Heap) (L : List Loc) : Prop := (∃ z : Addr, v = some (.ref z) ∧ (z = fS)) ∧ Fr n0 L ∧ Keep h0 h []
set_option maxRecDepth 65536 in
set_option maxHeartbeats 40000000 in
theorem rm11tT (l : Launch) (Z : State) (a0 : Array Value) (hw : ∀ d ∈ tables_1, d.before a0 Z = true) (ws : List Jvm.Cond) (o : Addr) (x0 : Addr) (cs : Int32) (fv : Value) (fU : Addr) (fS : Addr) (fL : Addr) (vb1 : Addr) (vk1 : ClassId) (h0 : Heap) (n0 : Nat) (Z0 : n0 ≤ h0.size) (S_cs : Sta Z h0 "java/lang/String" "COMPACT_STRINGS" "Z" (.int cs)) (hcs : ¬ (cs = 0)) (S_f : Sta Z h0 "jdk/internal/util/Preconditions" "SIOOBE_FORMATTER" "Ljava/util/function/BiFunction;" fv) (hfv : fv.isRef = true) (S_fU : Sta Z h0 "com/example/fieldloom/fieldloom/Flag" "UNKNOWN" "Lcom/example/fieldloom/fieldloom/Flag;" (.ref fU)) (S_fS : Sta Z h0 "com/example/fieldloom/fieldloom/Flag" "SET" "Lcom/example/fieldloom/fieldloom/Flag;" (.ref fS)) (S_fL : Sta Z h0 "com/example/fieldloom/fieldloom/Flag" "CLEAR" "Lcom/example/fieldloom/fieldloom/Flag;" (.ref fL)) (hE1 : Exa Z h0 x0 "java/lang/String") (hFc1 : Fld Z h0 x0 "java/lang/String" "coder" "B" (.int (0 : Int32))) (hFv1 : Fld Z h0 x0 "java/lang/String" "value" "[B" (.ref vb1)) (hV1 : Arv Z h0 vb1 vk1 .byte (4 : Int32) (own_sT.map Value.int) (.int (0 : Int32))) :
    MetFree l (⟨"com/example/fieldloom/fieldloom/Kind$4", "flag", "(Ljava/lang/CharSequence;)Lcom/example/fieldloom/fieldloom/Flag;"⟩ : MethodName) (head1 (Jvm.Cond.code (⟨"com/example/fieldloom/fieldloom/Kind$4", "flag", "(Ljava/lang/CharSequence;)Lcom/example/fieldloom/fieldloom/Flag;"⟩ : MethodName) prog_45_method_3_code 2 (some (.object "com/example/fieldloom/fieldloom/Flag")) :: ws) ({ frames := 5, cells := 2, slots := 20, locals := 70 } : Room)) (fun a U => a = #[(.ref o), (.ref x0)] ∧ Z.Warmed39 U.vm ∧ U.heap = h0 ∧ CHv Z own_EL U.vm h0) (fun _ _ _ _ _ => True) (fun _ U oc U' => ∃ v L, oc = .returned v ∧ Q11tT Z o x0 cs fv fU fS fL vb1 vk1 h0 n0 v U'.heap L ∧ CHr Z own_EL U.vm U.heap U'.vm U'.heap ∧ ReturnedEndW U oc U' L ({ frames := 5, cells := 2, slots := 20, locals := 70 } : Room).cells ({ frames := 5, cells := 2, slots := 20, locals := 70 } : Room).slots) := by
  refine MetFree.of_bodySF (plainFor_of_name own_pn11tT) hisR ?_
  intro p e s m args below meth c s₁ Bd hml0 hP hK
  obtain ⟨rfl, hZ, hh, hCH0⟩ := hP
  have hx := Bd.exec
  have hby := Bd.bytes
  have hlk : meth.locks = false := BodyLoose.notSynchronized Bd
  have hml : c.maxLocals = 2 := hml0
  have hown : s.vm.findClass "com/example/fieldloom/fieldloom/Kind$4" = some m.cls := findClass_of_methodNamed Bd.named
  have hnm := (name_of_methodNamed Bd.named Bd.method).1
  have X0 : Stand p l e ({ frames := 5, cells := 2, slots := 20, locals := 70 } : Room) (s.setVm s.vm) m #[(.ref o), (.ref x0)] below meth c s₁ [] 0 0 := Stand.of_body Bd
  have e0 : s₁.heap = h0 := by rw [← hh, Bd.state]; rfl
  have N0 := Fr.nil n0
  have hS0 : s.Since s.vm 0 := (State.WarmedH.refl s).since 0
  have hk0 : 0 ≤ h0.size := Nat.zero_le _
  have C0 : CHr Z own_EL s.vm s.heap s.vm h0 := by rw [hh]; exact CHr.refl hCH0
  have hEL : EW Z a0 own_EL := own_hEL hw
  have wS := own_wS hw
  refine own_enter (own_ef11tT m o x0) ?_
  show own_Go p e below (own_ES s Z own_EL (Q11tT Z o x0 cs fv fU fS fL vb1 vk1 h0 n0) ({ frames := 5, cells := 2, slots := 20, locals := 70 } : Room).cells ({ frames := 5, cells := 2, slots := 20, locals := 70 } : Room).slots) s₁ (mkF m 0 #[.val (.ref o), .val (.ref x0)] [])
  refine own_st (T' := s₁) (F' := (mkF m 1 #[.val (.ref o), .val (.ref x0)] [(.ref x0)])) (fun _ k => XS.aloadN X0.here hx rfl (hb hby d11tT_0) rfl rfl k) ?_
  obtain ⟨a1, T1, h1, k1, b1, kk1, X1, e1, E1, hS1, hk1, hZ, hown, A1, f1a, f1b, V1, lt1a, lt1b, C1a, Lt1, Sf1, st1⟩ := ldcCH X0 hx hZ hown (hw _ (List.mem_of_getElem? (i := 103) rfl)) wS e0 hS0 hk0 hEL (List.mem_of_getElem? (i := 2) rfl) C0.1 (vs := (own_sT.map Value.int)) (z := (4 : Int32)) (own_lit2) (by decide) (by decide) (g := (mkF m 1 #[.val (.ref o), .val (.ref x0)] [(.ref x0)])) rfl (hb hby d11tT_1) (n := 16) (by decide) (by decide) (by decide) (by decide)
  have f2 : Sta Z h1 "java/lang/String" "COMPACT_STRINGS" "Z" (.int cs) := S_cs.ext E1
  have f3 : Sta Z h1 "jdk/internal/util/Preconditions" "SIOOBE_FORMATTER" "Ljava/util/function/BiFunction;" fv := S_f.ext E1
  have f4 : Sta Z h1 "com/example/fieldloom/fieldloom/Flag" "UNKNOWN" "Lcom/example/fieldloom/fieldloom/Flag;" (.ref fU) := S_fU.ext E1
  have f5 : Sta Z h1 "com/example/fieldloom/fieldloom/Flag" "SET" "Lcom/example/fieldloom/fieldloom/Flag;" (.ref fS) := S_fS.ext E1
  have f6 : Sta Z h1 "com/example/fieldloom/fieldloom/Flag" "CLEAR" "Lcom/example/fieldloom/fieldloom/Flag;" (.ref fL) := S_fL.ext E1
  have f7 : Exa Z h1 x0 "java/lang/String" := hE1.ext E1
  have f8 : Fld Z h1 x0 "java/lang/String" "coder" "B" (.int (0 : Int32)) := hFc1.ext E1
  have f9 : Fld Z h1 x0 "java/lang/String" "value" "[B" (.ref vb1) := hFv1.ext E1
  have f10 : Arv Z h1 vb1 vk1 .byte (4 : Int32) (own_sT.map Value.int) (.int (0 : Int32)) := hV1.ext E1
  have K1 : Keep h0 h1 [] := (Keep.refl h0 []).ext E1
  have Zs1 : n0 ≤ h1.size := Nat.le_trans Z0 K1.1
  have C1 := C0.trans C1a
  refine own_st (T' := T1) (F' := (mkF m 3 #[.val (.ref o), .val (.ref x0)] [(.ref a1), (.ref x0)])) (fun _ k => st1 _ k) ?_
  obtain ⟨_, _, ⟨T11, L11, k11, n11⟩, -, X11, ⟨Lc11, hQ11, l11, y11, z11⟩, st11⟩ := callSN X1 hx (y := (⟨"com/example/fieldloom/fieldloom/Kind", "equalsIgnoringAsciiCase", "(Ljava/lang/CharSequence;Ljava/lang/String;)Z"⟩ : MethodName)) hown (Cond.methodLinkNest_wide hZ (hw _ (List.mem_of_getElem? (i := 104) rfl)) :) (mvT hZ (hw _ (List.mem_of_getElem? (i := 105) rfl))) (mvT hZ (hw _ (List.mem_of_getElem? (i := 6) rfl))) (mvT hZ (hw _ (List.mem_of_getElem? (i := 106) rfl))) (by decide) (backOf (W := 0) (rm12 l Z a0 hw [] x0 a1 cs fv vb1 vk1 (4 : Int32) own_sT b1 kk1 (4 : Int32) own_sT h1 n0 Zs1 f2 hcs f3 hfv f7 f8 f9 f10 A1 f1a f1b V1) hZ (hw _ (List.mem_of_getElem? (i := 106) rfl)) (hw _ (List.mem_of_getElem? (i := 6) rfl)) (by decide) (by decide)) (g := (mkF m 3 #[.val (.ref o), .val (.ref x0)] [(.ref a1), (.ref x0)])) rfl (by rw [hml]; rfl) (argsL := [(.ref x0), (.ref a1)]) (rest := []) (lenOf own_pd7 rfl) rfl (by show 2 * 0 + _ ≤ _; exact Nat.le_of_eq rfl) (hb hby d11tT_3) (fun _ _ => ⟨rfl, e1, (by decide : 2 + 0 ≤ _), (by decide : 20 + 0 ≤ _)⟩)
  dsimp only [Pt.U, Pt.locs, Pt.cells, Pt.slots] at X11 l11 y11 z11 st11 hQ11
  subst l11 y11 z11
  obtain ⟨⟨r11, rfl, hr11⟩, Nq11, eq11⟩ := hQ11
  have N11 := Fr.app N0 Nq11
  refine own_tr (T' := T11) (F' := (mkF m 6 #[.val (.ref o), .val (.ref x0)] [(.int r11)])) st11 ?_
  obtain rfl : r11 = (1 : Int32) := hr11.2.2 rfl (own_all_own_sT)
  refine own_ifc X11 hx (pc' := 18) (pc2 := 9) (hb hby d11tT_6) (by decide) (by decide) rfl (fun (hc6 : ¬ ((1 : Int32) = (0 : Int32))) => ?_) (fun (hc6 : (1 : Int32) = (0 : Int32)) => ?_)
  rotate_left
  · exact absurd hc6 (by decide)
  obtain ⟨T12, X12, e12, st12⟩ := getS2 X11 hx hZ hown (host := "") (Or.inl (hw _ (List.mem_of_getElem? (i := 152) rfl))) Via.refl eq11 f5 (g := (mkF m 18 #[.val (.ref o), .val (.ref x0)] [])) rfl (hb hby d11tT_18)
  refine own_st (T' := T12) (F' := (mkF m 21 #[.val (.ref o), .val (.ref x0)] [(.ref fS)])) (fun _ k => st12 _ k) ?_
  refine own_sretA X12 hx hS1 (by rw [e12]; exact hk1) hlk (t := (.object "com/example/fieldloom/fieldloom/Flag")) Bd.returns rfl rfl rfl (hb hby d11tT_21) ?_ (by rw [e12]; exact C1.trans (CHv.at X12 hZ hEL C1.1)) (by decide) (by decide)
  rw [e12]
  refine ⟨⟨_, rfl, ?_⟩, N11, K1⟩
  rfl
theorem d11tF_0 : decode prog_45_method_3_code 0 = .ok (.aload_n 1, 1) := by decide +kernel
theorem d11tF_1 : decode prog_45_method_3_code 1 = .ok (.ldc 29, 2) := by decide +kernel
theorem d11tF_3 : decode prog_45_method_3_code 3 = .ok (.invokestatic 31, 3) := by decide +kernel
theorem d11tF_6 : decode prog_45_method_3_code 6 = .ok (.ifCond .ne 12, 3) := by decide +kernel
theorem d11tF_9 : decode prog_45_method_3_code 9 = .ok (.aload_n 1, 1) := by decide +kernel
theorem d11tF_10 : decode prog_45_method_3_code 10 = .ok (.ldc 35, 2) := by decide +kernel
theorem d11tF_12 : decode prog_45_method_3_code 12 = .ok (.invokestatic 31, 3) := by decide +kernel
theorem d11tF_15 : decode prog_45_method_3_code 15 = .ok (.ifCond .eq 7, 3) := by decide +kernel
theorem d11tF_22 : decode prog_45_method_3_code 22 = .ok (.aload_n 1, 1) := by decide +kernel
theorem d11tF_23 : decode prog_45_method_3_code 23 = .ok (.ldc 40, 2) := by decide +kernel
theorem d11tF_25 : decode prog_45_method_3_code 25 = .ok (.invokestatic 31, 3) := by decide +kernel
theorem d11tF_28 : decode prog_45_method_3_code 28 = .ok (.ifCond .ne 12, 3) := by decide +kernel
theorem d11tF_40 : decode prog_45_method_3_code 40 = .ok (.getstatic 44, 3) := by decide +kernel
theorem d11tF_43 : decode prog_45_method_3_code 43 = .ok (.areturn, 1) := by decide +kernel
theorem own_pn11tF : plainName "com/example/fieldloom/fieldloom/Kind$4" = true := by first | (simp [plainName, overriddenIn]; done) | decide +kernel
theorem own_ef11tF (m : MethodId) (o : Addr) (x0 : Addr) : entryFrame m #[(.ref o), (.ref x0)] 2 = (mkF m 0 #[.val (.ref o), .val (.ref x0)] []) := by first | (simp [entryFrame, mkF, argsToLocals, Value.category]; done) | rfl
def Q11tF (Z : State) (o : Addr) (x0 : Addr) (cs : Int32) (fv : Value) (fU : Addr) (fS : Addr) (fL : Addr) (vb1 : Addr) (vk1 : ClassId) (h0 : Heap) (n0 : Nat) (v : Option Value) (h : Heap) (L : List Loc) : Prop := (∃ z : Addr, v = some (.ref z) ∧ (z = fL)) ∧ Fr n0 L ∧ Keep h0 h []
set_option maxRecDepth 65536 in
set_option maxHeartbeats 40000000 in
theorem rm11tF (l : Launch) (Z : State) (a0 : Array Value) (hw : ∀ d ∈ tables_1, d.before a0 Z = true) (ws : List Jvm.Cond) (o : Addr) (x0 : Addr) (cs : Int32) (fv : Value) (fU : Addr) (fS : Addr) (fL : Addr) (vb1 : Addr) (vk1 : ClassId) (h0 : Heap) (n0 : Nat) (Z0 : n0 ≤ h0.size) (S_cs : Sta Z h0 "java/lang/String" "COMPACT_STRINGS" "Z" (.int cs)) (hcs : ¬ (cs = 0)) (S_f : Sta Z h0 "jdk/internal/util/Preconditions" "SIOOBE_FORMATTER" "Ljava/util/function/BiFunction;" fv) (hfv : fv.isRef = true) (S_fU : Sta Z h0 "com/example/fieldloom/fieldloom/Flag" "UNKNOWN" "Lcom/example/fieldloom/fieldloom/Flag;" (.ref fU)) (S_fS : Sta Z h0 "com/example/fieldloom/fieldloom/Flag" "SET" "Lcom/example/fieldloom/fieldloom/Flag;" (.ref fS)) (S_fL : Sta Z h0 "com/example/fieldloom/fieldloom/Flag" "CLEAR" "Lcom/example/fieldloom/fieldloom/Flag;" (.ref fL)) (hE1 : Exa Z h0 x0 "java/lang/String") (hFc1 : Fld Z h0 x0 "java/lang/String" "coder" "B" (.int (0 : Int32))) (hFv1 : Fld Z h0 x0 "java/lang/String" "value" "[B" (.ref vb1)) (hV1 : Arv Z h0 vb1 vk1 .byte (5 : Int32) (own_sF.map Value.int) (.int (0 : Int32))) :
    MetFree l (⟨"com/example/fieldloom/fieldloom/Kind$4", "flag", "(Ljava/lang/CharSequence;)Lcom/example/fieldloom/fieldloom/Flag;"⟩ : MethodName) (head1 (Jvm.Cond.code (⟨"com/example/fieldloom/fieldloom/Kind$4", "flag", "(Ljava/lang/CharSequence;)Lcom/example/fieldloom/fieldloom/Flag;"⟩ : MethodName) prog_45_method_3_code 2 (some (.object "com/example/fieldloom/fieldloom/Flag")) :: ws) ({ frames := 5, cells := 6, slots := 60, locals := 70 } : Room)) (fun a U => a = #[(.ref o), (.ref x0)] ∧ Z.Warmed39 U.vm ∧ U.heap = h0 ∧ CHv Z own_EL U.vm h0) (fun _ _ _ _ _ => True) (fun _ U oc U' => ∃ v L, oc = .returned v ∧ Q11tF Z o x0 cs fv fU fS fL vb1 vk1 h0 n0 v U'.heap L ∧ CHr Z own_EL U.vm U.heap U'.vm U'.heap ∧ ReturnedEndW U oc U' L ({ frames := 5, cells := 6, slots := 60, locals := 70 } : Room).cells ({ frames := 5, cells := 6, slots := 60, locals := 70 } : Room).slots) := by
  refine MetFree.of_bodySF (plainFor_of_name own_pn11tF) hisR ?_
  intro p e s m args below meth c s₁ Bd hml0 hP hK
  obtain ⟨rfl, hZ, hh, hCH0⟩ := hP
  have hx := Bd.exec
  have hby := Bd.bytes
  have hlk : meth.locks = false := BodyLoose.notSynchronized Bd
  have hml : c.maxLocals = 2 := hml0
  have hown : s.vm.findClass "com/example/fieldloom/fieldloom/Kind$4" = some m.cls := findClass_of_methodNamed Bd.named
  have hnm := (name_of_methodNamed Bd.named Bd.method).1
  have X0 : Stand p l e ({ frames := 5, cells := 6, slots := 60, locals := 70 } : Room) (s.setVm s.vm) m #[(.ref o), (.ref x0)] below meth c s₁ [] 0 0 := Stand.of_body Bd
  have e0 : s₁.heap = h0 := by rw [← hh, Bd.state]; rfl
  have N0 := Fr.nil n0
  have hS0 : s.Since s.vm 0 := (State.WarmedH.refl s).since 0
  have hk0 : 0 ≤ h0.size := Nat.zero_le _
  have C0 : CHr Z own_EL s.vm s.heap s.vm h0 := by rw [hh]; exact CHr.refl hCH0
  have hEL : EW Z a0 own_EL := own_hEL hw
  have wS := own_wS hw
  refine own_enter (own_ef11tF m o x0) ?_
  show own_Go p e below (own_ES s Z own_EL (Q11tF Z o x0 cs fv fU fS fL vb1 vk1 h0 n0) ({ frames := 5, cells := 6, slots := 60, locals := 70 } : Room).cells ({ frames := 5, cells := 6, slots := 60, locals := 70 } : Room).slots) s₁ (mkF m 0 #[.val (.ref o), .val (.ref x0)] [])
  refine own_st (T' := s₁) (F' := (mkF m 1 #[.val (.ref o), .val (.ref x0)] [(.ref x0)])) (fun _ k => XS.aloadN X0.here hx rfl (hb hby d11tF_0) rfl rfl k) ?_
  obtain ⟨a1, T1, h1, k1, b1, kk1, X1, e1, E1, hS1, hk1, hZ, hown, A1, f1a, f1b, V1, lt1a, lt1b, C1a, Lt1, Sf1, st1⟩ := ldcCH X0 hx hZ hown (hw _ (List.mem_of_getElem? (i := 103) rfl)) wS e0 hS0 hk0 hEL (List.mem_of_getElem? (i := 2) rfl) C0.1 (vs := (own_sT.map Value.int)) (z := (4 : Int32)) (own_lit2) (by decide) (by decide) (g := (mkF m 1 #[.val (.ref o), .val (.ref x0)] [(.ref x0)])) rfl (hb hby d11tF_1) (n := 16) (by decide) (by decide) (by decide) (by decide)
  have f2 : Sta Z h1 "java/lang/String" "COMPACT_STRINGS" "Z" (.int cs) := S_cs.ext E1
  have f3 : Sta Z h1 "jdk/internal/util/Preconditions" "SIOOBE_FORMATTER" "Ljava/util/function/BiFunction;" fv := S_f.ext E1
  have f4 : Sta Z h1 "com/example/fieldloom/fieldloom/Flag" "UNKNOWN" "Lcom/example/fieldloom/fieldloom/Flag;" (.ref fU) := S_fU.ext E1
  have f5 : Sta Z h1 "com/example/fieldloom/fieldloom/Flag" "SET" "Lcom/example/fieldloom/fieldloom/Flag;" (.ref fS) := S_fS.ext E1
  have f6 : Sta Z h1 "com/example/fieldloom/fieldloom/Flag" "CLEAR" "Lcom/example/fieldloom/fieldloom/Flag;" (.ref fL) := S_fL.ext E1
  have f7 : Exa Z h1 x0 "java/lang/String" := hE1.ext E1
  have f8 : Fld Z h1 x0 "java/lang/String" "coder" "B" (.int (0 : Int32)) := hFc1.ext E1
  have f9 : Fld Z h1 x0 "java/lang/String" "value" "[B" (.ref vb1) := hFv1.ext E1
  have f10 : Arv Z h1 vb1 vk1 .byte (5 : Int32) (own_sF.map Value.int) (.int (0 : Int32)) := hV1.ext E1
  have K1 : Keep h0 h1 [] := (Keep.refl h0 []).ext E1
  have Zs1 : n0 ≤ h1.size := Nat.le_trans Z0 K1.1
  have C1 := C0.trans C1a
  refine own_st (T' := T1) (F' := (mkF m 3 #[.val (.ref o), .val (.ref x0)] [(.ref a1), (.ref x0)])) (fun _ k => st1 _ k) ?_
  obtain ⟨_, _, ⟨T11, L11, k11, n11⟩, -, X11, ⟨Lc11, hQ11, l11, y11, z11⟩, st11⟩ := callSN X1 hx (y := (⟨"com/example/fieldloom/fieldloom/Kind", "equalsIgnoringAsciiCase", "(Ljava/lang/CharSequence;Ljava/lang/String;)Z"⟩ : MethodName)) hown (Cond.methodLinkNest_wide hZ (hw _ (List.mem_of_getElem? (i := 104) rfl)) :) (mvT hZ (hw _ (List.mem_of_getElem? (i := 105) rfl))) (mvT hZ (hw _ (List.mem_of_getElem? (i := 6) rfl))) (mvT hZ (hw _ (List.mem_of_getElem? (i := 106) rfl))) (by decide) (backOf (W := 0) (rm12 l Z a0 hw [] x0 a1 cs fv vb1 vk1 (5 : Int32) own_sF b1 kk1 (4 : Int32) own_sT h1 n0 Zs1 f2 hcs f3 hfv f7 f8 f9 f10 A1 f1a f1b V1) hZ (hw _ (List.mem_of_getElem? (i := 106) rfl)) (hw _ (List.mem_of_getElem? (i := 6) rfl)) (by decide) (by decide)) (g := (mkF m 3 #[.val (.ref o), .val (.ref x0)] [(.ref a1), (.ref x0)])) rfl (by rw [hml]; rfl) (argsL := [(.ref x0), (.ref a1)]) (rest := []) (lenOf own_pd7 rfl) rfl (by show 2 * 0 + _ ≤ _; exact Nat.le_of_eq rfl) (hb hby d11tF_3) (fun _ _ => ⟨rfl, e1, (by decide : 2 + 0 ≤ _), (by decide : 20 + 0 ≤ _)⟩)
  dsimp only [Pt.U, Pt.locs, Pt.cells, Pt.slots] at X11 l11 y11 z11 st11 hQ11
  subst l11 y11 z11
  obtain ⟨⟨r11, rfl, hr11⟩, Nq11, eq11⟩ := hQ11
  have N11 := Fr.app N0 Nq11
  refine own_tr (T' := T11) (F' := (mkF m 6 #[.val (.ref o), .val (.ref x0)] [(.int r11)])) st11 ?_
  obtain rfl : r11 = (0 : Int32) := hr11.2.1 (by decide)
  refine own_ifc X11 hx (pc' := 18) (pc2 := 9) (hb hby d11tF_6) (by decide) (by decide) rfl (fun (hc6 : ¬ ((0 : Int32) = (0 : Int32))) => ?_) (fun (hc6 : (0 : Int32) = (0 : Int32)) => ?_)
  · exact absurd hc6 (by decide)
  refine own_st (T' := T11) (F' := (mkF m 10 #[.val (.ref o), .val (.ref x0)] [(.ref x0)])) (fun _ k => XS.aloadN X11.here hx rfl (hb hby d11tF_9) rfl rfl k) ?_
  obtain ⟨a12, T12, h12, k12, b12, kk12, X12, e12, E12, hS12, hk12, hZ, hown, A12, f12a, f12b, V12, lt12a, lt12b, C12a, Lt12, Sf12, st12⟩ := ldcCH X11 hx hZ hown (hw _ (List.mem_of_getElem? (i := 153) rfl)) wS eq11 hS1 hk1 hEL (List.mem_of_getElem? (i := 3) rfl) C1.1 (vs := (own_sY.map Value.int)) (z := (3 : Int32)) (own_lit3) (by decide) (by decide) (g := (mkF m 10 #[.val (.ref o), .val (.ref x0)] [(.ref x0)])) rfl (hb hby d11tF_10) (n := 12) (by decide) (by decide) (by decide) (by decide)
  have f13 : Sta Z h12 "java/lang/String" "COMPACT_STRINGS" "Z" (.int cs) := f2.ext E12
  have f14 : Sta Z h12 "jdk/internal/util/Preconditions" "SIOOBE_FORMATTER" "Ljava/util/function/BiFunction;" fv := f3.ext E12
  have f15 : Sta Z h12 "com/example/fieldloom/fieldloom/Flag" "UNKNOWN" "Lcom/example/fieldloom/fieldloom/Flag;" (.ref fU) := f4.ext E12
  have f16 : Sta Z h12 "com/example/fieldloom/fieldloom/Flag" "SET" "Lcom/example/fieldloom/fieldloom/Flag;" (.ref fS) := f5.ext E12
  have f17 : Sta Z h12 "com/example/fieldloom/fieldloom/Flag" "CLEAR" "Lcom/example/fieldloom/fieldloom/Flag;" (.ref fL) := f6.ext E12
  have f18 : Exa Z h12 x0 "java/lang/String" := f7.ext E12
  have f19 : Fld Z h12 x0 "java/lang/String" "coder" "B" (.int (0 : Int32)) := f8.ext E12
  have f20 : Fld Z h12 x0 "java/lang/String" "value" "[B" (.ref vb1) := f9.ext E12
  have f21 : Arv Z h12 vb1 vk1 .byte (5 : Int32) (own_sF.map Value.int) (.int (0 : Int32)) := f10.ext E12
  have f22 : Exa Z h12 a1 "java/lang/String" := A1.ext E12
  have f23 : Fld Z h12 a1 "java/lang/String" "coder" "B" (.int (0 : Int32)) := f1a.ext E12
  have f24 : Fld Z h12 a1 "java/lang/String" "value" "[B" (.ref b1) := f1b.ext E12
  have f25 : Arv Z h12 b1 kk1 .byte (4 : Int32) (own_sT.map Value.int) (.int (0 : Int32)) := V1.ext E12
  have K12 : Keep h0 h12 [] := K1.ext E12
  have Zs12 : n0 ≤ h12.size := Nat.le_trans Z0 K12.1
  have C12 := C1.trans C12a
  refine own_st (T' := T12) (F' := (mkF m 12 #[.val (.ref o), .val (.ref x0)] [(.ref a12), (.ref x0)])) (fun _ k => st12 _ k) ?_
  obtain ⟨_, _, ⟨T26, L26, k26, n26⟩, -, X26, ⟨Lc26, hQ26, l26, y26, z26⟩, st26⟩ := callSN X12 hx (y := (⟨"com/example/fieldloom/fieldloom/Kind", "equalsIgnoringAsciiCase", "(Ljava/lang/CharSequence;Ljava/lang/String;)Z"⟩ : MethodName)) hown (Cond.methodLinkNest_wide hZ (hw _ (List.mem_of_getElem? (i := 104) rfl)) :) (mvT hZ (hw _ (List.mem_of_getElem? (i := 105) rfl))) (mvT hZ (hw _ (List.mem_of_getElem? (i := 6) rfl))) (mvT hZ (hw _ (List.mem_of_getElem? (i := 106) rfl))) (by decide) (backOf (W := 0) (rm12 l Z a0 hw [] x0 a12 cs fv vb1 vk1 (5 : Int32) own_sF b12 kk12 (3 : Int32) own_sY h12 n0 Zs12 f13 hcs f14 hfv f18 f19 f20 f21 A12 f12a f12b V12) hZ (hw _ (List.mem_of_getElem? (i := 106) rfl)) (hw _ (List.mem_of_getElem? (i := 6) rfl)) (by decide) (by decide)) (g := (mkF m 12 #[.val (.ref o), .val (.ref x0)] [(.ref a12), (.ref x0)])) rfl (by rw [hml]; rfl) (argsL := [(.ref x0), (.ref a12)]) (rest := []) (lenOf own_pd7 rfl) rfl (by show 2 * 0 + _ ≤ _; exact Nat.le_of_eq rfl) (hb hby d11tF_12) (fun _ _ => ⟨rfl, e12, (by decide : 4 + 0 ≤ _), (by decide : 36 + 0 ≤ _)⟩)
  dsimp only [Pt.U, Pt.locs, Pt.cells, Pt.slots] at X26 l26 y26 z26 st26 hQ26
  subst l26 y26 z26
  obtain ⟨⟨r26, rfl, hr26⟩, Nq26, eq26⟩ := hQ26
  have N26 := Fr.app N11 Nq26
  refine own_tr (T' := T26) (F' := (mkF m 15 #[.val (.ref o), .val (.ref x0)] [(.int r26)])) st26 ?_
  obtain rfl : r26 = (0 : Int32) := hr26.2.1 (by decide)
  refine own_ifc X26 hx (pc' := 22) (pc2 := 18) (hb hby d11tF_15) (by decide) (by decide) rfl (fun (hc15 : (0 : Int32) = (0 : Int32)) => ?_) (fun (hc15 : ¬ ((0 : Int32) = (0 : Int32))) => ?_)
  rotate_left
  · exact absurd hc15 (by decide)
  refine own_st (T' := T26) (F' := (mkF m 23 #[.val (.ref o), .val (.ref x0)] [(.ref x0)])) (fun _ k => XS.aloadN X26.here hx rfl (hb hby d11tF_22) rfl rfl k) ?_
  obtain ⟨a27, T27, h27, k27, b27, kk27, X27, e27, E27, hS27, hk27, hZ, hown, A27, f27a, f27b, V27, lt27a, lt27b, C27a, Lt27, Sf27, st27⟩ := ldcCH X26 hx hZ hown (hw _ (List.mem_of_getElem? (i := 154) rfl)) wS eq26 hS12 hk12 hEL (List.mem_of_getElem? (i := 4) rfl) C12.1 (vs := (own_sF.map Value.int)) (z := (5 : Int32)) (own_lit4) (by decide) (by decide) (g := (mkF m 23 #[.val (.ref o), .val (.ref x0)] [(.ref x0)])) rfl (hb hby d11tF_23) (n := 20) (by decide) (by decide) (by decide) (by decide)
  have f28 : Sta Z h27 "java/lang/String" "COMPACT_STRINGS" "Z" (.int cs) := f13.ext E27
  have f29 : Sta Z h27 "jdk/internal/util/Preconditions" "SIOOBE_FORMATTER" "Ljava/util/function/BiFunction;" fv := f14.ext E27
  have f30 : Sta Z h27 "com/example/fieldloom/fieldloom/Flag" "UNKNOWN" "Lcom/example/fieldloom/fieldloom/Flag;" (.ref fU) := f15.ext E27
  have f31 : Sta Z h27 "com/example/fieldloom/fieldloom/Flag" "SET" "Lcom/example/fieldloom/fieldloom/Flag;" (.ref fS) := f16.ext E27
  have f32 : Sta Z h27 "com/example/fieldloom/fieldloom/Flag" "CLEAR" "Lcom/example/fieldloom/fieldloom/Flag;" (.ref fL) := f17.ext E27
  have f33 : Exa Z h27 x0 "java/lang/String" := f18.ext E27
  have f34 : Fld Z h27 x0 "java/lang/String" "coder" "B" (.int (0 : Int32)) := f19.ext E27
  have f35 : Fld Z h27 x0 "java/lang/String" "value" "[B" (.ref vb1) := f20.ext E27
  have f36 : Arv Z h27 vb1 vk1 .byte (5 : Int32) (own_sF.map Value.int) (.int (0 : Int32)) := f21.ext E27
  have f37 : Exa Z h27 a1 "java/lang/String" := f22.ext E27
  have f38 : Fld Z h27 a1 "java/lang/String" "coder" "B" (.int (0 : Int32)) := f23.ext E27
  have f39 : Fld Z h27 a1 "java/lang/String" "value" "[B" (.ref b1) := f24.ext E27
  have f40 : Arv Z h27 b1 kk1 .byte (4 : Int32) (own_sT.map Value.int) (.int (0 : Int32)) := f25.ext E27
  have f41 : Exa Z h27 a12 "java/lang/String" := A12.ext E27
  have f42 : Fld Z h27 a12 "java/lang/String" "coder" "B" (.int (0 : Int32)) := f12a.ext E27
  have f43 : Fld Z h27 a12 "java/lang/String" "value" "[B" (.ref b12) := f12b.ext E27
  have f44 : Arv Z h27 b12 kk12 .byte (3 : Int32) (own_sY.map Value.int) (.int (0 : Int32)) := V12.ext E27
  have K27 : Keep h0 h27 [] := K12.ext E27
  have Zs27 : n0 ≤ h27.size := Nat.le_trans Z0 K27.1
  have C27 := C12.trans C27a
  refine own_st (T' := T27) (F' := (mkF m 25 #[.val (.ref o), .val (.ref x0)] [(.ref a27), (.ref x0)])) (fun _ k => st27 _ k) ?_
  obtain ⟨_, _, ⟨T45, L45, k45, n45⟩, -, X45, ⟨Lc45, hQ45, l45, y45, z45⟩, st45⟩ := callSN X27 hx (y := (⟨"com/example/fieldloom/fieldloom/Kind", "equalsIgnoringAsciiCase", "(Ljava/lang/CharSequence;Ljava/lang/String;)Z"⟩ : MethodName)) hown (Cond.methodLinkNest_wide hZ (hw _ (List.mem_of_getElem? (i := 104) rfl)) :) (mvT hZ (hw _ (List.mem_of_getElem? (i := 105) rfl))) (mvT hZ (hw _ (List.mem_of_getElem? (i := 6) rfl))) (mvT hZ (hw _ (List.mem_of_getElem? (i := 106) rfl))) (by decide) (backOf (W := 0) (rm12 l Z a0 hw [] x0 a27 cs fv vb1 vk1 (5 : Int32) own_sF b27 kk27 (5 : Int32) own_sF h27 n0 Zs27 f28 hcs f29 hfv f33 f34 f35 f36 A27 f27a f27b V27) hZ (hw _ (List.mem_of_getElem? (i := 106) rfl)) (hw _ (List.mem_of_getElem? (i := 6) rfl)) (by decide) (by decide)) (g := (mkF m 25 #[.val (.ref o), .val (.ref x0)] [(.ref a27), (.ref x0)])) rfl (by rw [hml]; rfl) (argsL := [(.ref x0), (.ref a27)]) (rest := []) (lenOf own_pd7 rfl) rfl (by show 2 * 0 + _ ≤ _; exact Nat.le_of_eq rfl) (hb hby d11tF_25) (fun _ _ => ⟨rfl, e27, (by decide : 6 + 0 ≤ _), (by decide : 60 + 0 ≤ _)⟩)
  dsimp only [Pt.U, Pt.locs, Pt.cells, Pt.slots] at X45 l45 y45 z45 st45 hQ45
  subst l45 y45 z45
  obtain ⟨⟨r45, rfl, hr45⟩, Nq45, eq45⟩ := hQ45
  have N45 := Fr.app N26 Nq45
  refine own_tr (T' := T45) (F' := (mkF m 28 #[.val (.ref o), .val (.ref x0)] [(.int r45)])) st45 ?_
  obtain rfl : r45 = (1 : Int32) := hr45.2.2 rfl (own_all_own_sF)
  refine own_ifc X45 hx (pc' := 40) (pc2 := 31) (hb hby d11tF_28) (by decide) (by decide) rfl (fun (hc28 : ¬ ((1 : Int32) = (0 : Int32))) => ?_) (fun (hc28 : (1 : Int32) = (0 : Int32)) => ?_)
  rotate_left
  · exact absurd hc28 (by decide)
  obtain ⟨T46, X46, e46, st46⟩ := getS2 X45 hx hZ hown (host := "") (Or.inl (hw _ (List.mem_of_getElem? (i := 155) rfl))) Via.refl eq45 f32 (g := (mkF m 40 #[.val (.ref o), .val (.ref x0)] [])) rfl (hb hby d11tF_40)
  refine own_st (T' := T46) (F' := (mkF m 43 #[.val (.ref o), .val (.ref x0)] [(.ref fL)])) (fun _ k => st46 _ k) ?_
  refine own_sretA X46 hx hS27 (by rw [e46]; exact hk27) hlk (t := (.object "com/example/fieldloom/fieldloom/Flag")) Bd.returns rfl rfl rfl (hb hby d11tF_43) ?_ (by rw [e46]; exact C27.trans (CHv.at X46 hZ hEL C27.1)) (by decide) (by decide)
  rw [e46]
  refine ⟨⟨_, rfl, ?_⟩, N45, K27⟩
  rfl
theorem d11ts_0 : decode prog_45_method_3_code 0 = .ok (.aload_n 1, 1) := by decide +kernel
theorem d11ts_1 : decode prog_45_method_3_code 1 = .ok (.ldc 29, 2) := by decide +kernel
theorem d11ts_3 : decode prog_45_method_3_code 3 = .ok (.invokestatic 31, 3) := by decide +kernel
theorem d11ts_6 : decode prog_45_method_3_code 6 = .ok (.ifCond .ne 12, 3) := by decide +kernel
theorem d11ts_9 : decode prog_45_method_3_code 9 = .ok (.aload_n 1, 1) := by decide +kernel
theorem d11ts_10 : decode prog_45_method_3_code 10 = .ok (.ldc 35, 2) := by decide +kernel
theorem d11ts_12 : decode prog_45_method_3_code 12 = .ok (.invokestatic 31, 3) := by decide +kernel
theorem d11ts_15 : decode prog_45_method_3_code 15 = .ok (.ifCond .eq 7, 3) := by decide +kernel
theorem d11ts_18 : decode prog_45_method_3_code 18 = .ok (.getstatic 37, 3) := by decide +kernel
theorem d11ts_21 : decode prog_45_method_3_code 21 = .ok (.areturn, 1) := by decide +kernel
theorem d11ts_22 : decode prog_45_method_3_code 22 = .ok (.aload_n 1, 1) := by decide +kernel
theorem d11ts_23 : decode prog_45_method_3_code 23 = .ok (.ldc 40, 2) := by decide +kernel
theorem d11ts_25 : decode prog_45_method_3_code 25 = .ok (.invokestatic 31, 3) := by decide +kernel
theorem d11ts_28 : decode prog_45_method_3_code 28 = .ok (.ifCond .ne 12, 3) := by decide +kernel
theorem d11ts_31 : decode prog_45_method_3_code 31 = .ok (.aload_n 1, 1) := by decide +kernel
theorem d11ts_32 : decode prog_45_method_3_code 32 = .ok (.ldc 42, 2) := by decide +kernel
theorem d11ts_34 : decode prog_45_method_3_code 34 = .ok (.invokestatic 31, 3) := by decide +kernel
theorem d11ts_37 : decode prog_45_method_3_code 37 = .ok (.ifCond .eq 7, 3) := by decide +kernel
theorem d11ts_40 : decode prog_45_method_3_code 40 = .ok (.getstatic 44, 3) := by decide +kernel
theorem d11ts_43 : decode prog_45_method_3_code 43 = .ok (.areturn, 1) := by decide +kernel
theorem d11ts_44 : decode prog_45_method_3_code 44 = .ok (.getstatic 13, 3) := by decide +kernel
theorem d11ts_47 : decode prog_45_method_3_code 47 = .ok (.areturn, 1) := by decide +kernel
theorem own_pn11ts : plainName "com/example/fieldloom/fieldloom/Kind$4" = true := by first | (simp [plainName, overriddenIn]; done) | decide +kernel
theorem own_ef11ts (m : MethodId) (o : Addr) (x0 : Addr) : entryFrame m #[(.ref o), (.ref x0)] 2 = (mkF m 0 #[.val (.ref o), .val (.ref x0)] []) := by first | (simp [entryFrame, mkF, argsToLocals, Value.category]; done) | rfl
def Q11ts (Z : State) (o : Addr) (x0 : Addr) (cs : Int32) (fv : Value) (fU : Addr) (fS : Addr) (fL : Addr) (vb1 : Addr) (vk1 : ClassId) (vn1 : Int32) (vg1 : List Int32) (h0 : Heap) (n0 : Nat) (v : Option Value) (h : Heap) (L : List Loc) : Prop := (∃ z : Addr, v = some (.ref z) ∧ (True)) ∧ Fr n0 L ∧ Keep h0 h []
set_option maxRecDepth 65536 in
set_option maxHeartbeats 40000000 in
theorem rm11ts (l : Launch) (Z : State) (a0 : Array Value) (hw : ∀ d ∈ tables_1, d.before a0 Z = true) (ws : List Jvm.Cond) (o : Addr) (x0 : Addr) (cs : Int32) (fv : Value) (fU : Addr) (fS : Addr) (fL : Addr) (vb1 : Addr) (vk1 : ClassId) (vn1 : Int32) (vg1 : List Int32) (h0 : Heap) (n0 : Nat) (Z0 : n0 ≤ h0.size) (S_cs : Sta Z h0 "java/lang/String" "COMPACT_STRINGS" "Z" (.int cs)) (hcs : ¬ (cs = 0)) (S_f : Sta Z h0 "jdk/internal/util/Preconditions" "SIOOBE_FORMATTER" "Ljava/util/function/BiFunction;" fv) (hfv : fv.isRef = true) (S_fU : Sta Z h0 "com/example/fieldloom/fieldloom/Flag" "UNKNOWN" "Lcom/example/fieldloom/fieldloom/Flag;" (.ref fU)) (S_fS : Sta Z h0 "com/example/fieldloom/fieldloom/Flag" "SET" "Lcom/example/fieldloom/fieldloom/Flag;" (.ref fS)) (S_fL : Sta Z h0 "com/example/fieldloom/fieldloom/Flag" "CLEAR" "Lcom/example/fieldloom/fieldloom/Flag;" (.ref fL)) (hE1 : Exa Z h0 x0 "java/lang/String") (hFc1 : Fld Z h0 x0 "java/lang/String" "coder" "B" (.int (0 : Int32))) (hFv1 : Fld Z h0 x0 "java/lang/String" "value" "[B" (.ref vb1)) (hV1 : Arv Z h0 vb1 vk1 .byte vn1 (vg1.map Value.int) (.int (0 : Int32))) :
    MetFree l (⟨"com/example/fieldloom/fieldloom/Kind$4", "flag", "(Ljava/lang/CharSequence;)Lcom/example/fieldloom/fieldloom/Flag;"⟩ : MethodName) (head1 (Jvm.Cond.code (⟨"com/example/fieldloom/fieldloom/Kind$4", "flag", "(Ljava/lang/CharSequence;)Lcom/example/fieldloom/fieldloom/Flag;"⟩ : MethodName) prog_45_method_3_code 2 (some (.object "com/example/fieldloom/fieldloom/Flag")) :: ws) ({ frames := 5, cells := 8, slots := 72, locals := 70 } : Room)) (fun a U => a = #[(.ref o), (.ref x0)] ∧ Z.Warmed39 U.vm ∧ U.heap = h0 ∧ CHv Z own_EL U.vm h0) (fun _ _ _ _ _ => True) (fun _ U oc U' => ∃ v L, oc = .returned v ∧ Q11ts Z o x0 cs fv fU fS fL vb1 vk1 vn1 vg1 h0 n0 v U'.heap L ∧ CHr Z own_EL U.vm U.heap U'.vm U'.heap ∧ ReturnedEndW U oc U' L ({ frames := 5, cells := 8, slots := 72, locals := 70 } : Room).cells ({ frames := 5, cells := 8, slots := 72, locals := 70 } : Room).slots) := by
  refine MetFree.of_bodySF (plainFor_of_name own_pn11ts) hisR ?_
  intro p e s m args below meth c s₁ Bd hml0 hP hK
  obtain ⟨rfl, hZ, hh, hCH0⟩ := hP
  have hx := Bd.exec
  have hby := Bd.bytes
  have hlk : meth.locks = false := BodyLoose.notSynchronized Bd
  have hml : c.maxLocals = 2 := hml0
  have hown : s.vm.findClass "com/example/fieldloom/fieldloom/Kind$4" = some m.cls := findClass_of_methodNamed Bd.named
  have hnm := (name_of_methodNamed Bd.named Bd.method).1
  have X0 : Stand p l e ({ frames := 5, cells := 8, slots := 72, locals := 70 } : Room) (s.setVm s.vm) m #[(.ref o), (.ref x0)] below meth c s₁ [] 0 0 := Stand.of_body Bd
  have e0 : s₁.heap = h0 := by rw [← hh, Bd.state]; rfl
  have N0 := Fr.nil n0
  have hS0 : s.Since s.vm 0 := (State.WarmedH.refl s).since 0
  have hk0 : 0 ≤ h0.size := Nat.zero_le _
  have C0 : CHr Z own_EL s.vm s.heap s.vm h0 := by rw [hh]; exact CHr.refl hCH0
  have hEL : EW Z a0 own_EL := own_hEL hw
  have wS := own_wS hw
  refine own_enter (own_ef11ts m o x0) ?_
  show own_Go p e below (own_ES s Z own_EL (Q11ts Z o x0 cs fv fU fS fL vb1 vk1 vn1 vg1 h0 n0) ({ frames := 5, cells := 8, slots := 72, locals := 70 } : Room).cells ({ frames := 5, cells := 8, slots := 72, locals := 70 } : Room).slots) s₁ (mkF m 0 #[.val (.ref o), .val (.ref x0)] [])
  refine own_st (T' := s₁) (F' := (mkF m 1 #[.val (.ref o), .val (.ref x0)] [(.ref x0)])) (fun _ k => XS.aloadN X0.here hx rfl (hb hby d11ts_0) rfl rfl k) ?_
  obtain ⟨a1, T1, h1, k1, b1, kk1, X1, e1, E1, hS1, hk1, hZ, hown, A1, f1a, f1b, V1, lt1a, lt1b, C1a, Lt1, Sf1, st1⟩ := ldcCH X0 hx hZ hown (hw _ (List.mem_of_getElem? (i := 103) rfl)) wS e0 hS0 hk0 hEL (List.mem_of_getElem? (i := 2) rfl) C0.1 (vs := (own_sT.map Value.int)) (z := (4 : Int32)) (own_lit2) (by decide) (by decide) (g := (mkF m 1 #[.val (.ref o), .val (.ref x0)] [(.ref x0)])) rfl (hb hby d11ts_1) (n := 16) (by decide) (by decide) (by decide) (by decide)
  have f2 : Sta Z h1 "java/lang/String" "COMPACT_STRINGS" "Z" (.int cs) := S_cs.ext E1
  have f3 : Sta Z h1 "jdk/internal/util/Preconditions" "SIOOBE_FORMATTER" "Ljava/util/function/BiFunction;" fv := S_f.ext E1
  have f4 : Sta Z h1 "com/example/fieldloom/fieldloom/Flag" "UNKNOWN" "Lcom/example/fieldloom/fieldloom/Flag;" (.ref fU) := S_fU.ext E1
  have f5 : Sta Z h1 "com/example/fieldloom/fieldloom/Flag" "SET" "Lcom/example/fieldloom/fieldloom/Flag;" (.ref fS) := S_fS.ext E1
  have f6 : Sta Z h1 "com/example/fieldloom/fieldloom/Flag" "CLEAR" "Lcom/example/fieldloom/fieldloom/Flag;" (.ref fL) := S_fL.ext E1
  have f7 : Exa Z h1 x0 "java/lang/String" := hE1.ext E1
  have f8 : Fld Z h1 x0 "java/lang/String" "coder" "B" (.int (0 : Int32)) := hFc1.ext E1
  have f9 : Fld Z h1 x0 "java/lang/String" "value" "[B" (.ref vb1) := hFv1.ext E1
  have f10 : Arv Z h1 vb1 vk1 .byte vn1 (vg1.map Value.int) (.int (0 : Int32)) := hV1.ext E1
  have K1 : Keep h0 h1 [] := (Keep.refl h0 []).ext E1
  have Zs1 : n0 ≤ h1.size := Nat.le_trans Z0 K1.1
  have C1 := C0.trans C1a
  refine own_st (T' := T1) (F' := (mkF m 3 #[.val (.ref o), .val (.ref x0)] [(.ref a1), (.ref x0)])) (fun _ k => st1 _ k) ?_
  obtain ⟨_, _, ⟨T11, L11, k11, n11⟩, -, X11, ⟨Lc11, hQ11, l11, y11, z11⟩, st11⟩ := callSN X1 hx (y := (⟨"com/example/fieldloom/fieldloom/Kind", "equalsIgnoringAsciiCase", "(Ljava/lang/CharSequence;Ljava/lang/String;)Z"⟩ : MethodName)) hown (Cond.methodLinkNest_wide hZ (hw _ (List.mem_of_getElem? (i := 104) rfl)) :) (mvT hZ (hw _ (List.mem_of_getElem? (i := 105) rfl))) (mvT hZ (hw _ (List.mem_of_getElem? (i := 6) rfl))) (mvT hZ (hw _ (List.mem_of_getElem? (i := 106) rfl))) (by decide) (backOf (W := 0) (rm12 l Z a0 hw [] x0 a1 cs fv vb1 vk1 vn1 vg1 b1 kk1 (4 : Int32) own_sT h1 n0 Zs1 f2 hcs f3 hfv f7 f8 f9 f10 A1 f1a f1b V1) hZ (hw _ (List.mem_of_getElem? (i := 106) rfl)) (hw _ (List.mem_of_getElem? (i := 6) rfl)) (by decide) (by decide)) (g := (mkF m 3 #[.val (.ref o), .val (.ref x0)] [(.ref a1), (.ref x0)])) rfl (by rw [hml]; rfl) (argsL := [(.ref x0), (.ref a1)]) (rest := []) (lenOf own_pd7 rfl) rfl (by show 2 * 0 + _ ≤ _; exact Nat.le_of_eq rfl) (hb hby d11ts_3) (fun _ _ => ⟨rfl, e1, (by decide : 2 + 0 ≤ _), (by decide : 20 + 0 ≤ _)⟩)
  dsimp only [Pt.U, Pt.locs, Pt.cells, Pt.slots] at X11 l11 y11 z11 st11 hQ11
  subst l11 y11 z11
  obtain ⟨⟨r11, rfl, hr11⟩, Nq11, eq11⟩ := hQ11
  have N11 := Fr.app N0 Nq11
  refine own_tr (T' := T11) (F' := (mkF m 6 #[.val (.ref o), .val (.ref x0)] [(.int r11)])) st11 ?_
  refine own_ifc X11 hx (pc' := 18) (pc2 := 9) (hb hby d11ts_6) (by decide) (by decide) rfl (fun (hc6 : ¬ (r11 = (0 : Int32))) => ?_) (fun (hc6 : r11 = (0 : Int32)) => ?_)
  ·
    obtain ⟨T12, X12, e12, st12⟩ := getS2 X11 hx hZ hown (host := "") (Or.inl (hw _ (List.mem_of_getElem? (i := 152) rfl))) Via.refl eq11 f5 (g := (mkF m 18 #[.val (.ref o), .val (.ref x0)] [])) rfl (hb hby d11ts_18)
    refine own_st (T' := T12) (F' := (mkF m 21 #[.val (.ref o), .val (.ref x0)] [(.ref fS)])) (fun _ k => st12 _ k) ?_
    refine own_sretA X12 hx hS1 (by rw [e12]; exact hk1) hlk (t := (.object "com/example/fieldloom/fieldloom/Flag")) Bd.returns rfl rfl rfl (hb hby d11ts_21) ?_ (by rw [e12]; exact C1.trans (CHv.at X12 hZ hEL C1.1)) (by decide) (by decide)
    rw [e12]
    refine ⟨⟨_, rfl, ?_⟩, N11, K1⟩
    trivial
  ·
    refine own_st (T' := T11) (F' := (mkF m 10 #[.val (.ref o), .val (.ref x0)] [(.ref x0)])) (fun _ k => XS.aloadN X11.here hx rfl (hb hby d11ts_9) rfl rfl k) ?_
    obtain ⟨a13, T13, h13, k13, b13, kk13, X13, e13, E13, hS13, hk13, hZ, hown, A13, f13a, f13b, V13, lt13a, lt13b, C13a, Lt13, Sf13, st13⟩ := ldcCH X11 hx hZ hown (hw _ (List.mem_of_getElem? (i := 153) rfl)) wS eq11 hS1 hk1 hEL (List.mem_of_getElem? (i := 3) rfl) C1.1 (vs := (own_sY.map Value.int)) (z := (3 : Int32)) (own_lit3) (by decide) (by decide) (g := (mkF m 10 #[.val (.ref o), .val (.ref x0)] [(.ref x0)])) rfl (hb hby d11ts_10) (n := 12) (by decide) (by decide) (by decide) (by decide)
    have f14 : Sta Z h13 "java/lang/String" "COMPACT_STRINGS" "Z" (.int cs) := f2.ext E13
    have f15 : Sta Z h13 "jdk/internal/util/Preconditions" "SIOOBE_FORMATTER" "Ljava/util/function/BiFunction;" fv := f3.ext E13
    have f16 : Sta Z h13 "com/example/fieldloom/fieldloom/Flag" "UNKNOWN" "Lcom/example/fieldloom/fieldloom/Flag;" (.ref fU) := f4.ext E13
    have f17 : Sta Z h13 "com/example/fieldloom/fieldloom/Flag" "SET" "Lcom/example/fieldloom/fieldloom/Flag;" (.ref fS) := f5.ext E13
    have f18 : Sta Z h13 "com/example/fieldloom/fieldloom/Flag" "CLEAR" "Lcom/example/fieldloom/fieldloom/Flag;" (.ref fL) := f6.ext E13
    have f19 : Exa Z h13 x0 "java/lang/String" := f7.ext E13
    have f20 : Fld Z h13 x0 "java/lang/String" "coder" "B" (.int (0 : Int32)) := f8.ext E13
    have f21 : Fld Z h13 x0 "java/lang/String" "value" "[B" (.ref vb1) := f9.ext E13
    have f22 : Arv Z h13 vb1 vk1 .byte vn1 (vg1.map Value.int) (.int (0 : Int32)) := f10.ext E13
    have f23 : Exa Z h13 a1 "java/lang/String" := A1.ext E13
    have f24 : Fld Z h13 a1 "java/lang/String" "coder" "B" (.int (0 : Int32)) := f1a.ext E13
    have f25 : Fld Z h13 a1 "java/lang/String" "value" "[B" (.ref b1) := f1b.ext E13
    have f26 : Arv Z h13 b1 kk1 .byte (4 : Int32) (own_sT.map Value.int) (.int (0 : Int32)) := V1.ext E13
    have K13 : Keep h0 h13 [] := K1.ext E13
    have Zs13 : n0 ≤ h13.size := Nat.le_trans Z0 K13.1
    have C13 := C1.trans C13a
    refine own_st (T' := T13) (F' := (mkF m 12 #[.val (.ref o), .val (.ref x0)] [(.ref a13), (.ref x0)])) (fun _ k => st13 _ k) ?_
    obtain ⟨_, _, ⟨T27, L27, k27, n27⟩, -, X27, ⟨Lc27, hQ27, l27, y27, z27⟩, st27⟩ := callSN X13 hx (y := (⟨"com/example/fieldloom/fieldloom/Kind", "equalsIgnoringAsciiCase", "(Ljava/lang/CharSequence;Ljava/lang/String;)Z"⟩ : MethodName)) hown (Cond.methodLinkNest_wide hZ (hw _ (List.mem_of_getElem? (i := 104) rfl)) :) (mvT hZ (hw _ (List.mem_of_getElem? (i := 105) rfl))) (mvT hZ (hw _ (List.mem_of_getElem? (i := 6) rfl))) (mvT hZ (hw _ (List.mem_of_getElem? (i := 106) rfl))) (by decide) (backOf (W := 0) (rm12 l Z a0 hw [] x0 a13 cs fv vb1 vk1 vn1 vg1 b13 kk13 (3 : Int32) own_sY h13 n0 Zs13 f14 hcs f15 hfv f19 f20 f21 f22 A13 f13a f13b V13) hZ (hw _ (List.mem_of_getElem? (i := 106) rfl)) (hw _ (List.mem_of_getElem? (i := 6) rfl)) (by decide) (by decide)) (g := (mkF m 12 #[.val (.ref o), .val (.ref x0)] [(.ref a13), (.ref x0)])) rfl (by rw [hml]; rfl) (argsL := [(.ref x0), (.ref a13)]) (rest := []) (lenOf own_pd7 rfl) rfl (by show 2 * 0 + _ ≤ _; exact Nat.le_of_eq rfl) (hb hby d11ts_12) (fun _ _ => ⟨rfl, e13, (by decide : 4 + 0 ≤ _), (by decide : 36 + 0 ≤ _)⟩)
    dsimp only [Pt.U, Pt.locs, Pt.cells, Pt.slots] at X27 l27 y27 z27 st27 hQ27
    subst l27 y27 z27
    obtain ⟨⟨r27, rfl, hr27⟩, Nq27, eq27⟩ := hQ27
    have N27 := Fr.app N11 Nq27
    refine own_tr (T' := T27) (F' := (mkF m 15 #[.val (.ref o), .val (.ref x0)] [(.int r27)])) st27 ?_
    refine own_ifc X27 hx (pc' := 22) (pc2 := 18) (hb hby d11ts_15) (by decide) (by decide) rfl (fun (hc15 : r27 = (0 : Int32)) => ?_) (fun (hc15 : ¬ (r27 = (0 : Int32))) => ?_)
    ·
      refine own_st (T' := T27) (F' := (mkF m 23 #[.val (.ref o), .val (.ref x0)] [(.ref x0)])) (fun _ k => XS.aloadN X27.here hx rfl (hb hby d11ts_22) rfl rfl k) ?_
      obtain ⟨a28, T28, h28, k28, b28, kk28, X28, e28, E28, hS28, hk28, hZ, hown, A28, f28a, f28b, V28, lt28a, lt28b, C28a, Lt28, Sf28, st28⟩ := ldcCH X27 hx hZ hown (hw _ (List.mem_of_getElem? (i := 154) rfl)) wS eq27 hS13 hk13 hEL (List.mem_of_getElem? (i := 4) rfl) C13.1 (vs := (own_sF.map Value.int)) (z := (5 : Int32)) (own_lit4) (by decide) (by decide) (g := (mkF m 23 #[.val (.ref o), .val (.ref x0)] [(.ref x0)])) rfl (hb hby d11ts_23) (n := 20) (by decide) (by decide) (by decide) (by decide)
      have f29 : Sta Z h28 "java/lang/String" "COMPACT_STRINGS" "Z" (.int cs) := f14.ext E28
      have f30 : Sta Z h28 "jdk/internal/util/Preconditions" "SIOOBE_FORMATTER" "Ljava/util/function/BiFunction;" fv := f15.ext E28
      have f31 : Sta Z h28 "com/example/fieldloom/fieldloom/Flag" "UNKNOWN" "Lcom/example/fieldloom/fieldloom/Flag;" (.ref fU) := f16.ext E28
      have f32 : Sta Z h28 "com/example/fieldloom/fieldloom/Flag" "SET" "Lcom/example/fieldloom/fieldloom/Flag;" (.ref fS) := f17.ext E28
      have f33 : Sta Z h28 "com/example/fieldloom/fieldloom/Flag" "CLEAR" "Lcom/example/fieldloom/fieldloom/Flag;" (.ref fL) := f18.ext E28
      have f34 : Exa Z h28 x0 "java/lang/String" := f19.ext E28
      have f35 : Fld Z h28 x0 "java/lang/String" "coder" "B" (.int (0 : Int32)) := f20.ext E28
      have f36 : Fld Z h28 x0 "java/lang/String" "value" "[B" (.ref vb1) := f21.ext E28
      have f37 : Arv Z h28 vb1 vk1 .byte vn1 (vg1.map Value.int) (.int (0 : Int32)) := f22.ext E28
      have f38 : Exa Z h28 a1 "java/lang/String" := f23.ext E28
      have f39 : Fld Z h28 a1 "java/lang/String" "coder" "B" (.int (0 : Int32)) := f24.ext E28
      have f40 : Fld Z h28 a1 "java/lang/String" "value" "[B" (.ref b1) := f25.ext E28
      have f41 : Arv Z h28 b1 kk1 .byte (4 : Int32) (own_sT.map Value.int) (.int (0 : Int32)) := f26.ext E28
      have f42 : Exa Z h28 a13 "java/lang/String" := A13.ext E28
      have f43 : Fld Z h28 a13 "java/lang/String" "coder" "B" (.int (0 : Int32)) := f13a.ext E28
      have f44 : Fld Z h28 a13 "java/lang/String" "value" "[B" (.ref b13) := f13b.ext E28
      have f45 : Arv Z h28 b13 kk13 .byte (3 : Int32) (own_sY.map Value.int) (.int (0 : Int32)) := V13.ext E28
      have K28 : Keep h0 h28 [] := K13.ext E28
      have Zs28 : n0 ≤ h28.size := Nat.le_trans Z0 K28.1
      have C28 := C13.trans C28a
      refine own_st (T' := T28) (F' := (mkF m 25 #[.val (.ref o), .val (.ref x0)] [(.ref a28), (.ref x0)])) (fun _ k => st28 _ k) ?_
      obtain ⟨_, _, ⟨T46, L46, k46, n46⟩, -, X46, ⟨Lc46, hQ46, l46, y46, z46⟩, st46⟩ := callSN X28 hx (y := (⟨"com/example/fieldloom/fieldloom/Kind", "equalsIgnoringAsciiCase", "(Ljava/lang/CharSequence;Ljava/lang/String;)Z"⟩ : MethodName)) hown (Cond.methodLinkNest_wide hZ (hw _ (List.mem_of_getElem? (i := 104) rfl)) :) (mvT hZ (hw _ (List.mem_of_getElem? (i := 105) rfl))) (mvT hZ (hw _ (List.mem_of_getElem? (i := 6) rfl))) (mvT hZ (hw _ (List.mem_of_getElem? (i := 106) rfl))) (by decide) (backOf (W := 0) (rm12 l Z a0 hw [] x0 a28 cs fv vb1 vk1 vn1 vg1 b28 kk28 (5 : Int32) own_sF h28 n0 Zs28 f29 hcs f30 hfv f34 f35 f36 f37 A28 f28a f28b V28) hZ (hw _ (List.mem_of_getElem? (i := 106) rfl)) (hw _ (List.mem_of_getElem? (i := 6) rfl)) (by decide) (by decide)) (g := (mkF m 25 #[.val (.ref o), .val (.ref x0)] [(.ref a28), (.ref x0)])) rfl (by rw [hml]; rfl) (argsL := [(.ref x0), (.ref a28)]) (rest := []) (lenOf own_pd7 rfl) rfl (by show 2 * 0 + _ ≤ _; exact Nat.le_of_eq rfl) (hb hby d11ts_25) (fun _ _ => ⟨rfl, e28, (by decide : 6 + 0 ≤ _), (by decide : 60 + 0 ≤ _)⟩)
      dsimp only [Pt.U, Pt.locs, Pt.cells, Pt.slots] at X46 l46 y46 z46 st46 hQ46
      subst l46 y46 z46
      obtain ⟨⟨r46, rfl, hr46⟩, Nq46, eq46⟩ := hQ46
      have N46 := Fr.app N27 Nq46
      refine own_tr (T' := T46) (F' := (mkF m 28 #[.val (.ref o), .val (.ref x0)] [(.int r46)])) st46 ?_
      refine own_ifc X46 hx (pc' := 40) (pc2 := 31) (hb hby d11ts_28) (by decide) (by decide) rfl (fun (hc28 : ¬ (r46 = (0 : Int32))) => ?_) (fun (hc28 : r46 = (0 : Int32)) => ?_)
      ·
        obtain ⟨T47, X47, e47, st47⟩ := getS2 X46 hx hZ hown (host := "") (Or.inl (hw _ (List.mem_of_getElem? (i := 155) rfl))) Via.refl eq46 f33 (g := (mkF m 40 #[.val (.ref o), .val (.ref x0)] [])) rfl (hb hby d11ts_40)
        refine own_st (T' := T47) (F' := (mkF m 43 #[.val (.ref o), .val (.ref x0)] [(.ref fL)])) (fun _ k => st47 _ k) ?_
        refine own_sretA X47 hx hS28 (by rw [e47]; exact hk28) hlk (t := (.object "com/example/fieldloom/fieldloom/Flag")) Bd.returns rfl rfl rfl (hb hby d11ts_43) ?_ (by rw [e47]; exact C28.trans (CHv.at X47 hZ hEL C28.1)) (by decide) (by decide)
        rw [e47]
        refine ⟨⟨_, rfl, ?_⟩, N46, K28⟩
        trivial
      ·
        refine own_st (T' := T46) (F' := (mkF m 32 #[.val (.ref o), .val (.ref x0)] [(.ref x0)])) (fun _ k => XS.aloadN X46.here hx rfl (hb hby d11ts_31) rfl rfl k) ?_
        obtain ⟨a48, T48, h48, k48, b48, kk48, X48, e48, E48, hS48, hk48, hZ, hown, A48, f48a, f48b, V48, lt48a, lt48b, C48a, Lt48, Sf48, st48⟩ := ldcCH X46 hx hZ hown (hw _ (List.mem_of_getElem? (i := 156) rfl)) wS eq46 hS28 hk28 hEL (List.mem_of_getElem? (i := 5) rfl) C28.1 (vs := (own_sN.map Value.int)) (z := (2 : Int32)) (own_lit5) (by decide) (by decide) (g := (mkF m 32 #[.val (.ref o), .val (.ref x0)] [(.ref x0)])) rfl (hb hby d11ts_32) (n := 8) (by decide) (by decide) (by decide) (by decide)
        have f49 : Sta Z h48 "java/lang/String" "COMPACT_STRINGS" "Z" (.int cs) := f29.ext E48
        have f50 : Sta Z h48 "jdk/internal/util/Preconditions" "SIOOBE_FORMATTER" "Ljava/util/function/BiFunction;" fv := f30.ext E48
        have f51 : Sta Z h48 "com/example/fieldloom/fieldloom/Flag" "UNKNOWN" "Lcom/example/fieldloom/fieldloom/Flag;" (.ref fU) := f31.ext E48
        have f52 : Sta Z h48 "com/example/fieldloom/fieldloom/Flag" "SET" "Lcom/example/fieldloom/fieldloom/Flag;" (.ref fS) := f32.ext E48
        have f53 : Sta Z h48 "com/example/fieldloom/fieldloom/Flag" "CLEAR" "Lcom/example/fieldloom/fieldloom/Flag;" (.ref fL) := f33.ext E48
        have f54 : Exa Z h48 x0 "java/lang/String" := f34.ext E48
        have f55 : Fld Z h48 x0 "java/lang/String" "coder" "B" (.int (0 : Int32)) := f35.ext E48
        have f56 : Fld Z h48 x0 "java/lang/String" "value" "[B" (.ref vb1) := f36.ext E48
        have f57 : Arv Z h48 vb1 vk1 .byte vn1 (vg1.map Value.int) (.int (0 : Int32)) := f37.ext E48
        have f58 : Exa Z h48 a1 "java/lang/String" := f38.ext E48
        have f59 : Fld Z h48 a1 "java/lang/String" "coder" "B" (.int (0 : Int32)) := f39.ext E48
        have f60 : Fld Z h48 a1 "java/lang/String" "value" "[B" (.ref b1) := f40.ext E48
        have f61 : Arv Z h48 b1 kk1 .byte (4 : Int32) (own_sT.map Value.int) (.int (0 : Int32)) := f41.ext E48
        have f62 : Exa Z h48 a13 "java/lang/String" := f42.ext E48
        have f63 : Fld Z h48 a13 "java/lang/String" "coder" "B" (.int (0 : Int32)) := f43.ext E48
        have f64 : Fld Z h48 a13 "java/lang/String" "value" "[B" (.ref b13) := f44.ext E48
        have f65 : Arv Z h48 b13 kk13 .byte (3 : Int32) (own_sY.map Value.int) (.int (0 : Int32)) := f45.ext E48
        have f66 : Exa Z h48 a28 "java/lang/String" := A28.ext E48
        have f67 : Fld Z h48 a28 "java/lang/String" "coder" "B" (.int (0 : Int32)) := f28a.ext E48
        have f68 : Fld Z h48 a28 "java/lang/String" "value" "[B" (.ref b28) := f28b.ext E48
        have f69 : Arv Z h48 b28 kk28 .byte (5 : Int32) (own_sF.map Value.int) (.int (0 : Int32)) := V28.ext E48
        have K48 : Keep h0 h48 [] := K28.ext E48
        have Zs48 : n0 ≤ h48.size := Nat.le_trans Z0 K48.1
        have C48 := C28.trans C48a
        refine own_st (T' := T48) (F' := (mkF m 34 #[.val (.ref o), .val (.ref x0)] [(.ref a48), (.ref x0)])) (fun _ k => st48 _ k) ?_
        obtain ⟨_, _, ⟨T70, L70, k70, n70⟩, -, X70, ⟨Lc70, hQ70, l70, y70, z70⟩, st70⟩ := callSN X48 hx (y := (⟨"com/example/fieldloom/fieldloom/Kind", "equalsIgnoringAsciiCase", "(Ljava/lang/CharSequence;Ljava/lang/String;)Z"⟩ : MethodName)) hown (Cond.methodLinkNest_wide hZ (hw _ (List.mem_of_getElem? (i := 104) rfl)) :) (mvT hZ (hw _ (List.mem_of_getElem? (i := 105) rfl))) (mvT hZ (hw _ (List.mem_of_getElem? (i := 6) rfl))) (mvT hZ (hw _ (List.mem_of_getElem? (i := 106) rfl))) (by decide) (backOf (W := 0) (rm12 l Z a0 hw [] x0 a48 cs fv vb1 vk1 vn1 vg1 b48 kk48 (2 : Int32) own_sN h48 n0 Zs48 f49 hcs f50 hfv f54 f55 f56 f57 A48 f48a f48b V48) hZ (hw _ (List.mem_of_getElem? (i := 106) rfl)) (hw _ (List.mem_of_getElem? (i := 6) rfl)) (by decide) (by decide)) (g := (mkF m 34 #[.val (.ref o), .val (.ref x0)] [(.ref a48), (.ref x0)])) rfl (by rw [hml]; rfl) (argsL := [(.ref x0), (.ref a48)]) (rest := []) (lenOf own_pd7 rfl) rfl (by show 2 * 0 + _ ≤ _; exact Nat.le_of_eq rfl) (hb hby d11ts_34) (fun _ _ => ⟨rfl, e48, (by decide : 8 + 0 ≤ _), (by decide : 72 + 0 ≤ _)⟩)
        dsimp only [Pt.U, Pt.locs, Pt.cells, Pt.slots] at X70 l70 y70 z70 st70 hQ70
        subst l70 y70 z70
        obtain ⟨⟨r70, rfl, hr70⟩, Nq70, eq70⟩ := hQ70
        have N70 := Fr.app N46 Nq70
        refine own_tr (T' := T70) (F' := (mkF m 37 #[.val (.ref o), .val (.ref x0)] [(.int r70)])) st70 ?_
        refine own_ifc X70 hx (pc' := 44) (pc2 := 40) (hb hby d11ts_37) (by decide) (by decide) rfl (fun (hc37 : r70 = (0 : Int32)) => ?_) (fun (hc37 : ¬ (r70 = (0 : Int32))) => ?_)
        ·
          obtain ⟨T71, X71, e71, st71⟩ := getS2 X70 hx hZ hown (host := "") (Or.inl (hw _ (List.mem_of_getElem? (i := 157) rfl))) Via.refl eq70 f51 (g := (mkF m 44 #[.val (.ref o), .val (.ref x0)] [])) rfl (hb hby d11ts_44)
          refine own_st (T' := T71) (F' := (mkF m 47 #[.val (.ref o), .val (.ref x0)] [(.ref fU)])) (fun _ k => st71 _ k) ?_
          refine own_sretA X71 hx hS48 (by rw [e71]; exact hk48) hlk (t := (.object "com/example/fieldloom/fieldloom/Flag")) Bd.returns rfl rfl rfl (hb hby d11ts_47) ?_ (by rw [e71]; exact C48.trans (CHv.at X71 hZ hEL C48.1)) (by decide) (by decide)
          rw [e71]
          refine ⟨⟨_, rfl, ?_⟩, N70, K48⟩
          trivial
        ·
          obtain ⟨T72, X72, e72, st72⟩ := getS2 X70 hx hZ hown (host := "") (Or.inl (hw _ (List.mem_of_getElem? (i := 155) rfl))) Via.refl eq70 f53 (g := (mkF m 40 #[.val (.ref o), .val (.ref x0)] [])) rfl (hb hby d11ts_40)
          refine own_st (T' := T72) (F' := (mkF m 43 #[.val (.ref o), .val (.ref x0)] [(.ref fL)])) (fun _ k => st72 _ k) ?_
          refine own_sretA X72 hx hS48 (by rw [e72]; exact hk48) hlk (t := (.object "com/example/fieldloom/fieldloom/Flag")) Bd.returns rfl rfl rfl (hb hby d11ts_43) ?_ (by rw [e72]; exact C48.trans (CHv.at X72 hZ hEL C48.1)) (by decide) (by decide)
          rw [e72]
          refine ⟨⟨_, rfl, ?_⟩, N70, K48⟩
          trivial
    ·
      obtain ⟨T73, X73, e73, st73⟩ := getS2 X27 hx hZ hown (host := "") (Or.inl (hw _ (List.mem_of_getElem? (i := 152) rfl))) Via.refl eq27 f17 (g := (mkF m 18 #[.val (.ref o), .val (.ref x0)] [])) rfl (hb hby d11ts_18)
      refine own_st (T' := T73) (F' := (mkF m 21 #[.val (.ref o), .val (.ref x0)] [(.ref fS)])) (fun _ k => st73 _ k) ?_
      refine own_sretA X73 hx hS13 (by rw [e73]; exact hk13) hlk (t := (.object "com/example/fieldloom/fieldloom/Flag")) Bd.returns rfl rfl rfl (hb hby d11ts_21) ?_ (by rw [e73]; exact C13.trans (CHv.at X73 hZ hEL C13.1)) (by decide) (by decide)
      rw [e73]
      refine ⟨⟨_, rfl, ?_⟩, N27, K13⟩
      trivial
theorem d7t1_0 : decode jdk_52_method_21_code 0 = .ok (.iconst 0, 1) := by decide +kernel
theorem d7t1_1 : decode jdk_52_method_21_code 1 = .ok (.istore 5, 2) := by decide +kernel
theorem d7t1_3 : decode jdk_52_method_21_code 3 = .ok (.iload 5, 2) := by decide +kernel
theorem d7t1_5 : decode jdk_52_method_21_code 5 = .ok (.iload 4, 2) := by decide +kernel
theorem d7t1_7 : decode jdk_52_method_21_code 7 = .ok (.if_icmp .ge 37, 3) := by decide +kernel
theorem d7t1_10 : decode jdk_52_method_21_code 10 = .ok (.aload_n 0, 1) := by decide +kernel
theorem d7t1_11 : decode jdk_52_method_21_code 11 = .ok (.iload_n 1, 1) := by decide +kernel
theorem d7t1_12 : decode jdk_52_method_21_code 12 = .ok (.caload, 1) := by decide +kernel
theorem d7t1_13 : decode jdk_52_method_21_code 13 = .ok (.istore 6, 2) := by decide +kernel
theorem d7t1_15 : decode jdk_52_method_21_code 15 = .ok (.iload 6, 2) := by decide +kernel
theorem d7t1_17 : decode jdk_52_method_21_code 17 = .ok (.sipush 255, 3) := by decide +kernel
theorem d7t1_20 : decode jdk_52_method_21_code 20 = .ok (.if_icmp .le 6, 3) := by decide +kernel
theorem d7t1_26 : decode jdk_52_method_21_code 26 = .ok (.aload_n 2, 1) := by decide +kernel
theorem d7t1_27 : decode jdk_52_method_21_code 27 = .ok (.iload_n 3, 1) := by decide +kernel
theorem d7t1_28 : decode jdk_52_method_21_code 28 = .ok (.iload 6, 2) := by decide +kernel
theorem d7t1_30 : decode jdk_52_method_21_code 30 = .ok (.i2b, 1) := by decide +kernel
theorem d7t1_31 : decode jdk_52_method_21_code 31 = .ok (.bastore, 1) := by decide +kernel
theorem d7t1_32 : decode jdk_52_method_21_code 32 = .ok (.iinc 1 1, 3) := by decide +kernel
theorem d7t1_35 : decode jdk_52_method_21_code 35 = .ok (.iinc 3 1, 3) := by decide +kernel
theorem d7t1_38 : decode jdk_52_method_21_code 38 = .ok (.iinc 5 1, 3) := by decide +kernel
theorem d7t1_41 : decode jdk_52_method_21_code 41 = .ok (.goto (-38), 3) := by decide +kernel
theorem d7t1_44 : decode jdk_52_method_21_code 44 = .ok (.iload 4, 2) := by decide +kernel
theorem d7t1_46 : decode jdk_52_method_21_code 46 = .ok (.ireturn, 1) := by decide +kernel
theorem own_pn7t1 : plainName "java/lang/StringUTF16" = true := by first | (simp [plainName, overriddenIn]; done) | decide +kernel
theorem own_ef7t1 (m : MethodId) (x0 : Addr) (x2 : Addr) : entryFrame m #[(.ref x0), (.int (0 : Int32)), (.ref x2), (.int (0 : Int32)), (.int (1 : Int32))] 7 = (mkF m 0 #[.val (.ref x0), .val (.int (0 : Int32)), .val (.ref x2), .val (.int (0 : Int32)), .val (.int (1 : Int32)), .unset, .unset] []) := by first | (simp [entryFrame, mkF, argsToLocals, Value.category]; done) | rfl
def Q7t1 (Z : State) (x0 : Addr) (x2 : Addr) (vkc : ClassId) (vkb : ClassId) (cc0 : Int32) (h0 : Heap) (n0 : Nat) (v : Option Value) (h : Heap) (L : List Loc) : Prop := v = some (.int (1 : Int32)) ∧ Fr n0 L ∧ Keep h0 h [x2] ∧ Arv Z h x2 vkb .byte (1 : Int32) [(.int ((cc0.toInt8.toInt32).toInt8.toInt32))] (.int (0 : Int32))
set_option maxRecDepth 65536 in
set_option maxHeartbeats 40000000 in
theorem rm7t1 (l : Launch) (Z : State) (a0 : Array Value) (hw : ∀ d ∈ tables_1, d.before a0 Z = true) (ws : List Jvm.Cond) (x0 : Addr) (x2 : Addr) (vkc : ClassId) (vkb : ClassId) (cc0 : Int32) (h0 : Heap) (n0 : Nat) (Z0 : n0 ≤ h0.size) (hge : n0 ≤ x2) (hno : x2 ≠ x0) (V_c : Arv Z h0 x0 vkc .char (1 : Int32) [(.int cc0)] (.int (0 : Int32))) (V_b : Arv Z h0 x2 vkb .byte (1 : Int32) [(.int (0 : Int32))] (.int (0 : Int32))) (h255_0 : ¬ ((255 : Int32) < cc0)) :
    MetFree l (⟨"java/lang/StringUTF16", "compress", "([CI[BII)I"⟩ : MethodName) (head1 (Jvm.Cond.code (⟨"java/lang/StringUTF16", "compress", "([CI[BII)I"⟩ : MethodName) jdk_52_method_21_code 7 (some .int) :: ws) ({ frames := 0, cells := 0, slots := 0, locals := 0 } : Room)) (fun a U => a = #[(.ref x0), (.int (0 : Int32)), (.ref x2), (.int (0 : Int32)), (.int (1 : Int32))] ∧ Z.Warmed39 U.vm ∧ U.heap = h0) (fun _ _ _ _ _ => True) (fun _ U oc U' => ∃ v L, oc = .returned v ∧ Q7t1 Z x0 x2 vkc vkb cc0 h0 n0 v U'.heap L ∧ FrameEnd U oc U' L ({ frames := 0, cells := 0, slots := 0, locals := 0 } : Room).cells ({ frames := 0, cells := 0, slots := 0, locals := 0 } : Room).slots) := by
  refine MetFree.of_bodySF (plainFor_of_name own_pn7t1) hisR ?_
  intro p e s m args below meth c s₁ Bd hml0 hP hK
  obtain ⟨rfl, hZ, hh⟩ := hP
  have hx := Bd.exec
  have hby := Bd.bytes
  have hlk : meth.locks = false := BodyLoose.notSynchronized Bd
  have hml : c.maxLocals = 7 := hml0
  have hown : s.vm.findClass "java/lang/StringUTF16" = some m.cls := findClass_of_methodNamed Bd.named
  have hnm := (name_of_methodNamed Bd.named Bd.method).1
  have X0 : Stand p l e ({ frames := 0, cells := 0, slots := 0, locals := 0 } : Room) s m #[(.ref x0), (.int (0 : Int32)), (.ref x2), (.int (0 : Int32)), (.int (1 : Int32))] below meth c s₁ [] 0 0 := Stand.of_body Bd
  have e0 : s₁.heap = h0 := by rw [← hh, Bd.state]; rfl
  have N0 := Fr.nil n0
  refine own_enter (own_ef7t1 m x0 x2) ?_
  show own_Go p e below (own_E s (Q7t1 Z x0 x2 vkc vkb cc0 h0 n0) ({ frames := 0, cells := 0, slots := 0, locals := 0 } : Room).cells ({ frames := 0, cells := 0, slots := 0, locals := 0 } : Room).slots) s₁ (mkF m 0 #[.val (.ref x0), .val (.int (0 : Int32)), .val (.ref x2), .val (.int (0 : Int32)), .val (.int (1 : Int32)), .unset, .unset] [])
  refine own_st (T' := s₁) (F' := (mkF m 1 #[.val (.ref x0), .val (.int (0 : Int32)), .val (.ref x2), .val (.int (0 : Int32)), .val (.int (1 : Int32)), .unset, .unset] [(.int (0 : Int32))])) (fun _ k => XS.iconst X0.here hx rfl (hb hby d7t1_0) k) ?_
  refine own_st (T' := s₁) (F' := (mkF m 3 #[.val (.ref x0), .val (.int (0 : Int32)), .val (.ref x2), .val (.int (0 : Int32)), .val (.int (1 : Int32)), .val (.int (0 : Int32)), .unset] [])) (fun _ k => XS.istore X0.here hx rfl (hb hby d7t1_1) rfl (l' := #[.val (.ref x0), .val (.int (0 : Int32)), .val (.ref x2), .val (.int (0 : Int32)), .val (.int (1 : Int32)), .val (.int (0 : Int32)), .unset]) rfl k) ?_
  refine own_st (T' := s₁) (F' := (mkF m 5 #[.val (.ref x0), .val (.int (0 : Int32)), .val (.ref x2), .val (.int (0 : Int32)), .val (.int (1 : Int32)), .val (.int (0 : Int32)), .unset] [(.int (0 : Int32))])) (fun _ k => XS.iload X0.here hx rfl (hb hby d7t1_3) rfl  k) ?_
  refine own_st (T' := s₁) (F' := (mkF m 7 #[.val (.ref x0), .val (.int (0 : Int32)), .val (.ref x2), .val (.int (0 : Int32)), .val (.int (1 : Int32)), .val (.int (0 : Int32)), .unset] [(.int (1 : Int32)), (.int (0 : Int32))])) (fun _ k => XS.iload X0.here hx rfl (hb hby d7t1_5) rfl  k) ?_
  refine own_icmp X0 hx (pc' := 44) (pc2 := 10) (hb hby d7t1_7) (by decide) (by decide) rfl (fun (hc7_1 : ¬ ((0 : Int32) < (1 : Int32))) => ?_) (fun (hc7_1 : (0 : Int32) < (1 : Int32)) => ?_)
  · exact absurd hc7_1 (by decide)
  refine own_st (T' := s₁) (F' := (mkF m 11 #[.val (.ref x0), .val (.int (0 : Int32)), .val (.ref x2), .val (.int (0 : Int32)), .val (.int (1 : Int32)), .val (.int (0 : Int32)), .unset] [(.ref x0)])) (fun _ k => XS.aloadN X0.here hx rfl (hb hby d7t1_10) rfl rfl k) ?_
  refine own_st (T' := s₁) (F' := (mkF m 12 #[.val (.ref x0), .val (.int (0 : Int32)), .val (.ref x2), .val (.int (0 : Int32)), .val (.int (1 : Int32)), .val (.int (0 : Int32)), .unset] [(.int (0 : Int32)), (.ref x0)])) (fun _ k => XS.iloadN X0.here hx rfl (hb hby d7t1_11) rfl  k) ?_
  obtain ⟨cl2, Ar2, Aq2, As2, Am2, Ah2, Au2⟩ := id V_c
  have hin2 : ¬ ((0 : Int32) < 0 ∨ cl2.slots.size ≤ ((0 : Int32)).toNatClampNeg) := inb_of As2 ⟨by decide, by decide⟩
  have hat2 : cl2.slots[((0 : Int32)).toNatClampNeg]? = some (.int cc0) := Ah2.at hin2 (rfl)
  refine own_st (T' := s₁) (F' := (mkF m 13 #[.val (.ref x0), .val (.int (0 : Int32)), .val (.ref x2), .val (.int (0 : Int32)), .val (.int (1 : Int32)), .val (.int (0 : Int32)), .unset] [(.int cc0)])) (fun _ k => X0.caload hx (j := (0 : Int32)) (v := (.int cc0)) (by rw [e0]; exact Ar2.1) (State.isArrayOf_alike hZ.alike Ar2.2.1) Ar2.2.2 hin2 hat2 (g := (mkF m 12 #[.val (.ref x0), .val (.int (0 : Int32)), .val (.ref x2), .val (.int (0 : Int32)), .val (.int (1 : Int32)), .val (.int (0 : Int32)), .unset] [(.int (0 : Int32)), (.ref x0)])) rfl rfl (hb hby d7t1_12) _ k) ?_
  refine own_st (T' := s₁) (F' := (mkF m 15 #[.val (.ref x0), .val (.int (0 : Int32)), .val (.ref x2), .val (.int (0 : Int32)), .val (.int (1 : Int32)), .val (.int (0 : Int32)), .val (.int cc0)] [])) (fun _ k => XS.istore X0.here hx rfl (hb hby d7t1_13) rfl (l' := #[.val (.ref x0), .val (.int (0 : Int32)), .val (.ref x2), .val (.int (0 : Int32)), .val (.int (1 : Int32)), .val (.int (0 : Int32)), .val (.int cc0)]) rfl k) ?_
  refine own_st (T' := s₁) (F' := (mkF m 17 #[.val (.ref x0), .val (.int (0 : Int32)), .val (.ref x2), .val (.int (0 : Int32)), .val (.int (1 : Int32)), .val (.int (0 : Int32)), .val (.int cc0)] [(.int cc0)])) (fun _ k => XS.iload X0.here hx rfl (hb hby d7t1_15) rfl  k) ?_
  refine own_st (T' := s₁) (F' := (mkF m 20 #[.val (.ref x0), .val (.int (0 : Int32)), .val (.ref x2), .val (.int (0 : Int32)), .val (.int (1 : Int32)), .val (.int (0 : Int32)), .val (.int cc0)] [(.int (255 : Int32)), (.int cc0)])) (fun _ k => XS.sipush X0.here hx rfl (hb hby d7t1_17) k) ?_
  refine own_icmp X0 hx (pc' := 26) (pc2 := 23) (hb hby d7t1_20) (by decide) (by decide) rfl (fun (hc20_3 : ¬ ((255 : Int32) < cc0)) => ?_) (fun (hc20_3 : (255 : Int32) < cc0) => ?_)
  ·
    refine own_st (T' := s₁) (F' := (mkF m 27 #[.val (.ref x0), .val (.int (0 : Int32)), .val (.ref x2), .val (.int (0 : Int32)), .val (.int (1 : Int32)), .val (.int (0 : Int32)), .val (.int cc0)] [(.ref x2)])) (fun _ k => XS.aloadN X0.here hx rfl (hb hby d7t1_26) rfl rfl k) ?_
    refine own_st (T' := s₁) (F' := (mkF m 28 #[.val (.ref x0), .val (.int (0 : Int32)), .val (.ref x2), .val (.int (0 : Int32)), .val (.int (1 : Int32)), .val (.int (0 : Int32)), .val (.int cc0)] [(.int (0 : Int32)), (.ref x2)])) (fun _ k => XS.iloadN X0.here hx rfl (hb hby d7t1_27) rfl  k) ?_
    refine own_st (T' := s₁) (F' := (mkF m 30 #[.val (.ref x0), .val (.int (0 : Int32)), .val (.ref x2), .val (.int (0 : Int32)), .val (.int (1 : Int32)), .val (.int (0 : Int32)), .val (.int cc0)] [(.int cc0), (.int (0 : Int32)), (.ref x2)])) (fun _ k => XS.iload X0.here hx rfl (hb hby d7t1_28) rfl  k) ?_
    refine own_st (T' := s₁) (F' := (mkF m 31 #[.val (.ref x0), .val (.int (0 : Int32)), .val (.ref x2), .val (.int (0 : Int32)), .val (.int (1 : Int32)), .val (.int (0 : Int32)), .val (.int cc0)] [(.int (cc0.toInt8.toInt32)), (.int (0 : Int32)), (.ref x2)])) (fun _ k => XS.i2b X0.here hx rfl (hb hby d7t1_30) rfl k) ?_
    obtain ⟨cl4, Ar4, Aq4, As4, Am4, Ah4, Au4⟩ := id V_b
    have hin4 : ¬ ((0 : Int32) < 0 ∨ cl4.slots.size ≤ ((0 : Int32)).toNatClampNeg) := inb_of As4 ⟨by decide, by decide⟩
    obtain ⟨T4, h4, X4, e4, W4, st4⟩ := stB X0 hx hZ e0 Ar4 (j := (0 : Int32)) hin4 (g := (mkF m 31 #[.val (.ref x0), .val (.int (0 : Int32)), .val (.ref x2), .val (.int (0 : Int32)), .val (.int (1 : Int32)), .val (.int (0 : Int32)), .val (.int cc0)] [(.int (cc0.toInt8.toInt32)), (.int (0 : Int32)), (.ref x2)])) rfl rfl (hb hby d7t1_31)
    have V4 : Arv Z h4 x2 vkb .byte (1 : Int32) [(.int ((cc0.toInt8.toInt32).toInt8.toInt32))] (.int (0 : Int32)) := Arv.set Ar4 Aq4 As4 Am4 Ah4 Au4 (fits_nar_byte _) W4 0 rfl (show 0 < 1 by decide)
    have N4 := Fr.snoc X4 N0 hge
    have f5 : Arv Z h4 x0 vkc .char (1 : Int32) [(.int cc0)] (.int (0 : Int32)) := V_c.other W4 (Ne.symm hno)
    have K4 : Keep h0 h4 [x2] := (Keep.refl h0 [x2]).wr W4 (Or.inl (List.mem_of_getElem? (i := 0) rfl))
    have Zs4 : n0 ≤ h4.size := Nat.le_trans Z0 K4.1
    refine own_st (T' := T4) (F' := (mkF m 32 #[.val (.ref x0), .val (.int (0 : Int32)), .val (.ref x2), .val (.int (0 : Int32)), .val (.int (1 : Int32)), .val (.int (0 : Int32)), .val (.int cc0)] [])) (fun _ k => st4 _ k) ?_
    refine own_st (T' := T4) (F' := (mkF m 35 #[.val (.ref x0), .val (.int (1 : Int32)), .val (.ref x2), .val (.int (0 : Int32)), .val (.int (1 : Int32)), .val (.int (0 : Int32)), .val (.int cc0)] [])) (fun _ k => XS.iinc X4.here hx rfl (hb hby d7t1_32) rfl (l' := #[.val (.ref x0), .val (.int (1 : Int32)), .val (.ref x2), .val (.int (0 : Int32)), .val (.int (1 : Int32)), .val (.int (0 : Int32)), .val (.int cc0)]) rfl k) ?_
    refine own_st (T' := T4) (F' := (mkF m 38 #[.val (.ref x0), .val (.int (1 : Int32)), .val (.ref x2), .val (.int (1 : Int32)), .val (.int (1 : Int32)), .val (.int (0 : Int32)), .val (.int cc0)] [])) (fun _ k => XS.iinc X4.here hx rfl (hb hby d7t1_35) rfl (l' := #[.val (.ref x0), .val (.int (1 : Int32)), .val (.ref x2), .val (.int (1 : Int32)), .val (.int (1 : Int32)), .val (.int (0 : Int32)), .val (.int cc0)]) rfl k) ?_
    refine own_st (T' := T4) (F' := (mkF m 41 #[.val (.ref x0), .val (.int (1 : Int32)), .val (.ref x2), .val (.int (1 : Int32)), .val (.int (1 : Int32)), .val (.int (1 : Int32)), .val (.int cc0)] [])) (fun _ k => XS.iinc X4.here hx rfl (hb hby d7t1_38) rfl (l' := #[.val (.ref x0), .val (.int (1 : Int32)), .val (.ref x2), .val (.int (1 : Int32)), .val (.int (1 : Int32)), .val (.int (1 : Int32)), .val (.int cc0)]) rfl k) ?_
    refine own_st (T' := T4) (F' := (mkF m 3 #[.val (.ref x0), .val (.int (1 : Int32)), .val (.ref x2), .val (.int (1 : Int32)), .val (.int (1 : Int32)), .val (.int (1 : Int32)), .val (.int cc0)] [])) (fun _ k => XS.goto X4.here hx rfl (pc0 := 41) (pc' := 3) rfl (hb hby d7t1_41) (by decide) (by decide) k) ?_
    refine own_st (T' := T4) (F' := (mkF m 5 #[.val (.ref x0), .val (.int (1 : Int32)), .val (.ref x2), .val (.int (1 : Int32)), .val (.int (1 : Int32)), .val (.int (1 : Int32)), .val (.int cc0)] [(.int (1 : Int32))])) (fun _ k => XS.iload X4.here hx rfl (hb hby d7t1_3) rfl  k) ?_
    refine own_st (T' := T4) (F' := (mkF m 7 #[.val (.ref x0), .val (.int (1 : Int32)), .val (.ref x2), .val (.int (1 : Int32)), .val (.int (1 : Int32)), .val (.int (1 : Int32)), .val (.int cc0)] [(.int (1 : Int32)), (.int (1 : Int32))])) (fun _ k => XS.iload X4.here hx rfl (hb hby d7t1_5) rfl  k) ?_
    refine own_icmp X4 hx (pc' := 44) (pc2 := 10) (hb hby d7t1_7) (by decide) (by decide) rfl (fun (hc7_6 : ¬ ((1 : Int32) < (1 : Int32))) => ?_) (fun (hc7_6 : (1 : Int32) < (1 : Int32)) => ?_)
    rotate_left
    · exact absurd hc7_6 (by decide)
    refine own_st (T' := T4) (F' := (mkF m 46 #[.val (.ref x0), .val (.int (1 : Int32)), .val (.ref x2), .val (.int (1 : Int32)), .val (.int (1 : Int32)), .val (.int (1 : Int32)), .val (.int cc0)] [(.int (1 : Int32))])) (fun _ k => XS.iload X4.here hx rfl (hb hby d7t1_44) rfl  k) ?_
    refine own_retI X4 hx hlk Bd.returns (hb hby d7t1_46) ?_ (by decide) (by decide)
    rw [e4]
    refine ⟨?_, N4, K4, V4⟩
    rfl
  ·
    first | exact absurd hc20_3 h255_0
theorem own_pd8 : parseMethodDescriptor "([CI[BII)I" = some ⟨[(.array .char), .int, (.array .byte), .int, .int], some .int⟩ := by decide +kernel
theorem d6t1_0 : decode jdk_52_method_16_code 0 = .ok (.iload_n 2, 1) := by decide +kernel
theorem d6t1_1 : decode jdk_52_method_16_code 1 = .ok (.newarray .byte, 2) := by decide +kernel
theorem d6t1_3 : decode jdk_52_method_16_code 3 = .ok (.astore_n 3, 1) := by decide +kernel
theorem d6t1_4 : decode jdk_52_method_16_code 4 = .ok (.aload_n 0, 1) := by decide +kernel
theorem d6t1_5 : decode jdk_52_method_16_code 5 = .ok (.iload_n 1, 1) := by decide +kernel
theorem d6t1_6 : decode jdk_52_method_16_code 6 = .ok (.aload_n 3, 1) := by decide +kernel
theorem d6t1_7 : decode jdk_52_method_16_code 7 = .ok (.iconst 0, 1) := by decide +kernel
theorem d6t1_8 : decode jdk_52_method_16_code 8 = .ok (.iload_n 2, 1) := by decide +kernel
theorem d6t1_9 : decode jdk_52_method_16_code 9 = .ok (.invokestatic 115, 3) := by decide +kernel
theorem d6t1_12 : decode jdk_52_method_16_code 12 = .ok (.istore 4, 2) := by decide +kernel
theorem d6t1_14 : decode jdk_52_method_16_code 14 = .ok (.iload 4, 2) := by decide +kernel
theorem d6t1_16 : decode jdk_52_method_16_code 16 = .ok (.iload_n 2, 1) := by decide +kernel
theorem d6t1_17 : decode jdk_52_method_16_code 17 = .ok (.if_icmp .eq 40, 3) := by decide +kernel
theorem d6t1_57 : decode jdk_52_method_16_code 57 = .ok (.aload_n 3, 1) := by decide +kernel
theorem d6t1_58 : decode jdk_52_method_16_code 58 = .ok (.areturn, 1) := by decide +kernel
theorem own_pn6t1 : plainName "java/lang/StringUTF16" = true := by first | (simp [plainName, overriddenIn]; done) | decide +kernel
theorem own_ef6t1 (m : MethodId) (x0 : Addr) : entryFrame m #[(.ref x0), (.int (0 : Int32)), (.int (1 : Int32))] 6 = (mkF m 0 #[.val (.ref x0), .val (.int (0 : Int32)), .val (.int (1 : Int32)), .unset, .unset, .unset] []) := by first | (simp [entryFrame, mkF, argsToLocals, Value.category]; done) | rfl
def Q6t1 (Z : State) (x0 : Addr) (vkc : ClassId) (cc0 : Int32) (h0 : Heap) (n0 : Nat) (v : Option Value) (h : Heap) (L : List Loc) : Prop := (∃ z : Addr, v = some (.ref z) ∧ (∃ vkb : ClassId, h0.size ≤ z ∧ Arv Z h z vkb .byte (1 : Int32) [(.int ((cc0.toInt8.toInt32).toInt8.toInt32))] (.int (0 : Int32)))) ∧ Fr n0 L ∧ Keep h0 h []
set_option maxRecDepth 65536 in
set_option maxHeartbeats 40000000 in
theorem rm6t1 (l : Launch) (Z : State) (a0 : Array Value) (hw : ∀ d ∈ tables_1, d.before a0 Z = true) (ws : List Jvm.Cond) (x0 : Addr) (vkc : ClassId) (cc0 : Int32) (h0 : Heap) (n0 : Nat) (Z0 : n0 ≤ h0.size) (V_c : Arv Z h0 x0 vkc .char (1 : Int32) [(.int cc0)] (.int (0 : Int32))) (h255_0 : ¬ ((255 : Int32) < cc0)) :
    MetFree l (⟨"java/lang/StringUTF16", "compress", "([CII)[B"⟩ : MethodName) (head1 (Jvm.Cond.code (⟨"java/lang/StringUTF16", "compress", "([CII)[B"⟩ : MethodName) jdk_52_method_16_code 6 (some (.array .byte)) :: ws) ({ frames := 1, cells := 1, slots := 1, locals := 18 } : Room)) (fun a U => a = #[(.ref x0), (.int (0 : Int32)), (.int (1 : Int32))] ∧ Z.Warmed39 U.vm ∧ U.heap = h0) (fun _ _ _ _ _ => True) (fun _ U oc U' => ∃ v L, oc = .returned v ∧ Q6t1 Z x0 vkc cc0 h0 n0 v U'.heap L ∧ FrameEnd U oc U' L ({ frames := 1, cells := 1, slots := 1, locals := 18 } : Room).cells ({ frames := 1, cells := 1, slots := 1, locals := 18 } : Room).slots) := by
  refine MetFree.of_bodySF (plainFor_of_name own_pn6t1) hisR ?_
  intro p e s m args below meth c s₁ Bd hml0 hP hK
  obtain ⟨rfl, hZ, hh⟩ := hP
  have hx := Bd.exec
  have hby := Bd.bytes
  have hlk : meth.locks = false := BodyLoose.notSynchronized Bd
  have hml : c.maxLocals = 6 := hml0
  have hown : s.vm.findClass "java/lang/StringUTF16" = some m.cls := findClass_of_methodNamed Bd.named
  have hnm := (name_of_methodNamed Bd.named Bd.method).1
  have X0 : Stand p l e ({ frames := 1, cells := 1, slots := 1, locals := 18 } : Room) s m #[(.ref x0), (.int (0 : Int32)), (.int (1 : Int32))] below meth c s₁ [] 0 0 := Stand.of_body Bd
  have e0 : s₁.heap = h0 := by rw [← hh, Bd.state]; rfl
  have N0 := Fr.nil n0
  refine own_enter (own_ef6t1 m x0) ?_
  show own_Go p e below (own_E s (Q6t1 Z x0 vkc cc0 h0 n0) ({ frames := 1, cells := 1, slots := 1, locals := 18 } : Room).cells ({ frames := 1, cells := 1, slots := 1, locals := 18 } : Room).slots) s₁ (mkF m 0 #[.val (.ref x0), .val (.int (0 : Int32)), .val (.int (1 : Int32)), .unset, .unset, .unset] [])
  refine own_st (T' := s₁) (F' := (mkF m 1 #[.val (.ref x0), .val (.int (0 : Int32)), .val (.int (1 : Int32)), .unset, .unset, .unset] [(.int (1 : Int32))])) (fun _ k => XS.iloadN X0.here hx rfl (hb hby d6t1_0) rfl  k) ?_
  obtain ⟨T1, h1, k1, X1, e1, E1, A1, AE1, st1⟩ := newPE X0 hx hZ (hw _ (List.mem_of_getElem? (i := 31) rfl)) e0 (g := (mkF m 1 #[.val (.ref x0), .val (.int (0 : Int32)), .val (.int (1 : Int32)), .unset, .unset, .unset] [(.int (1 : Int32))])) rfl (hb hby d6t1_1) rfl (by decide) (cap := 1) (by decide) (by decide) (by decide) (by decide) (ad := "[B") (by decide)
  obtain ⟨b1, g1⟩ : ∃ z, z = h0.size := ⟨_, rfl⟩
  rw [← g1] at A1 AE1 st1
  have ge1 : n0 ≤ b1 := by rw [g1]; exact Z0
  have hge1 : h0.size ≤ b1 := by rw [g1]; exact (Keep.refl h0 []).1
  have ne1_1 : x0 ≠ b1 := by rw [g1]; exact Nat.ne_of_lt V_c.lt
  have f2 : Arv Z h1 x0 vkc .char (1 : Int32) [(.int cc0)] (.int (0 : Int32)) := V_c.ext E1
  have K1 : Keep h0 h1 [] := (Keep.refl h0 []).ext E1
  have Zs1 : n0 ≤ h1.size := Nat.le_trans Z0 K1.1
  have V1 : Arv Z h1 b1 k1 .byte (1 : Int32) [(.int (0 : Int32))] (.int (0 : Int32)) := (Arv.new A1 (by decide)).pad (pad_rep [] (.int (0 : Int32)) 1)
  refine own_st (T' := T1) (F' := (mkF m 3 #[.val (.ref x0), .val (.int (0 : Int32)), .val (.int (1 : Int32)), .unset, .unset, .unset] [(.ref b1)])) (fun _ k => st1 _ k) ?_
  refine own_st (T' := T1) (F' := (mkF m 4 #[.val (.ref x0), .val (.int (0 : Int32)), .val (.int (1 : Int32)), .val (.ref b1), .unset, .unset] [])) (fun _ k => XS.astoreN X1.here hx rfl (hb hby d6t1_3) rfl rfl (l' := #[.val (.ref x0), .val (.int (0 : Int32)), .val (.int (1 : Int32)), .val (.ref b1), .unset, .unset]) rfl k) ?_
  refine own_st (T' := T1) (F' := (mkF m 5 #[.val (.ref x0), .val (.int (0 : Int32)), .val (.int (1 : Int32)), .val (.ref b1), .unset, .unset] [(.ref x0)])) (fun _ k => XS.aloadN X1.here hx rfl (hb hby d6t1_4) rfl rfl k) ?_
  refine own_st (T' := T1) (F' := (mkF m 6 #[.val (.ref x0), .val (.int (0 : Int32)), .val (.int (1 : Int32)), .val (.ref b1), .unset, .unset] [(.int (0 : Int32)), (.ref x0)])) (fun _ k => XS.iloadN X1.here hx rfl (hb hby d6t1_5) rfl  k) ?_
  refine own_st (T' := T1) (F' := (mkF m 7 #[.val (.ref x0), .val (.int (0 : Int32)), .val (.int (1 : Int32)), .val (.ref b1), .unset, .unset] [(.ref b1), (.int (0 : Int32)), (.ref x0)])) (fun _ k => XS.aloadN X1.here hx rfl (hb hby d6t1_6) rfl rfl k) ?_
  refine own_st (T' := T1) (F' := (mkF m 8 #[.val (.ref x0), .val (.int (0 : Int32)), .val (.int (1 : Int32)), .val (.ref b1), .unset, .unset] [(.int (0 : Int32)), (.ref b1), (.int (0 : Int32)), (.ref x0)])) (fun _ k => XS.iconst X1.here hx rfl (hb hby d6t1_7) k) ?_
  refine own_st (T' := T1) (F' := (mkF m 9 #[.val (.ref x0), .val (.int (0 : Int32)), .val (.int (1 : Int32)), .val (.ref b1), .unset, .unset] [(.int (1 : Int32)), (.int (0 : Int32)), (.ref b1), (.int (0 : Int32)), (.ref x0)])) (fun _ k => XS.iloadN X1.here hx rfl (hb hby d6t1_8) rfl  k) ?_
  obtain ⟨_, _, ⟨T3, L3, k3, n3⟩, -, X3, ⟨Lc3, hQ3, l3, y3, z3⟩, st3⟩ := Jvm.LawKit.callS X1 hx (y := (⟨"java/lang/StringUTF16", "compress", "([CI[BII)I"⟩ : MethodName)) hown (mvT hZ (hw _ (List.mem_of_getElem? (i := 32) rfl))) (mvT hZ (hw _ (List.mem_of_getElem? (i := 33) rfl))) (mvT hZ (hw _ (List.mem_of_getElem? (i := 29) rfl))) (mvT hZ (hw _ (List.mem_of_getElem? (i := 34) rfl))) (by decide) (backOf (W := 0) (rm7t1 l Z a0 hw [] x0 b1 vkc k1 cc0 h1 n0 Zs1 ge1 (Ne.symm ne1_1) f2 V1 h255_0) hZ (hw _ (List.mem_of_getElem? (i := 34) rfl)) (hw _ (List.mem_of_getElem? (i := 29) rfl)) (by decide) (by decide)) (g := (mkF m 9 #[.val (.ref x0), .val (.int (0 : Int32)), .val (.int (1 : Int32)), .val (.ref b1), .unset, .unset] [(.int (1 : Int32)), (.int (0 : Int32)), (.ref b1), (.int (0 : Int32)), (.ref x0)])) rfl (by rw [hml]; rfl) (argsL := [(.ref x0), (.int (0 : Int32)), (.ref b1), (.int (0 : Int32)), (.int (1 : Int32))]) (rest := []) (lenOf own_pd8 rfl) rfl (by show 2 * 0 + _ ≤ _; exact Nat.le_of_eq rfl) (hb hby d6t1_9) (fun _ _ => ⟨rfl, e1, (by decide : 1 + 0 ≤ _), (by decide : 1 + 0 ≤ _)⟩)
  dsimp only [Pt.U, Pt.locs, Pt.cells, Pt.slots] at X3 l3 y3 z3 st3 hQ3
  subst l3 y3 z3
  obtain ⟨rfl, Nq3, g3_0, g3_1⟩ := hQ3
  have N3 := Fr.app N0 Nq3
  have f4 : Arv Z T3.heap x0 vkc .char (1 : Int32) [(.int cc0)] (.int (0 : Int32)) := f2.keep g3_0 (ninS ne1_1 nin0)
  have f5 : Exa Z T3.heap b1 "[B" := AE1.keep g3_0
  have K3 : Keep h0 T3.heap [] := K1.trans g3_0 (allS (Or.inr hge1) all0)
  have Zs3 : n0 ≤ T3.heap.size := Nat.le_trans Z0 K3.1
  refine own_st (T' := T3) (F' := (mkF m 12 #[.val (.ref x0), .val (.int (0 : Int32)), .val (.int (1 : Int32)), .val (.ref b1), .unset, .unset] [(.int (1 : Int32))])) (fun _ k => st3 _ k) ?_
  refine own_st (T' := T3) (F' := (mkF m 14 #[.val (.ref x0), .val (.int (0 : Int32)), .val (.int (1 : Int32)), .val (.ref b1), .val (.int (1 : Int32)), .unset] [])) (fun _ k => XS.istore X3.here hx rfl (hb hby d6t1_12) rfl (l' := #[.val (.ref x0), .val (.int (0 : Int32)), .val (.int (1 : Int32)), .val (.ref b1), .val (.int (1 : Int32)), .unset]) rfl k) ?_
  refine own_st (T' := T3) (F' := (mkF m 16 #[.val (.ref x0), .val (.int (0 : Int32)), .val (.int (1 : Int32)), .val (.ref b1), .val (.int (1 : Int32)), .unset] [(.int (1 : Int32))])) (fun _ k => XS.iload X3.here hx rfl (hb hby d6t1_14) rfl  k) ?_
  refine own_st (T' := T3) (F' := (mkF m 17 #[.val (.ref x0), .val (.int (0 : Int32)), .val (.int (1 : Int32)), .val (.ref b1), .val (.int (1 : Int32)), .unset] [(.int (1 : Int32)), (.int (1 : Int32))])) (fun _ k => XS.iloadN X3.here hx rfl (hb hby d6t1_16) rfl  k) ?_
  refine own_icmp X3 hx (pc' := 57) (pc2 := 20) (hb hby d6t1_17) (by decide) (by decide) rfl (fun (hc17 : (1 : Int32) = (1 : Int32)) => ?_) (fun (hc17 : ¬ ((1 : Int32) = (1 : Int32))) => ?_)
  rotate_left
  · exact absurd hc17 (by decide)
  refine own_st (T' := T3) (F' := (mkF m 58 #[.val (.ref x0), .val (.int (0 : Int32)), .val (.int (1 : Int32)), .val (.ref b1), .val (.int (1 : Int32)), .unset] [(.ref b1)])) (fun _ k => XS.aloadN X3.here hx rfl (hb hby d6t1_57) rfl rfl k) ?_
  refine own_retA X3 hx hlk (t := (.array .byte)) Bd.returns rfl rfl rfl (hb hby d6t1_58) ?_ (by decide) (by decide)
  show Q6t1 Z x0 vkc cc0 h0 n0 _ T3.heap _
  refine ⟨⟨_, rfl, ?_⟩, N3, K3⟩
  exact ⟨_, hge1, g3_1⟩
theorem d8t1_0 : decode jdk_52_method_15_code 0 = .ok (.iload_n 1, 1) := by decide +kernel
theorem d8t1_1 : decode jdk_52_method_15_code 1 = .ok (.aload_n 0, 1) := by decide +kernel
theorem d8t1_2 : decode jdk_52_method_15_code 2 = .ok (.arraylength, 1) := by decide +kernel
theorem d8t1_3 : decode jdk_52_method_15_code 3 = .ok (.isub, 1) := by decide +kernel
theorem d8t1_4 : decode jdk_52_method_15_code 4 = .ok (.bipush 31, 2) := by decide +kernel
theorem d8t1_6 : decode jdk_52_method_15_code 6 = .ok (.iushr, 1) := by decide +kernel
theorem d8t1_7 : decode jdk_52_method_15_code 7 = .ok (.i2b, 1) := by decide +kernel
theorem d8t1_8 : decode jdk_52_method_15_code 8 = .ok (.ireturn, 1) := by decide +kernel
theorem own_pn8t1 : plainName "java/lang/StringUTF16" = true := by first | (simp [plainName, overriddenIn]; done) | decide +kernel
theorem own_ef8t1 (m : MethodId) (x0 : Addr) : entryFrame m #[(.ref x0), (.int (1 : Int32))] 2 = (mkF m 0 #[.val (.ref x0), .val (.int (1 : Int32))] []) := by first | (simp [entryFrame, mkF, argsToLocals, Value.category]; done) | rfl
def Q8t1 (Z : State) (x0 : Addr) (vkb : ClassId) (cc0 : Int32) (h0 : Heap) (n0 : Nat) (v : Option Value) (h : Heap) (L : List Loc) : Prop := v = some (.int (0 : Int32)) ∧ Fr n0 L ∧ h = h0
set_option maxRecDepth 65536 in
set_option maxHeartbeats 40000000 in
theorem rm8t1 (l : Launch) (Z : State) (a0 : Array Value) (hw : ∀ d ∈ tables_1, d.before a0 Z = true) (ws : List Jvm.Cond) (x0 : Addr) (vkb : ClassId) (cc0 : Int32) (h0 : Heap) (n0 : Nat) (Z0 : n0 ≤ h0.size) (V_b : Arv Z h0 x0 vkb .byte (1 : Int32) [(.int ((cc0.toInt8.toInt32).toInt8.toInt32))] (.int (0 : Int32))) :
    MetFree l (⟨"java/lang/StringUTF16", "coderFromArrayLen", "([BI)B"⟩ : MethodName) (head1 (Jvm.Cond.code (⟨"java/lang/StringUTF16", "coderFromArrayLen", "([BI)B"⟩ : MethodName) jdk_52_method_15_code 2 (some .byte) :: ws) ({ frames := 0, cells := 0, slots := 0, locals := 0 } : Room)) (fun a U => a = #[(.ref x0), (.int (1 : Int32))] ∧ Z.Warmed39 U.vm ∧ U.heap = h0) (fun _ _ _ _ _ => True) (fun _ U oc U' => ∃ v L, oc = .returned v ∧ Q8t1 Z x0 vkb cc0 h0 n0 v U'.heap L ∧ FrameEnd U oc U' L ({ frames := 0, cells := 0, slots := 0, locals := 0 } : Room).cells ({ frames := 0, cells := 0, slots := 0, locals := 0 } : Room).slots) := by
  refine MetFree.of_bodySF (plainFor_of_name own_pn8t1) hisR ?_
  intro p e s m args below meth c s₁ Bd hml0 hP hK
  obtain ⟨rfl, hZ, hh⟩ := hP
  have hx := Bd.exec
  have hby := Bd.bytes
  have hlk : meth.locks = false := BodyLoose.notSynchronized Bd
  have hml : c.maxLocals = 2 := hml0
  have hown : s.vm.findClass "java/lang/StringUTF16" = some m.cls := findClass_of_methodNamed Bd.named
  have hnm := (name_of_methodNamed Bd.named Bd.method).1
  have X0 : Stand p l e ({ frames := 0, cells := 0, slots := 0, locals := 0 } : Room) s m #[(.ref x0), (.int (1 : Int32))] below meth c s₁ [] 0 0 := Stand.of_body Bd
  have e0 : s₁.heap = h0 := by rw [← hh, Bd.state]; rfl
  have N0 := Fr.nil n0
  refine own_enter (own_ef8t1 m x0) ?_
  show own_Go p e below (own_E s (Q8t1 Z x0 vkb cc0 h0 n0) ({ frames := 0, cells := 0, slots := 0, locals := 0 } : Room).cells ({ frames := 0, cells := 0, slots := 0, locals := 0 } : Room).slots) s₁ (mkF m 0 #[.val (.ref x0), .val (.int (1 : Int32))] [])
  refine own_st (T' := s₁) (F' := (mkF m 1 #[.val (.ref x0), .val (.int (1 : Int32))] [(.int (1 : Int32))])) (fun _ k => XS.iloadN X0.here hx rfl (hb hby d8t1_0) rfl  k) ?_
  refine own_st (T' := s₁) (F' := (mkF m 2 #[.val (.ref x0), .val (.int (1 : Int32))] [(.ref x0), (.int (1 : Int32))])) (fun _ k => XS.aloadN X0.here hx rfl (hb hby d8t1_1) rfl rfl k) ?_
  obtain ⟨cl1, Ar1, Aq1, As1, Am1, Ah1, Au1⟩ := id V_b
  refine own_st (T' := s₁) (F' := (mkF m 3 #[.val (.ref x0), .val (.int (1 : Int32))] [(.int (1 : Int32)), (.int (1 : Int32))])) (fun _ k => X0.arraylength hx (cell := cl1) (by rw [e0]; exact Ar1.1) (State.isArrayOf_alike hZ.alike Ar1.2.1) (g := (mkF m 2 #[.val (.ref x0), .val (.int (1 : Int32))] [(.ref x0), (.int (1 : Int32))])) rfl (rest := [(.int (1 : Int32))]) rfl (hb hby d8t1_2) _ (by rw [len_of As1 Am1]; exact k)) ?_
  refine own_st (T' := s₁) (F' := (mkF m 4 #[.val (.ref x0), .val (.int (1 : Int32))] [(.int (0 : Int32))])) (fun _ k => XS.isub X0.here hx rfl (hb hby d8t1_3) rfl k) ?_
  refine own_st (T' := s₁) (F' := (mkF m 6 #[.val (.ref x0), .val (.int (1 : Int32))] [(.int (31 : Int32)), (.int (0 : Int32))])) (fun _ k => XS.bipush X0.here hx rfl (hb hby d8t1_4) k) ?_
  refine own_st (T' := s₁) (F' := (mkF m 7 #[.val (.ref x0), .val (.int (1 : Int32))] [(.int (((0 : Int32).toUInt32 >>> ((31 : Int32) &&& 31).toUInt32).toInt32))])) (fun _ k => XS.iushr X0.here hx rfl (hb hby d8t1_6) rfl k) ?_
  refine own_st (T' := s₁) (F' := (mkF m 8 #[.val (.ref x0), .val (.int (1 : Int32))] [(.int ((((0 : Int32).toUInt32 >>> ((31 : Int32) &&& 31).toUInt32).toInt32).toInt8.toInt32))])) (fun _ k => XS.i2b X0.here hx rfl (hb hby d8t1_7) rfl k) ?_
  refine own_retN X0 hx hlk (t := .byte) Bd.returns (by simp) (hb hby d8t1_8) ?_ (by decide) (by decide)
  rw [e0]
  refine ⟨?_, N0, rfl⟩
  rfl
theorem own_pd9 : parseMethodDescriptor "([CII)[B" = some ⟨[(.array .char), .int, .int], some (.array .byte)⟩ := by decide +kernel
theorem own_pd10 : parseMethodDescriptor "([BI)B" = some ⟨[(.array .byte), .int], some .byte⟩ := by decide +kernel
theorem d4t1_0 : decode jdk_42_method_149_code 0 = .ok (.aload_n 0, 1) := by decide +kernel
theorem d4t1_1 : decode jdk_42_method_149_code 1 = .ok (.invokespecial 1, 3) := by decide +kernel
theorem d4t1_4 : decode jdk_42_method_149_code 4 = .ok (.iload_n 3, 1) := by decide +kernel
theorem d4t1_5 : decode jdk_42_method_149_code 5 = .ok (.ifCond .ne 22, 3) := by decide +kernel
theorem d4t1_27 : decode jdk_42_method_149_code 27 = .ok (.getstatic 38, 3) := by decide +kernel
theorem d4t1_30 : decode jdk_42_method_149_code 30 = .ok (.ifCond .eq 28, 3) := by decide +kernel
theorem d4t1_33 : decode jdk_42_method_149_code 33 = .ok (.aload_n 1, 1) := by decide +kernel
theorem d4t1_34 : decode jdk_42_method_149_code 34 = .ok (.iload_n 2, 1) := by decide +kernel
theorem d4t1_35 : decode jdk_42_method_149_code 35 = .ok (.iload_n 3, 1) := by decide +kernel
theorem d4t1_36 : decode jdk_42_method_149_code 36 = .ok (.invokestatic 177, 3) := by decide +kernel
theorem d4t1_39 : decode jdk_42_method_149_code 39 = .ok (.astore 5, 2) := by decide +kernel
theorem d4t1_41 : decode jdk_42_method_149_code 41 = .ok (.aload_n 0, 1) := by decide +kernel
theorem d4t1_42 : decode jdk_42_method_149_code 42 = .ok (.aload 5, 2) := by decide +kernel
theorem d4t1_44 : decode jdk_42_method_149_code 44 = .ok (.iload_n 3, 1) := by decide +kernel
theorem d4t1_45 : decode jdk_42_method_149_code 45 = .ok (.invokestatic 47, 3) := by decide +kernel
theorem d4t1_48 : decode jdk_42_method_149_code 48 = .ok (.putfield 15, 3) := by decide +kernel
theorem d4t1_51 : decode jdk_42_method_149_code 51 = .ok (.aload_n 0, 1) := by decide +kernel
theorem d4t1_52 : decode jdk_42_method_149_code 52 = .ok (.aload 5, 2) := by decide +kernel
theorem d4t1_54 : decode jdk_42_method_149_code 54 = .ok (.putfield 9, 3) := by decide +kernel
theorem d4t1_57 : decode jdk_42_method_149_code 57 = .ok (.return_, 1) := by decide +kernel
theorem own_pn4t1 : plainName "java/lang/String" = true := by first | (simp [plainName, overriddenIn]; done) | decide +kernel
theorem own_ef4t1 (m : MethodId) (o : Addr) (x0 : Addr) : entryFrame m #[(.ref o), (.ref x0), (.int (0 : Int32)), (.int (1 : Int32)), .null] 6 = (mkF m 0 #[.val (.ref o), .val (.ref x0), .val (.int (0 : Int32)), .val (.int (1 : Int32)), .val .null, .unset] []) := by first | (simp [entryFrame, mkF, argsToLocals, Value.category]; done) | rfl
def Q4t1 (Z : State) (o : Addr) (x0 : Addr) (cs : Int32) (vkc : ClassId) (cc0 : Int32) (h0 : Heap) (n0 : Nat) (v : Option Value) (h : Heap) (L : List Loc) : Prop := v = none ∧ Fr n0 L ∧ Keep h0 h [o] ∧ Fld Z h o "java/lang/String" "coder" "B" (.int (0 : Int32)) ∧ (∃ (b : Addr) (kb : ClassId) (g : List Int32), Fld Z h o "java/lang/String" "value" "[B" (.ref b) ∧ Arv Z h b kb .byte (1 : Int32) (g.map Value.int) (.int (0 : Int32)))
set_option maxRecDepth 65536 in
set_option maxHeartbeats 40000000 in
theorem rm4t1 (l : Launch) (Z : State) (a0 : Array Value) (hw : ∀ d ∈ tables_1, d.before a0 Z = true) (ws : List Jvm.Cond) (o : Addr) (x0 : Addr) (cs : Int32) (vkc : ClassId) (cc0 : Int32) (h0 : Heap) (n0 : Nat) (Z0 : n0 ≤ h0.size) (S_cs : Sta Z h0 "java/lang/String" "COMPACT_STRINGS" "Z" (.int cs)) (hcs : ¬ (cs = 0)) (hge : n0 ≤ o) (hno : o ≠ x0) (hEo : Exa Z h0 o "java/lang/String") (hFc : Fld Z h0 o "java/lang/String" "coder" "B" (.int (0 : Int32))) (hFv : Fld Z h0 o "java/lang/String" "value" "[B" .null) (V_c : Arv Z h0 x0 vkc .char (1 : Int32) [(.int cc0)] (.int (0 : Int32))) (h255_0 : ¬ ((255 : Int32) < cc0)) :
    MetFree l (⟨"java/lang/String", "<init>", "([CIILjava/lang/Void;)V"⟩ : MethodName) (head1 (Jvm.Cond.code (⟨"java/lang/String", "<init>", "([CIILjava/lang/Void;)V"⟩ : MethodName) jdk_42_method_149_code 6 none :: ws) ({ frames := 2, cells := 1, slots := 1, locals := 35 } : Room)) (fun a U => a = #[(.ref o), (.ref x0), (.int (0 : Int32)), (.int (1 : Int32)), .null] ∧ Z.Warmed39 U.vm ∧ U.heap = h0) (fun _ _ _ _ _ => True) (fun _ U oc U' => ∃ v L, oc = .returned v ∧ Q4t1 Z o x0 cs vkc cc0 h0 n0 v U'.heap L ∧ FrameEnd U oc U' L ({ frames := 2, cells := 1, slots := 1, locals := 35 } : Room).cells ({ frames := 2, cells := 1, slots := 1, locals := 35 } : Room).slots) := by
  refine MetFree.of_bodySF (plainFor_of_name own_pn4t1) hisR ?_
  intro p e s m args below meth c s₁ Bd hml0 hP hK
  obtain ⟨rfl, hZ, hh⟩ := hP
  have hx := Bd.exec
  have hby := Bd.bytes
  have hlk : meth.locks = false := BodyLoose.notSynchronized Bd
  have hml : c.maxLocals = 6 := hml0
  have hown : s.vm.findClass "java/lang/String" = some m.cls := findClass_of_methodNamed Bd.named
  have hnm := (name_of_methodNamed Bd.named Bd.method).1
  have X0 : Stand p l e ({ frames := 2, cells := 1, slots := 1, locals := 35 } : Room) s m #[(.ref o), (.ref x0), (.int (0 : Int32)), (.int (1 : Int32)), .null] below meth c s₁ [] 0 0 := Stand.of_body Bd
  have e0 : s₁.heap = h0 := by rw [← hh, Bd.state]; rfl
  have N0 := Fr.nil n0
  refine own_enter (own_ef4t1 m o x0) ?_
  show own_Go p e below (own_E s (Q4t1 Z o x0 cs vkc cc0 h0 n0) ({ frames := 2, cells := 1, slots := 1, locals := 35 } : Room).cells ({ frames := 2, cells := 1, slots := 1, locals := 35 } : Room).slots) s₁ (mkF m 0 #[.val (.ref o), .val (.ref x0), .val (.int (0 : Int32)), .val (.int (1 : Int32)), .val .null, .unset] [])
  refine own_st (T' := s₁) (F' := (mkF m 1 #[.val (.ref o), .val (.ref x0), .val (.int (0 : Int32)), .val (.int (1 : Int32)), .val .null, .unset] [(.ref o)])) (fun _ k => XS.aloadN X0.here hx rfl (hb hby d4t1_0) rfl rfl k) ?_
  obtain ⟨T1, X1, e1, st1⟩ := initO X0 hx hZ hown (hw _ (List.mem_of_getElem? (i := 23) rfl)) (hw _ (List.mem_of_getElem? (i := 24) rfl)) (hw _ (List.mem_of_getElem? (i := 25) rfl)) e0 (g := (mkF m 1 #[.val (.ref o), .val (.ref x0), .val (.int (0 : Int32)), .val (.int (1 : Int32)), .val .null, .unset] [(.ref o)])) rfl (by rw [hml]; rfl) rfl (hb hby d4t1_1) (by decide) (W := 0) (by show 2 * 0 + _ ≤ _; exact Nat.le_of_eq rfl) (by decide)
  refine own_st (T' := T1) (F' := (mkF m 4 #[.val (.ref o), .val (.ref x0), .val (.int (0 : Int32)), .val (.int (1 : Int32)), .val .null, .unset] [])) (fun _ k => st1 _ k) ?_
  refine own_st (T' := T1) (F' := (mkF m 5 #[.val (.ref o), .val (.ref x0), .val (.int (0 : Int32)), .val (.int (1 : Int32)), .val .null, .unset] [(.int (1 : Int32))])) (fun _ k => XS.iloadN X1.here hx rfl (hb hby d4t1_4) rfl  k) ?_
  refine own_ifc X1 hx (pc' := 27) (pc2 := 8) (hb hby d4t1_5) (by decide) (by decide) rfl (fun (hc5 : ¬ ((1 : Int32) = (0 : Int32))) => ?_) (fun (hc5 : (1 : Int32) = (0 : Int32)) => ?_)
  rotate_left
  · exact absurd hc5 (by decide)
  obtain ⟨T2, X2, e2, st2⟩ := getS2 X1 hx hZ hown (host := "") (Or.inl (hw _ (List.mem_of_getElem? (i := 26) rfl))) Via.refl e1 S_cs (g := (mkF m 27 #[.val (.ref o), .val (.ref x0), .val (.int (0 : Int32)), .val (.int (1 : Int32)), .val .null, .unset] [])) rfl (hb hby d4t1_27)
  refine own_st (T' := T2) (F' := (mkF m 30 #[.val (.ref o), .val (.ref x0), .val (.int (0 : Int32)), .val (.int (1 : Int32)), .val .null, .unset] [(.int cs)])) (fun _ k => st2 _ k) ?_
  refine own_ifc X2 hx (pc' := 58) (pc2 := 33) (hb hby d4t1_30) (by decide) (by decide) rfl (fun (hc30 : cs = (0 : Int32)) => ?_) (fun (hc30 : ¬ (cs = (0 : Int32))) => ?_)
  ·
    exact absurd hc30 hcs
  ·
    refine own_st (T' := T2) (F' := (mkF m 34 #[.val (.ref o), .val (.ref x0), .val (.int (0 : Int32)), .val (.int (1 : Int32)), .val .null, .unset] [(.ref x0)])) (fun _ k => XS.aloadN X2.here hx rfl (hb hby d4t1_33) rfl rfl k) ?_
    refine own_st (T' := T2) (F' := (mkF m 35 #[.val (.ref o), .val (.ref x0), .val (.int (0 : Int32)), .val (.int (1 : Int32)), .val .null, .unset] [(.int (0 : Int32)), (.ref x0)])) (fun _ k => XS.iloadN X2.here hx rfl (hb hby d4t1_34) rfl  k) ?_
    refine own_st (T' := T2) (F' := (mkF m 36 #[.val (.ref o), .val (.ref x0), .val (.int (0 : Int32)), .val (.int (1 : Int32)), .val .null, .unset] [(.int (1 : Int32)), (.int (0 : Int32)), (.ref x0)])) (fun _ k => XS.iloadN X2.here hx rfl (hb hby d4t1_35) rfl  k) ?_
    obtain ⟨_, _, ⟨T3, L3, k3, n3⟩, -, X3, ⟨Lc3, hQ3, l3, y3, z3⟩, st3⟩ := Jvm.LawKit.callS X2 hx (y := (⟨"java/lang/StringUTF16", "compress", "([CII)[B"⟩ : MethodName)) hown (mvT hZ (hw _ (List.mem_of_getElem? (i := 27) rfl))) (mvT hZ (hw _ (List.mem_of_getElem? (i := 28) rfl))) (mvT hZ (hw _ (List.mem_of_getElem? (i := 29) rfl))) (mvT hZ (hw _ (List.mem_of_getElem? (i := 30) rfl))) (by decide) (backOf (W := 0) (rm6t1 l Z a0 hw [] x0 vkc cc0 h0 n0 Z0 V_c h255_0) hZ (hw _ (List.mem_of_getElem? (i := 30) rfl)) (hw _ (List.mem_of_getElem? (i := 29) rfl)) (by decide) (by decide)) (g := (mkF m 36 #[.val (.ref o), .val (.ref x0), .val (.int (0 : Int32)), .val (.int (1 : Int32)), .val .null, .unset] [(.int (1 : Int32)), (.int (0 : Int32)), (.ref x0)])) rfl (by rw [hml]; rfl) (argsL := [(.ref x0), (.int (0 : Int32)), (.int (1 : Int32))]) (rest := []) (lenOf own_pd9 rfl) rfl (by show 2 * 0 + _ ≤ _; exact Nat.le_of_eq rfl) (hb hby d4t1_36) (fun _ _ => ⟨rfl, e2, (by decide : 0 + 1 ≤ _), (by decide : 0 + 1 ≤ _)⟩)
    dsimp only [Pt.U, Pt.locs, Pt.cells, Pt.slots] at X3 l3 y3 z3 st3 hQ3
    subst l3 y3 z3
    obtain ⟨⟨r3, rfl, hr3⟩, Nq3, g3_0⟩ := hQ3
    have N3 := Fr.app N0 Nq3
    have f4 : Sta Z T3.heap "java/lang/String" "COMPACT_STRINGS" "Z" (.int cs) := own_stk S_cs g3_0 all0
    have f5 : Exa Z T3.heap o "java/lang/String" := hEo.keep g3_0
    have f6 : Fld Z T3.heap o "java/lang/String" "coder" "B" (.int (0 : Int32)) := hFc.keep g3_0 nin0
    have f7 : Fld Z T3.heap o "java/lang/String" "value" "[B" .null := hFv.keep g3_0 nin0
    have f8 : Arv Z T3.heap x0 vkc .char (1 : Int32) [(.int cc0)] (.int (0 : Int32)) := V_c.keep g3_0 nin0
    have K3 : Keep h0 T3.heap [o] := (Keep.refl h0 [o]).trans g3_0 all0
    have Zs3 : n0 ≤ T3.heap.size := Nat.le_trans Z0 K3.1
    obtain ⟨kk3, zge3, zV3⟩ := hr3
    have zne3 : r3 ≠ o := (Nat.ne_of_lt (Nat.lt_of_lt_of_le hEo.lt zge3)).symm
    refine own_st (T' := T3) (F' := (mkF m 39 #[.val (.ref o), .val (.ref x0), .val (.int (0 : Int32)), .val (.int (1 : Int32)), .val .null, .unset] [(.ref r3)])) (fun _ k => st3 _ k) ?_
    refine own_st (T' := T3) (F' := (mkF m 41 #[.val (.ref o), .val (.ref x0), .val (.int (0 : Int32)), .val (.int (1 : Int32)), .val .null, .val (.ref r3)] [])) (fun _ k => XS.astore X3.here hx rfl (hb hby d4t1_39) rfl rfl (l' := #[.val (.ref o), .val (.ref x0), .val (.int (0 : Int32)), .val (.int (1 : Int32)), .val .null, .val (.ref r3)]) rfl k) ?_
    refine own_st (T' := T3) (F' := (mkF m 42 #[.val (.ref o), .val (.ref x0), .val (.int (0 : Int32)), .val (.int (1 : Int32)), .val .null, .val (.ref r3)] [(.ref o)])) (fun _ k => XS.aloadN X3.here hx rfl (hb hby d4t1_41) rfl rfl k) ?_
    refine own_st (T' := T3) (F' := (mkF m 44 #[.val (.ref o), .val (.ref x0), .val (.int (0 : Int32)), .val (.int (1 : Int32)), .val .null, .val (.ref r3)] [(.ref r3), (.ref o)])) (fun _ k => XS.aload X3.here hx rfl (hb hby d4t1_42) rfl rfl k) ?_
    refine own_st (T' := T3) (F' := (mkF m 45 #[.val (.ref o), .val (.ref x0), .val (.int (0 : Int32)), .val (.int (1 : Int32)), .val .null, .val (.ref r3)] [(.int (1 : Int32)), (.ref r3), (.ref o)])) (fun _ k => XS.iloadN X3.here hx rfl (hb hby d4t1_44) rfl  k) ?_
    obtain ⟨_, _, ⟨T9, L9, k9, n9⟩, -, X9, ⟨Lc9, hQ9, l9, y9, z9⟩, st9⟩ := Jvm.LawKit.callS X3 hx (y := (⟨"java/lang/StringUTF16", "coderFromArrayLen", "([BI)B"⟩ : MethodName)) hown (mvT hZ (hw _ (List.mem_of_getElem? (i := 35) rfl))) (mvT hZ (hw _ (List.mem_of_getElem? (i := 36) rfl))) (mvT hZ (hw _ (List.mem_of_getElem? (i := 29) rfl))) (mvT hZ (hw _ (List.mem_of_getElem? (i := 37) rfl))) (by decide) (backOf (W := 1) (rm8t1 l Z a0 hw [] r3 kk3 cc0 T3.heap n0 Zs3 zV3) hZ (hw _ (List.mem_of_getElem? (i := 37) rfl)) (hw _ (List.mem_of_getElem? (i := 29) rfl)) (by decide) (by decide)) (g := (mkF m 45 #[.val (.ref o), .val (.ref x0), .val (.int (0 : Int32)), .val (.int (1 : Int32)), .val .null, .val (.ref r3)] [(.int (1 : Int32)), (.ref r3), (.ref o)])) rfl (by rw [hml]; rfl) (argsL := [(.ref r3), (.int (1 : Int32))]) (rest := [(.ref o)]) (lenOf own_pd10 rfl) rfl (by show 2 * 0 + _ ≤ _; exact Nat.le_of_eq rfl) (hb hby d4t1_45) (fun _ _ => ⟨rfl, rfl, (by decide : 1 + 0 ≤ _), (by decide : 1 + 0 ≤ _)⟩)
    dsimp only [Pt.U, Pt.locs, Pt.cells, Pt.slots] at X9 l9 y9 z9 st9 hQ9
    subst l9 y9 z9
    obtain ⟨rfl, Nq9, eq9⟩ := hQ9
    have N9 := Fr.app N3 Nq9
    refine own_st (T' := T9) (F' := (mkF m 48 #[.val (.ref o), .val (.ref x0), .val (.int (0 : Int32)), .val (.int (1 : Int32)), .val .null, .val (.ref r3)] [(.int (0 : Int32)), (.ref o)])) (fun _ k => st9 _ k) ?_
    obtain ⟨T10, h10, X10, e10, W10, st10⟩ := putFN X9 hx hZ hown (hw _ (List.mem_of_getElem? (i := 38) rfl)) Via.refl eq9 f6 f5 (Or.inr ⟨(hw _ (List.mem_of_getElem? (i := 39) rfl)), rfl, hnm⟩) (hw _ (List.mem_of_getElem? (i := 13) rfl)) (ty := .byte) (v' := (.int (nar .byte (0 : Int32)))) (by decide) rfl (fits_nar_byte _) (g := (mkF m 48 #[.val (.ref o), .val (.ref x0), .val (.int (0 : Int32)), .val (.int (1 : Int32)), .val .null, .val (.ref r3)] [(.int (0 : Int32)), (.ref o)])) rfl rfl (hb hby d4t1_48)
    have N10 := Fr.snoc X10 N9 hge
    have f11 : Sta Z h10 "java/lang/String" "COMPACT_STRINGS" "Z" (.int cs) := f4.wr W10
    have f12 : Exa Z h10 o "java/lang/String" := f5.wr W10
    have f13 : Fld Z h10 o "java/lang/String" "coder" "B" (.int (0 : Int32)) := f6.same W10
    have f14 : Fld Z h10 o "java/lang/String" "value" "[B" .null := f7.other W10 (Or.inr (slot_ne (Or.inr (hw _ (List.mem_of_getElem? (i := 41) rfl))) (Or.inr (hw _ (List.mem_of_getElem? (i := 39) rfl))) (by decide) (t := (.array .byte)) (t' := .byte) (by decide) (by decide)))
    have f15 : Arv Z h10 x0 vkc .char (1 : Int32) [(.int cc0)] (.int (0 : Int32)) := f8.other W10 (Ne.symm hno)
    have f16 : Arv Z h10 r3 kk3 .byte (1 : Int32) [(.int ((cc0.toInt8.toInt32).toInt8.toInt32))] (.int (0 : Int32)) := zV3.other W10 zne3
    have K10 : Keep h0 h10 [o] := K3.wr W10 (Or.inl (List.mem_of_getElem? (i := 0) rfl))
    have Zs10 : n0 ≤ h10.size := Nat.le_trans Z0 K10.1
    refine own_st (T' := T10) (F' := (mkF m 51 #[.val (.ref o), .val (.ref x0), .val (.int (0 : Int32)), .val (.int (1 : Int32)), .val .null, .val (.ref r3)] [])) (fun _ k => st10 _ k) ?_
    refine own_st (T' := T10) (F' := (mkF m 52 #[.val (.ref o), .val (.ref x0), .val (.int (0 : Int32)), .val (.int (1 : Int32)), .val .null, .val (.ref r3)] [(.ref o)])) (fun _ k => XS.aloadN X10.here hx rfl (hb hby d4t1_51) rfl rfl k) ?_
    refine own_st (T' := T10) (F' := (mkF m 54 #[.val (.ref o), .val (.ref x0), .val (.int (0 : Int32)), .val (.int (1 : Int32)), .val .null, .val (.ref r3)] [(.ref r3), (.ref o)])) (fun _ k => XS.aload X10.here hx rfl (hb hby d4t1_52) rfl rfl k) ?_
    obtain ⟨T17, h17, X17, e17, W17, st17⟩ := putF X10 hx hZ hown (host := "") (Or.inl (hw _ (List.mem_of_getElem? (i := 40) rfl))) Via.refl e10 f14 f12 (Or.inr ⟨(hw _ (List.mem_of_getElem? (i := 41) rfl)), rfl, hnm⟩) (hw _ (List.mem_of_getElem? (i := 13) rfl)) (ty := (.array .byte)) (by decide) rfl rfl (g := (mkF m 54 #[.val (.ref o), .val (.ref x0), .val (.int (0 : Int32)), .val (.int (1 : Int32)), .val .null, .val (.ref r3)] [(.ref r3), (.ref o)])) rfl rfl (hb hby d4t1_54)
    have N17 := Fr.snoc X17 N10 hge
    have f18 : Sta Z h17 "java/lang/String" "COMPACT_STRINGS" "Z" (.int cs) := f11.wr W17
    have f19 : Exa Z h17 o "java/lang/String" := f12.wr W17
    have f20 : Fld Z h17 o "java/lang/String" "coder" "B" (.int (0 : Int32)) := f13.other W17 (Or.inr (slot_ne (Or.inr (hw _ (List.mem_of_getElem? (i := 39) rfl))) (Or.inr (hw _ (List.mem_of_getElem? (i := 41) rfl))) (by decide) (t := .byte) (t' := (.array .byte)) (by decide) (by decide)))
    have f21 : Fld Z h17 o "java/lang/String" "value" "[B" (.ref r3) := f14.same W17
    have f22 : Arv Z h17 x0 vkc .char (1 : Int32) [(.int cc0)] (.int (0 : Int32)) := f15.other W17 (Ne.symm hno)
    have f23 : Arv Z h17 r3 kk3 .byte (1 : Int32) [(.int ((cc0.toInt8.toInt32).toInt8.toInt32))] (.int (0 : Int32)) := f16.other W17 zne3
    have K17 : Keep h0 h17 [o] := K10.wr W17 (Or.inl (List.mem_of_getElem? (i := 0) rfl))
    have Zs17 : n0 ≤ h17.size := Nat.le_trans Z0 K17.1
    refine own_st (T' := T17) (F' := (mkF m 57 #[.val (.ref o), .val (.ref x0), .val (.int (0 : Int32)), .val (.int (1 : Int32)), .val .null, .val (.ref r3)] [])) (fun _ k => st17 _ k) ?_
    refine own_retV X17 hx hlk Bd.returns (hb hby d4t1_57) ?_ (by decide) (by decide)
    rw [e17]
    refine ⟨rfl, N17, K17, f20, ?_⟩
    exact ⟨_, _, [((cc0.toInt8.toInt32).toInt8.toInt32)], f21, f23⟩
theorem own_pd11 : parseMethodDescriptor "([CIILjava/lang/Void;)V" = some ⟨[(.array .char), .int, .int, (.object "java/lang/Void")], none⟩ := by decide +kernel
theorem d3t1_0 : decode jdk_42_method_3_code 0 = .ok (.aload_n 0, 1) := by decide +kernel
theorem d3t1_1 : decode jdk_42_method_3_code 1 = .ok (.aload_n 1, 1) := by decide +kernel
theorem d3t1_2 : decode jdk_42_method_3_code 2 = .ok (.iconst 0, 1) := by decide +kernel
theorem d3t1_3 : decode jdk_42_method_3_code 3 = .ok (.aload_n 1, 1) := by decide +kernel
theorem d3t1_4 : decode jdk_42_method_3_code 4 = .ok (.arraylength, 1) := by decide +kernel
theorem d3t1_5 : decode jdk_42_method_3_code 5 = .ok (.aconst_null, 1) := by decide +kernel
theorem d3t1_6 : decode jdk_42_method_3_code 6 = .ok (.invokespecial 27, 3) := by decide +kernel
theorem d3t1_9 : decode jdk_42_method_3_code 9 = .ok (.return_, 1) := by decide +kernel
theorem own_pn3t1 : plainName "java/lang/String" = true := by first | (simp [plainName, overriddenIn]; done) | decide +kernel
theorem own_ef3t1 (m : MethodId) (o : Addr) (x0 : Addr) : entryFrame m #[(.ref o), (.ref x0)] 2 = (mkF m 0 #[.val (.ref o), .val (.ref x0)] []) := by first | (simp [entryFrame, mkF, argsToLocals, Value.category]; done) | rfl
def Q3t1 (Z : State) (o : Addr) (x0 : Addr) (cs : Int32) (vkc : ClassId) (cc0 : Int32) (h0 : Heap) (n0 : Nat) (v : Option Value) (h : Heap) (L : List Loc) : Prop := v = none ∧ Fr n0 L ∧ Keep h0 h [o] ∧ Fld Z h o "java/lang/String" "coder" "B" (.int (0 : Int32)) ∧ (∃ (b : Addr) (kb : ClassId) (g : List Int32), Fld Z h o "java/lang/String" "value" "[B" (.ref b) ∧ Arv Z h b kb .byte (1 : Int32) (g.map Value.int) (.int (0 : Int32)))
set_option maxRecDepth 65536 in
set_option maxHeartbeats 40000000 in
theorem rm3t1 (l : Launch) (Z : State) (a0 : Array Value) (hw : ∀ d ∈ tables_1, d.before a0 Z = true) (ws : List Jvm.Cond) (o : Addr) (x0 : Addr) (cs : Int32) (vkc : ClassId) (cc0 : Int32) (h0 : Heap) (n0 : Nat) (Z0 : n0 ≤ h0.size) (S_cs : Sta Z h0 "java/lang/String" "COMPACT_STRINGS" "Z" (.int cs)) (hcs : ¬ (cs = 0)) (hge : n0 ≤ o) (hno : o ≠ x0) (hEo : Exa Z h0 o "java/lang/String") (hFc : Fld Z h0 o "java/lang/String" "coder" "B" (.int (0 : Int32))) (hFv : Fld Z h0 o "java/lang/String" "value" "[B" .null) (V_c : Arv Z h0 x0 vkc .char (1 : Int32) [(.int cc0)] (.int (0 : Int32))) (h255_0 : ¬ ((255 : Int32) < cc0)) :
    MetFree l (⟨"java/lang/String", "<init>", "([C)V"⟩ : MethodName) (head1 (Jvm.Cond.code (⟨"java/lang/String", "<init>", "([C)V"⟩ : MethodName) jdk_42_method_3_code 2 none :: ws) ({ frames := 3, cells := 1, slots := 1, locals := 52 } : Room)) (fun a U => a = #[(.ref o), (.ref x0)] ∧ Z.Warmed39 U.vm ∧ U.heap = h0) (fun _ _ _ _ _ => True) (fun _ U oc U' => ∃ v L, oc = .returned v ∧ Q3t1 Z o x0 cs vkc cc0 h0 n0 v U'.heap L ∧ FrameEnd U oc U' L ({ frames := 3, cells := 1, slots := 1, locals := 52 } : Room).cells ({ frames := 3, cells := 1, slots := 1, locals := 52 } : Room).slots) := by
  refine MetFree.of_bodySF (plainFor_of_name own_pn3t1) hisR ?_
  intro p e s m args below meth c s₁ Bd hml0 hP hK
  obtain ⟨rfl, hZ, hh⟩ := hP
  have hx := Bd.exec
  have hby := Bd.bytes
  have hlk : meth.locks = false := BodyLoose.notSynchronized Bd
  have hml : c.maxLocals = 2 := hml0
  have hown : s.vm.findClass "java/lang/String" = some m.cls := findClass_of_methodNamed Bd.named
  have hnm := (name_of_methodNamed Bd.named Bd.method).1
  have X0 : Stand p l e ({ frames := 3, cells := 1, slots := 1, locals := 52 } : Room) s m #[(.ref o), (.ref x0)] below meth c s₁ [] 0 0 := Stand.of_body Bd
  have e0 : s₁.heap = h0 := by rw [← hh, Bd.state]; rfl
  have N0 := Fr.nil n0
  refine own_enter (own_ef3t1 m o x0) ?_
  show own_Go p e below (own_E s (Q3t1 Z o x0 cs vkc cc0 h0 n0) ({ frames := 3, cells := 1, slots := 1, locals := 52 } : Room).cells ({ frames := 3, cells := 1, slots := 1, locals := 52 } : Room).slots) s₁ (mkF m 0 #[.val (.ref o), .val (.ref x0)] [])
  refine own_st (T' := s₁) (F' := (mkF m 1 #[.val (.ref o), .val (.ref x0)] [(.ref o)])) (fun _ k => XS.aloadN X0.here hx rfl (hb hby d3t1_0) rfl rfl k) ?_
  refine own_st (T' := s₁) (F' := (mkF m 2 #[.val (.ref o), .val (.ref x0)] [(.ref x0), (.ref o)])) (fun _ k => XS.aloadN X0.here hx rfl (hb hby d3t1_1) rfl rfl k) ?_
  refine own_st (T' := s₁) (F' := (mkF m 3 #[.val (.ref o), .val (.ref x0)] [(.int (0 : Int32)), (.ref x0), (.ref o)])) (fun _ k => XS.iconst X0.here hx rfl (hb hby d3t1_2) k) ?_
  refine own_st (T' := s₁) (F' := (mkF m 4 #[.val (.ref o), .val (.ref x0)] [(.ref x0), (.int (0 : Int32)), (.ref x0), (.ref o)])) (fun _ k => XS.aloadN X0.here hx rfl (hb hby d3t1_3) rfl rfl k) ?_
  obtain ⟨cl1, Ar1, Aq1, As1, Am1, Ah1, Au1⟩ := id V_c
  refine own_st (T' := s₁) (F' := (mkF m 5 #[.val (.ref o), .val (.ref x0)] [(.int (1 : Int32)), (.int (0 : Int32)), (.ref x0), (.ref o)])) (fun _ k => X0.arraylength hx (cell := cl1) (by rw [e0]; exact Ar1.1) (State.isArrayOf_alike hZ.alike Ar1.2.1) (g := (mkF m 4 #[.val (.ref o), .val (.ref x0)] [(.ref x0), (.int (0 : Int32)), (.ref x0), (.ref o)])) rfl (rest := [(.int (0 : Int32)), (.ref x0), (.ref o)]) rfl (hb hby d3t1_4) _ (by rw [len_of As1 Am1]; exact k)) ?_
  refine own_st (T' := s₁) (F' := (mkF m 6 #[.val (.ref o), .val (.ref x0)] [.null, (.int (1 : Int32)), (.int (0 : Int32)), (.ref x0), (.ref o)])) (fun _ k => XS.aconstNull X0.here hx rfl (hb hby d3t1_5) k) ?_
  obtain ⟨_, _, ⟨T2, L2, k2, n2⟩, -, X2, ⟨Lc2, hQ2, l2, y2, z2⟩, st2⟩ := X0.specialBack hx (y := (⟨"java/lang/String", "<init>", "([CIILjava/lang/Void;)V"⟩ : MethodName)) rfl hown (mvT hZ (hw _ (List.mem_of_getElem? (i := 19) rfl))) (mvT hZ (hw _ (List.mem_of_getElem? (i := 20) rfl))) (mvT hZ (hw _ (List.mem_of_getElem? (i := 22) rfl))) (by decide) (backOf (W := 0) (rm4t1 l Z a0 hw [] o x0 cs vkc cc0 h0 n0 Z0 S_cs hcs hge hno hEo hFc hFv V_c h255_0) hZ (hw _ (List.mem_of_getElem? (i := 22) rfl)) (hw _ (List.mem_of_getElem? (i := 14) rfl)) (by decide) (by decide)) (g := (mkF m 6 #[.val (.ref o), .val (.ref x0)] [.null, (.int (1 : Int32)), (.int (0 : Int32)), (.ref x0), (.ref o)])) rfl (by rw [hml]; rfl) (Steps.refl _) (a := o) (argsL := [(.ref x0), (.int (0 : Int32)), (.int (1 : Int32)), .null]) (rest := []) (lenOf own_pd11 rfl) rfl (by show 2 * 0 + _ ≤ _; exact Nat.le_of_eq rfl) (hb hby d3t1_6) (fun _ _ => ⟨rfl, e0, (by decide : 0 + 1 ≤ _), (by decide : 0 + 1 ≤ _)⟩)
  dsimp only [Pt.U, Pt.locs, Pt.cells, Pt.slots] at X2 l2 y2 z2 st2 hQ2
  subst l2 y2 z2
  obtain ⟨rfl, Nq2, g2_0, g2_1, g2_2⟩ := hQ2
  have N2 := Fr.app N0 Nq2
  have f3 : Sta Z T2.heap "java/lang/String" "COMPACT_STRINGS" "Z" (.int cs) := own_stk S_cs g2_0 (allS (own_npE hEo) all0)
  have f4 : Exa Z T2.heap o "java/lang/String" := hEo.keep g2_0
  have f5 : Arv Z T2.heap x0 vkc .char (1 : Int32) [(.int cc0)] (.int (0 : Int32)) := V_c.keep g2_0 (ninS (Ne.symm hno) nin0)
  have K2 : Keep h0 T2.heap [o] := (Keep.refl h0 [o]).trans g2_0 (allS (Or.inl (List.mem_of_getElem? (i := 0) rfl)) all0)
  have Zs2 : n0 ≤ T2.heap.size := Nat.le_trans Z0 K2.1
  obtain ⟨vv2, vk2, gg2, fv2, av2⟩ := id g2_2
  refine own_tr (T' := T2) (F' := (mkF m 9 #[.val (.ref o), .val (.ref x0)] [])) st2 ?_
  refine own_retV X2 hx hlk Bd.returns (hb hby d3t1_9) ?_ (by decide) (by decide)
  show Q3t1 Z o x0 cs vkc cc0 h0 n0 _ T2.heap _
  refine ⟨rfl, N2, K2, g2_1, ?_⟩
  exact g2_2
theorem d7t2_0 : decode jdk_52_method_21_code 0 = .ok (.iconst 0, 1) := by decide +kernel
theorem d7t2_1 : decode jdk_52_method_21_code 1 = .ok (.istore 5, 2) := by decide +kernel
theorem d7t2_3 : decode jdk_52_method_21_code 3 = .ok (.iload 5, 2) := by decide +kernel
theorem d7t2_5 : decode jdk_52_method_21_code 5 = .ok (.iload 4, 2) := by decide +kernel
theorem d7t2_7 : decode jdk_52_method_21_code 7 = .ok (.if_icmp .ge 37, 3) := by decide +kernel
theorem d7t2_10 : decode jdk_52_method_21_code 10 = .ok (.aload_n 0, 1) := by decide +kernel
theorem d7t2_11 : decode jdk_52_method_21_code 11 = .ok (.iload_n 1, 1) := by decide +kernel
theorem d7t2_12 : decode jdk_52_method_21_code 12 = .ok (.caload, 1) := by decide +kernel
theorem d7t2_13 : decode jdk_52_method_21_code 13 = .ok (.istore 6, 2) := by decide +kernel
theorem d7t2_15 : decode jdk_52_method_21_code 15 = .ok (.iload 6, 2) := by decide +kernel
theorem d7t2_17 : decode jdk_52_method_21_code 17 = .ok (.sipush 255, 3) := by decide +kernel
theorem d7t2_20 : decode jdk_52_method_21_code 20 = .ok (.if_icmp .le 6, 3) := by decide +kernel
theorem d7t2_26 : decode jdk_52_method_21_code 26 = .ok (.aload_n 2, 1) := by decide +kernel
theorem d7t2_27 : decode jdk_52_method_21_code 27 = .ok (.iload_n 3, 1) := by decide +kernel
theorem d7t2_28 : decode jdk_52_method_21_code 28 = .ok (.iload 6, 2) := by decide +kernel
theorem d7t2_30 : decode jdk_52_method_21_code 30 = .ok (.i2b, 1) := by decide +kernel
theorem d7t2_31 : decode jdk_52_method_21_code 31 = .ok (.bastore, 1) := by decide +kernel
theorem d7t2_32 : decode jdk_52_method_21_code 32 = .ok (.iinc 1 1, 3) := by decide +kernel
theorem d7t2_35 : decode jdk_52_method_21_code 35 = .ok (.iinc 3 1, 3) := by decide +kernel
theorem d7t2_38 : decode jdk_52_method_21_code 38 = .ok (.iinc 5 1, 3) := by decide +kernel
theorem d7t2_41 : decode jdk_52_method_21_code 41 = .ok (.goto (-38), 3) := by decide +kernel
theorem d7t2_44 : decode jdk_52_method_21_code 44 = .ok (.iload 4, 2) := by decide +kernel
theorem d7t2_46 : decode jdk_52_method_21_code 46 = .ok (.ireturn, 1) := by decide +kernel
theorem own_pn7t2 : plainName "java/lang/StringUTF16" = true := by first | (simp [plainName, overriddenIn]; done) | decide +kernel
theorem own_ef7t2 (m : MethodId) (x0 : Addr) (x2 : Addr) : entryFrame m #[(.ref x0), (.int (0 : Int32)), (.ref x2), (.int (0 : Int32)), (.int (2 : Int32))] 7 = (mkF m 0 #[.val (.ref x0), .val (.int (0 : Int32)), .val (.ref x2), .val (.int (0 : Int32)), .val (.int (2 : Int32)), .unset, .unset] []) := by first | (simp [entryFrame, mkF, argsToLocals, Value.category]; done) | rfl
def Q7t2 (Z : State) (x0 : Addr) (x2 : Addr) (vkc : ClassId) (vkb : ClassId) (cc0 : Int32) (cc1 : Int32) (h0 : Heap) (n0 : Nat) (v : Option Value) (h : Heap) (L : List Loc) : Prop := v = some (.int (2 : Int32)) ∧ Fr n0 L ∧ Keep h0 h [x2] ∧ Arv Z h x2 vkb .byte (2 : Int32) [(.int ((cc0.toInt8.toInt32).toInt8.toInt32)), (.int ((cc1.toInt8.toInt32).toInt8.toInt32))] (.int (0 : Int32))
set_option maxRecDepth 65536 in
set_option maxHeartbeats 40000000 in
theorem rm7t2 (l : Launch) (Z : State) (a0 : Array Value) (hw : ∀ d ∈ tables_1, d.before a0 Z = true) (ws : List Jvm.Cond) (x0 : Addr) (x2 : Addr) (vkc : ClassId) (vkb : ClassId) (cc0 : Int32) (cc1 : Int32) (h0 : Heap) (n0 : Nat) (Z0 : n0 ≤ h0.size) (hge : n0 ≤ x2) (hno : x2 ≠ x0) (V_c : Arv Z h0 x0 vkc .char (2 : Int32) [(.int cc0), (.int cc1)] (.int (0 : Int32))) (V_b : Arv Z h0 x2 vkb .byte (2 : Int32) [(.int (0 : Int32)), (.int (0 : Int32))] (.int (0 : Int32))) (h255_0 : ¬ ((255 : Int32) < cc0)) (h255_1 : ¬ ((255 : Int32) < cc1)) :
    MetFree l (⟨"java/lang/StringUTF16", "compress", "([CI[BII)I"⟩ : MethodName) (head1 (Jvm.Cond.code (⟨"java/lang/StringUTF16", "compress", "([CI[BII)I"⟩ : MethodName) jdk_52_method_21_code 7 (some .int) :: ws) ({ frames := 0, cells := 0, slots := 0, locals := 0 } : Room)) (fun a U => a = #[(.ref x0), (.int (0 : Int32)), (.ref x2), (.int (0 : Int32)), (.int (2 : Int32))] ∧ Z.Warmed39 U.vm ∧ U.heap = h0) (fun _ _ _ _ _ => True) (fun _ U oc U' => ∃ v L, oc = .returned v ∧ Q7t2 Z x0 x2 vkc vkb cc0 cc1 h0 n0 v U'.heap L ∧ FrameEnd U oc U' L ({ frames := 0, cells := 0, slots := 0, locals := 0 } : Room).cells ({ frames := 0, cells := 0, slots := 0, locals := 0 } : Room).slots) := by
  refine MetFree.of_bodySF (plainFor_of_name own_pn7t2) hisR ?_
  intro p e s m args below meth c s₁ Bd hml0 hP hK
  obtain ⟨rfl, hZ, hh⟩ := hP
  have hx := Bd.exec
  have hby := Bd.bytes
  have hlk : meth.locks = false := BodyLoose.notSynchronized Bd
  have hml : c.maxLocals = 7 := hml0
  have hown : s.vm.findClass "java/lang/StringUTF16" = some m.cls := findClass_of_methodNamed Bd.named
  have hnm := (name_of_methodNamed Bd.named Bd.method).1
  have X0 : Stand p l e ({ frames := 0, cells := 0, slots := 0, locals := 0 } : Room) s m #[(.ref x0), (.int (0 : Int32)), (.ref x2), (.int (0 : Int32)), (.int (2 : Int32))] below meth c s₁ [] 0 0 := Stand.of_body Bd
  have e0 : s₁.heap = h0 := by rw [← hh, Bd.state]; rfl
  have N0 := Fr.nil n0
  refine own_enter (own_ef7t2 m x0 x2) ?_
  show own_Go p e below (own_E s (Q7t2 Z x0 x2 vkc vkb cc0 cc1 h0 n0) ({ frames := 0, cells := 0, slots := 0, locals := 0 } : Room).cells ({ frames := 0, cells := 0, slots := 0, locals := 0 } : Room).slots) s₁ (mkF m 0 #[.val (.ref x0), .val (.int (0 : Int32)), .val (.ref x2), .val (.int (0 : Int32)), .val (.int (2 : Int32)), .unset, .unset] [])
  refine own_st (T' := s₁) (F' := (mkF m 1 #[.val (.ref x0), .val (.int (0 : Int32)), .val (.ref x2), .val (.int (0 : Int32)), .val (.int (2 : Int32)), .unset, .unset] [(.int (0 : Int32))])) (fun _ k => XS.iconst X0.here hx rfl (hb hby d7t2_0) k) ?_
  refine own_st (T' := s₁) (F' := (mkF m 3 #[.val (.ref x0), .val (.int (0 : Int32)), .val (.ref x2), .val (.int (0 : Int32)), .val (.int (2 : Int32)), .val (.int (0 : Int32)), .unset] [])) (fun _ k => XS.istore X0.here hx rfl (hb hby d7t2_1) rfl (l' := #[.val (.ref x0), .val (.int (0 : Int32)), .val (.ref x2), .val (.int (0 : Int32)), .val (.int (2 : Int32)), .val (.int (0 : Int32)), .unset]) rfl k) ?_
  refine own_st (T' := s₁) (F' := (mkF m 5 #[.val (.ref x0), .val (.int (0 : Int32)), .val (.ref x2), .val (.int (0 : Int32)), .val (.int (2 : Int32)), .val (.int (0 : Int32)), .unset] [(.int (0 : Int32))])) (fun _ k => XS.iload X0.here hx rfl (hb hby d7t2_3) rfl  k) ?_
  refine own_st (T' := s₁) (F' := (mkF m 7 #[.val (.ref x0), .val (.int (0 : Int32)), .val (.ref x2), .val (.int (0 : Int32)), .val (.int (2 : Int32)), .val (.int (0 : Int32)), .unset] [(.int (2 : Int32)), (.int (0 : Int32))])) (fun _ k => XS.iload X0.here hx rfl (hb hby d7t2_5) rfl  k) ?_
  refine own_icmp X0 hx (pc' := 44) (pc2 := 10) (hb hby d7t2_7) (by decide) (by decide) rfl (fun (hc7_1 : ¬ ((0 : Int32) < (2 : Int32))) => ?_) (fun (hc7_1 : (0 : Int32) < (2 : Int32)) => ?_)
  · exact absurd hc7_1 (by decide)
  refine own_st (T' := s₁) (F' := (mkF m 11 #[.val (.ref x0), .val (.int (0 : Int32)), .val (.ref x2), .val (.int (0 : Int32)), .val (.int (2 : Int32)), .val (.int (0 : Int32)), .unset] [(.ref x0)])) (fun _ k => XS.aloadN X0.here hx rfl (hb hby d7t2_10) rfl rfl k) ?_
  refine own_st (T' := s₁) (F' := (mkF m 12 #[.val (.ref x0), .val (.int (0 : Int32)), .val (.ref x2), .val (.int (0 : Int32)), .val (.int (2 : Int32)), .val (.int (0 : Int32)), .unset] [(.int (0 : Int32)), (.ref x0)])) (fun _ k => XS.iloadN X0.here hx rfl (hb hby d7t2_11) rfl  k) ?_
  obtain ⟨cl2, Ar2, Aq2, As2, Am2, Ah2, Au2⟩ := id V_c
  have hin2 : ¬ ((0 : Int32) < 0 ∨ cl2.slots.size ≤ ((0 : Int32)).toNatClampNeg) := inb_of As2 ⟨by decide, by decide⟩
  have hat2 : cl2.slots[((0 : Int32)).toNatClampNeg]? = some (.int cc0) := Ah2.at hin2 (rfl)
  refine own_st (T' := s₁) (F' := (mkF m 13 #[.val (.ref x0), .val (.int (0 : Int32)), .val (.ref x2), .val (.int (0 : Int32)), .val (.int (2 : Int32)), .val (.int (0 : Int32)), .unset] [(.int cc0)])) (fun _ k => X0.caload hx (j := (0 : Int32)) (v := (.int cc0)) (by rw [e0]; exact Ar2.1) (State.isArrayOf_alike hZ.alike Ar2.2.1) Ar2.2.2 hin2 hat2 (g := (mkF m 12 #[.val (.ref x0), .val (.int (0 : Int32)), .val (.ref x2), .val (.int (0 : Int32)), .val (.int (2 : Int32)), .val (.int (0 : Int32)), .unset] [(.int (0 : Int32)), (.ref x0)])) rfl rfl (hb hby d7t2_12) _ k) ?_
  refine own_st (T' := s₁) (F' := (mkF m 15 #[.val (.ref x0), .val (.int (0 : Int32)), .val (.ref x2), .val (.int (0 : Int32)), .val (.int (2 : Int32)), .val (.int (0 : Int32)), .val (.int cc0)] [])) (fun _ k => XS.istore X0.here hx rfl (hb hby d7t2_13) rfl (l' := #[.val (.ref x0), .val (.int (0 : Int32)), .val (.ref x2), .val (.int (0 : Int32)), .val (.int (2 : Int32)), .val (.int (0 : Int32)), .val (.int cc0)]) rfl k) ?_
  refine own_st (T' := s₁) (F' := (mkF m 17 #[.val (.ref x0), .val (.int (0 : Int32)), .val (.ref x2), .val (.int (0 : Int32)), .val (.int (2 : Int32)), .val (.int (0 : Int32)), .val (.int cc0)] [(.int cc0)])) (fun _ k => XS.iload X0.here hx rfl (hb hby d7t2_15) rfl  k) ?_
  refine own_st (T' := s₁) (F' := (mkF m 20 #[.val (.ref x0), .val (.int (0 : Int32)), .val (.ref x2), .val (.int (0 : Int32)), .val (.int (2 : Int32)), .val (.int (0 : Int32)), .val (.int cc0)] [(.int (255 : Int32)), (.int cc0)])) (fun _ k => XS.sipush X0.here hx rfl (hb hby d7t2_17) k) ?_
  refine own_icmp X0 hx (pc' := 26) (pc2 := 23) (hb hby d7t2_20) (by decide) (by decide) rfl (fun (hc20_3 : ¬ ((255 : Int32) < cc0)) => ?_) (fun (hc20_3 : (255 : Int32) < cc0) => ?_)
  ·
    refine own_st (T' := s₁) (F' := (mkF m 27 #[.val (.ref x0), .val (.int (0 : Int32)), .val (.ref x2), .val (.int (0 : Int32)), .val (.int (2 : Int32)), .val (.int (0 : Int32)), .val (.int cc0)] [(.ref x2)])) (fun _ k => XS.aloadN X0.here hx rfl (hb hby d7t2_26) rfl rfl k) ?_
    refine own_st (T' := s₁) (F' := (mkF m 28 #[.val (.ref x0), .val (.int (0 : Int32)), .val (.ref x2), .val (.int (0 : Int32)), .val (.int (2 : Int32)), .val (.int (0 : Int32)), .val (.int cc0)] [(.int (0 : Int32)), (.ref x2)])) (fun _ k => XS.iloadN X0.here hx rfl (hb hby d7t2_27) rfl  k) ?_
    refine own_st (T' := s₁) (F' := (mkF m 30 #[.val (.ref x0), .val (.int (0 : Int32)), .val (.ref x2), .val (.int (0 : Int32)), .val (.int (2 : Int32)), .val (.int (0 : Int32)), .val (.int cc0)] [(.int cc0), (.int (0 : Int32)), (.ref x2)])) (fun _ k => XS.iload X0.here hx rfl (hb hby d7t2_28) rfl  k) ?_
    refine own_st (T' := s₁) (F' := (mkF m 31 #[.val (.ref x0), .val (.int (0 : Int32)), .val (.ref x2), .val (.int (0 : Int32)), .val (.int (2 : Int32)), .val (.int (0 : Int32)), .val (.int cc0)] [(.int (cc0.toInt8.toInt32)), (.int (0 : Int32)), (.ref x2)])) (fun _ k => XS.i2b X0.here hx rfl (hb hby d7t2_30) rfl k) ?_
    obtain ⟨cl4, Ar4, Aq4, As4, Am4, Ah4, Au4⟩ := id V_b
    have hin4 : ¬ ((0 : Int32) < 0 ∨ cl4.slots.size ≤ ((0 : Int32)).toNatClampNeg) := inb_of As4 ⟨by decide, by decide⟩
    obtain ⟨T4, h4, X4, e4, W4, st4⟩ := stB X0 hx hZ e0 Ar4 (j := (0 : Int32)) hin4 (g := (mkF m 31 #[.val (.ref x0), .val (.int (0 : Int32)), .val (.ref x2), .val (.int (0 : Int32)), .val (.int (2 : Int32)), .val (.int (0 : Int32)), .val (.int cc0)] [(.int (cc0.toInt8.toInt32)), (.int (0 : Int32)), (.ref x2)])) rfl rfl (hb hby d7t2_31)
    have V4 : Arv Z h4 x2 vkb .byte (2 : Int32) [(.int ((cc0.toInt8.toInt32).toInt8.toInt32)), (.int (0 : Int32))] (.int (0 : Int32)) := Arv.set Ar4 Aq4 As4 Am4 Ah4 Au4 (fits_nar_byte _) W4 0 rfl (show 0 < 2 by decide)
    have N4 := Fr.snoc X4 N0 hge
    have f5 : Arv Z h4 x0 vkc .char (2 : Int32) [(.int cc0), (.int cc1)] (.int (0 : Int32)) := V_c.other W4 (Ne.symm hno)
    have K4 : Keep h0 h4 [x2] := (Keep.refl h0 [x2]).wr W4 (Or.inl (List.mem_of_getElem? (i := 0) rfl))
    have Zs4 : n0 ≤ h4.size := Nat.le_trans Z0 K4.1
    refine own_st (T' := T4) (F' := (mkF m 32 #[.val (.ref x0), .val (.int (0 : Int32)), .val (.ref x2), .val (.int (0 : Int32)), .val (.int (2 : Int32)), .val (.int (0 : Int32)), .val (.int cc0)] [])) (fun _ k => st4 _ k) ?_
    refine own_st (T' := T4) (F' := (mkF m 35 #[.val (.ref x0), .val (.int (1 : Int32)), .val (.ref x2), .val (.int (0 : Int32)), .val (.int (2 : Int32)), .val (.int (0 : Int32)), .val (.int cc0)] [])) (fun _ k => XS.iinc X4.here hx rfl (hb hby d7t2_32) rfl (l' := #[.val (.ref x0), .val (.int (1 : Int32)), .val (.ref x2), .val (.int (0 : Int32)), .val (.int (2 : Int32)), .val (.int (0 : Int32)), .val (.int cc0)]) rfl k) ?_
    refine own_st (T' := T4) (F' := (mkF m 38 #[.val (.ref x0), .val (.int (1 : Int32)), .val (.ref x2), .val (.int (1 : Int32)), .val (.int (2 : Int32)), .val (.int (0 : Int32)), .val (.int cc0)] [])) (fun _ k => XS.iinc X4.here hx rfl (hb hby d7t2_35) rfl (l' := #[.val (.ref x0), .val (.int (1 : Int32)), .val (.ref x2), .val (.int (1 : Int32)), .val (.int (2 : Int32)), .val (.int (0 : Int32)), .val (.int cc0)]) rfl k) ?_
    refine own_st (T' := T4) (F' := (mkF m 41 #[.val (.ref x0), .val (.int (1 : Int32)), .val (.ref x2), .val (.int (1 : Int32)), .val (.int (2 : Int32)), .val (.int (1 : Int32)), .val (.int cc0)] [])) (fun _ k => XS.iinc X4.here hx rfl (hb hby d7t2_38) rfl (l' := #[.val (.ref x0), .val (.int (1 : Int32)), .val (.ref x2), .val (.int (1 : Int32)), .val (.int (2 : Int32)), .val (.int (1 : Int32)), .val (.int cc0)]) rfl k) ?_
    refine own_st (T' := T4) (F' := (mkF m 3 #[.val (.ref x0), .val (.int (1 : Int32)), .val (.ref x2), .val (.int (1 : Int32)), .val (.int (2 : Int32)), .val (.int (1 : Int32)), .val (.int cc0)] [])) (fun _ k => XS.goto X4.here hx rfl (pc0 := 41) (pc' := 3) rfl (hb hby d7t2_41) (by decide) (by decide) k) ?_
    refine own_st (T' := T4) (F' := (mkF m 5 #[.val (.ref x0), .val (.int (1 : Int32)), .val (.ref x2), .val (.int (1 : Int32)), .val (.int (2 : Int32)), .val (.int (1 : Int32)), .val (.int cc0)] [(.int (1 : Int32))])) (fun _ k => XS.iload X4.here hx rfl (hb hby d7t2_3) rfl  k) ?_
    refine own_st (T' := T4) (F' := (mkF m 7 #[.val (.ref x0), .val (.int (1 : Int32)), .val (.ref x2), .val (.int (1 : Int32)), .val (.int (2 : Int32)), .val (.int (1 : Int32)), .val (.int cc0)] [(.int (2 : Int32)), (.int (1 : Int32))])) (fun _ k => XS.iload X4.here hx rfl (hb hby d7t2_5) rfl  k) ?_
    refine own_icmp X4 hx (pc' := 44) (pc2 := 10) (hb hby d7t2_7) (by decide) (by decide) rfl (fun (hc7_6 : ¬ ((1 : Int32) < (2 : Int32))) => ?_) (fun (hc7_6 : (1 : Int32) < (2 : Int32)) => ?_)
    · exact absurd hc7_6 (by decide)
    refine own_st (T' := T4) (F' := (mkF m 11 #[.val (.ref x0), .val (.int (1 : Int32)), .val (.ref x2), .val (.int (1 : Int32)), .val (.int (2 : Int32)), .val (.int (1 : Int32)), .val (.int cc0)] [(.ref x0)])) (fun _ k => XS.aloadN X4.here hx rfl (hb hby d7t2_10) rfl rfl k) ?_
    refine own_st (T' := T4) (F' := (mkF m 12 #[.val (.ref x0), .val (.int (1 : Int32)), .val (.ref x2), .val (.int (1 : Int32)), .val (.int (2 : Int32)), .val (.int (1 : Int32)), .val (.int cc0)] [(.int (1 : Int32)), (.ref x0)])) (fun _ k => XS.iloadN X4.here hx rfl (hb hby d7t2_11) rfl  k) ?_
    obtain ⟨cl7, Ar7, Aq7, As7, Am7, Ah7, Au7⟩ := id f5
    have hin7 : ¬ ((1 : Int32) < 0 ∨ cl7.slots.size ≤ ((1 : Int32)).toNatClampNeg) := inb_of As7 ⟨by decide, by decide⟩
    have hat7 : cl7.slots[((1 : Int32)).toNatClampNeg]? = some (.int cc1) := Ah7.at hin7 (rfl)
    refine own_st (T' := T4) (F' := (mkF m 13 #[.val (.ref x0), .val (.int (1 : Int32)), .val (.ref x2), .val (.int (1 : Int32)), .val (.int (2 : Int32)), .val (.int (1 : Int32)), .val (.int cc0)] [(.int cc1)])) (fun _ k => X4.caload hx (j := (1 : Int32)) (v := (.int cc1)) (by rw [e4]; exact Ar7.1) (State.isArrayOf_alike hZ.alike Ar7.2.1) Ar7.2.2 hin7 hat7 (g := (mkF m 12 #[.val (.ref x0), .val (.int (1 : Int32)), .val (.ref x2), .val (.int (1 : Int32)), .val (.int (2 : Int32)), .val (.int (1 : Int32)), .val (.int cc0)] [(.int (1 : Int32)), (.ref x0)])) rfl rfl (hb hby d7t2_12) _ k) ?_
    refine own_st (T' := T4) (F' := (mkF m 15 #[.val (.ref x0), .val (.int (1 : Int32)), .val (.ref x2), .val (.int (1 : Int32)), .val (.int (2 : Int32)), .val (.int (1 : Int32)), .val (.int cc1)] [])) (fun _ k => XS.istore X4.here hx rfl (hb hby d7t2_13) rfl (l' := #[.val (.ref x0), .val (.int (1 : Int32)), .val (.ref x2), .val (.int (1 : Int32)), .val (.int (2 : Int32)), .val (.int (1 : Int32)), .val (.int cc1)]) rfl k) ?_
    refine own_st (T' := T4) (F' := (mkF m 17 #[.val (.ref x0), .val (.int (1 : Int32)), .val (.ref x2), .val (.int (1 : Int32)), .val (.int (2 : Int32)), .val (.int (1 : Int32)), .val (.int cc1)] [(.int cc1)])) (fun _ k => XS.iload X4.here hx rfl (hb hby d7t2_15) rfl  k) ?_
    refine own_st (T' := T4) (F' := (mkF m 20 #[.val (.ref x0), .val (.int (1 : Int32)), .val (.ref x2), .val (.int (1 : Int32)), .val (.int (2 : Int32)), .val (.int (1 : Int32)), .val (.int cc1)] [(.int (255 : Int32)), (.int cc1)])) (fun _ k => XS.sipush X4.here hx rfl (hb hby d7t2_17) k) ?_
    refine own_icmp X4 hx (pc' := 26) (pc2 := 23) (hb hby d7t2_20) (by decide) (by decide) rfl (fun (hc20_8 : ¬ ((255 : Int32) < cc1)) => ?_) (fun (hc20_8 : (255 : Int32) < cc1) => ?_)
    ·
      refine own_st (T' := T4) (F' := (mkF m 27 #[.val (.ref x0), .val (.int (1 : Int32)), .val (.ref x2), .val (.int (1 : Int32)), .val (.int (2 : Int32)), .val (.int (1 : Int32)), .val (.int cc1)] [(.ref x2)])) (fun _ k => XS.aloadN X4.here hx rfl (hb hby d7t2_26) rfl rfl k) ?_
      refine own_st (T' := T4) (F' := (mkF m 28 #[.val (.ref x0), .val (.int (1 : Int32)), .val (.ref x2), .val (.int (1 : Int32)), .val (.int (2 : Int32)), .val (.int (1 : Int32)), .val (.int cc1)] [(.int (1 : Int32)), (.ref x2)])) (fun _ k => XS.iloadN X4.here hx rfl (hb hby d7t2_27) rfl  k) ?_
      refine own_st (T' := T4) (F' := (mkF m 30 #[.val (.ref x0), .val (.int (1 : Int32)), .val (.ref x2), .val (.int (1 : Int32)), .val (.int (2 : Int32)), .val (.int (1 : Int32)), .val (.int cc1)] [(.int cc1), (.int (1 : Int32)), (.ref x2)])) (fun _ k => XS.iload X4.here hx rfl (hb hby d7t2_28) rfl  k) ?_
      refine own_st (T' := T4) (F' := (mkF m 31 #[.val (.ref x0), .val (.int (1 : Int32)), .val (.ref x2), .val (.int (1 : Int32)), .val (.int (2 : Int32)), .val (.int (1 : Int32)), .val (.int cc1)] [(.int (cc1.toInt8.toInt32)), (.int (1 : Int32)), (.ref x2)])) (fun _ k => XS.i2b X4.here hx rfl (hb hby d7t2_30) rfl k) ?_
      obtain ⟨cl9, Ar9, Aq9, As9, Am9, Ah9, Au9⟩ := id V4
      have hin9 : ¬ ((1 : Int32) < 0 ∨ cl9.slots.size ≤ ((1 : Int32)).toNatClampNeg) := inb_of As9 ⟨by decide, by decide⟩
      obtain ⟨T9, h9, X9, e9, W9, st9⟩ := stB X4 hx hZ e4 Ar9 (j := (1 : Int32)) hin9 (g := (mkF m 31 #[.val (.ref x0), .val (.int (1 : Int32)), .val (.ref x2), .val (.int (1 : Int32)), .val (.int (2 : Int32)), .val (.int (1 : Int32)), .val (.int cc1)] [(.int (cc1.toInt8.toInt32)), (.int (1 : Int32)), (.ref x2)])) rfl rfl (hb hby d7t2_31)
      have V9 : Arv Z h9 x2 vkb .byte (2 : Int32) [(.int ((cc0.toInt8.toInt32).toInt8.toInt32)), (.int ((cc1.toInt8.toInt32).toInt8.toInt32))] (.int (0 : Int32)) := Arv.set Ar9 Aq9 As9 Am9 Ah9 Au9 (fits_nar_byte _) W9 1 rfl (show 1 < 2 by decide)
      have N9 := Fr.snoc X9 N4 hge
      have f10 : Arv Z h9 x0 vkc .char (2 : Int32) [(.int cc0), (.int cc1)] (.int (0 : Int32)) := f5.other W9 (Ne.symm hno)
      have K9 : Keep h0 h9 [x2] := K4.wr W9 (Or.inl (List.mem_of_getElem? (i := 0) rfl))
      have Zs9 : n0 ≤ h9.size := Nat.le_trans Z0 K9.1
      refine own_st (T' := T9) (F' := (mkF m 32 #[.val (.ref x0), .val (.int (1 : Int32)), .val (.ref x2), .val (.int (1 : Int32)), .val (.int (2 : Int32)), .val (.int (1 : Int32)), .val (.int cc1)] [])) (fun _ k => st9 _ k) ?_
      refine own_st (T' := T9) (F' := (mkF m 35 #[.val (.ref x0), .val (.int (2 : Int32)), .val (.ref x2), .val (.int (1 : Int32)), .val (.int (2 : Int32)), .val (.int (1 : Int32)), .val (.int cc1)] [])) (fun _ k => XS.iinc X9.here hx rfl (hb hby d7t2_32) rfl (l' := #[.val (.ref x0), .val (.int (2 : Int32)), .val (.ref x2), .val (.int (1 : Int32)), .val (.int (2 : Int32)), .val (.int (1 : Int32)), .val (.int cc1)]) rfl k) ?_
      refine own_st (T' := T9) (F' := (mkF m 38 #[.val (.ref x0), .val (.int (2 : Int32)), .val (.ref x2), .val (.int (2 : Int32)), .val (.int (2 : Int32)), .val (.int (1 : Int32)), .val (.int cc1)] [])) (fun _ k => XS.iinc X9.here hx rfl (hb hby d7t2_35) rfl (l' := #[.val (.ref x0), .val (.int (2 : Int32)), .val (.ref x2), .val (.int (2 : Int32)), .val (.int (2 : Int32)), .val (.int (1 : Int32)), .val (.int cc1)]) rfl k) ?_
      refine own_st (T' := T9) (F' := (mkF m 41 #[.val (.ref x0), .val (.int (2 : Int32)), .val (.ref x2), .val (.int (2 : Int32)), .val (.int (2 : Int32)), .val (.int (2 : Int32)), .val (.int cc1)] [])) (fun _ k => XS.iinc X9.here hx rfl (hb hby d7t2_38) rfl (l' := #[.val (.ref x0), .val (.int (2 : Int32)), .val (.ref x2), .val (.int (2 : Int32)), .val (.int (2 : Int32)), .val (.int (2 : Int32)), .val (.int cc1)]) rfl k) ?_
      refine own_st (T' := T9) (F' := (mkF m 3 #[.val (.ref x0), .val (.int (2 : Int32)), .val (.ref x2), .val (.int (2 : Int32)), .val (.int (2 : Int32)), .val (.int (2 : Int32)), .val (.int cc1)] [])) (fun _ k => XS.goto X9.here hx rfl (pc0 := 41) (pc' := 3) rfl (hb hby d7t2_41) (by decide) (by decide) k) ?_
      refine own_st (T' := T9) (F' := (mkF m 5 #[.val (.ref x0), .val (.int (2 : Int32)), .val (.ref x2), .val (.int (2 : Int32)), .val (.int (2 : Int32)), .val (.int (2 : Int32)), .val (.int cc1)] [(.int (2 : Int32))])) (fun _ k => XS.iload X9.here hx rfl (hb hby d7t2_3) rfl  k) ?_
      refine own_st (T' := T9) (F' := (mkF m 7 #[.val (.ref x0), .val (.int (2 : Int32)), .val (.ref x2), .val (.int (2 : Int32)), .val (.int (2 : Int32)), .val (.int (2 : Int32)), .val (.int cc1)] [(.int (2 : Int32)), (.int (2 : Int32))])) (fun _ k => XS.iload X9.here hx rfl (hb hby d7t2_5) rfl  k) ?_
      refine own_icmp X9 hx (pc' := 44) (pc2 := 10) (hb hby d7t2_7) (by decide) (by decide) rfl (fun (hc7_11 : ¬ ((2 : Int32) < (2 : Int32))) => ?_) (fun (hc7_11 : (2 : Int32) < (2 : Int32)) => ?_)
      rotate_left
      · exact absurd hc7_11 (by decide)
      refine own_st (T' := T9) (F' := (mkF m 46 #[.val (.ref x0), .val (.int (2 : Int32)), .val (.ref x2), .val (.int (2 : Int32)), .val (.int (2 : Int32)), .val (.int (2 : Int32)), .val (.int cc1)] [(.int (2 : Int32))])) (fun _ k => XS.iload X9.here hx rfl (hb hby d7t2_44) rfl  k) ?_
      refine own_retI X9 hx hlk Bd.returns (hb hby d7t2_46) ?_ (by decide) (by decide)
      rw [e9]
      refine ⟨?_, N9, K9, V9⟩
      rfl
    ·
      first | exact absurd hc20_8 h255_0 | exact absurd hc20_8 h255_1
  ·
    first | exact absurd hc20_3 h255_0 | exact absurd hc20_3 h255_1
theorem d6t2_0 : decode jdk_52_method_16_code 0 = .ok (.iload_n 2, 1) := by decide +kernel
theorem d6t2_1 : decode jdk_52_method_16_code 1 = .ok (.newarray .byte, 2) := by decide +kernel
theorem d6t2_3 : decode jdk_52_method_16_code 3 = .ok (.astore_n 3, 1) := by decide +kernel
theorem d6t2_4 : decode jdk_52_method_16_code 4 = .ok (.aload_n 0, 1) := by decide +kernel
theorem d6t2_5 : decode jdk_52_method_16_code 5 = .ok (.iload_n 1, 1) := by decide +kernel
theorem d6t2_6 : decode jdk_52_method_16_code 6 = .ok (.aload_n 3, 1) := by decide +kernel
theorem d6t2_7 : decode jdk_52_method_16_code 7 = .ok (.iconst 0, 1) := by decide +kernel
theorem d6t2_8 : decode jdk_52_method_16_code 8 = .ok (.iload_n 2, 1) := by decide +kernel
theorem d6t2_9 : decode jdk_52_method_16_code 9 = .ok (.invokestatic 115, 3) := by decide +kernel
theorem d6t2_12 : decode jdk_52_method_16_code 12 = .ok (.istore 4, 2) := by decide +kernel
theorem d6t2_14 : decode jdk_52_method_16_code 14 = .ok (.iload 4, 2) := by decide +kernel
theorem d6t2_16 : decode jdk_52_method_16_code 16 = .ok (.iload_n 2, 1) := by decide +kernel
theorem d6t2_17 : decode jdk_52_method_16_code 17 = .ok (.if_icmp .eq 40, 3) := by decide +kernel
theorem d6t2_57 : decode jdk_52_method_16_code 57 = .ok (.aload_n 3, 1) := by decide +kernel
theorem d6t2_58 : decode jdk_52_method_16_code 58 = .ok (.areturn, 1) := by decide +kernel
theorem own_pn6t2 : plainName "java/lang/StringUTF16" = true := by first | (simp [plainName, overriddenIn]; done) | decide +kernel
theorem own_ef6t2 (m : MethodId) (x0 : Addr) : entryFrame m #[(.ref x0), (.int (0 : Int32)), (.int (2 : Int32))] 6 = (mkF m 0 #[.val (.ref x0), .val (.int (0 : Int32)), .val (.int (2 : Int32)), .unset, .unset, .unset] []) := by first | (simp [entryFrame, mkF, argsToLocals, Value.category]; done) | rfl
def Q6t2 (Z : State) (x0 : Addr) (vkc : ClassId) (cc0 : Int32) (cc1 : Int32) (h0 : Heap) (n0 : Nat) (v : Option Value) (h : Heap) (L : List Loc) : Prop := (∃ z : Addr, v = some (.ref z) ∧ (∃ vkb : ClassId, h0.size ≤ z ∧ Arv Z h z vkb .byte (2 : Int32) [(.int ((cc0.toInt8.toInt32).toInt8.toInt32)), (.int ((cc1.toInt8.toInt32).toInt8.toInt32))] (.int (0 : Int32)))) ∧ Fr n0 L ∧ Keep h0 h []
set_option maxRecDepth 65536 in
set_option maxHeartbeats 40000000 in
theorem rm6t2 (l : Launch) (Z : State) (a0 : Array Value) (hw : ∀ d ∈ tables_1, d.before a0 Z = true) (ws : List Jvm.Cond) (x0 : Addr) (vkc : ClassId) (cc0 : Int32) (cc1 : Int32) (h0 : Heap) (n0 : Nat) (Z0 : n0 ≤ h0.size) (V_c : Arv Z h0 x0 vkc .char (2 : Int32) [(.int cc0), (.int cc1)] (.int (0 : Int32))) (h255_0 : ¬ ((255 : Int32) < cc0)) (h255_1 : ¬ ((255 : Int32) < cc1)) :
    MetFree l (⟨"java/lang/StringUTF16", "compress", "([CII)[B"⟩ : MethodName) (head1 (Jvm.Cond.code (⟨"java/lang/StringUTF16", "compress", "([CII)[B"⟩ : MethodName) jdk_52_method_16_code 6 (some (.array .byte)) :: ws) ({ frames := 1, cells := 1, slots := 2, locals := 18 } : Room)) (fun a U => a = #[(.ref x0), (.int (0 : Int32)), (.int (2 : Int32))] ∧ Z.Warmed39 U.vm ∧ U.heap = h0) (fun _ _ _ _ _ => True) (fun _ U oc U' => ∃ v L, oc = .returned v ∧ Q6t2 Z x0 vkc cc0 cc1 h0 n0 v U'.heap L ∧ FrameEnd U oc U' L ({ frames := 1, cells := 1, slots := 2, locals := 18 } : Room).cells ({ frames := 1, cells := 1, slots := 2, locals := 18 } : Room).slots) := by
  refine MetFree.of_bodySF (plainFor_of_name own_pn6t2) hisR ?_
  intro p e s m args below meth c s₁ Bd hml0 hP hK
  obtain ⟨rfl, hZ, hh⟩ := hP
  have hx := Bd.exec
  have hby := Bd.bytes
  have hlk : meth.locks = false := BodyLoose.notSynchronized Bd
  have hml : c.maxLocals = 6 := hml0
  have hown : s.vm.findClass "java/lang/StringUTF16" = some m.cls := findClass_of_methodNamed Bd.named
  have hnm := (name_of_methodNamed Bd.named Bd.method).1
  have X0 : Stand p l e ({ frames := 1, cells := 1, slots := 2, locals := 18 } : Room) s m #[(.ref x0), (.int (0 : Int32)), (.int (2 : Int32))] below meth c s₁ [] 0 0 := Stand.of_body Bd
  have e0 : s₁.heap = h0 := by rw [← hh, Bd.state]; rfl
  have N0 := Fr.nil n0
  refine own_enter (own_ef6t2 m x0) ?_
  show own_Go p e below (own_E s (Q6t2 Z x0 vkc cc0 cc1 h0 n0) ({ frames := 1, cells := 1, slots := 2, locals := 18 } : Room).cells ({ frames := 1, cells := 1, slots := 2, locals := 18 } : Room).slots) s₁ (mkF m 0 #[.val (.ref x0), .val (.int (0 : Int32)), .val (.int (2 : Int32)), .unset, .unset, .unset] [])
  refine own_st (T' := s₁) (F' := (mkF m 1 #[.val (.ref x0), .val (.int (0 : Int32)), .val (.int (2 : Int32)), .unset, .unset, .unset] [(.int (2 : Int32))])) (fun _ k => XS.iloadN X0.here hx rfl (hb hby d6t2_0) rfl  k) ?_
  obtain ⟨T1, h1, k1, X1, e1, E1, A1, AE1, st1⟩ := newPE X0 hx hZ (hw _ (List.mem_of_getElem? (i := 31) rfl)) e0 (g := (mkF m 1 #[.val (.ref x0), .val (.int (0 : Int32)), .val (.int (2 : Int32)), .unset, .unset, .unset] [(.int (2 : Int32))])) rfl (hb hby d6t2_1) rfl (by decide) (cap := 2) (by decide) (by decide) (by decide) (by decide) (ad := "[B") (by decide)
  obtain ⟨b1, g1⟩ : ∃ z, z = h0.size := ⟨_, rfl⟩
  rw [← g1] at A1 AE1 st1
  have ge1 : n0 ≤ b1 := by rw [g1]; exact Z0
  have hge1 : h0.size ≤ b1 := by rw [g1]; exact (Keep.refl h0 []).1
  have ne1_1 : x0 ≠ b1 := by rw [g1]; exact Nat.ne_of_lt V_c.lt
  have f2 : Arv Z h1 x0 vkc .char (2 : Int32) [(.int cc0), (.int cc1)] (.int (0 : Int32)) := V_c.ext E1
  have K1 : Keep h0 h1 [] := (Keep.refl h0 []).ext E1
  have Zs1 : n0 ≤ h1.size := Nat.le_trans Z0 K1.1
  have V1 : Arv Z h1 b1 k1 .byte (2 : Int32) [(.int (0 : Int32)), (.int (0 : Int32))] (.int (0 : Int32)) := (Arv.new A1 (by decide)).pad (pad_rep [] (.int (0 : Int32)) 2)
  refine own_st (T' := T1) (F' := (mkF m 3 #[.val (.ref x0), .val (.int (0 : Int32)), .val (.int (2 : Int32)), .unset, .unset, .unset] [(.ref b1)])) (fun _ k => st1 _ k) ?_
  refine own_st (T' := T1) (F' := (mkF m 4 #[.val (.ref x0), .val (.int (0 : Int32)), .val (.int (2 : Int32)), .val (.ref b1), .unset, .unset] [])) (fun _ k => XS.astoreN X1.here hx rfl (hb hby d6t2_3) rfl rfl (l' := #[.val (.ref x0), .val (.int (0 : Int32)), .val (.int (2 : Int32)), .val (.ref b1), .unset, .unset]) rfl k) ?_
  refine own_st (T' := T1) (F' := (mkF m 5 #[.val (.ref x0), .val (.int (0 : Int32)), .val (.int (2 : Int32)), .val (.ref b1), .unset, .unset] [(.ref x0)])) (fun _ k => XS.aloadN X1.here hx rfl (hb hby d6t2_4) rfl rfl k) ?_
  refine own_st (T' := T1) (F' := (mkF m 6 #[.val (.ref x0), .val (.int (0 : Int32)), .val (.int (2 : Int32)), .val (.ref b1), .unset, .unset] [(.int (0 : Int32)), (.ref x0)])) (fun _ k => XS.iloadN X1.here hx rfl (hb hby d6t2_5) rfl  k) ?_
  refine own_st (T' := T1) (F' := (mkF m 7 #[.val (.ref x0), .val (.int (0 : Int32)), .val (.int (2 : Int32)), .val (.ref b1), .unset, .unset] [(.ref b1), (.int (0 : Int32)), (.ref x0)])) (fun _ k => XS.aloadN X1.here hx rfl (hb hby d6t2_6) rfl rfl k) ?_
  refine own_st (T' := T1) (F' := (mkF m 8 #[.val (.ref x0), .val (.int (0 : Int32)), .val (.int (2 : Int32)), .val (.ref b1), .unset, .unset] [(.int (0 : Int32)), (.ref b1), (.int (0 : Int32)), (.ref x0)])) (fun _ k => XS.iconst X1.here hx rfl (hb hby d6t2_7) k) ?_
  refine own_st (T' := T1) (F' := (mkF m 9 #[.val (.ref x0), .val (.int (0 : Int32)), .val (.int (2 : Int32)), .val (.ref b1), .unset, .unset] [(.int (2 : Int32)), (.int (0 : Int32)), (.ref b1), (.int (0 : Int32)), (.ref x0)])) (fun _ k => XS.iloadN X1.here hx rfl (hb hby d6t2_8) rfl  k) ?_
  obtain ⟨_, _, ⟨T3, L3, k3, n3⟩, -, X3, ⟨Lc3, hQ3, l3, y3, z3⟩, st3⟩ := Jvm.LawKit.callS X1 hx (y := (⟨"java/lang/StringUTF16", "compress", "([CI[BII)I"⟩ : MethodName)) hown (mvT hZ (hw _ (List.mem_of_getElem? (i := 32) rfl))) (mvT hZ (hw _ (List.mem_of_getElem? (i := 33) rfl))) (mvT hZ (hw _ (List.mem_of_getElem? (i := 29) rfl))) (mvT hZ (hw _ (List.mem_of_getElem? (i := 34) rfl))) (by decide) (backOf (W := 0) (rm7t2 l Z a0 hw [] x0 b1 vkc k1 cc0 cc1 h1 n0 Zs1 ge1 (Ne.symm ne1_1) f2 V1 h255_0 h255_1) hZ (hw _ (List.mem_of_getElem? (i := 34) rfl)) (hw _ (List.mem_of_getElem? (i := 29) rfl)) (by decide) (by decide)) (g := (mkF m 9 #[.val (.ref x0), .val (.int (0 : Int32)), .val (.int (2 : Int32)), .val (.ref b1), .unset, .unset] [(.int (2 : Int32)), (.int (0 : Int32)), (.ref b1), (.int (0 : Int32)), (.ref x0)])) rfl (by rw [hml]; rfl) (argsL := [(.ref x0), (.int (0 : Int32)), (.ref b1), (.int (0 : Int32)), (.int (2 : Int32))]) (rest := []) (lenOf own_pd8 rfl) rfl (by show 2 * 0 + _ ≤ _; exact Nat.le_of_eq rfl) (hb hby d6t2_9) (fun _ _ => ⟨rfl, e1, (by decide : 1 + 0 ≤ _), (by decide : 2 + 0 ≤ _)⟩)
  dsimp only [Pt.U, Pt.locs, Pt.cells, Pt.slots] at X3 l3 y3 z3 st3 hQ3
  subst l3 y3 z3
  obtain ⟨rfl, Nq3, g3_0, g3_1⟩ := hQ3
  have N3 := Fr.app N0 Nq3
  have f4 : Arv Z T3.heap x0 vkc .char (2 : Int32) [(.int cc0), (.int cc1)] (.int (0 : Int32)) := f2.keep g3_0 (ninS ne1_1 nin0)
  have f5 : Exa Z T3.heap b1 "[B" := AE1.keep g3_0
  have K3 : Keep h0 T3.heap [] := K1.trans g3_0 (allS (Or.inr hge1) all0)
  have Zs3 : n0 ≤ T3.heap.size := Nat.le_trans Z0 K3.1
  refine own_st (T' := T3) (F' := (mkF m 12 #[.val (.ref x0), .val (.int (0 : Int32)), .val (.int (2 : Int32)), .val (.ref b1), .unset, .unset] [(.int (2 : Int32))])) (fun _ k => st3 _ k) ?_
  refine own_st (T' := T3) (F' := (mkF m 14 #[.val (.ref x0), .val (.int (0 : Int32)), .val (.int (2 : Int32)), .val (.ref b1), .val (.int (2 : Int32)), .unset] [])) (fun _ k => XS.istore X3.here hx rfl (hb hby d6t2_12) rfl (l' := #[.val (.ref x0), .val (.int (0 : Int32)), .val (.int (2 : Int32)), .val (.ref b1), .val (.int (2 : Int32)), .unset]) rfl k) ?_
  refine own_st (T' := T3) (F' := (mkF m 16 #[.val (.ref x0), .val (.int (0 : Int32)), .val (.int (2 : Int32)), .val (.ref b1), .val (.int (2 : Int32)), .unset] [(.int (2 : Int32))])) (fun _ k => XS.iload X3.here hx rfl (hb hby d6t2_14) rfl  k) ?_
  refine own_st (T' := T3) (F' := (mkF m 17 #[.val (.ref x0), .val (.int (0 : Int32)), .val (.int (2 : Int32)), .val (.ref b1), .val (.int (2 : Int32)), .unset] [(.int (2 : Int32)), (.int (2 : Int32))])) (fun _ k => XS.iloadN X3.here hx rfl (hb hby d6t2_16) rfl  k) ?_
  refine own_icmp X3 hx (pc' := 57) (pc2 := 20) (hb hby d6t2_17) (by decide) (by decide) rfl (fun (hc17 : (2 : Int32) = (2 : Int32)) => ?_) (fun (hc17 : ¬ ((2 : Int32) = (2 : Int32))) => ?_)
  rotate_left
  · exact absurd hc17 (by decide)
  refine own_st (T' := T3) (F' := (mkF m 58 #[.val (.ref x0), .val (.int (0 : Int32)), .val (.int (2 : Int32)), .val (.ref b1), .val (.int (2 : Int32)), .unset] [(.ref b1)])) (fun _ k => XS.aloadN X3.here hx rfl (hb hby d6t2_57) rfl rfl k) ?_
  refine own_retA X3 hx hlk (t := (.array .byte)) Bd.returns rfl rfl rfl (hb hby d6t2_58) ?_ (by decide) (by decide)
  show Q6t2 Z x0 vkc cc0 cc1 h0 n0 _ T3.heap _
  refine ⟨⟨_, rfl, ?_⟩, N3, K3⟩
  exact ⟨_, hge1, g3_1⟩
theorem d8t2_0 : decode jdk_52_method_15_code 0 = .ok (.iload_n 1, 1) := by decide +kernel
theorem d8t2_1 : decode jdk_52_method_15_code 1 = .ok (.aload_n 0, 1) := by decide +kernel
theorem d8t2_2 : decode jdk_52_method_15_code 2 = .ok (.arraylength, 1) := by decide +kernel
theorem d8t2_3 : decode jdk_52_method_15_code 3 = .ok (.isub, 1) := by decide +kernel
theorem d8t2_4 : decode jdk_52_method_15_code 4 = .ok (.bipush 31, 2) := by decide +kernel
theorem d8t2_6 : decode jdk_52_method_15_code 6 = .ok (.iushr, 1) := by decide +kernel
theorem d8t2_7 : decode jdk_52_method_15_code 7 = .ok (.i2b, 1) := by decide +kernel
theorem d8t2_8 : decode jdk_52_method_15_code 8 = .ok (.ireturn, 1) := by decide +kernel
theorem own_pn8t2 : plainName "java/lang/StringUTF16" = true := by first | (simp [plainName, overriddenIn]; done) | decide +kernel
theorem own_ef8t2 (m : MethodId) (x0 : Addr) : entryFrame m #[(.ref x0), (.int (2 : Int32))] 2 = (mkF m 0 #[.val (.ref x0), .val (.int (2 : Int32))] []) := by first | (simp [entryFrame, mkF, argsToLocals, Value.category]; done) | rfl
def Q8t2 (Z : State) (x0 : Addr) (vkb : ClassId) (cc0 : Int32) (cc1 : Int32) (h0 : Heap) (n0 : Nat) (v : Option Value) (h : Heap) (L : List Loc) : Prop := v = some (.int (0 : Int32)) ∧ Fr n0 L ∧ h = h0
set_option maxRecDepth 65536 in
set_option maxHeartbeats 40000000 in
theorem rm8t2 (l : Launch) (Z : State) (a0 : Array Value) (hw : ∀ d ∈ tables_1, d.before a0 Z = true) (ws : List Jvm.Cond) (x0 : Addr) (vkb : ClassId) (cc0 : Int32) (cc1 : Int32) (h0 : Heap) (n0 : Nat) (Z0 : n0 ≤ h0.size) (V_b : Arv Z h0 x0 vkb .byte (2 : Int32) [(.int ((cc0.toInt8.toInt32).toInt8.toInt32)), (.int ((cc1.toInt8.toInt32).toInt8.toInt32))] (.int (0 : Int32))) :
    MetFree l (⟨"java/lang/StringUTF16", "coderFromArrayLen", "([BI)B"⟩ : MethodName) (head1 (Jvm.Cond.code (⟨"java/lang/StringUTF16", "coderFromArrayLen", "([BI)B"⟩ : MethodName) jdk_52_method_15_code 2 (some .byte) :: ws) ({ frames := 0, cells := 0, slots := 0, locals := 0 } : Room)) (fun a U => a = #[(.ref x0), (.int (2 : Int32))] ∧ Z.Warmed39 U.vm ∧ U.heap = h0) (fun _ _ _ _ _ => True) (fun _ U oc U' => ∃ v L, oc = .returned v ∧ Q8t2 Z x0 vkb cc0 cc1 h0 n0 v U'.heap L ∧ FrameEnd U oc U' L ({ frames := 0, cells := 0, slots := 0, locals := 0 } : Room).cells ({ frames := 0, cells := 0, slots := 0, locals := 0 } : Room).slots) := by
  refine MetFree.of_bodySF (plainFor_of_name own_pn8t2) hisR ?_
  intro p e s m args below meth c s₁ Bd hml0 hP hK
  obtain ⟨rfl, hZ, hh⟩ := hP
  have hx := Bd.exec
  have hby := Bd.bytes
  have hlk : meth.locks = false := BodyLoose.notSynchronized Bd
  have hml : c.maxLocals = 2 := hml0
  have hown : s.vm.findClass "java/lang/StringUTF16" = some m.cls := findClass_of_methodNamed Bd.named
  have hnm := (name_of_methodNamed Bd.named Bd.method).1
  have X0 : Stand p l e ({ frames := 0, cells := 0, slots := 0, locals := 0 } : Room) s m #[(.ref x0), (.int (2 : Int32))] below meth c s₁ [] 0 0 := Stand.of_body Bd
  have e0 : s₁.heap = h0 := by rw [← hh, Bd.state]; rfl
  have N0 := Fr.nil n0
  refine own_enter (own_ef8t2 m x0) ?_
  show own_Go p e below (own_E s (Q8t2 Z x0 vkb cc0 cc1 h0 n0) ({ frames := 0, cells := 0, slots := 0, locals := 0 } : Room).cells ({ frames := 0, cells := 0, slots := 0, locals := 0 } : Room).slots) s₁ (mkF m 0 #[.val (.ref x0), .val (.int (2 : Int32))] [])
  refine own_st (T' := s₁) (F' := (mkF m 1 #[.val (.ref x0), .val (.int (2 : Int32))] [(.int (2 : Int32))])) (fun _ k => XS.iloadN X0.here hx rfl (hb hby d8t2_0) rfl  k) ?_
  refine own_st (T' := s₁) (F' := (mkF m 2 #[.val (.ref x0), .val (.int (2 : Int32))] [(.ref x0), (.int (2 : Int32))])) (fun _ k => XS.aloadN X0.here hx rfl (hb hby d8t2_1) rfl rfl k) ?_
  obtain ⟨cl1, Ar1, Aq1, As1, Am1, Ah1, Au1⟩ := id V_b
  refine own_st (T' := s₁) (F' := (mkF m 3 #[.val (.ref x0), .val (.int (2 : Int32))] [(.int (2 : Int32)), (.int (2 : Int32))])) (fun _ k => X0.arraylength hx (cell := cl1) (by rw [e0]; exact Ar1.1) (State.isArrayOf_alike hZ.alike Ar1.2.1) (g := (mkF m 2 #[.val (.ref x0), .val (.int (2 : Int32))] [(.ref x0), (.int (2 : Int32))])) rfl (rest := [(.int (2 : Int32))]) rfl (hb hby d8t2_2) _ (by rw [len_of As1 Am1]; exact k)) ?_
  refine own_st (T' := s₁) (F' := (mkF m 4 #[.val (.ref x0), .val (.int (2 : Int32))] [(.int (0 : Int32))])) (fun _ k => XS.isub X0.here hx rfl (hb hby d8t2_3) rfl k) ?_
  refine own_st (T' := s₁) (F' := (mkF m 6 #[.val (.ref x0), .val (.int (2 : Int32))] [(.int (31 : Int32)), (.int (0 : Int32))])) (fun _ k => XS.bipush X0.here hx rfl (hb hby d8t2_4) k) ?_
  refine own_st (T' := s₁) (F' := (mkF m 7 #[.val (.ref x0), .val (.int (2 : Int32))] [(.int (((0 : Int32).toUInt32 >>> ((31 : Int32) &&& 31).toUInt32).toInt32))])) (fun _ k => XS.iushr X0.here hx rfl (hb hby d8t2_6) rfl k) ?_
  refine own_st (T' := s₁) (F' := (mkF m 8 #[.val (.ref x0), .val (.int (2 : Int32))] [(.int ((((0 : Int32).toUInt32 >>> ((31 : Int32) &&& 31).toUInt32).toInt32).toInt8.toInt32))])) (fun _ k => XS.i2b X0.here hx rfl (hb hby d8t2_7) rfl k) ?_
  refine own_retN X0 hx hlk (t := .byte) Bd.returns (by simp) (hb hby d8t2_8) ?_ (by decide) (by decide)
  rw [e0]
  refine ⟨?_, N0, rfl⟩
  rfl
theorem d4t2_0 : decode jdk_42_method_149_code 0 = .ok (.aload_n 0, 1) := by decide +kernel
theorem d4t2_1 : decode jdk_42_method_149_code 1 = .ok (.invokespecial 1, 3) := by decide +kernel
theorem d4t2_4 : decode jdk_42_method_149_code 4 = .ok (.iload_n 3, 1) := by decide +kernel
theorem d4t2_5 : decode jdk_42_method_149_code 5 = .ok (.ifCond .ne 22, 3) := by decide +kernel
theorem d4t2_27 : decode jdk_42_method_149_code 27 = .ok (.getstatic 38, 3) := by decide +kernel
theorem d4t2_30 : decode jdk_42_method_149_code 30 = .ok (.ifCond .eq 28, 3) := by decide +kernel
theorem d4t2_33 : decode jdk_42_method_149_code 33 = .ok (.aload_n 1, 1) := by decide +kernel
theorem d4t2_34 : decode jdk_42_method_149_code 34 = .ok (.iload_n 2, 1) := by decide +kernel
theorem d4t2_35 : decode jdk_42_method_149_code 35 = .ok (.iload_n 3, 1) := by decide +kernel
theorem d4t2_36 : decode jdk_42_method_149_code 36 = .ok (.invokestatic 177, 3) := by decide +kernel
theorem d4t2_39 : decode jdk_42_method_149_code 39 = .ok (.astore 5, 2) := by decide +kernel
theorem d4t2_41 : decode jdk_42_method_149_code 41 = .ok (.aload_n 0, 1) := by decide +kernel
theorem d4t2_42 : decode jdk_42_method_149_code 42 = .ok (.aload 5, 2) := by decide +kernel
theorem d4t2_44 : decode jdk_42_method_149_code 44 = .ok (.iload_n 3, 1) := by decide +kernel
theorem d4t2_45 : decode jdk_42_method_149_code 45 = .ok (.invokestatic 47, 3) := by decide +kernel
theorem d4t2_48 : decode jdk_42_method_149_code 48 = .ok (.putfield 15, 3) := by decide +kernel
theorem d4t2_51 : decode jdk_42_method_149_code 51 = .ok (.aload_n 0, 1) := by decide +kernel
theorem d4t2_52 : decode jdk_42_method_149_code 52 = .ok (.aload 5, 2) := by decide +kernel
theorem d4t2_54 : decode jdk_42_method_149_code 54 = .ok (.putfield 9, 3) := by decide +kernel
theorem d4t2_57 : decode jdk_42_method_149_code 57 = .ok (.return_, 1) := by decide +kernel
theorem own_pn4t2 : plainName "java/lang/String" = true := by first | (simp [plainName, overriddenIn]; done) | decide +kernel
theorem own_ef4t2 (m : MethodId) (o : Addr) (x0 : Addr) : entryFrame m #[(.ref o), (.ref x0), (.int (0 : Int32)), (.int (2 : Int32)), .null] 6 = (mkF m 0 #[.val (.ref o), .val (.ref x0), .val (.int (0 : Int32)), .val (.int (2 : Int32)), .val .null, .unset] []) := by first | (simp [entryFrame, mkF, argsToLocals, Value.category]; done) | rfl
def Q4t2 (Z : State) (o : Addr) (x0 : Addr) (cs : Int32) (vkc : ClassId) (cc0 : Int32) (cc1 : Int32) (h0 : Heap) (n0 : Nat) (v : Option Value) (h : Heap) (L : List Loc) : Prop := v = none ∧ Fr n0 L ∧ Keep h0 h [o] ∧ Fld Z h o "java/lang/String" "coder" "B" (.int (0 : Int32)) ∧ (∃ (b : Addr) (kb : ClassId) (g : List Int32), Fld Z h o "java/lang/String" "value" "[B" (.ref b) ∧ Arv Z h b kb .byte (2 : Int32) (g.map Value.int) (.int (0 : Int32)))
set_option maxRecDepth 65536 in
set_option maxHeartbeats 40000000 in
theorem rm4t2 (l : Launch) (Z : State) (a0 : Array Value) (hw : ∀ d ∈ tables_1, d.before a0 Z = true) (ws : List Jvm.Cond) (o : Addr) (x0 : Addr) (cs : Int32) (vkc : ClassId) (cc0 : Int32) (cc1 : Int32) (h0 : Heap) (n0 : Nat) (Z0 : n0 ≤ h0.size) (S_cs : Sta Z h0 "java/lang/String" "COMPACT_STRINGS" "Z" (.int cs)) (hcs : ¬ (cs = 0)) (hge : n0 ≤ o) (hno : o ≠ x0) (hEo : Exa Z h0 o "java/lang/String") (hFc : Fld Z h0 o "java/lang/String" "coder" "B" (.int (0 : Int32))) (hFv : Fld Z h0 o "java/lang/String" "value" "[B" .null) (V_c : Arv Z h0 x0 vkc .char (2 : Int32) [(.int cc0), (.int cc1)] (.int (0 : Int32))) (h255_0 : ¬ ((255 : Int32) < cc0)) (h255_1 : ¬ ((255 : Int32) < cc1)) :
    MetFree l (⟨"java/lang/String", "<init>", "([CIILjava/lang/Void;)V"⟩ : MethodName) (head1 (Jvm.Cond.code (⟨"java/lang/String", "<init>", "([CIILjava/lang/Void;)V"⟩ : MethodName) jdk_42_method_149_code 6 none :: ws) ({ frames := 2, cells := 1, slots := 2, locals := 35 } : Room)) (fun a U => a = #[(.ref o), (.ref x0), (.int (0 : Int32)), (.int (2 : Int32)), .null] ∧ Z.Warmed39 U.vm ∧ U.heap = h0) (fun _ _ _ _ _ => True) (fun _ U oc U' => ∃ v L, oc = .returned v ∧ Q4t2 Z o x0 cs vkc cc0 cc1 h0 n0 v U'.heap L ∧ FrameEnd U oc U' L ({ frames := 2, cells := 1, slots := 2, locals := 35 } : Room).cells ({ frames := 2, cells := 1, slots := 2, locals := 35 } : Room).slots) := by
  refine MetFree.of_bodySF (plainFor_of_name own_pn4t2) hisR ?_
  intro p e s m args below meth c s₁ Bd hml0 hP hK
  obtain ⟨rfl, hZ, hh⟩ := hP
  have hx := Bd.exec
  have hby := Bd.bytes
  have hlk : meth.locks = false := BodyLoose.notSynchronized Bd
  have hml : c.maxLocals = 6 := hml0
  have hown : s.vm.findClass "java/lang/String" = some m.cls := findClass_of_methodNamed Bd.named
  have hnm := (name_of_methodNamed Bd.named Bd.method).1
  have X0 : Stand p l e ({ frames := 2, cells := 1, slots := 2, locals := 35 } : Room) s m #[(.ref o), (.ref x0), (.int (0 : Int32)), (.int (2 : Int32)), .null] below meth c s₁ [] 0 0 := Stand.of_body Bd
  have e0 : s₁.heap = h0 := by rw [← hh, Bd.state]; rfl
  have N0 := Fr.nil n0
  refine own_enter (own_ef4t2 m o x0) ?_
  show own_Go p e below (own_E s (Q4t2 Z o x0 cs vkc cc0 cc1 h0 n0) ({ frames := 2, cells := 1, slots := 2, locals := 35 } : Room).cells ({ frames := 2, cells := 1, slots := 2, locals := 35 } : Room).slots) s₁ (mkF m 0 #[.val (.ref o), .val (.ref x0), .val (.int (0 : Int32)), .val (.int (2 : Int32)), .val .null, .unset] [])
  refine own_st (T' := s₁) (F' := (mkF m 1 #[.val (.ref o), .val (.ref x0), .val (.int (0 : Int32)), .val (.int (2 : Int32)), .val .null, .unset] [(.ref o)])) (fun _ k => XS.aloadN X0.here hx rfl (hb hby d4t2_0) rfl rfl k) ?_
  obtain ⟨T1, X1, e1, st1⟩ := initO X0 hx hZ hown (hw _ (List.mem_of_getElem? (i := 23) rfl)) (hw _ (List.mem_of_getElem? (i := 24) rfl)) (hw _ (List.mem_of_getElem? (i := 25) rfl)) e0 (g := (mkF m 1 #[.val (.ref o), .val (.ref x0), .val (.int (0 : Int32)), .val (.int (2 : Int32)), .val .null, .unset] [(.ref o)])) rfl (by rw [hml]; rfl) rfl (hb hby d4t2_1) (by decide) (W := 0) (by show 2 * 0 + _ ≤ _; exact Nat.le_of_eq rfl) (by decide)
  refine own_st (T' := T1) (F' := (mkF m 4 #[.val (.ref o), .val (.ref x0), .val (.int (0 : Int32)), .val (.int (2 : Int32)), .val .null, .unset] [])) (fun _ k => st1 _ k) ?_
  refine own_st (T' := T1) (F' := (mkF m 5 #[.val (.ref o), .val (.ref x0), .val (.int (0 : Int32)), .val (.int (2 : Int32)), .val .null, .unset] [(.int (2 : Int32))])) (fun _ k => XS.iloadN X1.here hx rfl (hb hby d4t2_4) rfl  k) ?_
  refine own_ifc X1 hx (pc' := 27) (pc2 := 8) (hb hby d4t2_5) (by decide) (by decide) rfl (fun (hc5 : ¬ ((2 : Int32) = (0 : Int32))) => ?_) (fun (hc5 : (2 : Int32) = (0 : Int32)) => ?_)
  rotate_left
  · exact absurd hc5 (by decide)
  obtain ⟨T2, X2, e2, st2⟩ := getS2 X1 hx hZ hown (host := "") (Or.inl (hw _ (List.mem_of_getElem? (i := 26) rfl))) Via.refl e1 S_cs (g := (mkF m 27 #[.val (.ref o), .val (.ref x0), .val (.int (0 : Int32)), .val (.int (2 : Int32)), .val .null, .unset] [])) rfl (hb hby d4t2_27)
  refine own_st (T' := T2) (F' := (mkF m 30 #[.val (.ref o), .val (.ref x0), .val (.int (0 : Int32)), .val (.int (2 : Int32)), .val .null, .unset] [(.int cs)])) (fun _ k => st2 _ k) ?_
  refine own_ifc X2 hx (pc' := 58) (pc2 := 33) (hb hby d4t2_30) (by decide) (by decide) rfl (fun (hc30 : cs = (0 : Int32)) => ?_) (fun (hc30 : ¬ (cs = (0 : Int32))) => ?_)
  ·
    exact absurd hc30 hcs
  ·
    refine own_st (T' := T2) (F' := (mkF m 34 #[.val (.ref o), .val (.ref x0), .val (.int (0 : Int32)), .val (.int (2 : Int32)), .val .null, .unset] [(.ref x0)])) (fun _ k => XS.aloadN X2.here hx rfl (hb hby d4t2_33) rfl rfl k) ?_
    refine own_st (T' := T2) (F' := (mkF m 35 #[.val (.ref o), .val (.ref x0), .val (.int (0 : Int32)), .val (.int (2 : Int32)), .val .null, .unset] [(.int (0 : Int32)), (.ref x0)])) (fun _ k => XS.iloadN X2.here hx rfl (hb hby d4t2_34) rfl  k) ?_
    refine own_st (T' := T2) (F' := (mkF m 36 #[.val (.ref o), .val (.ref x0), .val (.int (0 : Int32)), .val (.int (2 : Int32)), .val .null, .unset] [(.int (2 : Int32)), (.int (0 : Int32)), (.ref x0)])) (fun _ k => XS.iloadN X2.here hx rfl (hb hby d4t2_35) rfl  k) ?_
    obtain ⟨_, _, ⟨T3, L3, k3, n3⟩, -, X3, ⟨Lc3, hQ3, l3, y3, z3⟩, st3⟩ := Jvm.LawKit.callS X2 hx (y := (⟨"java/lang/StringUTF16", "compress", "([CII)[B"⟩ : MethodName)) hown (mvT hZ (hw _ (List.mem_of_getElem? (i := 27) rfl))) (mvT hZ (hw _ (List.mem_of_getElem? (i := 28) rfl))) (mvT hZ (hw _ (List.mem_of_getElem? (i := 29) rfl))) (mvT hZ (hw _ (List.mem_of_getElem? (i := 30) rfl))) (by decide) (backOf (W := 0) (rm6t2 l Z a0 hw [] x0 vkc cc0 cc1 h0 n0 Z0 V_c h255_0 h255_1) hZ (hw _ (List.mem_of_getElem? (i := 30) rfl)) (hw _ (List.mem_of_getElem? (i := 29) rfl)) (by decide) (by decide)) (g := (mkF m 36 #[.val (.ref o), .val (.ref x0), .val (.int (0 : Int32)), .val (.int (2 : Int32)), .val .null, .unset] [(.int (2 : Int32)), (.int (0 : Int32)), (.ref x0)])) rfl (by rw [hml]; rfl) (argsL := [(.ref x0), (.int (0 : Int32)), (.int (2 : Int32))]) (rest := []) (lenOf own_pd9 rfl) rfl (by show 2 * 0 + _ ≤ _; exact Nat.le_of_eq rfl) (hb hby d4t2_36) (fun _ _ => ⟨rfl, e2, (by decide : 0 + 1 ≤ _), (by decide : 0 + 2 ≤ _)⟩)
    dsimp only [Pt.U, Pt.locs, Pt.cells, Pt.slots] at X3 l3 y3 z3 st3 hQ3
    subst l3 y3 z3
    obtain ⟨⟨r3, rfl, hr3⟩, Nq3, g3_0⟩ := hQ3
    have N3 := Fr.app N0 Nq3
    have f4 : Sta Z T3.heap "java/lang/String" "COMPACT_STRINGS" "Z" (.int cs) := own_stk S_cs g3_0 all0
    have f5 : Exa Z T3.heap o "java/lang/String" := hEo.keep g3_0
    have f6 : Fld Z T3.heap o "java/lang/String" "coder" "B" (.int (0 : Int32)) := hFc.keep g3_0 nin0
    have f7 : Fld Z T3.heap o "java/lang/String" "value" "[B" .null := hFv.keep g3_0 nin0
    have f8 : Arv Z T3.heap x0 vkc .char (2 : Int32) [(.int cc0), (.int cc1)] (.int (0 : Int32)) := V_c.keep g3_0 nin0
    have K3 : Keep h0 T3.heap [o] := (Keep.refl h0 [o]).trans g3_0 all0
    have Zs3 : n0 ≤ T3.heap.size := Nat.le_trans Z0 K3.1
    obtain ⟨kk3, zge3, zV3⟩ := hr3
    have zne3 : r3 ≠ o := (Nat.ne_of_lt (Nat.lt_of_lt_of_le hEo.lt zge3)).symm
    refine own_st (T' := T3) (F' := (mkF m 39 #[.val (.ref o), .val (.ref x0), .val (.int (0 : Int32)), .val (.int (2 : Int32)), .val .null, .unset] [(.ref r3)])) (fun _ k => st3 _ k) ?_
    refine own_st (T' := T3) (F' := (mkF m 41 #[.val (.ref o), .val (.ref x0), .val (.int (0 : Int32)), .val (.int (2 : Int32)), .val .null, .val (.ref r3)] [])) (fun _ k => XS.astore X3.here hx rfl (hb hby d4t2_39) rfl rfl (l' := #[.val (.ref o), .val (.ref x0), .val (.int (0 : Int32)), .val (.int (2 : Int32)), .val .null, .val (.ref r3)]) rfl k) ?_
    refine own_st (T' := T3) (F' := (mkF m 42 #[.val (.ref o), .val (.ref x0), .val (.int (0 : Int32)), .val (.int (2 : Int32)), .val .null, .val (.ref r3)] [(.ref o)])) (fun _ k => XS.aloadN X3.here hx rfl (hb hby d4t2_41) rfl rfl k) ?_
    refine own_st (T' := T3) (F' := (mkF m 44 #[.val (.ref o), .val (.ref x0), .val (.int (0 : Int32)), .val (.int (2 : Int32)), .val .null, .val (.ref r3)] [(.ref r3), (.ref o)])) (fun _ k => XS.aload X3.here hx rfl (hb hby d4t2_42) rfl rfl k) ?_
    refine own_st (T' := T3) (F' := (mkF m 45 #[.val (.ref o), .val (.ref x0), .val (.int (0 : Int32)), .val (.int (2 : Int32)), .val .null, .val (.ref r3)] [(.int (2 : Int32)), (.ref r3), (.ref o)])) (fun _ k => XS.iloadN X3.here hx rfl (hb hby d4t2_44) rfl  k) ?_
    obtain ⟨_, _, ⟨T9, L9, k9, n9⟩, -, X9, ⟨Lc9, hQ9, l9, y9, z9⟩, st9⟩ := Jvm.LawKit.callS X3 hx (y := (⟨"java/lang/StringUTF16", "coderFromArrayLen", "([BI)B"⟩ : MethodName)) hown (mvT hZ (hw _ (List.mem_of_getElem? (i := 35) rfl))) (mvT hZ (hw _ (List.mem_of_getElem? (i := 36) rfl))) (mvT hZ (hw _ (List.mem_of_getElem? (i := 29) rfl))) (mvT hZ (hw _ (List.mem_of_getElem? (i := 37) rfl))) (by decide) (backOf (W := 1) (rm8t2 l Z a0 hw [] r3 kk3 cc0 cc1 T3.heap n0 Zs3 zV3) hZ (hw _ (List.mem_of_getElem? (i := 37) rfl)) (hw _ (List.mem_of_getElem? (i := 29) rfl)) (by decide) (by decide)) (g := (mkF m 45 #[.val (.ref o), .val (.ref x0), .val (.int (0 : Int32)), .val (.int (2 : Int32)), .val .null, .val (.ref r3)] [(.int (2 : Int32)), (.ref r3), (.ref o)])) rfl (by rw [hml]; rfl) (argsL := [(.ref r3), (.int (2 : Int32))]) (rest := [(.ref o)]) (lenOf own_pd10 rfl) rfl (by show 2 * 0 + _ ≤ _; exact Nat.le_of_eq rfl) (hb hby d4t2_45) (fun _ _ => ⟨rfl, rfl, (by decide : 1 + 0 ≤ _), (by decide : 2 + 0 ≤ _)⟩)
    dsimp only [Pt.U, Pt.locs, Pt.cells, Pt.slots] at X9 l9 y9 z9 st9 hQ9
    subst l9 y9 z9
    obtain ⟨rfl, Nq9, eq9⟩ := hQ9
    have N9 := Fr.app N3 Nq9
    refine own_st (T' := T9) (F' := (mkF m 48 #[.val (.ref o), .val (.ref x0), .val (.int (0 : Int32)), .val (.int (2 : Int32)), .val .null, .val (.ref r3)] [(.int (0 : Int32)), (.ref o)])) (fun _ k => st9 _ k) ?_
    obtain ⟨T10, h10, X10, e10, W10, st10⟩ := putFN X9 hx hZ hown (hw _ (List.mem_of_getElem? (i := 38) rfl)) Via.refl eq9 f6 f5 (Or.inr ⟨(hw _ (List.mem_of_getElem? (i := 39) rfl)), rfl, hnm⟩) (hw _ (List.mem_of_getElem? (i := 13) rfl)) (ty := .byte) (v' := (.int (nar .byte (0 : Int32)))) (by decide) rfl (fits_nar_byte _) (g := (mkF m 48 #[.val (.ref o), .val (.ref x0), .val (.int (0 : Int32)), .val (.int (2 : Int32)), .val .null, .val (.ref r3)] [(.int (0 : Int32)), (.ref o)])) rfl rfl (hb hby d4t2_48)
    have N10 := Fr.snoc X10 N9 hge
    have f11 : Sta Z h10 "java/lang/String" "COMPACT_STRINGS" "Z" (.int cs) := f4.wr W10
    have f12 : Exa Z h10 o "java/lang/String" := f5.wr W10
    have f13 : Fld Z h10 o "java/lang/String" "coder" "B" (.int (0 : Int32)) := f6.same W10
    have f14 : Fld Z h10 o "java/lang/String" "value" "[B" .null := f7.other W10 (Or.inr (slot_ne (Or.inr (hw _ (List.mem_of_getElem? (i := 41) rfl))) (Or.inr (hw _ (List.mem_of_getElem? (i := 39) rfl))) (by decide) (t := (.array .byte)) (t' := .byte) (by decide) (by decide)))
    have f15 : Arv Z h10 x0 vkc .char (2 : Int32) [(.int cc0), (.int cc1)] (.int (0 : Int32)) := f8.other W10 (Ne.symm hno)
    have f16 : Arv Z h10 r3 kk3 .byte (2 : Int32) [(.int ((cc0.toInt8.toInt32).toInt8.toInt32)), (.int ((cc1.toInt8.toInt32).toInt8.toInt32))] (.int (0 : Int32)) := zV3.other W10 zne3
    have K10 : Keep h0 h10 [o] := K3.wr W10 (Or.inl (List.mem_of_getElem? (i := 0) rfl))
    have Zs10 : n0 ≤ h10.size := Nat.le_trans Z0 K10.1
    refine own_st (T' := T10) (F' := (mkF m 51 #[.val (.ref o), .val (.ref x0), .val (.int (0 : Int32)), .val (.int (2 : Int32)), .val .null, .val (.ref r3)] [])) (fun _ k => st10 _ k) ?_
    refine own_st (T' := T10) (F' := (mkF m 52 #[.val (.ref o), .val (.ref x0), .val (.int (0 : Int32)), .val (.int (2 : Int32)), .val .null, .val (.ref r3)] [(.ref o)])) (fun _ k => XS.aloadN X10.here hx rfl (hb hby d4t2_51) rfl rfl k) ?_
    refine own_st (T' := T10) (F' := (mkF m 54 #[.val (.ref o), .val (.ref x0), .val (.int (0 : Int32)), .val (.int (2 : Int32)), .val .null, .val (.ref r3)] [(.ref r3), (.ref o)])) (fun _ k => XS.aload X10.here hx rfl (hb hby d4t2_52) rfl rfl k) ?_
    obtain ⟨T17, h17, X17, e17, W17, st17⟩ := putF X10 hx hZ hown (host := "") (Or.inl (hw _ (List.mem_of_getElem? (i := 40) rfl))) Via.refl e10 f14 f12 (Or.inr ⟨(hw _ (List.mem_of_getElem? (i := 41) rfl)), rfl, hnm⟩) (hw _ (List.mem_of_getElem? (i := 13) rfl)) (ty := (.array .byte)) (by decide) rfl rfl (g := (mkF m 54 #[.val (.ref o), .val (.ref x0), .val (.int (0 : Int32)), .val (.int (2 : Int32)), .val .null, .val (.ref r3)] [(.ref r3), (.ref o)])) rfl rfl (hb hby d4t2_54)
    have N17 := Fr.snoc X17 N10 hge
    have f18 : Sta Z h17 "java/lang/String" "COMPACT_STRINGS" "Z" (.int cs) := f11.wr W17
    have f19 : Exa Z h17 o "java/lang/String" := f12.wr W17
    have f20 : Fld Z h17 o "java/lang/String" "coder" "B" (.int (0 : Int32)) := f13.other W17 (Or.inr (slot_ne (Or.inr (hw _ (List.mem_of_getElem? (i := 39) rfl))) (Or.inr (hw _ (List.mem_of_getElem? (i := 41) rfl))) (by decide) (t := .byte) (t' := (.array .byte)) (by decide) (by decide)))
    have f21 : Fld Z h17 o "java/lang/String" "value" "[B" (.ref r3) := f14.same W17
    have f22 : Arv Z h17 x0 vkc .char (2 : Int32) [(.int cc0), (.int cc1)] (.int (0 : Int32)) := f15.other W17 (Ne.symm hno)
    have f23 : Arv Z h17 r3 kk3 .byte (2 : Int32) [(.int ((cc0.toInt8.toInt32).toInt8.toInt32)), (.int ((cc1.toInt8.toInt32).toInt8.toInt32))] (.int (0 : Int32)) := f16.other W17 zne3
    have K17 : Keep h0 h17 [o] := K10.wr W17 (Or.inl (List.mem_of_getElem? (i := 0) rfl))
    have Zs17 : n0 ≤ h17.size := Nat.le_trans Z0 K17.1
    refine own_st (T' := T17) (F' := (mkF m 57 #[.val (.ref o), .val (.ref x0), .val (.int (0 : Int32)), .val (.int (2 : Int32)), .val .null, .val (.ref r3)] [])) (fun _ k => st17 _ k) ?_
    refine own_retV X17 hx hlk Bd.returns (hb hby d4t2_57) ?_ (by decide) (by decide)
    rw [e17]
    refine ⟨rfl, N17, K17, f20, ?_⟩
    exact ⟨_, _, [((cc0.toInt8.toInt32).toInt8.toInt32), ((cc1.toInt8.toInt32).toInt8.toInt32)], f21, f23⟩
theorem d3t2_0 : decode jdk_42_method_3_code 0 = .ok (.aload_n 0, 1) := by decide +kernel
theorem d3t2_1 : decode jdk_42_method_3_code 1 = .ok (.aload_n 1, 1) := by decide +kernel
theorem d3t2_2 : decode jdk_42_method_3_code 2 = .ok (.iconst 0, 1) := by decide +kernel
theorem d3t2_3 : decode jdk_42_method_3_code 3 = .ok (.aload_n 1, 1) := by decide +kernel
theorem d3t2_4 : decode jdk_42_method_3_code 4 = .ok (.arraylength, 1) := by decide +kernel
theorem d3t2_5 : decode jdk_42_method_3_code 5 = .ok (.aconst_null, 1) := by decide +kernel
theorem d3t2_6 : decode jdk_42_method_3_code 6 = .ok (.invokespecial 27, 3) := by decide +kernel
theorem d3t2_9 : decode jdk_42_method_3_code 9 = .ok (.return_, 1) := by decide +kernel
theorem own_pn3t2 : plainName "java/lang/String" = true := by first | (simp [plainName, overriddenIn]; done) | decide +kernel
theorem own_ef3t2 (m : MethodId) (o : Addr) (x0 : Addr) : entryFrame m #[(.ref o), (.ref x0)] 2 = (mkF m 0 #[.val (.ref o), .val (.ref x0)] []) := by first | (simp [entryFrame, mkF, argsToLocals, Value.category]; done) | rfl
def Q3t2 (Z : State) (o : Addr) (x0 : Addr) (cs : Int32) (vkc : ClassId) (cc0 : Int32) (cc1 : Int32) (h0 : Heap) (n0 : Nat) (v : Option Value) (h : Heap) (L : List Loc) : Prop := v = none ∧ Fr n0 L ∧ Keep h0 h [o] ∧ Fld Z h o "java/lang/String" "coder" "B" (.int (0 : Int32)) ∧ (∃ (b : Addr) (kb : ClassId) (g : List Int32), Fld Z h o "java/lang/String" "value" "[B" (.ref b) ∧ Arv Z h b kb .byte (2 : Int32) (g.map Value.int) (.int (0 : Int32)))
set_option maxRecDepth 65536 in
set_option maxHeartbeats 40000000 in
theorem rm3t2 (l : Launch) (Z : State) (a0 : Array Value) (hw : ∀ d ∈ tables_1, d.before a0 Z = true) (ws : List Jvm.Cond) (o : Addr) (x0 : Addr) (cs : Int32) (vkc : ClassId) (cc0 : Int32) (cc1 : Int32) (h0 : Heap) (n0 : Nat) (Z0 : n0 ≤ h0.size) (S_cs : Sta Z h0 "java/lang/String" "COMPACT_STRINGS" "Z" (.int cs)) (hcs : ¬ (cs = 0)) (hge : n0 ≤ o) (hno : o ≠ x0) (hEo : Exa Z h0 o "java/lang/String") (hFc : Fld Z h0 o "java/lang/String" "coder" "B" (.int (0 : Int32))) (hFv : Fld Z h0 o "java/lang/String" "value" "[B" .null) (V_c : Arv Z h0 x0 vkc .char (2 : Int32) [(.int cc0), (.int cc1)] (.int (0 : Int32))) (h255_0 : ¬ ((255 : Int32) < cc0)) (h255_1 : ¬ ((255 : Int32) < cc1)) :
    MetFree l (⟨"java/lang/String", "<init>", "([C)V"⟩ : MethodName) (head1 (Jvm.Cond.code (⟨"java/lang/String", "<init>", "([C)V"⟩ : MethodName) jdk_42_method_3_code 2 none :: ws) ({ frames := 3, cells := 1, slots := 2, locals := 52 } : Room)) (fun a U => a = #[(.ref o), (.ref x0)] ∧ Z.Warmed39 U.vm ∧ U.heap = h0) (fun _ _ _ _ _ => True) (fun _ U oc U' => ∃ v L, oc = .returned v ∧ Q3t2 Z o x0 cs vkc cc0 cc1 h0 n0 v U'.heap L ∧ FrameEnd U oc U' L ({ frames := 3, cells := 1, slots := 2, locals := 52 } : Room).cells ({ frames := 3, cells := 1, slots := 2, locals := 52 } : Room).slots) := by
  refine MetFree.of_bodySF (plainFor_of_name own_pn3t2) hisR ?_
  intro p e s m args below meth c s₁ Bd hml0 hP hK
  obtain ⟨rfl, hZ, hh⟩ := hP
  have hx := Bd.exec
  have hby := Bd.bytes
  have hlk : meth.locks = false := BodyLoose.notSynchronized Bd
  have hml : c.maxLocals = 2 := hml0
  have hown : s.vm.findClass "java/lang/String" = some m.cls := findClass_of_methodNamed Bd.named
  have hnm := (name_of_methodNamed Bd.named Bd.method).1
  have X0 : Stand p l e ({ frames := 3, cells := 1, slots := 2, locals := 52 } : Room) s m #[(.ref o), (.ref x0)] below meth c s₁ [] 0 0 := Stand.of_body Bd
  have e0 : s₁.heap = h0 := by rw [← hh, Bd.state]; rfl
  have N0 := Fr.nil n0
  refine own_enter (own_ef3t2 m o x0) ?_
  show own_Go p e below (own_E s (Q3t2 Z o x0 cs vkc cc0 cc1 h0 n0) ({ frames := 3, cells := 1, slots := 2, locals := 52 } : Room).cells ({ frames := 3, cells := 1, slots := 2, locals := 52 } : Room).slots) s₁ (mkF m 0 #[.val (.ref o), .val (.ref x0)] [])
  refine own_st (T' := s₁) (F' := (mkF m 1 #[.val (.ref o), .val (.ref x0)] [(.ref o)])) (fun _ k => XS.aloadN X0.here hx rfl (hb hby d3t2_0) rfl rfl k) ?_
  refine own_st (T' := s₁) (F' := (mkF m 2 #[.val (.ref o), .val (.ref x0)] [(.ref x0), (.ref o)])) (fun _ k => XS.aloadN X0.here hx rfl (hb hby d3t2_1) rfl rfl k) ?_
  refine own_st (T' := s₁) (F' := (mkF m 3 #[.val (.ref o), .val (.ref x0)] [(.int (0 : Int32)), (.ref x0), (.ref o)])) (fun _ k => XS.iconst X0.here hx rfl (hb hby d3t2_2) k) ?_
  refine own_st (T' := s₁) (F' := (mkF m 4 #[.val (.ref o), .val (.ref x0)] [(.ref x0), (.int (0 : Int32)), (.ref x0), (.ref o)])) (fun _ k => XS.aloadN X0.here hx rfl (hb hby d3t2_3) rfl rfl k) ?_
  obtain ⟨cl1, Ar1, Aq1, As1, Am1, Ah1, Au1⟩ := id V_c
  refine own_st (T' := s₁) (F' := (mkF m 5 #[.val (.ref o), .val (.ref x0)] [(.int (2 : Int32)), (.int (0 : Int32)), (.ref x0), (.ref o)])) (fun _ k => X0.arraylength hx (cell := cl1) (by rw [e0]; exact Ar1.1) (State.isArrayOf_alike hZ.alike Ar1.2.1) (g := (mkF m 4 #[.val (.ref o), .val (.ref x0)] [(.ref x0), (.int (0 : Int32)), (.ref x0), (.ref o)])) rfl (rest := [(.int (0 : Int32)), (.ref x0), (.ref o)]) rfl (hb hby d3t2_4) _ (by rw [len_of As1 Am1]; exact k)) ?_
  refine own_st (T' := s₁) (F' := (mkF m 6 #[.val (.ref o), .val (.ref x0)] [.null, (.int (2 : Int32)), (.int (0 : Int32)), (.ref x0), (.ref o)])) (fun _ k => XS.aconstNull X0.here hx rfl (hb hby d3t2_5) k) ?_
  obtain ⟨_, _, ⟨T2, L2, k2, n2⟩, -, X2, ⟨Lc2, hQ2, l2, y2, z2⟩, st2⟩ := X0.specialBack hx (y := (⟨"java/lang/String", "<init>", "([CIILjava/lang/Void;)V"⟩ : MethodName)) rfl hown (mvT hZ (hw _ (List.mem_of_getElem? (i := 19) rfl))) (mvT hZ (hw _ (List.mem_of_getElem? (i := 20) rfl))) (mvT hZ (hw _ (List.mem_of_getElem? (i := 22) rfl))) (by decide) (backOf (W := 0) (rm4t2 l Z a0 hw [] o x0 cs vkc cc0 cc1 h0 n0 Z0 S_cs hcs hge hno hEo hFc hFv V_c h255_0 h255_1) hZ (hw _ (List.mem_of_getElem? (i := 22) rfl)) (hw _ (List.mem_of_getElem? (i := 14) rfl)) (by decide) (by decide)) (g := (mkF m 6 #[.val (.ref o), .val (.ref x0)] [.null, (.int (2 : Int32)), (.int (0 : Int32)), (.ref x0), (.ref o)])) rfl (by rw [hml]; rfl) (Steps.refl _) (a := o) (argsL := [(.ref x0), (.int (0 : Int32)), (.int (2 : Int32)), .null]) (rest := []) (lenOf own_pd11 rfl) rfl (by show 2 * 0 + _ ≤ _; exact Nat.le_of_eq rfl) (hb hby d3t2_6) (fun _ _ => ⟨rfl, e0, (by decide : 0 + 1 ≤ _), (by decide : 0 + 2 ≤ _)⟩)
  dsimp only [Pt.U, Pt.locs, Pt.cells, Pt.slots] at X2 l2 y2 z2 st2 hQ2
  subst l2 y2 z2
  obtain ⟨rfl, Nq2, g2_0, g2_1, g2_2⟩ := hQ2
  have N2 := Fr.app N0 Nq2
  have f3 : Sta Z T2.heap "java/lang/String" "COMPACT_STRINGS" "Z" (.int cs) := own_stk S_cs g2_0 (allS (own_npE hEo) all0)
  have f4 : Exa Z T2.heap o "java/lang/String" := hEo.keep g2_0
  have f5 : Arv Z T2.heap x0 vkc .char (2 : Int32) [(.int cc0), (.int cc1)] (.int (0 : Int32)) := V_c.keep g2_0 (ninS (Ne.symm hno) nin0)
  have K2 : Keep h0 T2.heap [o] := (Keep.refl h0 [o]).trans g2_0 (allS (Or.inl (List.mem_of_getElem? (i := 0) rfl)) all0)
  have Zs2 : n0 ≤ T2.heap.size := Nat.le_trans Z0 K2.1
  obtain ⟨vv2, vk2, gg2, fv2, av2⟩ := id g2_2
  refine own_tr (T' := T2) (F' := (mkF m 9 #[.val (.ref o), .val (.ref x0)] [])) st2 ?_
  refine own_retV X2 hx hlk Bd.returns (hb hby d3t2_9) ?_ (by decide) (by decide)
  show Q3t2 Z o x0 cs vkc cc0 cc1 h0 n0 _ T2.heap _
  refine ⟨rfl, N2, K2, g2_1, ?_⟩
  exact g2_2
theorem d7t3_0 : decode jdk_52_method_21_code 0 = .ok (.iconst 0, 1) := by decide +kernel
theorem d7t3_1 : decode jdk_52_method_21_code 1 = .ok (.istore 5, 2) := by decide +kernel
theorem d7t3_3 : decode jdk_52_method_21_code 3 = .ok (.iload 5, 2) := by decide +kernel
theorem d7t3_5 : decode jdk_52_method_21_code 5 = .ok (.iload 4, 2) := by decide +kernel
theorem d7t3_7 : decode jdk_52_method_21_code 7 = .ok (.if_icmp .ge 37, 3) := by decide +kernel
theorem d7t3_10 : decode jdk_52_method_21_code 10 = .ok (.aload_n 0, 1) := by decide +kernel
theorem d7t3_11 : decode jdk_52_method_21_code 11 = .ok (.iload_n 1, 1) := by decide +kernel
theorem d7t3_12 : decode jdk_52_method_21_code 12 = .ok (.caload, 1) := by decide +kernel
theorem d7t3_13 : decode jdk_52_method_21_code 13 = .ok (.istore 6, 2) := by decide +kernel
theorem d7t3_15 : decode jdk_52_method_21_code 15 = .ok (.iload 6, 2) := by decide +kernel
theorem d7t3_17 : decode jdk_52_method_21_code 17 = .ok (.sipush 255, 3) := by decide +kernel
theorem d7t3_20 : decode jdk_52_method_21_code 20 = .ok (.if_icmp .le 6, 3) := by decide +kernel
theorem d7t3_26 : decode jdk_52_method_21_code 26 = .ok (.aload_n 2, 1) := by decide +kernel
theorem d7t3_27 : decode jdk_52_method_21_code 27 = .ok (.iload_n 3, 1) := by decide +kernel
theorem d7t3_28 : decode jdk_52_method_21_code 28 = .ok (.iload 6, 2) := by decide +kernel
theorem d7t3_30 : decode jdk_52_method_21_code 30 = .ok (.i2b, 1) := by decide +kernel
theorem d7t3_31 : decode jdk_52_method_21_code 31 = .ok (.bastore, 1) := by decide +kernel
theorem d7t3_32 : decode jdk_52_method_21_code 32 = .ok (.iinc 1 1, 3) := by decide +kernel
theorem d7t3_35 : decode jdk_52_method_21_code 35 = .ok (.iinc 3 1, 3) := by decide +kernel
theorem d7t3_38 : decode jdk_52_method_21_code 38 = .ok (.iinc 5 1, 3) := by decide +kernel
theorem d7t3_41 : decode jdk_52_method_21_code 41 = .ok (.goto (-38), 3) := by decide +kernel
theorem d7t3_44 : decode jdk_52_method_21_code 44 = .ok (.iload 4, 2) := by decide +kernel
theorem d7t3_46 : decode jdk_52_method_21_code 46 = .ok (.ireturn, 1) := by decide +kernel
theorem own_pn7t3 : plainName "java/lang/StringUTF16" = true := by first | (simp [plainName, overriddenIn]; done) | decide +kernel
theorem own_ef7t3 (m : MethodId) (x0 : Addr) (x2 : Addr) : entryFrame m #[(.ref x0), (.int (0 : Int32)), (.ref x2), (.int (0 : Int32)), (.int (3 : Int32))] 7 = (mkF m 0 #[.val (.ref x0), .val (.int (0 : Int32)), .val (.ref x2), .val (.int (0 : Int32)), .val (.int (3 : Int32)), .unset, .unset] []) := by first | (simp [entryFrame, mkF, argsToLocals, Value.category]; done) | rfl
def Q7t3 (Z : State) (x0 : Addr) (x2 : Addr) (vkc : ClassId) (vkb : ClassId) (cc0 : Int32) (cc1 : Int32) (cc2 : Int32) (h0 : Heap) (n0 : Nat) (v : Option Value) (h : Heap) (L : List Loc) : Prop := v = some (.int (3 : Int32)) ∧ Fr n0 L ∧ Keep h0 h [x2] ∧ Arv Z h x2 vkb .byte (3 : Int32) [(.int ((cc0.toInt8.toInt32).toInt8.toInt32)), (.int ((cc1.toInt8.toInt32).toInt8.toInt32)), (.int ((cc2.toInt8.toInt32).toInt8.toInt32))] (.int (0 : Int32))
set_option maxRecDepth 65536 in
set_option maxHeartbeats 40000000 in
theorem rm7t3 (l : Launch) (Z : State) (a0 : Array Value) (hw : ∀ d ∈ tables_1, d.before a0 Z = true) (ws : List Jvm.Cond) (x0 : Addr) (x2 : Addr) (vkc : ClassId) (vkb : ClassId) (cc0 : Int32) (cc1 : Int32) (cc2 : Int32) (h0 : Heap) (n0 : Nat) (Z0 : n0 ≤ h0.size) (hge : n0 ≤ x2) (hno : x2 ≠ x0) (V_c : Arv Z h0 x0 vkc .char (3 : Int32) [(.int cc0), (.int cc1), (.int cc2)] (.int (0 : Int32))) (V_b : Arv Z h0 x2 vkb .byte (3 : Int32) [(.int (0 : Int32)), (.int (0 : Int32)), (.int (0 : Int32))] (.int (0 : Int32))) (h255_0 : ¬ ((255 : Int32) < cc0)) (h255_1 : ¬ ((255 : Int32) < cc1)) (h255_2 : ¬ ((255 : Int32) < cc2)) :
    MetFree l (⟨"java/lang/StringUTF16", "compress", "([CI[BII)I"⟩ : MethodName) (head1 (Jvm.Cond.code (⟨"java/lang/StringUTF16", "compress", "([CI[BII)I"⟩ : MethodName) jdk_52_method_21_code 7 (some .int) :: ws) ({ frames := 0, cells := 0, slots := 0, locals := 0 } : Room)) (fun a U => a = #[(.ref x0), (.int (0 : Int32)), (.ref x2), (.int (0 : Int32)), (.int (3 : Int32))] ∧ Z.Warmed39 U.vm ∧ U.heap = h0) (fun _ _ _ _ _ => True) (fun _ U oc U' => ∃ v L, oc = .returned v ∧ Q7t3 Z x0 x2 vkc vkb cc0 cc1 cc2 h0 n0 v U'.heap L ∧ FrameEnd U oc U' L ({ frames := 0, cells := 0, slots := 0, locals := 0 } : Room).cells ({ frames := 0, cells := 0, slots := 0, locals := 0 } : Room).slots) := by
  refine MetFree.of_bodySF (plainFor_of_name own_pn7t3) hisR ?_
  intro p e s m args below meth c s₁ Bd hml0 hP hK
  obtain ⟨rfl, hZ, hh⟩ := hP
  have hx := Bd.exec
  have hby := Bd.bytes
  have hlk : meth.locks = false := BodyLoose.notSynchronized Bd
  have hml : c.maxLocals = 7 := hml0
  have hown : s.vm.findClass "java/lang/StringUTF16" = some m.cls := findClass_of_methodNamed Bd.named
  have hnm := (name_of_methodNamed Bd.named Bd.method).1
  have X0 : Stand p l e ({ frames := 0, cells := 0, slots := 0, locals := 0 } : Room) s m #[(.ref x0), (.int (0 : Int32)), (.ref x2), (.int (0 : Int32)), (.int (3 : Int32))] below meth c s₁ [] 0 0 := Stand.of_body Bd
  have e0 : s₁.heap = h0 := by rw [← hh, Bd.state]; rfl
  have N0 := Fr.nil n0
  refine own_enter (own_ef7t3 m x0 x2) ?_
  show own_Go p e below (own_E s (Q7t3 Z x0 x2 vkc vkb cc0 cc1 cc2 h0 n0) ({ frames := 0, cells := 0, slots := 0, locals := 0 } : Room).cells ({ frames := 0, cells := 0, slots := 0, locals := 0 } : Room).slots) s₁ (mkF m 0 #[.val (.ref x0), .val (.int (0 : Int32)), .val (.ref x2), .val (.int (0 : Int32)), .val (.int (3 : Int32)), .unset, .unset] [])
  refine own_st (T' := s₁) (F' := (mkF m 1 #[.val (.ref x0), .val (.int (0 : Int32)), .val (.ref x2), .val (.int (0 : Int32)), .val (.int (3 : Int32)), .unset, .unset] [(.int (0 : Int32))])) (fun _ k => XS.iconst X0.here hx rfl (hb hby d7t3_0) k) ?_
  refine own_st (T' := s₁) (F' := (mkF m 3 #[.val (.ref x0), .val (.int (0 : Int32)), .val (.ref x2), .val (.int (0 : Int32)), .val (.int (3 : Int32)), .val (.int (0 : Int32)), .unset] [])) (fun _ k => XS.istore X0.here hx rfl (hb hby d7t3_1) rfl (l' := #[.val (.ref x0), .val (.int (0 : Int32)), .val (.ref x2), .val (.int (0 : Int32)), .val (.int (3 : Int32)), .val (.int (0 : Int32)), .unset]) rfl k) ?_
  refine own_st (T' := s₁) (F' := (mkF m 5 #[.val (.ref x0), .val (.int (0 : Int32)), .val (.ref x2), .val (.int (0 : Int32)), .val (.int (3 : Int32)), .val (.int (0 : Int32)), .unset] [(.int (0 : Int32))])) (fun _ k => XS.iload X0.here hx rfl (hb hby d7t3_3) rfl  k) ?_
  refine own_st (T' := s₁) (F' := (mkF m 7 #[.val (.ref x0), .val (.int (0 : Int32)), .val (.ref x2), .val (.int (0 : Int32)), .val (.int (3 : Int32)), .val (.int (0 : Int32)), .unset] [(.int (3 : Int32)), (.int (0 : Int32))])) (fun _ k => XS.iload X0.here hx rfl (hb hby d7t3_5) rfl  k) ?_
  refine own_icmp X0 hx (pc' := 44) (pc2 := 10) (hb hby d7t3_7) (by decide) (by decide) rfl (fun (hc7_1 : ¬ ((0 : Int32) < (3 : Int32))) => ?_) (fun (hc7_1 : (0 : Int32) < (3 : Int32)) => ?_)
  · exact absurd hc7_1 (by decide)
  refine own_st (T' := s₁) (F' := (mkF m 11 #[.val (.ref x0), .val (.int (0 : Int32)), .val (.ref x2), .val (.int (0 : Int32)), .val (.int (3 : Int32)), .val (.int (0 : Int32)), .unset] [(.ref x0)])) (fun _ k => XS.aloadN X0.here hx rfl (hb hby d7t3_10) rfl rfl k) ?_
  refine own_st (T' := s₁) (F' := (mkF m 12 #[.val (.ref x0), .val (.int (0 : Int32)), .val (.ref x2), .val (.int (0 : Int32)), .val (.int (3 : Int32)), .val (.int (0 : Int32)), .unset] [(.int (0 : Int32)), (.ref x0)])) (fun _ k => XS.iloadN X0.here hx rfl (hb hby d7t3_11) rfl  k) ?_
  obtain ⟨cl2, Ar2, Aq2, As2, Am2, Ah2, Au2⟩ := id V_c
  have hin2 : ¬ ((0 : Int32) < 0 ∨ cl2.slots.size ≤ ((0 : Int32)).toNatClampNeg) := inb_of As2 ⟨by decide, by decide⟩
  have hat2 : cl2.slots[((0 : Int32)).toNatClampNeg]? = some (.int cc0) := Ah2.at hin2 (rfl)
  refine own_st (T' := s₁) (F' := (mkF m 13 #[.val (.ref x0), .val (.int (0 : Int32)), .val (.ref x2), .val (.int (0 : Int32)), .val (.int (3 : Int32)), .val (.int (0 : Int32)), .unset] [(.int cc0)])) (fun _ k => X0.caload hx (j := (0 : Int32)) (v := (.int cc0)) (by rw [e0]; exact Ar2.1) (State.isArrayOf_alike hZ.alike Ar2.2.1) Ar2.2.2 hin2 hat2 (g := (mkF m 12 #[.val (.ref x0), .val (.int (0 : Int32)), .val (.ref x2), .val (.int (0 : Int32)), .val (.int (3 : Int32)), .val (.int (0 : Int32)), .unset] [(.int (0 : Int32)), (.ref x0)])) rfl rfl (hb hby d7t3_12) _ k) ?_
  refine own_st (T' := s₁) (F' := (mkF m 15 #[.val (.ref x0), .val (.int (0 : Int32)), .val (.ref x2), .val (.int (0 : Int32)), .val (.int (3 : Int32)), .val (.int (0 : Int32)), .val (.int cc0)] [])) (fun _ k => XS.istore X0.here hx rfl (hb hby d7t3_13) rfl (l' := #[.val (.ref x0), .val (.int (0 : Int32)), .val (.ref x2), .val (.int (0 : Int32)), .val (.int (3 : Int32)), .val (.int (0 : Int32)), .val (.int cc0)]) rfl k) ?_
  refine own_st (T' := s₁) (F' := (mkF m 17 #[.val (.ref x0), .val (.int (0 : Int32)), .val (.ref x2), .val (.int (0 : Int32)), .val (.int (3 : Int32)), .val (.int (0 : Int32)), .val (.int cc0)] [(.int cc0)])) (fun _ k => XS.iload X0.here hx rfl (hb hby d7t3_15) rfl  k) ?_
  refine own_st (T' := s₁) (F' := (mkF m 20 #[.val (.ref x0), .val (.int (0 : Int32)), .val (.ref x2), .val (.int (0 : Int32)), .val (.int (3 : Int32)), .val (.int (0 : Int32)), .val (.int cc0)] [(.int (255 : Int32)), (.int cc0)])) (fun _ k => XS.sipush X0.here hx rfl (hb hby d7t3_17) k) ?_
  refine own_icmp X0 hx (pc' := 26) (pc2 := 23) (hb hby d7t3_20) (by decide) (by decide) rfl (fun (hc20_3 : ¬ ((255 : Int32) < cc0)) => ?_) (fun (hc20_3 : (255 : Int32) < cc0) => ?_)
  ·
    refine own_st (T' := s₁) (F' := (mkF m 27 #[.val (.ref x0), .val (.int (0 : Int32)), .val (.ref x2), .val (.int (0 : Int32)), .val (.int (3 : Int32)), .val (.int (0 : Int32)), .val (.int cc0)] [(.ref x2)])) (fun _ k => XS.aloadN X0.here hx rfl (hb hby d7t3_26) rfl rfl k) ?_
    refine own_st (T' := s₁) (F' := (mkF m 28 #[.val (.ref x0), .val (.int (0 : Int32)), .val (.ref x2), .val (.int (0 : Int32)), .val (.int (3 : Int32)), .val (.int (0 : Int32)), .val (.int cc0)] [(.int (0 : Int32)), (.ref x2)])) (fun _ k => XS.iloadN X0.here hx rfl (hb hby d7t3_27) rfl  k) ?_
    refine own_st (T' := s₁) (F' := (mkF m 30 #[.val (.ref x0), .val (.int (0 : Int32)), .val (.ref x2), .val (.int (0 : Int32)), .val (.int (3 : Int32)), .val (.int (0 : Int32)), .val (.int cc0)] [(.int cc0), (.int (0 : Int32)), (.ref x2)])) (fun _ k => XS.iload X0.here hx rfl (hb hby d7t3_28) rfl  k) ?_
    refine own_st (T' := s₁) (F' := (mkF m 31 #[.val (.ref x0), .val (.int (0 : Int32)), .val (.ref x2), .val (.int (0 : Int32)), .val (.int (3 : Int32)), .val (.int (0 : Int32)), .val (.int cc0)] [(.int (cc0.toInt8.toInt32)), (.int (0 : Int32)), (.ref x2)])) (fun _ k => XS.i2b X0.here hx rfl (hb hby d7t3_30) rfl k) ?_
    obtain ⟨cl4, Ar4, Aq4, As4, Am4, Ah4, Au4⟩ := id V_b
    have hin4 : ¬ ((0 : Int32) < 0 ∨ cl4.slots.size ≤ ((0 : Int32)).toNatClampNeg) := inb_of As4 ⟨by decide, by decide⟩
    obtain ⟨T4, h4, X4, e4, W4, st4⟩ := stB X0 hx hZ e0 Ar4 (j := (0 : Int32)) hin4 (g := (mkF m 31 #[.val (.ref x0), .val (.int (0 : Int32)), .val (.ref x2), .val (.int (0 : Int32)), .val (.int (3 : Int32)), .val (.int (0 : Int32)), .val (.int cc0)] [(.int (cc0.toInt8.toInt32)), (.int (0 : Int32)), (.ref x2)])) rfl rfl (hb hby d7t3_31)
    have V4 : Arv Z h4 x2 vkb .byte (3 : Int32) [(.int ((cc0.toInt8.toInt32).toInt8.toInt32)), (.int (0 : Int32)), (.int (0 : Int32))] (.int (0 : Int32)) := Arv.set Ar4 Aq4 As4 Am4 Ah4 Au4 (fits_nar_byte _) W4 0 rfl (show 0 < 3 by decide)
    have N4 := Fr.snoc X4 N0 hge
    have f5 : Arv Z h4 x0 vkc .char (3 : Int32) [(.int cc0), (.int cc1), (.int cc2)] (.int (0 : Int32)) := V_c.other W4 (Ne.symm hno)
    have K4 : Keep h0 h4 [x2] := (Keep.refl h0 [x2]).wr W4 (Or.inl (List.mem_of_getElem? (i := 0) rfl))
    have Zs4 : n0 ≤ h4.size := Nat.le_trans Z0 K4.1
    refine own_st (T' := T4) (F' := (mkF m 32 #[.val (.ref x0), .val (.int (0 : Int32)), .val (.ref x2), .val (.int (0 : Int32)), .val (.int (3 : Int32)), .val (.int (0 : Int32)), .val (.int cc0)] [])) (fun _ k => st4 _ k) ?_
    refine own_st (T' := T4) (F' := (mkF m 35 #[.val (.ref x0), .val (.int (1 : Int32)), .val (.ref x2), .val (.int (0 : Int32)), .val (.int (3 : Int32)), .val (.int (0 : Int32)), .val (.int cc0)] [])) (fun _ k => XS.iinc X4.here hx rfl (hb hby d7t3_32) rfl (l' := #[.val (.ref x0), .val (.int (1 : Int32)), .val (.ref x2), .val (.int (0 : Int32)), .val (.int (3 : Int32)), .val (.int (0 : Int32)), .val (.int cc0)]) rfl k) ?_
    refine own_st (T' := T4) (F' := (mkF m 38 #[.val (.ref x0), .val (.int (1 : Int32)), .val (.ref x2), .val (.int (1 : Int32)), .val (.int (3 : Int32)), .val (.int (0 : Int32)), .val (.int cc0)] [])) (fun _ k => XS.iinc X4.here hx rfl (hb hby d7t3_35) rfl (l' := #[.val (.ref x0), .val (.int (1 : Int32)), .val (.ref x2), .val (.int (1 : Int32)), .val (.int (3 : Int32)), .val (.int (0 : Int32)), .val (.int cc0)]) rfl k) ?_
    refine own_st (T' := T4) (F' := (mkF m 41 #[.val (.ref x0), .val (.int (1 : Int32)), .val (.ref x2), .val (.int (1 : Int32)), .val (.int (3 : Int32)), .val (.int (1 : Int32)), .val (.int cc0)] [])) (fun _ k => XS.iinc X4.here hx rfl (hb hby d7t3_38) rfl (l' := #[.val (.ref x0), .val (.int (1 : Int32)), .val (.ref x2), .val (.int (1 : Int32)), .val (.int (3 : Int32)), .val (.int (1 : Int32)), .val (.int cc0)]) rfl k) ?_
    refine own_st (T' := T4) (F' := (mkF m 3 #[.val (.ref x0), .val (.int (1 : Int32)), .val (.ref x2), .val (.int (1 : Int32)), .val (.int (3 : Int32)), .val (.int (1 : Int32)), .val (.int cc0)] [])) (fun _ k => XS.goto X4.here hx rfl (pc0 := 41) (pc' := 3) rfl (hb hby d7t3_41) (by decide) (by decide) k) ?_
    refine own_st (T' := T4) (F' := (mkF m 5 #[.val (.ref x0), .val (.int (1 : Int32)), .val (.ref x2), .val (.int (1 : Int32)), .val (.int (3 : Int32)), .val (.int (1 : Int32)), .val (.int cc0)] [(.int (1 : Int32))])) (fun _ k => XS.iload X4.here hx rfl (hb hby d7t3_3) rfl  k) ?_
    refine own_st (T' := T4) (F' := (mkF m 7 #[.val (.ref x0), .val (.int (1 : Int32)), .val (.ref x2), .val (.int (1 : Int32)), .val (.int (3 : Int32)), .val (.int (1 : Int32)), .val (.int cc0)] [(.int (3 : Int32)), (.int (1 : Int32))])) (fun _ k => XS.iload X4.here hx rfl (hb hby d7t3_5) rfl  k) ?_
    refine own_icmp X4 hx (pc' := 44) (pc2 := 10) (hb hby d7t3_7) (by decide) (by decide) rfl (fun (hc7_6 : ¬ ((1 : Int32) < (3 : Int32))) => ?_) (fun (hc7_6 : (1 : Int32) < (3 : Int32)) => ?_)
    · exact absurd hc7_6 (by decide)
    refine own_st (T' := T4) (F' := (mkF m 11 #[.val (.ref x0), .val (.int (1 : Int32)), .val (.ref x2), .val (.int (1 : Int32)), .val (.int (3 : Int32)), .val (.int (1 : Int32)), .val (.int cc0)] [(.ref x0)])) (fun _ k => XS.aloadN X4.here hx rfl (hb hby d7t3_10) rfl rfl k) ?_
    refine own_st (T' := T4) (F' := (mkF m 12 #[.val (.ref x0), .val (.int (1 : Int32)), .val (.ref x2), .val (.int (1 : Int32)), .val (.int (3 : Int32)), .val (.int (1 : Int32)), .val (.int cc0)] [(.int (1 : Int32)), (.ref x0)])) (fun _ k => XS.iloadN X4.here hx rfl (hb hby d7t3_11) rfl  k) ?_
    obtain ⟨cl7, Ar7, Aq7, As7, Am7, Ah7, Au7⟩ := id f5
    have hin7 : ¬ ((1 : Int32) < 0 ∨ cl7.slots.size ≤ ((1 : Int32)).toNatClampNeg) := inb_of As7 ⟨by decide, by decide⟩
    have hat7 : cl7.slots[((1 : Int32)).toNatClampNeg]? = some (.int cc1) := Ah7.at hin7 (rfl)
    refine own_st (T' := T4) (F' := (mkF m 13 #[.val (.ref x0), .val (.int (1 : Int32)), .val (.ref x2), .val (.int (1 : Int32)), .val (.int (3 : Int32)), .val (.int (1 : Int32)), .val (.int cc0)] [(.int cc1)])) (fun _ k => X4.caload hx (j := (1 : Int32)) (v := (.int cc1)) (by rw [e4]; exact Ar7.1) (State.isArrayOf_alike hZ.alike Ar7.2.1) Ar7.2.2 hin7 hat7 (g := (mkF m 12 #[.val (.ref x0), .val (.int (1 : Int32)), .val (.ref x2), .val (.int (1 : Int32)), .val (.int (3 : Int32)), .val (.int (1 : Int32)), .val (.int cc0)] [(.int (1 : Int32)), (.ref x0)])) rfl rfl (hb hby d7t3_12) _ k) ?_
    refine own_st (T' := T4) (F' := (mkF m 15 #[.val (.ref x0), .val (.int (1 : Int32)), .val (.ref x2), .val (.int (1 : Int32)), .val (.int (3 : Int32)), .val (.int (1 : Int32)), .val (.int cc1)] [])) (fun _ k => XS.istore X4.here hx rfl (hb hby d7t3_13) rfl (l' := #[.val (.ref x0), .val (.int (1 : Int32)), .val (.ref x2), .val (.int (1 : Int32)), .val (.int (3 : Int32)), .val (.int (1 : Int32)), .val (.int cc1)]) rfl k) ?_
    refine own_st (T' := T4) (F' := (mkF m 17 #[.val (.ref x0), .val (.int (1 : Int32)), .val (.ref x2), .val (.int (1 : Int32)), .val (.int (3 : Int32)), .val (.int (1 : Int32)), .val (.int cc1)] [(.int cc1)])) (fun _ k => XS.iload X4.here hx rfl (hb hby d7t3_15) rfl  k) ?_
    refine own_st (T' := T4) (F' := (mkF m 20 #[.val (.ref x0), .val (.int (1 : Int32)), .val (.ref x2), .val (.int (1 : Int32)), .val (.int (3 : Int32)), .val (.int (1 : Int32)), .val (.int cc1)] [(.int (255 : Int32)), (.int cc1)])) (fun _ k => XS.sipush X4.here hx rfl (hb hby d7t3_17) k) ?_
    refine own_icmp X4 hx (pc' := 26) (pc2 := 23) (hb hby d7t3_20) (by decide) (by decide) rfl (fun (hc20_8 : ¬ ((255 : Int32) < cc1)) => ?_) (fun (hc20_8 : (255 : Int32) < cc1) => ?_)
    ·
      refine own_st (T' := T4) (F' := (mkF m 27 #[.val (.ref x0), .val (.int (1 : Int32)), .val (.ref x2), .val (.int (1 : Int32)), .val (.int (3 : Int32)), .val (.int (1 : Int32)), .val (.int cc1)] [(.ref x2)])) (fun _ k => XS.aloadN X4.here hx rfl (hb hby d7t3_26) rfl rfl k) ?_
      refine own_st (T' := T4) (F' := (mkF m 28 #[.val (.ref x0), .val (.int (1 : Int32)), .val (.ref x2), .val (.int (1 : Int32)), .val (.int (3 : Int32)), .val (.int (1 : Int32)), .val (.int cc1)] [(.int (1 : Int32)), (.ref x2)])) (fun _ k => XS.iloadN X4.here hx rfl (hb hby d7t3_27) rfl  k) ?_
      refine own_st (T' := T4) (F' := (mkF m 30 #[.val (.ref x0), .val (.int (1 : Int32)), .val (.ref x2), .val (.int (1 : Int32)), .val (.int (3 : Int32)), .val (.int (1 : Int32)), .val (.int cc1)] [(.int cc1), (.int (1 : Int32)), (.ref x2)])) (fun _ k => XS.iload X4.here hx rfl (hb hby d7t3_28) rfl  k) ?_
      refine own_st (T' := T4) (F' := (mkF m 31 #[.val (.ref x0), .val (.int (1 : Int32)), .val (.ref x2), .val (.int (1 : Int32)), .val (.int (3 : Int32)), .val (.int (1 : Int32)), .val (.int cc1)] [(.int (cc1.toInt8.toInt32)), (.int (1 : Int32)), (.ref x2)])) (fun _ k => XS.i2b X4.here hx rfl (hb hby d7t3_30) rfl k) ?_
      obtain ⟨cl9, Ar9, Aq9, As9, Am9, Ah9, Au9⟩ := id V4
      have hin9 : ¬ ((1 : Int32) < 0 ∨ cl9.slots.size ≤ ((1 : Int32)).toNatClampNeg) := inb_of As9 ⟨by decide, by decide⟩
      obtain ⟨T9, h9, X9, e9, W9, st9⟩ := stB X4 hx hZ e4 Ar9 (j := (1 : Int32)) hin9 (g := (mkF m 31 #[.val (.ref x0), .val (.int (1 : Int32)), .val (.ref x2), .val (.int (1 : Int32)), .val (.int (3 : Int32)), .val (.int (1 : Int32)), .val (.int cc1)] [(.int (cc1.toInt8.toInt32)), (.int (1 : Int32)), (.ref x2)])) rfl rfl (hb hby d7t3_31)
      have V9 : Arv Z h9 x2 vkb .byte (3 : Int32) [(.int ((cc0.toInt8.toInt32).toInt8.toInt32)), (.int ((cc1.toInt8.toInt32).toInt8.toInt32)), (.int (0 : Int32))] (.int (0 : Int32)) := Arv.set Ar9 Aq9 As9 Am9 Ah9 Au9 (fits_nar_byte _) W9 1 rfl (show 1 < 3 by decide)
      have N9 := Fr.snoc X9 N4 hge
      have f10 : Arv Z h9 x0 vkc .char (3 : Int32) [(.int cc0), (.int cc1), (.int cc2)] (.int (0 : Int32)) := f5.other W9 (Ne.symm hno)
      have K9 : Keep h0 h9 [x2] := K4.wr W9 (Or.inl (List.mem_of_getElem? (i := 0) rfl))
      have Zs9 : n0 ≤ h9.size := Nat.le_trans Z0 K9.1
      refine own_st (T' := T9) (F' := (mkF m 32 #[.val (.ref x0), .val (.int (1 : Int32)), .val (.ref x2), .val (.int (1 : Int32)), .val (.int (3 : Int32)), .val (.int (1 : Int32)), .val (.int cc1)] [])) (fun _ k => st9 _ k) ?_
      refine own_st (T' := T9) (F' := (mkF m 35 #[.val (.ref x0), .val (.int (2 : Int32)), .val (.ref x2), .val (.int (1 : Int32)), .val (.int (3 : Int32)), .val (.int (1 : Int32)), .val (.int cc1)] [])) (fun _ k => XS.iinc X9.here hx rfl (hb hby d7t3_32) rfl (l' := #[.val (.ref x0), .val (.int (2 : Int32)), .val (.ref x2), .val (.int (1 : Int32)), .val (.int (3 : Int32)), .val (.int (1 : Int32)), .val (.int cc1)]) rfl k) ?_
      refine own_st (T' := T9) (F' := (mkF m 38 #[.val (.ref x0), .val (.int (2 : Int32)), .val (.ref x2), .val (.int (2 : Int32)), .val (.int (3 : Int32)), .val (.int (1 : Int32)), .val (.int cc1)] [])) (fun _ k => XS.iinc X9.here hx rfl (hb hby d7t3_35) rfl (l' := #[.val (.ref x0), .val (.int (2 : Int32)), .val (.ref x2), .val (.int (2 : Int32)), .val (.int (3 : Int32)), .val (.int (1 : Int32)), .val (.int cc1)]) rfl k) ?_
      refine own_st (T' := T9) (F' := (mkF m 41 #[.val (.ref x0), .val (.int (2 : Int32)), .val (.ref x2), .val (.int (2 : Int32)), .val (.int (3 : Int32)), .val (.int (2 : Int32)), .val (.int cc1)] [])) (fun _ k => XS.iinc X9.here hx rfl (hb hby d7t3_38) rfl (l' := #[.val (.ref x0), .val (.int (2 : Int32)), .val (.ref x2), .val (.int (2 : Int32)), .val (.int (3 : Int32)), .val (.int (2 : Int32)), .val (.int cc1)]) rfl k) ?_
      refine own_st (T' := T9) (F' := (mkF m 3 #[.val (.ref x0), .val (.int (2 : Int32)), .val (.ref x2), .val (.int (2 : Int32)), .val (.int (3 : Int32)), .val (.int (2 : Int32)), .val (.int cc1)] [])) (fun _ k => XS.goto X9.here hx rfl (pc0 := 41) (pc' := 3) rfl (hb hby d7t3_41) (by decide) (by decide) k) ?_
      refine own_st (T' := T9) (F' := (mkF m 5 #[.val (.ref x0), .val (.int (2 : Int32)), .val (.ref x2), .val (.int (2 : Int32)), .val (.int (3 : Int32)), .val (.int (2 : Int32)), .val (.int cc1)] [(.int (2 : Int32))])) (fun _ k => XS.iload X9.here hx rfl (hb hby d7t3_3) rfl  k) ?_
      refine own_st (T' := T9) (F' := (mkF m 7 #[.val (.ref x0), .val (.int (2 : Int32)), .val (.ref x2), .val (.int (2 : Int32)), .val (.int (3 : Int32)), .val (.int (2 : Int32)), .val (.int cc1)] [(.int (3 : Int32)), (.int (2 : Int32))])) (fun _ k => XS.iload X9.here hx rfl (hb hby d7t3_5) rfl  k) ?_
      refine own_icmp X9 hx (pc' := 44) (pc2 := 10) (hb hby d7t3_7) (by decide) (by decide) rfl (fun (hc7_11 : ¬ ((2 : Int32) < (3 : Int32))) => ?_) (fun (hc7_11 : (2 : Int32) < (3 : Int32)) => ?_)
      · exact absurd hc7_11 (by decide)
      refine own_st (T' := T9) (F' := (mkF m 11 #[.val (.ref x0), .val (.int (2 : Int32)), .val (.ref x2), .val (.int (2 : Int32)), .val (.int (3 : Int32)), .val (.int (2 : Int32)), .val (.int cc1)] [(.ref x0)])) (fun _ k => XS.aloadN X9.here hx rfl (hb hby d7t3_10) rfl rfl k) ?_
      refine own_st (T' := T9) (F' := (mkF m 12 #[.val (.ref x0), .val (.int (2 : Int32)), .val (.ref x2), .val (.int (2 : Int32)), .val (.int (3 : Int32)), .val (.int (2 : Int32)), .val (.int cc1)] [(.int (2 : Int32)), (.ref x0)])) (fun _ k => XS.iloadN X9.here hx rfl (hb hby d7t3_11) rfl  k) ?_
      obtain ⟨cl12, Ar12, Aq12, As12, Am12, Ah12, Au12⟩ := id f10
      have hin12 : ¬ ((2 : Int32) < 0 ∨ cl12.slots.size ≤ ((2 : Int32)).toNatClampNeg) := inb_of As12 ⟨by decide, by decide⟩
      have hat12 : cl12.slots[((2 : Int32)).toNatClampNeg]? = some (.int cc2) := Ah12.at hin12 (rfl)
      refine own_st (T' := T9) (F' := (mkF m 13 #[.val (.ref x0), .val (.int (2 : Int32)), .val (.ref x2), .val (.int (2 : Int32)), .val (.int (3 : Int32)), .val (.int (2 : Int32)), .val (.int cc1)] [(.int cc2)])) (fun _ k => X9.caload hx (j := (2 : Int32)) (v := (.int cc2)) (by rw [e9]; exact Ar12.1) (State.isArrayOf_alike hZ.alike Ar12.2.1) Ar12.2.2 hin12 hat12 (g := (mkF m 12 #[.val (.ref x0), .val (.int (2 : Int32)), .val (.ref x2), .val (.int (2 : Int32)), .val (.int (3 : Int32)), .val (.int (2 : Int32)), .val (.int cc1)] [(.int (2 : Int32)), (.ref x0)])) rfl rfl (hb hby d7t3_12) _ k) ?_
      refine own_st (T' := T9) (F' := (mkF m 15 #[.val (.ref x0), .val (.int (2 : Int32)), .val (.ref x2), .val (.int (2 : Int32)), .val (.int (3 : Int32)), .val (.int (2 : Int32)), .val (.int cc2)] [])) (fun _ k => XS.istore X9.here hx rfl (hb hby d7t3_13) rfl (l' := #[.val (.ref x0), .val (.int (2 : Int32)), .val (.ref x2), .val (.int (2 : Int32)), .val (.int (3 : Int32)), .val (.int (2 : Int32)), .val (.int cc2)]) rfl k) ?_
      refine own_st (T' := T9) (F' := (mkF m 17 #[.val (.ref x0), .val (.int (2 : Int32)), .val (.ref x2), .val (.int (2 : Int32)), .val (.int (3 : Int32)), .val (.int (2 : Int32)), .val (.int cc2)] [(.int cc2)])) (fun _ k => XS.iload X9.here hx rfl (hb hby d7t3_15) rfl  k) ?_
      refine own_st (T' := T9) (F' := (mkF m 20 #[.val (.ref x0), .val (.int (2 : Int32)), .val (.ref x2), .val (.int (2 : Int32)), .val (.int (3 : Int32)), .val (.int (2 : Int32)), .val (.int cc2)] [(.int (255 : Int32)), (.int cc2)])) (fun _ k => XS.sipush X9.here hx rfl (hb hby d7t3_17) k) ?_
      refine own_icmp X9 hx (pc' := 26) (pc2 := 23) (hb hby d7t3_20) (by decide) (by decide) rfl (fun (hc20_13 : ¬ ((255 : Int32) < cc2)) => ?_) (fun (hc20_13 : (255 : Int32) < cc2) => ?_)
      ·
        refine own_st (T' := T9) (F' := (mkF m 27 #[.val (.ref x0), .val (.int (2 : Int32)), .val (.ref x2), .val (.int (2 : Int32)), .val (.int (3 : Int32)), .val (.int (2 : Int32)), .val (.int cc2)] [(.ref x2)])) (fun _ k => XS.aloadN X9.here hx rfl (hb hby d7t3_26) rfl rfl k) ?_
        refine own_st (T' := T9) (F' := (mkF m 28 #[.val (.ref x0), .val (.int (2 : Int32)), .val (.ref x2), .val (.int (2 : Int32)), .val (.int (3 : Int32)), .val (.int (2 : Int32)), .val (.int cc2)] [(.int (2 : Int32)), (.ref x2)])) (fun _ k => XS.iloadN X9.here hx rfl (hb hby d7t3_27) rfl  k) ?_
        refine own_st (T' := T9) (F' := (mkF m 30 #[.val (.ref x0), .val (.int (2 : Int32)), .val (.ref x2), .val (.int (2 : Int32)), .val (.int (3 : Int32)), .val (.int (2 : Int32)), .val (.int cc2)] [(.int cc2), (.int (2 : Int32)), (.ref x2)])) (fun _ k => XS.iload X9.here hx rfl (hb hby d7t3_28) rfl  k) ?_
        refine own_st (T' := T9) (F' := (mkF m 31 #[.val (.ref x0), .val (.int (2 : Int32)), .val (.ref x2), .val (.int (2 : Int32)), .val (.int (3 : Int32)), .val (.int (2 : Int32)), .val (.int cc2)] [(.int (cc2.toInt8.toInt32)), (.int (2 : Int32)), (.ref x2)])) (fun _ k => XS.i2b X9.here hx rfl (hb hby d7t3_30) rfl k) ?_
        obtain ⟨cl14, Ar14, Aq14, As14, Am14, Ah14, Au14⟩ := id V9
        have hin14 : ¬ ((2 : Int32) < 0 ∨ cl14.slots.size ≤ ((2 : Int32)).toNatClampNeg) := inb_of As14 ⟨by decide, by decide⟩
        obtain ⟨T14, h14, X14, e14, W14, st14⟩ := stB X9 hx hZ e9 Ar14 (j := (2 : Int32)) hin14 (g := (mkF m 31 #[.val (.ref x0), .val (.int (2 : Int32)), .val (.ref x2), .val (.int (2 : Int32)), .val (.int (3 : Int32)), .val (.int (2 : Int32)), .val (.int cc2)] [(.int (cc2.toInt8.toInt32)), (.int (2 : Int32)), (.ref x2)])) rfl rfl (hb hby d7t3_31)
        have V14 : Arv Z h14 x2 vkb .byte (3 : Int32) [(.int ((cc0.toInt8.toInt32).toInt8.toInt32)), (.int ((cc1.toInt8.toInt32).toInt8.toInt32)), (.int ((cc2.toInt8.toInt32).toInt8.toInt32))] (.int (0 : Int32)) := Arv.set Ar14 Aq14 As14 Am14 Ah14 Au14 (fits_nar_byte _) W14 2 rfl (show 2 < 3 by decide)
        have N14 := Fr.snoc X14 N9 hge
        have f15 : Arv Z h14 x0 vkc .char (3 : Int32) [(.int cc0), (.int cc1), (.int cc2)] (.int (0 : Int32)) := f10.other W14 (Ne.symm hno)
        have K14 : Keep h0 h14 [x2] := K9.wr W14 (Or.inl (List.mem_of_getElem? (i := 0) rfl))
        have Zs14 : n0 ≤ h14.size := Nat.le_trans Z0 K14.1
        refine own_st (T' := T14) (F' := (mkF m 32 #[.val (.ref x0), .val (.int (2 : Int32)), .val (.ref x2), .val (.int (2 : Int32)), .val (.int (3 : Int32)), .val (.int (2 : Int32)), .val (.int cc2)] [])) (fun _ k => st14 _ k) ?_
        refine own_st (T' := T14) (F' := (mkF m 35 #[.val (.ref x0), .val (.int (3 : Int32)), .val (.ref x2), .val (.int (2 : Int32)), .val (.int (3 : Int32)), .val (.int (2 : Int32)), .val (.int cc2)] [])) (fun _ k => XS.iinc X14.here hx rfl (hb hby d7t3_32) rfl (l' := #[.val (.ref x0), .val (.int (3 : Int32)), .val (.ref x2), .val (.int (2 : Int32)), .val (.int (3 : Int32)), .val (.int (2 : Int32)), .val (.int cc2)]) rfl k) ?_
        refine own_st (T' := T14) (F' := (mkF m 38 #[.val (.ref x0), .val (.int (3 : Int32)), .val (.ref x2), .val (.int (3 : Int32)), .val (.int (3 : Int32)), .val (.int (2 : Int32)), .val (.int cc2)] [])) (fun _ k => XS.iinc X14.here hx rfl (hb hby d7t3_35) rfl (l' := #[.val (.ref x0), .val (.int (3 : Int32)), .val (.ref x2), .val (.int (3 : Int32)), .val (.int (3 : Int32)), .val (.int (2 : Int32)), .val (.int cc2)]) rfl k) ?_
        refine own_st (T' := T14) (F' := (mkF m 41 #[.val (.ref x0), .val (.int (3 : Int32)), .val (.ref x2), .val (.int (3 : Int32)), .val (.int (3 : Int32)), .val (.int (3 : Int32)), .val (.int cc2)] [])) (fun _ k => XS.iinc X14.here hx rfl (hb hby d7t3_38) rfl (l' := #[.val (.ref x0), .val (.int (3 : Int32)), .val (.ref x2), .val (.int (3 : Int32)), .val (.int (3 : Int32)), .val (.int (3 : Int32)), .val (.int cc2)]) rfl k) ?_
        refine own_st (T' := T14) (F' := (mkF m 3 #[.val (.ref x0), .val (.int (3 : Int32)), .val (.ref x2), .val (.int (3 : Int32)), .val (.int (3 : Int32)), .val (.int (3 : Int32)), .val (.int cc2)] [])) (fun _ k => XS.goto X14.here hx rfl (pc0 := 41) (pc' := 3) rfl (hb hby d7t3_41) (by decide) (by decide) k) ?_
        refine own_st (T' := T14) (F' := (mkF m 5 #[.val (.ref x0), .val (.int (3 : Int32)), .val (.ref x2), .val (.int (3 : Int32)), .val (.int (3 : Int32)), .val (.int (3 : Int32)), .val (.int cc2)] [(.int (3 : Int32))])) (fun _ k => XS.iload X14.here hx rfl (hb hby d7t3_3) rfl  k) ?_
        refine own_st (T' := T14) (F' := (mkF m 7 #[.val (.ref x0), .val (.int (3 : Int32)), .val (.ref x2), .val (.int (3 : Int32)), .val (.int (3 : Int32)), .val (.int (3 : Int32)), .val (.int cc2)] [(.int (3 : Int32)), (.int (3 : Int32))])) (fun _ k => XS.iload X14.here hx rfl (hb hby d7t3_5) rfl  k) ?_
        refine own_icmp X14 hx (pc' := 44) (pc2 := 10) (hb hby d7t3_7) (by decide) (by decide) rfl (fun (hc7_16 : ¬ ((3 : Int32) < (3 : Int32))) => ?_) (fun (hc7_16 : (3 : Int32) < (3 : Int32)) => ?_)
        rotate_left
        · exact absurd hc7_16 (by decide)
        refine own_st (T' := T14) (F' := (mkF m 46 #[.val (.ref x0), .val (.int (3 : Int32)), .val (.ref x2), .val (.int (3 : Int32)), .val (.int (3 : Int32)), .val (.int (3 : Int32)), .val (.int cc2)] [(.int (3 : Int32))])) (fun _ k => XS.iload X14.here hx rfl (hb hby d7t3_44) rfl  k) ?_
        refine own_retI X14 hx hlk Bd.returns (hb hby d7t3_46) ?_ (by decide) (by decide)
        rw [e14]
        refine ⟨?_, N14, K14, V14⟩
        rfl
      ·
        first | exact absurd hc20_13 h255_0 | exact absurd hc20_13 h255_1 | exact absurd hc20_13 h255_2
    ·
      first | exact absurd hc20_8 h255_0 | exact absurd hc20_8 h255_1 | exact absurd hc20_8 h255_2
  ·
    first | exact absurd hc20_3 h255_0 | exact absurd hc20_3 h255_1 | exact absurd hc20_3 h255_2
theorem d6t3_0 : decode jdk_52_method_16_code 0 = .ok (.iload_n 2, 1) := by decide +kernel
theorem d6t3_1 : decode jdk_52_method_16_code 1 = .ok (.newarray .byte, 2) := by decide +kernel
theorem d6t3_3 : decode jdk_52_method_16_code 3 = .ok (.astore_n 3, 1) := by decide +kernel
theorem d6t3_4 : decode jdk_52_method_16_code 4 = .ok (.aload_n 0, 1) := by decide +kernel
theorem d6t3_5 : decode jdk_52_method_16_code 5 = .ok (.iload_n 1, 1) := by decide +kernel
theorem d6t3_6 : decode jdk_52_method_16_code 6 = .ok (.aload_n 3, 1) := by decide +kernel
theorem d6t3_7 : decode jdk_52_method_16_code 7 = .ok (.iconst 0, 1) := by decide +kernel
theorem d6t3_8 : decode jdk_52_method_16_code 8 = .ok (.iload_n 2, 1) := by decide +kernel
theorem d6t3_9 : decode jdk_52_method_16_code 9 = .ok (.invokestatic 115, 3) := by decide +kernel
theorem d6t3_12 : decode jdk_52_method_16_code 12 = .ok (.istore 4, 2) := by decide +kernel
theorem d6t3_14 : decode jdk_52_method_16_code 14 = .ok (.iload 4, 2) := by decide +kernel
theorem d6t3_16 : decode jdk_52_method_16_code 16 = .ok (.iload_n 2, 1) := by decide +kernel
theorem d6t3_17 : decode jdk_52_method_16_code 17 = .ok (.if_icmp .eq 40, 3) := by decide +kernel
theorem d6t3_57 : decode jdk_52_method_16_code 57 = .ok (.aload_n 3, 1) := by decide +kernel
theorem d6t3_58 : decode jdk_52_method_16_code 58 = .ok (.areturn, 1) := by decide +kernel
theorem own_pn6t3 : plainName "java/lang/StringUTF16" = true := by first | (simp [plainName, overriddenIn]; done) | decide +kernel
theorem own_ef6t3 (m : MethodId) (x0 : Addr) : entryFrame m #[(.ref x0), (.int (0 : Int32)), (.int (3 : Int32))] 6 = (mkF m 0 #[.val (.ref x0), .val (.int (0 : Int32)), .val (.int (3 : Int32)), .unset, .unset, .unset] []) := by first | (simp [entryFrame, mkF, argsToLocals, Value.category]; done) | rfl
def Q6t3 (Z : State) (x0 : Addr) (vkc : ClassId) (cc0 : Int32) (cc1 : Int32) (cc2 : Int32) (h0 : Heap) (n0 : Nat) (v : Option Value) (h : Heap) (L : List Loc) : Prop := (∃ z : Addr, v = some (.ref z) ∧ (∃ vkb : ClassId, h0.size ≤ z ∧ Arv Z h z vkb .byte (3 : Int32) [(.int ((cc0.toInt8.toInt32).toInt8.toInt32)), (.int ((cc1.toInt8.toInt32).toInt8.toInt32)), (.int ((cc2.toInt8.toInt32).toInt8.toInt32))] (.int (0 : Int32)))) ∧ Fr n0 L ∧ Keep h0 h []
set_option maxRecDepth 65536 in
set_option maxHeartbeats 40000000 in
theorem rm6t3 (l : Launch) (Z : State) (a0 : Array Value) (hw : ∀ d ∈ tables_1, d.before a0 Z = true) (ws : List Jvm.Cond) (x0 : Addr) (vkc : ClassId) (cc0 : Int32) (cc1 : Int32) (cc2 : Int32) (h0 : Heap) (n0 : Nat) (Z0 : n0 ≤ h0.size) (V_c : Arv Z h0 x0 vkc .char (3 : Int32) [(.int cc0), (.int cc1), (.int cc2)] (.int (0 : Int32))) (h255_0 : ¬ ((255 : Int32) < cc0)) (h255_1 : ¬ ((255 : Int32) < cc1)) (h255_2 : ¬ ((255 : Int32) < cc2)) :
    MetFree l (⟨"java/lang/StringUTF16", "compress", "([CII)[B"⟩ : MethodName) (head1 (Jvm.Cond.code (⟨"java/lang/StringUTF16", "compress", "([CII)[B"⟩ : MethodName) jdk_52_method_16_code 6 (some (.array .byte)) :: ws) ({ frames := 1, cells := 1, slots := 3, locals := 18 } : Room)) (fun a U => a = #[(.ref x0), (.int (0 : Int32)), (.int (3 : Int32))] ∧ Z.Warmed39 U.vm ∧ U.heap = h0) (fun _ _ _ _ _ => True) (fun _ U oc U' => ∃ v L, oc = .returned v ∧ Q6t3 Z x0 vkc cc0 cc1 cc2 h0 n0 v U'.heap L ∧ FrameEnd U oc U' L ({ frames := 1, cells := 1, slots := 3, locals := 18 } : Room).cells ({ frames := 1, cells := 1, slots := 3, locals := 18 } : Room).slots) := by
  refine MetFree.of_bodySF (plainFor_of_name own_pn6t3) hisR ?_
  intro p e s m args below meth c s₁ Bd hml0 hP hK
  obtain ⟨rfl, hZ, hh⟩ := hP
  have hx := Bd.exec
  have hby := Bd.bytes
  have hlk : meth.locks = false := BodyLoose.notSynchronized Bd
  have hml : c.maxLocals = 6 := hml0
  have hown : s.vm.findClass "java/lang/StringUTF16" = some m.cls := findClass_of_methodNamed Bd.named
  have hnm := (name_of_methodNamed Bd.named Bd.method).1
  have X0 : Stand p l e ({ frames := 1, cells := 1, slots := 3, locals := 18 } : Room) s m #[(.ref x0), (.int (0 : Int32)), (.int (3 : Int32))] below meth c s₁ [] 0 0 := Stand.of_body Bd
  have e0 : s₁.heap = h0 := by rw [← hh, Bd.state]; rfl
  have N0 := Fr.nil n0
  refine own_enter (own_ef6t3 m x0) ?_
  show own_Go p e below (own_E s (Q6t3 Z x0 vkc cc0 cc1 cc2 h0 n0) ({ frames := 1, cells := 1, slots := 3, locals := 18 } : Room).cells ({ frames := 1, cells := 1, slots := 3, locals := 18 } : Room).slots) s₁ (mkF m 0 #[.val (.ref x0), .val (.int (0 : Int32)), .val (.int (3 : Int32)), .unset, .unset, .unset] [])
  refine own_st (T' := s₁) (F' := (mkF m 1 #[.val (.ref x0), .val (.int (0 : Int32)), .val (.int (3 : Int32)), .unset, .unset, .unset] [(.int (3 : Int32))])) (fun _ k => XS.iloadN X0.here hx rfl (hb hby d6t3_0) rfl  k) ?_
  obtain ⟨T1, h1, k1, X1, e1, E1, A1, AE1, st1⟩ := newPE X0 hx hZ (hw _ (List.mem_of_getElem? (i := 31) rfl)) e0 (g := (mkF m 1 #[.val (.ref x0), .val (.int (0 : Int32)), .val (.int (3 : Int32)), .unset, .unset, .unset] [(.int (3 : Int32))])) rfl (hb hby d6t3_1) rfl (by decide) (cap := 3) (by decide) (by decide) (by decide) (by decide) (ad := "[B") (by decide)
  obtain ⟨b1, g1⟩ : ∃ z, z = h0.size := ⟨_, rfl⟩
  rw [← g1] at A1 AE1 st1
  have ge1 : n0 ≤ b1 := by rw [g1]; exact Z0
  have hge1 : h0.size ≤ b1 := by rw [g1]; exact (Keep.refl h0 []).1
  have ne1_1 : x0 ≠ b1 := by rw [g1]; exact Nat.ne_of_lt V_c.lt
  have f2 : Arv Z h1 x0 vkc .char (3 : Int32) [(.int cc0), (.int cc1), (.int cc2)] (.int (0 : Int32)) := V_c.ext E1
  have K1 : Keep h0 h1 [] := (Keep.refl h0 []).ext E1
  have Zs1 : n0 ≤ h1.size := Nat.le_trans Z0 K1.1
  have V1 : Arv Z h1 b1 k1 .byte (3 : Int32) [(.int (0 : Int32)), (.int (0 : Int32)), (.int (0 : Int32))] (.int (0 : Int32)) := (Arv.new A1 (by decide)).pad (pad_rep [] (.int (0 : Int32)) 3)
  refine own_st (T' := T1) (F' := (mkF m 3 #[.val (.ref x0), .val (.int (0 : Int32)), .val (.int (3 : Int32)), .unset, .unset, .unset] [(.ref b1)])) (fun _ k => st1 _ k) ?_
  refine own_st (T' := T1) (F' := (mkF m 4 #[.val (.ref x0), .val (.int (0 : Int32)), .val (.int (3 : Int32)), .val (.ref b1), .unset, .unset] [])) (fun _ k => XS.astoreN X1.here hx rfl (hb hby d6t3_3) rfl rfl (l' := #[.val (.ref x0), .val (.int (0 : Int32)), .val (.int (3 : Int32)), .val (.ref b1), .unset, .unset]) rfl k) ?_
  refine own_st (T' := T1) (F' := (mkF m 5 #[.val (.ref x0), .val (.int (0 : Int32)), .val (.int (3 : Int32)), .val (.ref b1), .unset, .unset] [(.ref x0)])) (fun _ k => XS.aloadN X1.here hx rfl (hb hby d6t3_4) rfl rfl k) ?_
  refine own_st (T' := T1) (F' := (mkF m 6 #[.val (.ref x0), .val (.int (0 : Int32)), .val (.int (3 : Int32)), .val (.ref b1), .unset, .unset] [(.int (0 : Int32)), (.ref x0)])) (fun _ k => XS.iloadN X1.here hx rfl (hb hby d6t3_5) rfl  k) ?_
  refine own_st (T' := T1) (F' := (mkF m 7 #[.val (.ref x0), .val (.int (0 : Int32)), .val (.int (3 : Int32)), .val (.ref b1), .unset, .unset] [(.ref b1), (.int (0 : Int32)), (.ref x0)])) (fun _ k => XS.aloadN X1.here hx rfl (hb hby d6t3_6) rfl rfl k) ?_
  refine own_st (T' := T1) (F' := (mkF m 8 #[.val (.ref x0), .val (.int (0 : Int32)), .val (.int (3 : Int32)), .val (.ref b1), .unset, .unset] [(.int (0 : Int32)), (.ref b1), (.int (0 : Int32)), (.ref x0)])) (fun _ k => XS.iconst X1.here hx rfl (hb hby d6t3_7) k) ?_
  refine own_st (T' := T1) (F' := (mkF m 9 #[.val (.ref x0), .val (.int (0 : Int32)), .val (.int (3 : Int32)), .val (.ref b1), .unset, .unset] [(.int (3 : Int32)), (.int (0 : Int32)), (.ref b1), (.int (0 : Int32)), (.ref x0)])) (fun _ k => XS.iloadN X1.here hx rfl (hb hby d6t3_8) rfl  k) ?_
  obtain ⟨_, _, ⟨T3, L3, k3, n3⟩, -, X3, ⟨Lc3, hQ3, l3, y3, z3⟩, st3⟩ := Jvm.LawKit.callS X1 hx (y := (⟨"java/lang/StringUTF16", "compress", "([CI[BII)I"⟩ : MethodName)) hown (mvT hZ (hw _ (List.mem_of_getElem? (i := 32) rfl))) (mvT hZ (hw _ (List.mem_of_getElem? (i := 33) rfl))) (mvT hZ (hw _ (List.mem_of_getElem? (i := 29) rfl))) (mvT hZ (hw _ (List.mem_of_getElem? (i := 34) rfl))) (by decide) (backOf (W := 0) (rm7t3 l Z a0 hw [] x0 b1 vkc k1 cc0 cc1 cc2 h1 n0 Zs1 ge1 (Ne.symm ne1_1) f2 V1 h255_0 h255_1 h255_2) hZ (hw _ (List.mem_of_getElem? (i := 34) rfl)) (hw _ (List.mem_of_getElem? (i := 29) rfl)) (by decide) (by decide)) (g := (mkF m 9 #[.val (.ref x0), .val (.int (0 : Int32)), .val (.int (3 : Int32)), .val (.ref b1), .unset, .unset] [(.int (3 : Int32)), (.int (0 : Int32)), (.ref b1), (.int (0 : Int32)), (.ref x0)])) rfl (by rw [hml]; rfl) (argsL := [(.ref x0), (.int (0 : Int32)), (.ref b1), (.int (0 : Int32)), (.int (3 : Int32))]) (rest := []) (lenOf own_pd8 rfl) rfl (by show 2 * 0 + _ ≤ _; exact Nat.le_of_eq rfl) (hb hby d6t3_9) (fun _ _ => ⟨rfl, e1, (by decide : 1 + 0 ≤ _), (by decide : 3 + 0 ≤ _)⟩)
  dsimp only [Pt.U, Pt.locs, Pt.cells, Pt.slots] at X3 l3 y3 z3 st3 hQ3
  subst l3 y3 z3
  obtain ⟨rfl, Nq3, g3_0, g3_1⟩ := hQ3
  have N3 := Fr.app N0 Nq3
  have f4 : Arv Z T3.heap x0 vkc .char (3 : Int32) [(.int cc0), (.int cc1), (.int cc2)] (.int (0 : Int32)) := f2.keep g3_0 (ninS ne1_1 nin0)
  have f5 : Exa Z T3.heap b1 "[B" := AE1.keep g3_0
  have K3 : Keep h0 T3.heap [] := K1.trans g3_0 (allS (Or.inr hge1) all0)
  have Zs3 : n0 ≤ T3.heap.size := Nat.le_trans Z0 K3.1
  refine own_st (T' := T3) (F' := (mkF m 12 #[.val (.ref x0), .val (.int (0 : Int32)), .val (.int (3 : Int32)), .val (.ref b1), .unset, .unset] [(.int (3 : Int32))])) (fun _ k => st3 _ k) ?_
  refine own_st (T' := T3) (F' := (mkF m 14 #[.val (.ref x0), .val (.int (0 : Int32)), .val (.int (3 : Int32)), .val (.ref b1), .val (.int (3 : Int32)), .unset] [])) (fun _ k => XS.istore X3.here hx rfl (hb hby d6t3_12) rfl (l' := #[.val (.ref x0), .val (.int (0 : Int32)), .val (.int (3 : Int32)), .val (.ref b1), .val (.int (3 : Int32)), .unset]) rfl k) ?_
  refine own_st (T' := T3) (F' := (mkF m 16 #[.val (.ref x0), .val (.int (0 : Int32)), .val (.int (3 : Int32)), .val (.ref b1), .val (.int (3 : Int32)), .unset] [(.int (3 : Int32))])) (fun _ k => XS.iload X3.here hx rfl (hb hby d6t3_14) rfl  k) ?_
  refine own_st (T' := T3) (F' := (mkF m 17 #[.val (.ref x0), .val (.int (0 : Int32)), .val (.int (3 : Int32)), .val (.ref b1), .val (.int (3 : Int32)), .unset] [(.int (3 : Int32)), (.int (3 : Int32))])) (fun _ k => XS.iloadN X3.here hx rfl (hb hby d6t3_16) rfl  k) ?_
  refine own_icmp X3 hx (pc' := 57) (pc2 := 20) (hb hby d6t3_17) (by decide) (by decide) rfl (fun (hc17 : (3 : Int32) = (3 : Int32)) => ?_) (fun (hc17 : ¬ ((3 : Int32) = (3 : Int32))) => ?_)
  rotate_left
  · exact absurd hc17 (by decide)
  refine own_st (T' := T3) (F' := (mkF m 58 #[.val (.ref x0), .val (.int (0 : Int32)), .val (.int (3 : Int32)), .val (.ref b1), .val (.int (3 : Int32)), .unset] [(.ref b1)])) (fun _ k => XS.aloadN X3.here hx rfl (hb hby d6t3_57) rfl rfl k) ?_
  refine own_retA X3 hx hlk (t := (.array .byte)) Bd.returns rfl rfl rfl (hb hby d6t3_58) ?_ (by decide) (by decide)
  show Q6t3 Z x0 vkc cc0 cc1 cc2 h0 n0 _ T3.heap _
  refine ⟨⟨_, rfl, ?_⟩, N3, K3⟩
  exact ⟨_, hge1, g3_1⟩
theorem d8t3_0 : decode jdk_52_method_15_code 0 = .ok (.iload_n 1, 1) := by decide +kernel
theorem d8t3_1 : decode jdk_52_method_15_code 1 = .ok (.aload_n 0, 1) := by decide +kernel
theorem d8t3_2 : decode jdk_52_method_15_code 2 = .ok (.arraylength, 1) := by decide +kernel
theorem d8t3_3 : decode jdk_52_method_15_code 3 = .ok (.isub, 1) := by decide +kernel
theorem d8t3_4 : decode jdk_52_method_15_code 4 = .ok (.bipush 31, 2) := by decide +kernel
theorem d8t3_6 : decode jdk_52_method_15_code 6 = .ok (.iushr, 1) := by decide +kernel
theorem d8t3_7 : decode jdk_52_method_15_code 7 = .ok (.i2b, 1) := by decide +kernel
theorem d8t3_8 : decode jdk_52_method_15_code 8 = .ok (.ireturn, 1) := by decide +kernel
theorem own_pn8t3 : plainName "java/lang/StringUTF16" = true := by first | (simp [plainName, overriddenIn]; done) | decide +kernel
theorem own_ef8t3 (m : MethodId) (x0 : Addr) : entryFrame m #[(.ref x0), (.int (3 : Int32))] 2 = (mkF m 0 #[.val (.ref x0), .val (.int (3 : Int32))] []) := by first | (simp [entryFrame, mkF, argsToLocals, Value.category]; done) | rfl
def Q8t3 (Z : State) (x0 : Addr) (vkb : ClassId) (cc0 : Int32) (cc1 : Int32) (cc2 : Int32) (h0 : Heap) (n0 : Nat) (v : Option Value) (h : Heap) (L : List Loc) : Prop := v = some (.int (0 : Int32)) ∧ Fr n0 L ∧ h = h0
set_option maxRecDepth 65536 in
set_option maxHeartbeats 40000000 in
theorem rm8t3 (l : Launch) (Z : State) (a0 : Array Value) (hw : ∀ d ∈ tables_1, d.before a0 Z = true) (ws : List Jvm.Cond) (x0 : Addr) (vkb : ClassId) (cc0 : Int32) (cc1 : Int32) (cc2 : Int32) (h0 : Heap) (n0 : Nat) (Z0 : n0 ≤ h0.size) (V_b : Arv Z h0 x0 vkb .byte (3 : Int32) [(.int ((cc0.toInt8.toInt32).toInt8.toInt32)), (.int ((cc1.toInt8.toInt32).toInt8.toInt32)), (.int ((cc2.toInt8.toInt32).toInt8.toInt32))] (.int (0 : Int32))) :
    MetFree l (⟨"java/lang/StringUTF16", "coderFromArrayLen", "([BI)B"⟩ : MethodName) (head1 (Jvm.Cond.code (⟨"java/lang/StringUTF16", "coderFromArrayLen", "([BI)B"⟩ : MethodName) jdk_52_method_15_code 2 (some .byte) :: ws) ({ frames := 0, cells := 0, slots := 0, locals := 0 } : Room)) (fun a U => a = #[(.ref x0), (.int (3 : Int32))] ∧ Z.Warmed39 U.vm ∧ U.heap = h0) (fun _ _ _ _ _ => True) (fun _ U oc U' => ∃ v L, oc = .returned v ∧ Q8t3 Z x0 vkb cc0 cc1 cc2 h0 n0 v U'.heap L ∧ FrameEnd U oc U' L ({ frames := 0, cells := 0, slots := 0, locals := 0 } : Room).cells ({ frames := 0, cells := 0, slots := 0, locals := 0 } : Room).slots) := by
  refine MetFree.of_bodySF (plainFor_of_name own_pn8t3) hisR ?_
  intro p e s m args below meth c s₁ Bd hml0 hP hK
  obtain ⟨rfl, hZ, hh⟩ := hP
  have hx := Bd.exec
  have hby := Bd.bytes
  have hlk : meth.locks = false := BodyLoose.notSynchronized Bd
  have hml : c.maxLocals = 2 := hml0
  have hown : s.vm.findClass "java/lang/StringUTF16" = some m.cls := findClass_of_methodNamed Bd.named
  have hnm := (name_of_methodNamed Bd.named Bd.method).1
  have X0 : Stand p l e ({ frames := 0, cells := 0, slots := 0, locals := 0 } : Room) s m #[(.ref x0), (.int (3 : Int32))] below meth c s₁ [] 0 0 := Stand.of_body Bd
  have e0 : s₁.heap = h0 := by rw [← hh, Bd.state]; rfl
  have N0 := Fr.nil n0
  refine own_enter (own_ef8t3 m x0) ?_
  show own_Go p e below (own_E s (Q8t3 Z x0 vkb cc0 cc1 cc2 h0 n0) ({ frames := 0, cells := 0, slots := 0, locals := 0 } : Room).cells ({ frames := 0, cells := 0, slots := 0, locals := 0 } : Room).slots) s₁ (mkF m 0 #[.val (.ref x0), .val (.int (3 : Int32))] [])
  refine own_st (T' := s₁) (F' := (mkF m 1 #[.val (.ref x0), .val (.int (3 : Int32))] [(.int (3 : Int32))])) (fun _ k => XS.iloadN X0.here hx rfl (hb hby d8t3_0) rfl  k) ?_
  refine own_st (T' := s₁) (F' := (mkF m 2 #[.val (.ref x0), .val (.int (3 : Int32))] [(.ref x0), (.int (3 : Int32))])) (fun _ k => XS.aloadN X0.here hx rfl (hb hby d8t3_1) rfl rfl k) ?_
  obtain ⟨cl1, Ar1, Aq1, As1, Am1, Ah1, Au1⟩ := id V_b
  refine own_st (T' := s₁) (F' := (mkF m 3 #[.val (.ref x0), .val (.int (3 : Int32))] [(.int (3 : Int32)), (.int (3 : Int32))])) (fun _ k => X0.arraylength hx (cell := cl1) (by rw [e0]; exact Ar1.1) (State.isArrayOf_alike hZ.alike Ar1.2.1) (g := (mkF m 2 #[.val (.ref x0), .val (.int (3 : Int32))] [(.ref x0), (.int (3 : Int32))])) rfl (rest := [(.int (3 : Int32))]) rfl (hb hby d8t3_2) _ (by rw [len_of As1 Am1]; exact k)) ?_
  refine own_st (T' := s₁) (F' := (mkF m 4 #[.val (.ref x0), .val (.int (3 : Int32))] [(.int (0 : Int32))])) (fun _ k => XS.isub X0.here hx rfl (hb hby d8t3_3) rfl k) ?_
  refine own_st (T' := s₁) (F' := (mkF m 6 #[.val (.ref x0), .val (.int (3 : Int32))] [(.int (31 : Int32)), (.int (0 : Int32))])) (fun _ k => XS.bipush X0.here hx rfl (hb hby d8t3_4) k) ?_
  refine own_st (T' := s₁) (F' := (mkF m 7 #[.val (.ref x0), .val (.int (3 : Int32))] [(.int (((0 : Int32).toUInt32 >>> ((31 : Int32) &&& 31).toUInt32).toInt32))])) (fun _ k => XS.iushr X0.here hx rfl (hb hby d8t3_6) rfl k) ?_
  refine own_st (T' := s₁) (F' := (mkF m 8 #[.val (.ref x0), .val (.int (3 : Int32))] [(.int ((((0 : Int32).toUInt32 >>> ((31 : Int32) &&& 31).toUInt32).toInt32).toInt8.toInt32))])) (fun _ k => XS.i2b X0.here hx rfl (hb hby d8t3_7) rfl k) ?_
  refine own_retN X0 hx hlk (t := .byte) Bd.returns (by simp) (hb hby d8t3_8) ?_ (by decide) (by decide)
  rw [e0]
  refine ⟨?_, N0, rfl⟩
  rfl
theorem d4t3_0 : decode jdk_42_method_149_code 0 = .ok (.aload_n 0, 1) := by decide +kernel
theorem d4t3_1 : decode jdk_42_method_149_code 1 = .ok (.invokespecial 1, 3) := by decide +kernel
theorem d4t3_4 : decode jdk_42_method_149_code 4 = .ok (.iload_n 3, 1) := by decide +kernel
theorem d4t3_5 : decode jdk_42_method_149_code 5 = .ok (.ifCond .ne 22, 3) := by decide +kernel
theorem d4t3_27 : decode jdk_42_method_149_code 27 = .ok (.getstatic 38, 3) := by decide +kernel
theorem d4t3_30 : decode jdk_42_method_149_code 30 = .ok (.ifCond .eq 28, 3) := by decide +kernel
theorem d4t3_33 : decode jdk_42_method_149_code 33 = .ok (.aload_n 1, 1) := by decide +kernel
theorem d4t3_34 : decode jdk_42_method_149_code 34 = .ok (.iload_n 2, 1) := by decide +kernel
theorem d4t3_35 : decode jdk_42_method_149_code 35 = .ok (.iload_n 3, 1) := by decide +kernel
theorem d4t3_36 : decode jdk_42_method_149_code 36 = .ok (.invokestatic 177, 3) := by decide +kernel
theorem d4t3_39 : decode jdk_42_method_149_code 39 = .ok (.astore 5, 2) := by decide +kernel
theorem d4t3_41 : decode jdk_42_method_149_code 41 = .ok (.aload_n 0, 1) := by decide +kernel
theorem d4t3_42 : decode jdk_42_method_149_code 42 = .ok (.aload 5, 2) := by decide +kernel
theorem d4t3_44 : decode jdk_42_method_149_code 44 = .ok (.iload_n 3, 1) := by decide +kernel
theorem d4t3_45 : decode jdk_42_method_149_code 45 = .ok (.invokestatic 47, 3) := by decide +kernel
theorem d4t3_48 : decode jdk_42_method_149_code 48 = .ok (.putfield 15, 3) := by decide +kernel
theorem d4t3_51 : decode jdk_42_method_149_code 51 = .ok (.aload_n 0, 1) := by decide +kernel
theorem d4t3_52 : decode jdk_42_method_149_code 52 = .ok (.aload 5, 2) := by decide +kernel
theorem d4t3_54 : decode jdk_42_method_149_code 54 = .ok (.putfield 9, 3) := by decide +kernel
theorem d4t3_57 : decode jdk_42_method_149_code 57 = .ok (.return_, 1) := by decide +kernel
theorem own_pn4t3 : plainName "java/lang/String" = true := by first | (simp [plainName, overriddenIn]; done) | decide +kernel
theorem own_ef4t3 (m : MethodId) (o : Addr) (x0 : Addr) : entryFrame m #[(.ref o), (.ref x0), (.int (0 : Int32)), (.int (3 : Int32)), .null] 6 = (mkF m 0 #[.val (.ref o), .val (.ref x0), .val (.int (0 : Int32)), .val (.int (3 : Int32)), .val .null, .unset] []) := by first | (simp [entryFrame, mkF, argsToLocals, Value.category]; done) | rfl
def Q4t3 (Z : State) (o : Addr) (x0 : Addr) (cs : Int32) (vkc : ClassId) (cc0 : Int32) (cc1 : Int32) (cc2 : Int32) (h0 : Heap) (n0 : Nat) (v : Option Value) (h : Heap) (L : List Loc) : Prop := v = none ∧ Fr n0 L ∧ Keep h0 h [o] ∧ Fld Z h o "java/lang/String" "coder" "B" (.int (0 : Int32)) ∧ (∃ (b : Addr) (kb : ClassId) (g : List Int32), Fld Z h o "java/lang/String" "value" "[B" (.ref b) ∧ Arv Z h b kb .byte (3 : Int32) (g.map Value.int) (.int (0 : Int32)))
set_option maxRecDepth 65536 in
set_option maxHeartbeats 40000000 in
theorem rm4t3 (l : Launch) (Z : State) (a0 : Array Value) (hw : ∀ d ∈ tables_1, d.before a0 Z = true) (ws : List Jvm.Cond) (o : Addr) (x0 : Addr) (cs : Int32) (vkc : ClassId) (cc0 : Int32) (cc1 : Int32) (cc2 : Int32) (h0 : Heap) (n0 : Nat) (Z0 : n0 ≤ h0.size) (S_cs : Sta Z h0 "java/lang/String" "COMPACT_STRINGS" "Z" (.int cs)) (hcs : ¬ (cs = 0)) (hge : n0 ≤ o) (hno : o ≠ x0) (hEo : Exa Z h0 o "java/lang/String") (hFc : Fld Z h0 o "java/lang/String" "coder" "B" (.int (0 : Int32))) (hFv : Fld Z h0 o "java/lang/String" "value" "[B" .null) (V_c : Arv Z h0 x0 vkc .char (3 : Int32) [(.int cc0), (.int cc1), (.int cc2)] (.int (0 : Int32))) (h255_0 : ¬ ((255 : Int32) < cc0)) (h255_1 : ¬ ((255 : Int32) < cc1)) (h255_2 : ¬ ((255 : Int32) < cc2)) :
    MetFree l (⟨"java/lang/String", "<init>", "([CIILjava/lang/Void;)V"⟩ : MethodName) (head1 (Jvm.Cond.code (⟨"java/lang/String", "<init>", "([CIILjava/lang/Void;)V"⟩ : MethodName) jdk_42_method_149_code 6 none :: ws) ({ frames := 2, cells := 1, slots := 3, locals := 35 } : Room)) (fun a U => a = #[(.ref o), (.ref x0), (.int (0 : Int32)), (.int (3 : Int32)), .null] ∧ Z.Warmed39 U.vm ∧ U.heap = h0) (fun _ _ _ _ _ => True) (fun _ U oc U' => ∃ v L, oc = .returned v ∧ Q4t3 Z o x0 cs vkc cc0 cc1 cc2 h0 n0 v U'.heap L ∧ FrameEnd U oc U' L ({ frames := 2, cells := 1, slots := 3, locals := 35 } : Room).cells ({ frames := 2, cells := 1, slots := 3, locals := 35 } : Room).slots) := by
  refine MetFree.of_bodySF (plainFor_of_name own_pn4t3) hisR ?_
  intro p e s m args below meth c s₁ Bd hml0 hP hK
  obtain ⟨rfl, hZ, hh⟩ := hP
  have hx := Bd.exec
  have hby := Bd.bytes
  have hlk : meth.locks = false := BodyLoose.notSynchronized Bd
  have hml : c.maxLocals = 6 := hml0
  have hown : s.vm.findClass "java/lang/String" = some m.cls := findClass_of_methodNamed Bd.named
  have hnm := (name_of_methodNamed Bd.named Bd.method).1
  have X0 : Stand p l e ({ frames := 2, cells := 1, slots := 3, locals := 35 } : Room) s m #[(.ref o), (.ref x0), (.int (0 : Int32)), (.int (3 : Int32)), .null] below meth c s₁ [] 0 0 := Stand.of_body Bd
  have e0 : s₁.heap = h0 := by rw [← hh, Bd.state]; rfl
  have N0 := Fr.nil n0
  refine own_enter (own_ef4t3 m o x0) ?_
  show own_Go p e below (own_E s (Q4t3 Z o x0 cs vkc cc0 cc1 cc2 h0 n0) ({ frames := 2, cells := 1, slots := 3, locals := 35 } : Room).cells ({ frames := 2, cells := 1, slots := 3, locals := 35 } : Room).slots) s₁ (mkF m 0 #[.val (.ref o), .val (.ref x0), .val (.int (0 : Int32)), .val (.int (3 : Int32)), .val .null, .unset] [])
  refine own_st (T' := s₁) (F' := (mkF m 1 #[.val (.ref o), .val (.ref x0), .val (.int (0 : Int32)), .val (.int (3 : Int32)), .val .null, .unset] [(.ref o)])) (fun _ k => XS.aloadN X0.here hx rfl (hb hby d4t3_0) rfl rfl k) ?_
  obtain ⟨T1, X1, e1, st1⟩ := initO X0 hx hZ hown (hw _ (List.mem_of_getElem? (i := 23) rfl)) (hw _ (List.mem_of_getElem? (i := 24) rfl)) (hw _ (List.mem_of_getElem? (i := 25) rfl)) e0 (g := (mkF m 1 #[.val (.ref o), .val (.ref x0), .val (.int (0 : Int32)), .val (.int (3 : Int32)), .val .null, .unset] [(.ref o)])) rfl (by rw [hml]; rfl) rfl (hb hby d4t3_1) (by decide) (W := 0) (by show 2 * 0 + _ ≤ _; exact Nat.le_of_eq rfl) (by decide)
  refine own_st (T' := T1) (F' := (mkF m 4 #[.val (.ref o), .val (.ref x0), .val (.int (0 : Int32)), .val (.int (3 : Int32)), .val .null, .unset] [])) (fun _ k => st1 _ k) ?_
  refine own_st (T' := T1) (F' := (mkF m 5 #[.val (.ref o), .val (.ref x0), .val (.int (0 : Int32)), .val (.int (3 : Int32)), .val .null, .unset] [(.int (3 : Int32))])) (fun _ k => XS.iloadN X1.here hx rfl (hb hby d4t3_4) rfl  k) ?_
  refine own_ifc X1 hx (pc' := 27) (pc2 := 8) (hb hby d4t3_5) (by decide) (by decide) rfl (fun (hc5 : ¬ ((3 : Int32) = (0 : Int32))) => ?_) (fun (hc5 : (3 : Int32) = (0 : Int32)) => ?_)
  rotate_left
  · exact absurd hc5 (by decide)
  obtain ⟨T2, X2, e2, st2⟩ := getS2 X1 hx hZ hown (host := "") (Or.inl (hw _ (List.mem_of_getElem? (i := 26) rfl))) Via.refl e1 S_cs (g := (mkF m 27 #[.val (.ref o), .val (.ref x0), .val (.int (0 : Int32)), .val (.int (3 : Int32)), .val .null, .unset] [])) rfl (hb hby d4t3_27)
  refine own_st (T' := T2) (F' := (mkF m 30 #[.val (.ref o), .val (.ref x0), .val (.int (0 : Int32)), .val (.int (3 : Int32)), .val .null, .unset] [(.int cs)])) (fun _ k => st2 _ k) ?_
  refine own_ifc X2 hx (pc' := 58) (pc2 := 33) (hb hby d4t3_30) (by decide) (by decide) rfl (fun (hc30 : cs = (0 : Int32)) => ?_) (fun (hc30 : ¬ (cs = (0 : Int32))) => ?_)
  ·
    exact absurd hc30 hcs
  ·
    refine own_st (T' := T2) (F' := (mkF m 34 #[.val (.ref o), .val (.ref x0), .val (.int (0 : Int32)), .val (.int (3 : Int32)), .val .null, .unset] [(.ref x0)])) (fun _ k => XS.aloadN X2.here hx rfl (hb hby d4t3_33) rfl rfl k) ?_
    refine own_st (T' := T2) (F' := (mkF m 35 #[.val (.ref o), .val (.ref x0), .val (.int (0 : Int32)), .val (.int (3 : Int32)), .val .null, .unset] [(.int (0 : Int32)), (.ref x0)])) (fun _ k => XS.iloadN X2.here hx rfl (hb hby d4t3_34) rfl  k) ?_
    refine own_st (T' := T2) (F' := (mkF m 36 #[.val (.ref o), .val (.ref x0), .val (.int (0 : Int32)), .val (.int (3 : Int32)), .val .null, .unset] [(.int (3 : Int32)), (.int (0 : Int32)), (.ref x0)])) (fun _ k => XS.iloadN X2.here hx rfl (hb hby d4t3_35) rfl  k) ?_
    obtain ⟨_, _, ⟨T3, L3, k3, n3⟩, -, X3, ⟨Lc3, hQ3, l3, y3, z3⟩, st3⟩ := Jvm.LawKit.callS X2 hx (y := (⟨"java/lang/StringUTF16", "compress", "([CII)[B"⟩ : MethodName)) hown (mvT hZ (hw _ (List.mem_of_getElem? (i := 27) rfl))) (mvT hZ (hw _ (List.mem_of_getElem? (i := 28) rfl))) (mvT hZ (hw _ (List.mem_of_getElem? (i := 29) rfl))) (mvT hZ (hw _ (List.mem_of_getElem? (i := 30) rfl))) (by decide) (backOf (W := 0) (rm6t3 l Z a0 hw [] x0 vkc cc0 cc1 cc2 h0 n0 Z0 V_c h255_0 h255_1 h255_2) hZ (hw _ (List.mem_of_getElem? (i := 30) rfl)) (hw _ (List.mem_of_getElem? (i := 29) rfl)) (by decide) (by decide)) (g := (mkF m 36 #[.val (.ref o), .val (.ref x0), .val (.int (0 : Int32)), .val (.int (3 : Int32)), .val .null, .unset] [(.int (3 : Int32)), (.int (0 : Int32)), (.ref x0)])) rfl (by rw [hml]; rfl) (argsL := [(.ref x0), (.int (0 : Int32)), (.int (3 : Int32))]) (rest := []) (lenOf own_pd9 rfl) rfl (by show 2 * 0 + _ ≤ _; exact Nat.le_of_eq rfl) (hb hby d4t3_36) (fun _ _ => ⟨rfl, e2, (by decide : 0 + 1 ≤ _), (by decide : 0 + 3 ≤ _)⟩)
    dsimp only [Pt.U, Pt.locs, Pt.cells, Pt.slots] at X3 l3 y3 z3 st3 hQ3
    subst l3 y3 z3
    obtain ⟨⟨r3, rfl, hr3⟩, Nq3, g3_0⟩ := hQ3
    have N3 := Fr.app N0 Nq3
    have f4 : Sta Z T3.heap "java/lang/String" "COMPACT_STRINGS" "Z" (.int cs) := own_stk S_cs g3_0 all0
    have f5 : Exa Z T3.heap o "java/lang/String" := hEo.keep g3_0
    have f6 : Fld Z T3.heap o "java/lang/String" "coder" "B" (.int (0 : Int32)) := hFc.keep g3_0 nin0
    have f7 : Fld Z T3.heap o "java/lang/String" "value" "[B" .null := hFv.keep g3_0 nin0
    have f8 : Arv Z T3.heap x0 vkc .char (3 : Int32) [(.int cc0), (.int cc1), (.int cc2)] (.int (0 : Int32)) := V_c.keep g3_0 nin0
    have K3 : Keep h0 T3.heap [o] := (Keep.refl h0 [o]).trans g3_0 all0
    have Zs3 : n0 ≤ T3.heap.size := Nat.le_trans Z0 K3.1
    obtain ⟨kk3, zge3, zV3⟩ := hr3
    have zne3 : r3 ≠ o := (Nat.ne_of_lt (Nat.lt_of_lt_of_le hEo.lt zge3)).symm
    refine own_st (T' := T3) (F' := (mkF m 39 #[.val (.ref o), .val (.ref x0), .val (.int (0 : Int32)), .val (.int (3 : Int32)), .val .null, .unset] [(.ref r3)])) (fun _ k => st3 _ k) ?_
    refine own_st (T' := T3) (F' := (mkF m 41 #[.val (.ref o), .val (.ref x0), .val (.int (0 : Int32)), .val (.int (3 : Int32)), .val .null, .val (.ref r3)] [])) (fun _ k => XS.astore X3.here hx rfl (hb hby d4t3_39) rfl rfl (l' := #[.val (.ref o), .val (.ref x0), .val (.int (0 : Int32)), .val (.int (3 : Int32)), .val .null, .val (.ref r3)]) rfl k) ?_
    refine own_st (T' := T3) (F' := (mkF m 42 #[.val (.ref o), .val (.ref x0), .val (.int (0 : Int32)), .val (.int (3 : Int32)), .val .null, .val (.ref r3)] [(.ref o)])) (fun _ k => XS.aloadN X3.here hx rfl (hb hby d4t3_41) rfl rfl k) ?_
    refine own_st (T' := T3) (F' := (mkF m 44 #[.val (.ref o), .val (.ref x0), .val (.int (0 : Int32)), .val (.int (3 : Int32)), .val .null, .val (.ref r3)] [(.ref r3), (.ref o)])) (fun _ k => XS.aload X3.here hx rfl (hb hby d4t3_42) rfl rfl k) ?_
    refine own_st (T' := T3) (F' := (mkF m 45 #[.val (.ref o), .val (.ref x0), .val (.int (0 : Int32)), .val (.int (3 : Int32)), .val .null, .val (.ref r3)] [(.int (3 : Int32)), (.ref r3), (.ref o)])) (fun _ k => XS.iloadN X3.here hx rfl (hb hby d4t3_44) rfl  k) ?_
    obtain ⟨_, _, ⟨T9, L9, k9, n9⟩, -, X9, ⟨Lc9, hQ9, l9, y9, z9⟩, st9⟩ := Jvm.LawKit.callS X3 hx (y := (⟨"java/lang/StringUTF16", "coderFromArrayLen", "([BI)B"⟩ : MethodName)) hown (mvT hZ (hw _ (List.mem_of_getElem? (i := 35) rfl))) (mvT hZ (hw _ (List.mem_of_getElem? (i := 36) rfl))) (mvT hZ (hw _ (List.mem_of_getElem? (i := 29) rfl))) (mvT hZ (hw _ (List.mem_of_getElem? (i := 37) rfl))) (by decide) (backOf (W := 1) (rm8t3 l Z a0 hw [] r3 kk3 cc0 cc1 cc2 T3.heap n0 Zs3 zV3) hZ (hw _ (List.mem_of_getElem? (i := 37) rfl)) (hw _ (List.mem_of_getElem? (i := 29) rfl)) (by decide) (by decide)) (g := (mkF m 45 #[.val (.ref o), .val (.ref x0), .val (.int (0 : Int32)), .val (.int (3 : Int32)), .val .null, .val (.ref r3)] [(.int (3 : Int32)), (.ref r3), (.ref o)])) rfl (by rw [hml]; rfl) (argsL := [(.ref r3), (.int (3 : Int32))]) (rest := [(.ref o)]) (lenOf own_pd10 rfl) rfl (by show 2 * 0 + _ ≤ _; exact Nat.le_of_eq rfl) (hb hby d4t3_45) (fun _ _ => ⟨rfl, rfl, (by decide : 1 + 0 ≤ _), (by decide : 3 + 0 ≤ _)⟩)
    dsimp only [Pt.U, Pt.locs, Pt.cells, Pt.slots] at X9 l9 y9 z9 st9 hQ9
    subst l9 y9 z9
    obtain ⟨rfl, Nq9, eq9⟩ := hQ9
    have N9 := Fr.app N3 Nq9
    refine own_st (T' := T9) (F' := (mkF m 48 #[.val (.ref o), .val (.ref x0), .val (.int (0 : Int32)), .val (.int (3 : Int32)), .val .null, .val (.ref r3)] [(.int (0 : Int32)), (.ref o)])) (fun _ k => st9 _ k) ?_
    obtain ⟨T10, h10, X10, e10, W10, st10⟩ := putFN X9 hx hZ hown (hw _ (List.mem_of_getElem? (i := 38) rfl)) Via.refl eq9 f6 f5 (Or.inr ⟨(hw _ (List.mem_of_getElem? (i := 39) rfl)), rfl, hnm⟩) (hw _ (List.mem_of_getElem? (i := 13) rfl)) (ty := .byte) (v' := (.int (nar .byte (0 : Int32)))) (by decide) rfl (fits_nar_byte _) (g := (mkF m 48 #[.val (.ref o), .val (.ref x0), .val (.int (0 : Int32)), .val (.int (3 : Int32)), .val .null, .val (.ref r3)] [(.int (0 : Int32)), (.ref o)])) rfl rfl (hb hby d4t3_48)
    have N10 := Fr.snoc X10 N9 hge
    have f11 : Sta Z h10 "java/lang/String" "COMPACT_STRINGS" "Z" (.int cs) := f4.wr W10
    have f12 : Exa Z h10 o "java/lang/String" := f5.wr W10
    have f13 : Fld Z h10 o "java/lang/String" "coder" "B" (.int (0 : Int32)) := f6.same W10
    have f14 : Fld Z h10 o "java/lang/String" "value" "[B" .null := f7.other W10 (Or.inr (slot_ne (Or.inr (hw _ (List.mem_of_getElem? (i := 41) rfl))) (Or.inr (hw _ (List.mem_of_getElem? (i := 39) rfl))) (by decide) (t := (.array .byte)) (t' := .byte) (by decide) (by decide)))
    have f15 : Arv Z h10 x0 vkc .char (3 : Int32) [(.int cc0), (.int cc1), (.int cc2)] (.int (0 : Int32)) := f8.other W10 (Ne.symm hno)
    have f16 : Arv Z h10 r3 kk3 .byte (3 : Int32) [(.int ((cc0.toInt8.toInt32).toInt8.toInt32)), (.int ((cc1.toInt8.toInt32).toInt8.toInt32)), (.int ((cc2.toInt8.toInt32).toInt8.toInt32))] (.int (0 : Int32)) := zV3.other W10 zne3
    have K10 : Keep h0 h10 [o] := K3.wr W10 (Or.inl (List.mem_of_getElem? (i := 0) rfl))
    have Zs10 : n0 ≤ h10.size := Nat.le_trans Z0 K10.1
    refine own_st (T' := T10) (F' := (mkF m 51 #[.val (.ref o), .val (.ref x0), .val (.int (0 : Int32)), .val (.int (3 : Int32)), .val .null, .val (.ref r3)] [])) (fun _ k => st10 _ k) ?_
    refine own_st (T' := T10) (F' := (mkF m 52 #[.val (.ref o), .val (.ref x0), .val (.int (0 : Int32)), .val (.int (3 : Int32)), .val .null, .val (.ref r3)] [(.ref o)])) (fun _ k => XS.aloadN X10.here hx rfl (hb hby d4t3_51) rfl rfl k) ?_
    refine own_st (T' := T10) (F' := (mkF m 54 #[.val (.ref o), .val (.ref x0), .val (.int (0 : Int32)), .val (.int (3 : Int32)), .val .null, .val (.ref r3)] [(.ref r3), (.ref o)])) (fun _ k => XS.aload X10.here hx rfl (hb hby d4t3_52) rfl rfl k) ?_
    obtain ⟨T17, h17, X17, e17, W17, st17⟩ := putF X10 hx hZ hown (host := "") (Or.inl (hw _ (List.mem_of_getElem? (i := 40) rfl))) Via.refl e10 f14 f12 (Or.inr ⟨(hw _ (List.mem_of_getElem? (i := 41) rfl)), rfl, hnm⟩) (hw _ (List.mem_of_getElem? (i := 13) rfl)) (ty := (.array .byte)) (by decide) rfl rfl (g := (mkF m 54 #[.val (.ref o), .val (.ref x0), .val (.int (0 : Int32)), .val (.int (3 : Int32)), .val .null, .val (.ref r3)] [(.ref r3), (.ref o)])) rfl rfl (hb hby d4t3_54)
    have N17 := Fr.snoc X17 N10 hge
    have f18 : Sta Z h17 "java/lang/String" "COMPACT_STRINGS" "Z" (.int cs) := f11.wr W17
    have f19 : Exa Z h17 o "java/lang/String" := f12.wr W17
    have f20 : Fld Z h17 o "java/lang/String" "coder" "B" (.int (0 : Int32)) := f13.other W17 (Or.inr (slot_ne (Or.inr (hw _ (List.mem_of_getElem? (i := 39) rfl))) (Or.inr (hw _ (List.mem_of_getElem? (i := 41) rfl))) (by decide) (t := .byte) (t' := (.array .byte)) (by decide) (by decide)))
    have f21 : Fld Z h17 o "java/lang/String" "value" "[B" (.ref r3) := f14.same W17
    have f22 : Arv Z h17 x0 vkc .char (3 : Int32) [(.int cc0), (.int cc1), (.int cc2)] (.int (0 : Int32)) := f15.other W17 (Ne.symm hno)
    have f23 : Arv Z h17 r3 kk3 .byte (3 : Int32) [(.int ((cc0.toInt8.toInt32).toInt8.toInt32)), (.int ((cc1.toInt8.toInt32).toInt8.toInt32)), (.int ((cc2.toInt8.toInt32).toInt8.toInt32))] (.int (0 : Int32)) := f16.other W17 zne3
    have K17 : Keep h0 h17 [o] := K10.wr W17 (Or.inl (List.mem_of_getElem? (i := 0) rfl))
    have Zs17 : n0 ≤ h17.size := Nat.le_trans Z0 K17.1
    refine own_st (T' := T17) (F' := (mkF m 57 #[.val (.ref o), .val (.ref x0), .val (.int (0 : Int32)), .val (.int (3 : Int32)), .val .null, .val (.ref r3)] [])) (fun _ k => st17 _ k) ?_
    refine own_retV X17 hx hlk Bd.returns (hb hby d4t3_57) ?_ (by decide) (by decide)
    rw [e17]
    refine ⟨rfl, N17, K17, f20, ?_⟩
    exact ⟨_, _, [((cc0.toInt8.toInt32).toInt8.toInt32), ((cc1.toInt8.toInt32).toInt8.toInt32), ((cc2.toInt8.toInt32).toInt8.toInt32)], f21, f23⟩
theorem d3t3_0 : decode jdk_42_method_3_code 0 = .ok (.aload_n 0, 1) := by decide +kernel
theorem d3t3_1 : decode jdk_42_method_3_code 1 = .ok (.aload_n 1, 1) := by decide +kernel
theorem d3t3_2 : decode jdk_42_method_3_code 2 = .ok (.iconst 0, 1) := by decide +kernel
theorem d3t3_3 : decode jdk_42_method_3_code 3 = .ok (.aload_n 1, 1) := by decide +kernel
theorem d3t3_4 : decode jdk_42_method_3_code 4 = .ok (.arraylength, 1) := by decide +kernel
theorem d3t3_5 : decode jdk_42_method_3_code 5 = .ok (.aconst_null, 1) := by decide +kernel
theorem d3t3_6 : decode jdk_42_method_3_code 6 = .ok (.invokespecial 27, 3) := by decide +kernel
theorem d3t3_9 : decode jdk_42_method_3_code 9 = .ok (.return_, 1) := by decide +kernel
theorem own_pn3t3 : plainName "java/lang/String" = true := by first | (simp [plainName, overriddenIn]; done) | decide +kernel
theorem own_ef3t3 (m : MethodId) (o : Addr) (x0 : Addr) : entryFrame m #[(.ref o), (.ref x0)] 2 = (mkF m 0 #[.val (.ref o), .val (.ref x0)] []) := by first | (simp [entryFrame, mkF, argsToLocals, Value.category]; done) | rfl
def Q3t3 (Z : State) (o : Addr) (x0 : Addr) (cs : Int32) (vkc : ClassId) (cc0 : Int32) (cc1 : Int32) (cc2 : Int32) (h0 : Heap) (n0 : Nat) (v : Option Value) (h : Heap) (L : List Loc) : Prop := v = none ∧ Fr n0 L ∧ Keep h0 h [o] ∧ Fld Z h o "java/lang/String" "coder" "B" (.int (0 : Int32)) ∧ (∃ (b : Addr) (kb : ClassId) (g : List Int32), Fld Z h o "java/lang/String" "value" "[B" (.ref b) ∧ Arv Z h b kb .byte (3 : Int32) (g.map Value.int) (.int (0 : Int32)))
set_option maxRecDepth 65536 in
set_option maxHeartbeats 40000000 in
theorem rm3t3 (l : Launch) (Z : State) (a0 : Array Value) (hw : ∀ d ∈ tables_1, d.before a0 Z = true) (ws : List Jvm.Cond) (o : Addr) (x0 : Addr) (cs : Int32) (vkc : ClassId) (cc0 : Int32) (cc1 : Int32) (cc2 : Int32) (h0 : Heap) (n0 : Nat) (Z0 : n0 ≤ h0.size) (S_cs : Sta Z h0 "java/lang/String" "COMPACT_STRINGS" "Z" (.int cs)) (hcs : ¬ (cs = 0)) (hge : n0 ≤ o) (hno : o ≠ x0) (hEo : Exa Z h0 o "java/lang/String") (hFc : Fld Z h0 o "java/lang/String" "coder" "B" (.int (0 : Int32))) (hFv : Fld Z h0 o "java/lang/String" "value" "[B" .null) (V_c : Arv Z h0 x0 vkc .char (3 : Int32) [(.int cc0), (.int cc1), (.int cc2)] (.int (0 : Int32))) (h255_0 : ¬ ((255 : Int32) < cc0)) (h255_1 : ¬ ((255 : Int32) < cc1)) (h255_2 : ¬ ((255 : Int32) < cc2)) :
    MetFree l (⟨"java/lang/String", "<init>", "([C)V"⟩ : MethodName) (head1 (Jvm.Cond.code (⟨"java/lang/String", "<init>", "([C)V"⟩ : MethodName) jdk_42_method_3_code 2 none :: ws) ({ frames := 3, cells := 1, slots := 3, locals := 52 } : Room)) (fun a U => a = #[(.ref o), (.ref x0)] ∧ Z.Warmed39 U.vm ∧ U.heap = h0) (fun _ _ _ _ _ => True) (fun _ U oc U' => ∃ v L, oc = .returned v ∧ Q3t3 Z o x0 cs vkc cc0 cc1 cc2 h0 n0 v U'.heap L ∧ FrameEnd U oc U' L ({ frames := 3, cells := 1, slots := 3, locals := 52 } : Room).cells ({ frames := 3, cells := 1, slots := 3, locals := 52 } : Room).slots) := by
  refine MetFree.of_bodySF (plainFor_of_name own_pn3t3) hisR ?_
  intro p e s m args below meth c s₁ Bd hml0 hP hK
  obtain ⟨rfl, hZ, hh⟩ := hP
  have hx := Bd.exec
  have hby := Bd.bytes
  have hlk : meth.locks = false := BodyLoose.notSynchronized Bd
  have hml : c.maxLocals = 2 := hml0
  have hown : s.vm.findClass "java/lang/String" = some m.cls := findClass_of_methodNamed Bd.named
  have hnm := (name_of_methodNamed Bd.named Bd.method).1
  have X0 : Stand p l e ({ frames := 3, cells := 1, slots := 3, locals := 52 } : Room) s m #[(.ref o), (.ref x0)] below meth c s₁ [] 0 0 := Stand.of_body Bd
  have e0 : s₁.heap = h0 := by rw [← hh, Bd.state]; rfl
  have N0 := Fr.nil n0
  refine own_enter (own_ef3t3 m o x0) ?_
  show own_Go p e below (own_E s (Q3t3 Z o x0 cs vkc cc0 cc1 cc2 h0 n0) ({ frames := 3, cells := 1, slots := 3, locals := 52 } : Room).cells ({ frames := 3, cells := 1, slots := 3, locals := 52 } : Room).slots) s₁ (mkF m 0 #[.val (.ref o), .val (.ref x0)] [])
  refine own_st (T' := s₁) (F' := (mkF m 1 #[.val (.ref o), .val (.ref x0)] [(.ref o)])) (fun _ k => XS.aloadN X0.here hx rfl (hb hby d3t3_0) rfl rfl k) ?_
  refine own_st (T' := s₁) (F' := (mkF m 2 #[.val (.ref o), .val (.ref x0)] [(.ref x0), (.ref o)])) (fun _ k => XS.aloadN X0.here hx rfl (hb hby d3t3_1) rfl rfl k) ?_
  refine own_st (T' := s₁) (F' := (mkF m 3 #[.val (.ref o), .val (.ref x0)] [(.int (0 : Int32)), (.ref x0), (.ref o)])) (fun _ k => XS.iconst X0.here hx rfl (hb hby d3t3_2) k) ?_
  refine own_st (T' := s₁) (F' := (mkF m 4 #[.val (.ref o), .val (.ref x0)] [(.ref x0), (.int (0 : Int32)), (.ref x0), (.ref o)])) (fun _ k => XS.aloadN X0.here hx rfl (hb hby d3t3_3) rfl rfl k) ?_
  obtain ⟨cl1, Ar1, Aq1, As1, Am1, Ah1, Au1⟩ := id V_c
  refine own_st (T' := s₁) (F' := (mkF m 5 #[.val (.ref o), .val (.ref x0)] [(.int (3 : Int32)), (.int (0 : Int32)), (.ref x0), (.ref o)])) (fun _ k => X0.arraylength hx (cell := cl1) (by rw [e0]; exact Ar1.1) (State.isArrayOf_alike hZ.alike Ar1.2.1) (g := (mkF m 4 #[.val (.ref o), .val (.ref x0)] [(.ref x0), (.int (0 : Int32)), (.ref x0), (.ref o)])) rfl (rest := [(.int (0 : Int32)), (.ref x0), (.ref o)]) rfl (hb hby d3t3_4) _ (by rw [len_of As1 Am1]; exact k)) ?_
  refine own_st (T' := s₁) (F' := (mkF m 6 #[.val (.ref o), .val (.ref x0)] [.null, (.int (3 : Int32)), (.int (0 : Int32)), (.ref x0), (.ref o)])) (fun _ k => XS.aconstNull X0.here hx rfl (hb hby d3t3_5) k) ?_
  obtain ⟨_, _, ⟨T2, L2, k2, n2⟩, -, X2, ⟨Lc2, hQ2, l2, y2, z2⟩, st2⟩ := X0.specialBack hx (y := (⟨"java/lang/String", "<init>", "([CIILjava/lang/Void;)V"⟩ : MethodName)) rfl hown (mvT hZ (hw _ (List.mem_of_getElem? (i := 19) rfl))) (mvT hZ (hw _ (List.mem_of_getElem? (i := 20) rfl))) (mvT hZ (hw _ (List.mem_of_getElem? (i := 22) rfl))) (by decide) (backOf (W := 0) (rm4t3 l Z a0 hw [] o x0 cs vkc cc0 cc1 cc2 h0 n0 Z0 S_cs hcs hge hno hEo hFc hFv V_c h255_0 h255_1 h255_2) hZ (hw _ (List.mem_of_getElem? (i := 22) rfl)) (hw _ (List.mem_of_getElem? (i := 14) rfl)) (by decide) (by decide)) (g := (mkF m 6 #[.val (.ref o), .val (.ref x0)] [.null, (.int (3 : Int32)), (.int (0 : Int32)), (.ref x0), (.ref o)])) rfl (by rw [hml]; rfl) (Steps.refl _) (a := o) (argsL := [(.ref x0), (.int (0 : Int32)), (.int (3 : Int32)), .null]) (rest := []) (lenOf own_pd11 rfl) rfl (by show 2 * 0 + _ ≤ _; exact Nat.le_of_eq rfl) (hb hby d3t3_6) (fun _ _ => ⟨rfl, e0, (by decide : 0 + 1 ≤ _), (by decide : 0 + 3 ≤ _)⟩)
  dsimp only [Pt.U, Pt.locs, Pt.cells, Pt.slots] at X2 l2 y2 z2 st2 hQ2
  subst l2 y2 z2
  obtain ⟨rfl, Nq2, g2_0, g2_1, g2_2⟩ := hQ2
  have N2 := Fr.app N0 Nq2
  have f3 : Sta Z T2.heap "java/lang/String" "COMPACT_STRINGS" "Z" (.int cs) := own_stk S_cs g2_0 (allS (own_npE hEo) all0)
  have f4 : Exa Z T2.heap o "java/lang/String" := hEo.keep g2_0
  have f5 : Arv Z T2.heap x0 vkc .char (3 : Int32) [(.int cc0), (.int cc1), (.int cc2)] (.int (0 : Int32)) := V_c.keep g2_0 (ninS (Ne.symm hno) nin0)
  have K2 : Keep h0 T2.heap [o] := (Keep.refl h0 [o]).trans g2_0 (allS (Or.inl (List.mem_of_getElem? (i := 0) rfl)) all0)
  have Zs2 : n0 ≤ T2.heap.size := Nat.le_trans Z0 K2.1
  obtain ⟨vv2, vk2, gg2, fv2, av2⟩ := id g2_2
  refine own_tr (T' := T2) (F' := (mkF m 9 #[.val (.ref o), .val (.ref x0)] [])) st2 ?_
  refine own_retV X2 hx hlk Bd.returns (hb hby d3t3_9) ?_ (by decide) (by decide)
  show Q3t3 Z o x0 cs vkc cc0 cc1 cc2 h0 n0 _ T2.heap _
  refine ⟨rfl, N2, K2, g2_1, ?_⟩
  exact g2_2
theorem d7t4_0 : decode jdk_52_method_21_code 0 = .ok (.iconst 0, 1) := by decide +kernel
theorem d7t4_1 : decode jdk_52_method_21_code 1 = .ok (.istore 5, 2) := by decide +kernel
theorem d7t4_3 : decode jdk_52_method_21_code 3 = .ok (.iload 5, 2) := by decide +kernel
theorem d7t4_5 : decode jdk_52_method_21_code 5 = .ok (.iload 4, 2) := by decide +kernel
theorem d7t4_7 : decode jdk_52_method_21_code 7 = .ok (.if_icmp .ge 37, 3) := by decide +kernel
theorem d7t4_10 : decode jdk_52_method_21_code 10 = .ok (.aload_n 0, 1) := by decide +kernel
theorem d7t4_11 : decode jdk_52_method_21_code 11 = .ok (.iload_n 1, 1) := by decide +kernel
theorem d7t4_12 : decode jdk_52_method_21_code 12 = .ok (.caload, 1) := by decide +kernel
theorem d7t4_13 : decode jdk_52_method_21_code 13 = .ok (.istore 6, 2) := by decide +kernel
theorem d7t4_15 : decode jdk_52_method_21_code 15 = .ok (.iload 6, 2) := by decide +kernel
theorem d7t4_17 : decode jdk_52_method_21_code 17 = .ok (.sipush 255, 3) := by decide +kernel
theorem d7t4_20 : decode jdk_52_method_21_code 20 = .ok (.if_icmp .le 6, 3) := by decide +kernel
theorem d7t4_26 : decode jdk_52_method_21_code 26 = .ok (.aload_n 2, 1) := by decide +kernel
theorem d7t4_27 : decode jdk_52_method_21_code 27 = .ok (.iload_n 3, 1) := by decide +kernel
theorem d7t4_28 : decode jdk_52_method_21_code 28 = .ok (.iload 6, 2) := by decide +kernel
theorem d7t4_30 : decode jdk_52_method_21_code 30 = .ok (.i2b, 1) := by decide +kernel
theorem d7t4_31 : decode jdk_52_method_21_code 31 = .ok (.bastore, 1) := by decide +kernel
theorem d7t4_32 : decode jdk_52_method_21_code 32 = .ok (.iinc 1 1, 3) := by decide +kernel
theorem d7t4_35 : decode jdk_52_method_21_code 35 = .ok (.iinc 3 1, 3) := by decide +kernel
theorem d7t4_38 : decode jdk_52_method_21_code 38 = .ok (.iinc 5 1, 3) := by decide +kernel
theorem d7t4_41 : decode jdk_52_method_21_code 41 = .ok (.goto (-38), 3) := by decide +kernel
theorem d7t4_44 : decode jdk_52_method_21_code 44 = .ok (.iload 4, 2) := by decide +kernel
theorem d7t4_46 : decode jdk_52_method_21_code 46 = .ok (.ireturn, 1) := by decide +kernel
theorem own_pn7t4 : plainName "java/lang/StringUTF16" = true := by first | (simp [plainName, overriddenIn]; done) | decide +kernel
theorem own_ef7t4 (m : MethodId) (x0 : Addr) (x2 : Addr) : entryFrame m #[(.ref x0), (.int (0 : Int32)), (.ref x2), (.int (0 : Int32)), (.int (4 : Int32))] 7 = (mkF m 0 #[.val (.ref x0), .val (.int (0 : Int32)), .val (.ref x2), .val (.int (0 : Int32)), .val (.int (4 : Int32)), .unset, .unset] []) := by first | (simp [entryFrame, mkF, argsToLocals, Value.category]; done) | rfl
def Q7t4 (Z : State) (x0 : Addr) (x2 : Addr) (vkc : ClassId) (vkb : ClassId) (cc0 : Int32) (cc1 : Int32) (cc2 : Int32) (cc3 : Int32) (h0 : Heap) (n0 : Nat) (v : Option Value) (h : Heap) (L : List Loc) : Prop := v = some (.int (4 : Int32)) ∧ Fr n0 L ∧ Keep h0 h [x2] ∧ Arv Z h x2 vkb .byte (4 : Int32) [(.int ((cc0.toInt8.toInt32).toInt8.toInt32)), (.int ((cc1.toInt8.toInt32).toInt8.toInt32)), (.int ((cc2.toInt8.toInt32).toInt8.toInt32)), (.int ((cc3.toInt8.toInt32).toInt8.toInt32))] (.int (0 : Int32))
set_option maxRecDepth 65536 in
set_option maxHeartbeats 40000000 in
theorem rm7t4 (l : Launch) (Z : State) (a0 : Array Value) (hw : ∀ d ∈ tables_1, d.before a0 Z = true) (ws : List Jvm.Cond) (x0 : Addr) (x2 : Addr) (vkc : ClassId) (vkb : ClassId) (cc0 : Int32) (cc1 : Int32) (cc2 : Int32) (cc3 : Int32) (h0 : Heap) (n0 : Nat) (Z0 : n0 ≤ h0.size) (hge : n0 ≤ x2) (hno : x2 ≠ x0) (V_c : Arv Z h0 x0 vkc .char (4 : Int32) [(.int cc0), (.int cc1), (.int cc2), (.int cc3)] (.int (0 : Int32))) (V_b : Arv Z h0 x2 vkb .byte (4 : Int32) [(.int (0 : Int32)), (.int (0 : Int32)), (.int (0 : Int32)), (.int (0 : Int32))] (.int (0 : Int32))) (h255_0 : ¬ ((255 : Int32) < cc0)) (h255_1 : ¬ ((255 : Int32) < cc1)) (h255_2 : ¬ ((255 : Int32) < cc2)) (h255_3 : ¬ ((255 : Int32) < cc3)) :
    MetFree l (⟨"java/lang/StringUTF16", "compress", "([CI[BII)I"⟩ : MethodName) (head1 (Jvm.Cond.code (⟨"java/lang/StringUTF16", "compress", "([CI[BII)I"⟩ : MethodName) jdk_52_method_21_code 7 (some .int) :: ws) ({ frames := 0, cells := 0, slots := 0, locals := 0 } : Room)) (fun a U => a = #[(.ref x0), (.int (0 : Int32)), (.ref x2), (.int (0 : Int32)), (.int (4 : Int32))] ∧ Z.Warmed39 U.vm ∧ U.heap = h0) (fun _ _ _ _ _ => True) (fun _ U oc U' => ∃ v L, oc = .returned v ∧ Q7t4 Z x0 x2 vkc vkb cc0 cc1 cc2 cc3 h0 n0 v U'.heap L ∧ FrameEnd U oc U' L ({ frames := 0, cells := 0, slots := 0, locals := 0 } : Room).cells ({ frames := 0, cells := 0, slots := 0, locals := 0 } : Room).slots) := by
  refine MetFree.of_bodySF (plainFor_of_name own_pn7t4) hisR ?_
  intro p e s m args below meth c s₁ Bd hml0 hP hK
  obtain ⟨rfl, hZ, hh⟩ := hP
  have hx := Bd.exec
  have hby := Bd.bytes
  have hlk : meth.locks = false := BodyLoose.notSynchronized Bd
  have hml : c.maxLocals = 7 := hml0
  have hown : s.vm.findClass "java/lang/StringUTF16" = some m.cls := findClass_of_methodNamed Bd.named
  have hnm := (name_of_methodNamed Bd.named Bd.method).1
  have X0 : Stand p l e ({ frames := 0, cells := 0, slots := 0, locals := 0 } : Room) s m #[(.ref x0), (.int (0 : Int32)), (.ref x2), (.int (0 : Int32)), (.int (4 : Int32))] below meth c s₁ [] 0 0 := Stand.of_body Bd
  have e0 : s₁.heap = h0 := by rw [← hh, Bd.state]; rfl
  have N0 := Fr.nil n0
  refine own_enter (own_ef7t4 m x0 x2) ?_
  show own_Go p e below (own_E s (Q7t4 Z x0 x2 vkc vkb cc0 cc1 cc2 cc3 h0 n0) ({ frames := 0, cells := 0, slots := 0, locals := 0 } : Room).cells ({ frames := 0, cells := 0, slots := 0, locals := 0 } : Room).slots) s₁ (mkF m 0 #[.val (.ref x0), .val (.int (0 : Int32)), .val (.ref x2), .val (.int (0 : Int32)), .val (.int (4 : Int32)), .unset, .unset] [])
  refine own_st (T' := s₁) (F' := (mkF m 1 #[.val (.ref x0), .val (.int (0 : Int32)), .val (.ref x2), .val (.int (0 : Int32)), .val (.int (4 : Int32)), .unset, .unset] [(.int (0 : Int32))])) (fun _ k => XS.iconst X0.here hx rfl (hb hby d7t4_0) k) ?_
  refine own_st (T' := s₁) (F' := (mkF m 3 #[.val (.ref x0), .val (.int (0 : Int32)), .val (.ref x2), .val (.int (0 : Int32)), .val (.int (4 : Int32)), .val (.int (0 : Int32)), .unset] [])) (fun _ k => XS.istore X0.here hx rfl (hb hby d7t4_1) rfl (l' := #[.val (.ref x0), .val (.int (0 : Int32)), .val (.ref x2), .val (.int (0 : Int32)), .val (.int (4 : Int32)), .val (.int (0 : Int32)), .unset]) rfl k) ?_
  refine own_st (T' := s₁) (F' := (mkF m 5 #[.val (.ref x0), .val (.int (0 : Int32)), .val (.ref x2), .val (.int (0 : Int32)), .val (.int (4 : Int32)), .val (.int (0 : Int32)), .unset] [(.int (0 : Int32))])) (fun _ k => XS.iload X0.here hx rfl (hb hby d7t4_3) rfl  k) ?_
  refine own_st (T' := s₁) (F' := (mkF m 7 #[.val (.ref x0), .val (.int (0 : Int32)), .val (.ref x2), .val (.int (0 : Int32)), .val (.int (4 : Int32)), .val (.int (0 : Int32)), .unset] [(.int (4 : Int32)), (.int (0 : Int32))])) (fun _ k => XS.iload X0.here hx rfl (hb hby d7t4_5) rfl  k) ?_
  refine own_icmp X0 hx (pc' := 44) (pc2 := 10) (hb hby d7t4_7) (by decide) (by decide) rfl (fun (hc7_1 : ¬ ((0 : Int32) < (4 : Int32))) => ?_) (fun (hc7_1 : (0 : Int32) < (4 : Int32)) => ?_)
  · exact absurd hc7_1 (by decide)
  refine own_st (T' := s₁) (F' := (mkF m 11 #[.val (.ref x0), .val (.int (0 : Int32)), .val (.ref x2), .val (.int (0 : Int32)), .val (.int (4 : Int32)), .val (.int (0 : Int32)), .unset] [(.ref x0)])) (fun _ k => XS.aloadN X0.here hx rfl (hb hby d7t4_10) rfl rfl k) ?_
  refine own_st (T' := s₁) (F' := (mkF m 12 #[.val (.ref x0), .val (.int (0 : Int32)), .val (.ref x2), .val (.int (0 : Int32)), .val (.int (4 : Int32)), .val (.int (0 : Int32)), .unset] [(.int (0 : Int32)), (.ref x0)])) (fun _ k => XS.iloadN X0.here hx rfl (hb hby d7t4_11) rfl  k) ?_
  obtain ⟨cl2, Ar2, Aq2, As2, Am2, Ah2, Au2⟩ := id V_c
  have hin2 : ¬ ((0 : Int32) < 0 ∨ cl2.slots.size ≤ ((0 : Int32)).toNatClampNeg) := inb_of As2 ⟨by decide, by decide⟩
  have hat2 : cl2.slots[((0 : Int32)).toNatClampNeg]? = some (.int cc0) := Ah2.at hin2 (rfl)
  refine own_st (T' := s₁) (F' := (mkF m 13 #[.val (.ref x0), .val (.int (0 : Int32)), .val (.ref x2), .val (.int (0 : Int32)), .val (.int (4 : Int32)), .val (.int (0 : Int32)), .unset] [(.int cc0)])) (fun _ k => X0.caload hx (j := (0 : Int32)) (v := (.int cc0)) (by rw [e0]; exact Ar2.1) (State.isArrayOf_alike hZ.alike Ar2.2.1) Ar2.2.2 hin2 hat2 (g := (mkF m 12 #[.val (.ref x0), .val (.int (0 : Int32)), .val (.ref x2), .val (.int (0 : Int32)), .val (.int (4 : Int32)), .val (.int (0 : Int32)), .unset] [(.int (0 : Int32)), (.ref x0)])) rfl rfl (hb hby d7t4_12) _ k) ?_
  refine own_st (T' := s₁) (F' := (mkF m 15 #[.val (.ref x0), .val (.int (0 : Int32)), .val (.ref x2), .val (.int (0 : Int32)), .val (.int (4 : Int32)), .val (.int (0 : Int32)), .val (.int cc0)] [])) (fun _ k => XS.istore X0.here hx rfl (hb hby d7t4_13) rfl (l' := #[.val (.ref x0), .val (.int (0 : Int32)), .val (.ref x2), .val (.int (0 : Int32)), .val (.int (4 : Int32)), .val (.int (0 : Int32)), .val (.int cc0)]) rfl k) ?_
  refine own_st (T' := s₁) (F' := (mkF m 17 #[.val (.ref x0), .val (.int (0 : Int32)), .val (.ref x2), .val (.int (0 : Int32)), .val (.int (4 : Int32)), .val (.int (0 : Int32)), .val (.int cc0)] [(.int cc0)])) (fun _ k => XS.iload X0.here hx rfl (hb hby d7t4_15) rfl  k) ?_
  refine own_st (T' := s₁) (F' := (mkF m 20 #[.val (.ref x0), .val (.int (0 : Int32)), .val (.ref x2), .val (.int (0 : Int32)), .val (.int (4 : Int32)), .val (.int (0 : Int32)), .val (.int cc0)] [(.int (255 : Int32)), (.int cc0)])) (fun _ k => XS.sipush X0.here hx rfl (hb hby d7t4_17) k) ?_
  refine own_icmp X0 hx (pc' := 26) (pc2 := 23) (hb hby d7t4_20) (by decide) (by decide) rfl (fun (hc20_3 : ¬ ((255 : Int32) < cc0)) => ?_) (fun (hc20_3 : (255 : Int32) < cc0) => ?_)
  ·
    refine own_st (T' := s₁) (F' := (mkF m 27 #[.val (.ref x0), .val (.int (0 : Int32)), .val (.ref x2), .val (.int (0 : Int32)), .val (.int (4 : Int32)), .val (.int (0 : Int32)), .val (.int cc0)] [(.ref x2)])) (fun _ k => XS.aloadN X0.here hx rfl (hb hby d7t4_26) rfl rfl k) ?_
    refine own_st (T' := s₁) (F' := (mkF m 28 #[.val (.ref x0), .val (.int (0 : Int32)), .val (.ref x2), .val (.int (0 : Int32)), .val (.int (4 : Int32)), .val (.int (0 : Int32)), .val (.int cc0)] [(.int (0 : Int32)), (.ref x2)])) (fun _ k => XS.iloadN X0.here hx rfl (hb hby d7t4_27) rfl  k) ?_
    refine own_st (T' := s₁) (F' := (mkF m 30 #[.val (.ref x0), .val (.int (0 : Int32)), .val (.ref x2), .val (.int (0 : Int32)), .val (.int (4 : Int32)), .val (.int (0 : Int32)), .val (.int cc0)] [(.int cc0), (.int (0 : Int32)), (.ref x2)])) (fun _ k => XS.iload X0.here hx rfl (hb hby d7t4_28) rfl  k) ?_
    refine own_st (T' := s₁) (F' := (mkF m 31 #[.val (.ref x0), .val (.int (0 : Int32)), .val (.ref x2), .val (.int (0 : Int32)), .val (.int (4 : Int32)), .val (.int (0 : Int32)), .val (.int cc0)] [(.int (cc0.toInt8.toInt32)), (.int (0 : Int32)), (.ref x2)])) (fun _ k => XS.i2b X0.here hx rfl (hb hby d7t4_30) rfl k) ?_
    obtain ⟨cl4, Ar4, Aq4, As4, Am4, Ah4, Au4⟩ := id V_b
    have hin4 : ¬ ((0 : Int32) < 0 ∨ cl4.slots.size ≤ ((0 : Int32)).toNatClampNeg) := inb_of As4 ⟨by decide, by decide⟩
    obtain ⟨T4, h4, X4, e4, W4, st4⟩ := stB X0 hx hZ e0 Ar4 (j := (0 : Int32)) hin4 (g := (mkF m 31 #[.val (.ref x0), .val (.int (0 : Int32)), .val (.ref x2), .val (.int (0 : Int32)), .val (.int (4 : Int32)), .val (.int (0 : Int32)), .val (.int cc0)] [(.int (cc0.toInt8.toInt32)), (.int (0 : Int32)), (.ref x2)])) rfl rfl (hb hby d7t4_31)
    have V4 : Arv Z h4 x2 vkb .byte (4 : Int32) [(.int ((cc0.toInt8.toInt32).toInt8.toInt32)), (.int (0 : Int32)), (.int (0 : Int32)), (.int (0 : Int32))] (.int (0 : Int32)) := Arv.set Ar4 Aq4 As4 Am4 Ah4 Au4 (fits_nar_byte _) W4 0 rfl (show 0 < 4 by decide)
    have N4 := Fr.snoc X4 N0 hge
    have f5 : Arv Z h4 x0 vkc .char (4 : Int32) [(.int cc0), (.int cc1), (.int cc2), (.int cc3)] (.int (0 : Int32)) := V_c.other W4 (Ne.symm hno)
    have K4 : Keep h0 h4 [x2] := (Keep.refl h0 [x2]).wr W4 (Or.inl (List.mem_of_getElem? (i := 0) rfl))
    have Zs4 : n0 ≤ h4.size := Nat.le_trans Z0 K4.1
    refine own_st (T' := T4) (F' := (mkF m 32 #[.val (.ref x0), .val (.int (0 : Int32)), .val (.ref x2), .val (.int (0 : Int32)), .val (.int (4 : Int32)), .val (.int (0 : Int32)), .val (.int cc0)] [])) (fun _ k => st4 _ k) ?_
    refine own_st (T' := T4) (F' := (mkF m 35 #[.val (.ref x0), .val (.int (1 : Int32)), .val (.ref x2), .val (.int (0 : Int32)), .val (.int (4 : Int32)), .val (.int (0 : Int32)), .val (.int cc0)] [])) (fun _ k => XS.iinc X4.here hx rfl (hb hby d7t4_32) rfl (l' := #[.val (.ref x0), .val (.int (1 : Int32)), .val (.ref x2), .val (.int (0 : Int32)), .val (.int (4 : Int32)), .val (.int (0 : Int32)), .val (.int cc0)]) rfl k) ?_
    refine own_st (T' := T4) (F' := (mkF m 38 #[.val (.ref x0), .val (.int (1 : Int32)), .val (.ref x2), .val (.int (1 : Int32)), .val (.int (4 : Int32)), .val (.int (0 : Int32)), .val (.int cc0)] [])) (fun _ k => XS.iinc X4.here hx rfl (hb hby d7t4_35) rfl (l' := #[.val (.ref x0), .val (.int (1 : Int32)), .val (.ref x2), .val (.int (1 : Int32)), .val (.int (4 : Int32)), .val (.int (0 : Int32)), .val (.int cc0)]) rfl k) ?_
    refine own_st (T' := T4) (F' := (mkF m 41 #[.val (.ref x0), .val (.int (1 : Int32)), .val (.ref x2), .val (.int (1 : Int32)), .val (.int (4 : Int32)), .val (.int (1 : Int32)), .val (.int cc0)] [])) (fun _ k => XS.iinc X4.here hx rfl (hb hby d7t4_38) rfl (l' := #[.val (.ref x0), .val (.int (1 : Int32)), .val (.ref x2), .val (.int (1 : Int32)), .val (.int (4 : Int32)), .val (.int (1 : Int32)), .val (.int cc0)]) rfl k) ?_
    refine own_st (T' := T4) (F' := (mkF m 3 #[.val (.ref x0), .val (.int (1 : Int32)), .val (.ref x2), .val (.int (1 : Int32)), .val (.int (4 : Int32)), .val (.int (1 : Int32)), .val (.int cc0)] [])) (fun _ k => XS.goto X4.here hx rfl (pc0 := 41) (pc' := 3) rfl (hb hby d7t4_41) (by decide) (by decide) k) ?_
    refine own_st (T' := T4) (F' := (mkF m 5 #[.val (.ref x0), .val (.int (1 : Int32)), .val (.ref x2), .val (.int (1 : Int32)), .val (.int (4 : Int32)), .val (.int (1 : Int32)), .val (.int cc0)] [(.int (1 : Int32))])) (fun _ k => XS.iload X4.here hx rfl (hb hby d7t4_3) rfl  k) ?_
    refine own_st (T' := T4) (F' := (mkF m 7 #[.val (.ref x0), .val (.int (1 : Int32)), .val (.ref x2), .val (.int (1 : Int32)), .val (.int (4 : Int32)), .val (.int (1 : Int32)), .val (.int cc0)] [(.int (4 : Int32)), (.int (1 : Int32))])) (fun _ k => XS.iload X4.here hx rfl (hb hby d7t4_5) rfl  k) ?_
    refine own_icmp X4 hx (pc' := 44) (pc2 := 10) (hb hby d7t4_7) (by decide) (by decide) rfl (fun (hc7_6 : ¬ ((1 : Int32) < (4 : Int32))) => ?_) (fun (hc7_6 : (1 : Int32) < (4 : Int32)) => ?_)
    · exact absurd hc7_6 (by decide)
    refine own_st (T' := T4) (F' := (mkF m 11 #[.val (.ref x0), .val (.int (1 : Int32)), .val (.ref x2), .val (.int (1 : Int32)), .val (.int (4 : Int32)), .val (.int (1 : Int32)), .val (.int cc0)] [(.ref x0)])) (fun _ k => XS.aloadN X4.here hx rfl (hb hby d7t4_10) rfl rfl k) ?_
    refine own_st (T' := T4) (F' := (mkF m 12 #[.val (.ref x0), .val (.int (1 : Int32)), .val (.ref x2), .val (.int (1 : Int32)), .val (.int (4 : Int32)), .val (.int (1 : Int32)), .val (.int cc0)] [(.int (1 : Int32)), (.ref x0)])) (fun _ k => XS.iloadN X4.here hx rfl (hb hby d7t4_11) rfl  k) ?_
    obtain ⟨cl7, Ar7, Aq7, As7, Am7, Ah7, Au7⟩ := id f5
    have hin7 : ¬ ((1 : Int32) < 0 ∨ cl7.slots.size ≤ ((1 : Int32)).toNatClampNeg) := inb_of As7 ⟨by decide, by decide⟩
    have hat7 : cl7.slots[((1 : Int32)).toNatClampNeg]? = some (.int cc1) := Ah7.at hin7 (rfl)
    refine own_st (T' := T4) (F' := (mkF m 13 #[.val (.ref x0), .val (.int (1 : Int32)), .val (.ref x2), .val (.int (1 : Int32)), .val (.int (4 : Int32)), .val (.int (1 : Int32)), .val (.int cc0)] [(.int cc1)])) (fun _ k => X4.caload hx (j := (1 : Int32)) (v := (.int cc1)) (by rw [e4]; exact Ar7.1) (State.isArrayOf_alike hZ.alike Ar7.2.1) Ar7.2.2 hin7 hat7 (g := (mkF m 12 #[.val (.ref x0), .val (.int (1 : Int32)), .val (.ref x2), .val (.int (1 : Int32)), .val (.int (4 : Int32)), .val (.int (1 : Int32)), .val (.int cc0)] [(.int (1 : Int32)), (.ref x0)])) rfl rfl (hb hby d7t4_12) _ k) ?_
    refine own_st (T' := T4) (F' := (mkF m 15 #[.val (.ref x0), .val (.int (1 : Int32)), .val (.ref x2), .val (.int (1 : Int32)), .val (.int (4 : Int32)), .val (.int (1 : Int32)), .val (.int cc1)] [])) (fun _ k => XS.istore X4.here hx rfl (hb hby d7t4_13) rfl (l' := #[.val (.ref x0), .val (.int (1 : Int32)), .val (.ref x2), .val (.int (1 : Int32)), .val (.int (4 : Int32)), .val (.int (1 : Int32)), .val (.int cc1)]) rfl k) ?_
    refine own_st (T' := T4) (F' := (mkF m 17 #[.val (.ref x0), .val (.int (1 : Int32)), .val (.ref x2), .val (.int (1 : Int32)), .val (.int (4 : Int32)), .val (.int (1 : Int32)), .val (.int cc1)] [(.int cc1)])) (fun _ k => XS.iload X4.here hx rfl (hb hby d7t4_15) rfl  k) ?_
    refine own_st (T' := T4) (F' := (mkF m 20 #[.val (.ref x0), .val (.int (1 : Int32)), .val (.ref x2), .val (.int (1 : Int32)), .val (.int (4 : Int32)), .val (.int (1 : Int32)), .val (.int cc1)] [(.int (255 : Int32)), (.int cc1)])) (fun _ k => XS.sipush X4.here hx rfl (hb hby d7t4_17) k) ?_
    refine own_icmp X4 hx (pc' := 26) (pc2 := 23) (hb hby d7t4_20) (by decide) (by decide) rfl (fun (hc20_8 : ¬ ((255 : Int32) < cc1)) => ?_) (fun (hc20_8 : (255 : Int32) < cc1) => ?_)
    ·
      refine own_st (T' := T4) (F' := (mkF m 27 #[.val (.ref x0), .val (.int (1 : Int32)), .val (.ref x2), .val (.int (1 : Int32)), .val (.int (4 : Int32)), .val (.int (1 : Int32)), .val (.int cc1)] [(.ref x2)])) (fun _ k => XS.aloadN X4.here hx rfl (hb hby d7t4_26) rfl rfl k) ?_
      refine own_st (T' := T4) (F' := (mkF m 28 #[.val (.ref x0), .val (.int (1 : Int32)), .val (.ref x2), .val (.int (1 : Int32)), .val (.int (4 : Int32)), .val (.int (1 : Int32)), .val (.int cc1)] [(.int (1 : Int32)), (.ref x2)])) (fun _ k => XS.iloadN X4.here hx rfl (hb hby d7t4_27) rfl  k) ?_
      refine own_st (T' := T4) (F' := (mkF m 30 #[.val (.ref x0), .val (.int (1 : Int32)), .val (.ref x2), .val (.int (1 : Int32)), .val (.int (4 : Int32)), .val (.int (1 : Int32)), .val (.int cc1)] [(.int cc1), (.int (1 : Int32)), (.ref x2)])) (fun _ k => XS.iload X4.here hx rfl (hb hby d7t4_28) rfl  k) ?_
      refine own_st (T' := T4) (F' := (mkF m 31 #[.val (.ref x0), .val (.int (1 : Int32)), .val (.ref x2), .val (.int (1 : Int32)), .val (.int (4 : Int32)), .val (.int (1 : Int32)), .val (.int cc1)] [(.int (cc1.toInt8.toInt32)), (.int (1 : Int32)), (.ref x2)])) (fun _ k => XS.i2b X4.here hx rfl (hb hby d7t4_30) rfl k) ?_
      obtain ⟨cl9, Ar9, Aq9, As9, Am9, Ah9, Au9⟩ := id V4
      have hin9 : ¬ ((1 : Int32) < 0 ∨ cl9.slots.size ≤ ((1 : Int32)).toNatClampNeg) := inb_of As9 ⟨by decide, by decide⟩
      obtain ⟨T9, h9, X9, e9, W9, st9⟩ := stB X4 hx hZ e4 Ar9 (j := (1 : Int32)) hin9 (g := (mkF m 31 #[.val (.ref x0), .val (.int (1 : Int32)), .val (.ref x2), .val (.int (1 : Int32)), .val (.int (4 : Int32)), .val (.int (1 : Int32)), .val (.int cc1)] [(.int (cc1.toInt8.toInt32)), (.int (1 : Int32)), (.ref x2)])) rfl rfl (hb hby d7t4_31)
      have V9 : Arv Z h9 x2 vkb .byte (4 : Int32) [(.int ((cc0.toInt8.toInt32).toInt8.toInt32)), (.int ((cc1.toInt8.toInt32).toInt8.toInt32)), (.int (0 : Int32)), (.int (0 : Int32))] (.int (0 : Int32)) := Arv.set Ar9 Aq9 As9 Am9 Ah9 Au9 (fits_nar_byte _) W9 1 rfl (show 1 < 4 by decide)
      have N9 := Fr.snoc X9 N4 hge
      have f10 : Arv Z h9 x0 vkc .char (4 : Int32) [(.int cc0), (.int cc1), (.int cc2), (.int cc3)] (.int (0 : Int32)) := f5.other W9 (Ne.symm hno)
      have K9 : Keep h0 h9 [x2] := K4.wr W9 (Or.inl (List.mem_of_getElem? (i := 0) rfl))
      have Zs9 : n0 ≤ h9.size := Nat.le_trans Z0 K9.1
      refine own_st (T' := T9) (F' := (mkF m 32 #[.val (.ref x0), .val (.int (1 : Int32)), .val (.ref x2), .val (.int (1 : Int32)), .val (.int (4 : Int32)), .val (.int (1 : Int32)), .val (.int cc1)] [])) (fun _ k => st9 _ k) ?_
      refine own_st (T' := T9) (F' := (mkF m 35 #[.val (.ref x0), .val (.int (2 : Int32)), .val (.ref x2), .val (.int (1 : Int32)), .val (.int (4 : Int32)), .val (.int (1 : Int32)), .val (.int cc1)] [])) (fun _ k => XS.iinc X9.here hx rfl (hb hby d7t4_32) rfl (l' := #[.val (.ref x0), .val (.int (2 : Int32)), .val (.ref x2), .val (.int (1 : Int32)), .val (.int (4 : Int32)), .val (.int (1 : Int32)), .val (.int cc1)]) rfl k) ?_
      refine own_st (T' := T9) (F' := (mkF m 38 #[.val (.ref x0), .val (.int (2 : Int32)), .val (.ref x2), .val (.int (2 : Int32)), .val (.int (4 : Int32)), .val (.int (1 : Int32)), .val (.int cc1)] [])) (fun _ k => XS.iinc X9.here hx rfl (hb hby d7t4_35) rfl (l' := #[.val (.ref x0), .val (.int (2 : Int32)), .val (.ref x2), .val (.int (2 : Int32)), .val (.int (4 : Int32)), .val (.int (1 : Int32)), .val (.int cc1)]) rfl k) ?_
      refine own_st (T' := T9) (F' := (mkF m 41 #[.val (.ref x0), .val (.int (2 : Int32)), .val (.ref x2), .val (.int (2 : Int32)), .val (.int (4 : Int32)), .val (.int (2 : Int32)), .val (.int cc1)] [])) (fun _ k => XS.iinc X9.here hx rfl (hb hby d7t4_38) rfl (l' := #[.val (.ref x0), .val (.int (2 : Int32)), .val (.ref x2), .val (.int (2 : Int32)), .val (.int (4 : Int32)), .val (.int (2 : Int32)), .val (.int cc1)]) rfl k) ?_
      refine own_st (T' := T9) (F' := (mkF m 3 #[.val (.ref x0), .val (.int (2 : Int32)), .val (.ref x2), .val (.int (2 : Int32)), .val (.int (4 : Int32)), .val (.int (2 : Int32)), .val (.int cc1)] [])) (fun _ k => XS.goto X9.here hx rfl (pc0 := 41) (pc' := 3) rfl (hb hby d7t4_41) (by decide) (by decide) k) ?_
      refine own_st (T' := T9) (F' := (mkF m 5 #[.val (.ref x0), .val (.int (2 : Int32)), .val (.ref x2), .val (.int (2 : Int32)), .val (.int (4 : Int32)), .val (.int (2 : Int32)), .val (.int cc1)] [(.int (2 : Int32))])) (fun _ k => XS.iload X9.here hx rfl (hb hby d7t4_3) rfl  k) ?_
      refine own_st (T' := T9) (F' := (mkF m 7 #[.val (.ref x0), .val (.int (2 : Int32)), .val (.ref x2), .val (.int (2 : Int32)), .val (.int (4 : Int32)), .val (.int (2 : Int32)), .val (.int cc1)] [(.int (4 : Int32)), (.int (2 : Int32))])) (fun _ k => XS.iload X9.here hx rfl (hb hby d7t4_5) rfl  k) ?_
      refine own_icmp X9 hx (pc' := 44) (pc2 := 10) (hb hby d7t4_7) (by decide) (by decide) rfl (fun (hc7_11 : ¬ ((2 : Int32) < (4 : Int32))) => ?_) (fun (hc7_11 : (2 : Int32) < (4 : Int32)) => ?_)
      · exact absurd hc7_11 (by decide)
      refine own_st (T' := T9) (F' := (mkF m 11 #[.val (.ref x0), .val (.int (2 : Int32)), .val (.ref x2), .val (.int (2 : Int32)), .val (.int (4 : Int32)), .val (.int (2 : Int32)), .val (.int cc1)] [(.ref x0)])) (fun _ k => XS.aloadN X9.here hx rfl (hb hby d7t4_10) rfl rfl k) ?_
      refine own_st (T' := T9) (F' := (mkF m 12 #[.val (.ref x0), .val (.int (2 : Int32)), .val (.ref x2), .val (.int (2 : Int32)), .val (.int (4 : Int32)), .val (.int (2 : Int32)), .val (.int cc1)] [(.int (2 : Int32)), (.ref x0)])) (fun _ k => XS.iloadN X9.here hx rfl (hb hby d7t4_11) rfl  k) ?_
      obtain ⟨cl12, Ar12, Aq12, As12, Am12, Ah12, Au12⟩ := id f10
      have hin12 : ¬ ((2 : Int32) < 0 ∨ cl12.slots.size ≤ ((2 : Int32)).toNatClampNeg) := inb_of As12 ⟨by decide, by decide⟩
      have hat12 : cl12.slots[((2 : Int32)).toNatClampNeg]? = some (.int cc2) := Ah12.at hin12 (rfl)
      refine own_st (T' := T9) (F' := (mkF m 13 #[.val (.ref x0), .val (.int (2 : Int32)), .val (.ref x2), .val (.int (2 : Int32)), .val (.int (4 : Int32)), .val (.int (2 : Int32)), .val (.int cc1)] [(.int cc2)])) (fun _ k => X9.caload hx (j := (2 : Int32)) (v := (.int cc2)) (by rw [e9]; exact Ar12.1) (State.isArrayOf_alike hZ.alike Ar12.2.1) Ar12.2.2 hin12 hat12 (g := (mkF m 12 #[.val (.ref x0), .val (.int (2 : Int32)), .val (.ref x2), .val (.int (2 : Int32)), .val (.int (4 : Int32)), .val (.int (2 : Int32)), .val (.int cc1)] [(.int (2 : Int32)), (.ref x0)])) rfl rfl (hb hby d7t4_12) _ k) ?_
      refine own_st (T' := T9) (F' := (mkF m 15 #[.val (.ref x0), .val (.int (2 : Int32)), .val (.ref x2), .val (.int (2 : Int32)), .val (.int (4 : Int32)), .val (.int (2 : Int32)), .val (.int cc2)] [])) (fun _ k => XS.istore X9.here hx rfl (hb hby d7t4_13) rfl (l' := #[.val (.ref x0), .val (.int (2 : Int32)), .val (.ref x2), .val (.int (2 : Int32)), .val (.int (4 : Int32)), .val (.int (2 : Int32)), .val (.int cc2)]) rfl k) ?_
      refine own_st (T' := T9) (F' := (mkF m 17 #[.val (.ref x0), .val (.int (2 : Int32)), .val (.ref x2), .val (.int (2 : Int32)), .val (.int (4 : Int32)), .val (.int (2 : Int32)), .val (.int cc2)] [(.int cc2)])) (fun _ k => XS.iload X9.here hx rfl (hb hby d7t4_15) rfl  k) ?_
      refine own_st (T' := T9) (F' := (mkF m 20 #[.val (.ref x0), .val (.int (2 : Int32)), .val (.ref x2), .val (.int (2 : Int32)), .val (.int (4 : Int32)), .val (.int (2 : Int32)), .val (.int cc2)] [(.int (255 : Int32)), (.int cc2)])) (fun _ k => XS.sipush X9.here hx rfl (hb hby d7t4_17) k) ?_
      refine own_icmp X9 hx (pc' := 26) (pc2 := 23) (hb hby d7t4_20) (by decide) (by decide) rfl (fun (hc20_13 : ¬ ((255 : Int32) < cc2)) => ?_) (fun (hc20_13 : (255 : Int32) < cc2) => ?_)
      ·
        refine own_st (T' := T9) (F' := (mkF m 27 #[.val (.ref x0), .val (.int (2 : Int32)), .val (.ref x2), .val (.int (2 : Int32)), .val (.int (4 : Int32)), .val (.int (2 : Int32)), .val (.int cc2)] [(.ref x2)])) (fun _ k => XS.aloadN X9.here hx rfl (hb hby d7t4_26) rfl rfl k) ?_
        refine own_st (T' := T9) (F' := (mkF m 28 #[.val (.ref x0), .val (.int (2 : Int32)), .val (.ref x2), .val (.int (2 : Int32)), .val (.int (4 : Int32)), .val (.int (2 : Int32)), .val (.int cc2)] [(.int (2 : Int32)), (.ref x2)])) (fun _ k => XS.iloadN X9.here hx rfl (hb hby d7t4_27) rfl  k) ?_
        refine own_st (T' := T9) (F' := (mkF m 30 #[.val (.ref x0), .val (.int (2 : Int32)), .val (.ref x2), .val (.int (2 : Int32)), .val (.int (4 : Int32)), .val (.int (2 : Int32)), .val (.int cc2)] [(.int cc2), (.int (2 : Int32)), (.ref x2)])) (fun _ k => XS.iload X9.here hx rfl (hb hby d7t4_28) rfl  k) ?_
        refine own_st (T' := T9) (F' := (mkF m 31 #[.val (.ref x0), .val (.int (2 : Int32)), .val (.ref x2), .val (.int (2 : Int32)), .val (.int (4 : Int32)), .val (.int (2 : Int32)), .val (.int cc2)] [(.int (cc2.toInt8.toInt32)), (.int (2 : Int32)), (.ref x2)])) (fun _ k => XS.i2b X9.here hx rfl (hb hby d7t4_30) rfl k) ?_
        obtain ⟨cl14, Ar14, Aq14, As14, Am14, Ah14, Au14⟩ := id V9
        have hin14 : ¬ ((2 : Int32) < 0 ∨ cl14.slots.size ≤ ((2 : Int32)).toNatClampNeg) := inb_of As14 ⟨by decide, by decide⟩
        obtain ⟨T14, h14, X14, e14, W14, st14⟩ := stB X9 hx hZ e9 Ar14 (j := (2 : Int32)) hin14 (g := (mkF m 31 #[.val (.ref x0), .val (.int (2 : Int32)), .val (.ref x2), .val (.int (2 : Int32)), .val (.int (4 : Int32)), .val (.int (2 : Int32)), .val (.int cc2)] [(.int (cc2.toInt8.toInt32)), (.int (2 : Int32)), (.ref x2)])) rfl rfl (hb hby d7t4_31)
        have V14 : Arv Z h14 x2 vkb .byte (4 : Int32) [(.int ((cc0.toInt8.toInt32).toInt8.toInt32)), (.int ((cc1.toInt8.toInt32).toInt8.toInt32)), (.int ((cc2.toInt8.toInt32).toInt8.toInt32)), (.int (0 : Int32))] (.int (0 : Int32)) := Arv.set Ar14 Aq14 As14 Am14 Ah14 Au14 (fits_nar_byte _) W14 2 rfl (show 2 < 4 by decide)
        have N14 := Fr.snoc X14 N9 hge
        have f15 : Arv Z h14 x0 vkc .char (4 : Int32) [(.int cc0), (.int cc1), (.int cc2), (.int cc3)] (.int (0 : Int32)) := f10.other W14 (Ne.symm hno)
        have K14 : Keep h0 h14 [x2] := K9.wr W14 (Or.inl (List.mem_of_getElem? (i := 0) rfl))
        have Zs14 : n0 ≤ h14.size := Nat.le_trans Z0 K14.1
        refine own_st (T' := T14) (F' := (mkF m 32 #[.val (.ref x0), .val (.int (2 : Int32)), .val (.ref x2), .val (.int (2 : Int32)), .val (.int (4 : Int32)), .val (.int (2 : Int32)), .val (.int cc2)] [])) (fun _ k => st14 _ k) ?_
        refine own_st (T' := T14) (F' := (mkF m 35 #[.val (.ref x0), .val (.int (3 : Int32)), .val (.ref x2), .val (.int (2 : Int32)), .val (.int (4 : Int32)), .val (.int (2 : Int32)), .val (.int cc2)] [])) (fun _ k => XS.iinc X14.here hx rfl (hb hby d7t4_32) rfl (l' := #[.val (.ref x0), .val (.int (3 : Int32)), .val (.ref x2), .val (.int (2 : Int32)), .val (.int (4 : Int32)), .val (.int (2 : Int32)), .val (.int cc2)]) rfl k) ?_
        refine own_st (T' := T14) (F' := (mkF m 38 #[.val (.ref x0), .val (.int (3 : Int32)), .val (.ref x2), .val (.int (3 : Int32)), .val (.int (4 : Int32)), .val (.int (2 : Int32)), .val (.int cc2)] [])) (fun _ k => XS.iinc X14.here hx rfl (hb hby d7t4_35) rfl (l' := #[.val (.ref x0), .val (.int (3 : Int32)), .val (.ref x2), .val (.int (3 : Int32)), .val (.int (4 : Int32)), .val (.int (2 : Int32)), .val (.int cc2)]) rfl k) ?_
        refine own_st (T' := T14) (F' := (mkF m 41 #[.val (.ref x0), .val (.int (3 : Int32)), .val (.ref x2), .val (.int (3 : Int32)), .val (.int (4 : Int32)), .val (.int (3 : Int32)), .val (.int cc2)] [])) (fun _ k => XS.iinc X14.here hx rfl (hb hby d7t4_38) rfl (l' := #[.val (.ref x0), .val (.int (3 : Int32)), .val (.ref x2), .val (.int (3 : Int32)), .val (.int (4 : Int32)), .val (.int (3 : Int32)), .val (.int cc2)]) rfl k) ?_
        refine own_st (T' := T14) (F' := (mkF m 3 #[.val (.ref x0), .val (.int (3 : Int32)), .val (.ref x2), .val (.int (3 : Int32)), .val (.int (4 : Int32)), .val (.int (3 : Int32)), .val (.int cc2)] [])) (fun _ k => XS.goto X14.here hx rfl (pc0 := 41) (pc' := 3) rfl (hb hby d7t4_41) (by decide) (by decide) k) ?_
        refine own_st (T' := T14) (F' := (mkF m 5 #[.val (.ref x0), .val (.int (3 : Int32)), .val (.ref x2), .val (.int (3 : Int32)), .val (.int (4 : Int32)), .val (.int (3 : Int32)), .val (.int cc2)] [(.int (3 : Int32))])) (fun _ k => XS.iload X14.here hx rfl (hb hby d7t4_3) rfl  k) ?_
        refine own_st (T' := T14) (F' := (mkF m 7 #[.val (.ref x0), .val (.int (3 : Int32)), .val (.ref x2), .val (.int (3 : Int32)), .val (.int (4 : Int32)), .val (.int (3 : Int32)), .val (.int cc2)] [(.int (4 : Int32)), (.int (3 : Int32))])) (fun _ k => XS.iload X14.here hx rfl (hb hby d7t4_5) rfl  k) ?_
        refine own_icmp X14 hx (pc' := 44) (pc2 := 10) (hb hby d7t4_7) (by decide) (by decide) rfl (fun (hc7_16 : ¬ ((3 : Int32) < (4 : Int32))) => ?_) (fun (hc7_16 : (3 : Int32) < (4 : Int32)) => ?_)
        · exact absurd hc7_16 (by decide)
        refine own_st (T' := T14) (F' := (mkF m 11 #[.val (.ref x0), .val (.int (3 : Int32)), .val (.ref x2), .val (.int (3 : Int32)), .val (.int (4 : Int32)), .val (.int (3 : Int32)), .val (.int cc2)] [(.ref x0)])) (fun _ k => XS.aloadN X14.here hx rfl (hb hby d7t4_10) rfl rfl k) ?_
        refine own_st (T' := T14) (F' := (mkF m 12 #[.val (.ref x0), .val (.int (3 : Int32)), .val (.ref x2), .val (.int (3 : Int32)), .val (.int (4 : Int32)), .val (.int (3 : Int32)), .val (.int cc2)] [(.int (3 : Int32)), (.ref x0)])) (fun _ k => XS.iloadN X14.here hx rfl (hb hby d7t4_11) rfl  k) ?_
        obtain ⟨cl17, Ar17, Aq17, As17, Am17, Ah17, Au17⟩ := id f15
        have hin17 : ¬ ((3 : Int32) < 0 ∨ cl17.slots.size ≤ ((3 : Int32)).toNatClampNeg) := inb_of As17 ⟨by decide, by decide⟩
        have hat17 : cl17.slots[((3 : Int32)).toNatClampNeg]? = some (.int cc3) := Ah17.at hin17 (rfl)
        refine own_st (T' := T14) (F' := (mkF m 13 #[.val (.ref x0), .val (.int (3 : Int32)), .val (.ref x2), .val (.int (3 : Int32)), .val (.int (4 : Int32)), .val (.int (3 : Int32)), .val (.int cc2)] [(.int cc3)])) (fun _ k => X14.caload hx (j := (3 : Int32)) (v := (.int cc3)) (by rw [e14]; exact Ar17.1) (State.isArrayOf_alike hZ.alike Ar17.2.1) Ar17.2.2 hin17 hat17 (g := (mkF m 12 #[.val (.ref x0), .val (.int (3 : Int32)), .val (.ref x2), .val (.int (3 : Int32)), .val (.int (4 : Int32)), .val (.int (3 : Int32)), .val (.int cc2)] [(.int (3 : Int32)), (.ref x0)])) rfl rfl (hb hby d7t4_12) _ k) ?_
        refine own_st (T' := T14) (F' := (mkF m 15 #[.val (.ref x0), .val (.int (3 : Int32)), .val (.ref x2), .val (.int (3 : Int32)), .val (.int (4 : Int32)), .val (.int (3 : Int32)), .val (.int cc3)] [])) (fun _ k => XS.istore X14.here hx rfl (hb hby d7t4_13) rfl (l' := #[.val (.ref x0), .val (.int (3 : Int32)), .val (.ref x2), .val (.int (3 : Int32)), .val (.int (4 : Int32)), .val (.int (3 : Int32)), .val (.int cc3)]) rfl k) ?_
        refine own_st (T' := T14) (F' := (mkF m 17 #[.val (.ref x0), .val (.int (3 : Int32)), .val (.ref x2), .val (.int (3 : Int32)), .val (.int (4 : Int32)), .val (.int (3 : Int32)), .val (.int cc3)] [(.int cc3)])) (fun _ k => XS.iload X14.here hx rfl (hb hby d7t4_15) rfl  k) ?_
        refine own_st (T' := T14) (F' := (mkF m 20 #[.val (.ref x0), .val (.int (3 : Int32)), .val (.ref x2), .val (.int (3 : Int32)), .val (.int (4 : Int32)), .val (.int (3 : Int32)), .val (.int cc3)] [(.int (255 : Int32)), (.int cc3)])) (fun _ k => XS.sipush X14.here hx rfl (hb hby d7t4_17) k) ?_
        refine own_icmp X14 hx (pc' := 26) (pc2 := 23) (hb hby d7t4_20) (by decide) (by decide) rfl (fun (hc20_18 : ¬ ((255 : Int32) < cc3)) => ?_) (fun (hc20_18 : (255 : Int32) < cc3) => ?_)
        ·
          refine own_st (T' := T14) (F' := (mkF m 27 #[.val (.ref x0), .val (.int (3 : Int32)), .val (.ref x2), .val (.int (3 : Int32)), .val (.int (4 : Int32)), .val (.int (3 : Int32)), .val (.int cc3)] [(.ref x2)])) (fun _ k => XS.aloadN X14.here hx rfl (hb hby d7t4_26) rfl rfl k) ?_
          refine own_st (T' := T14) (F' := (mkF m 28 #[.val (.ref x0), .val (.int (3 : Int32)), .val (.ref x2), .val (.int (3 : Int32)), .val (.int (4 : Int32)), .val (.int (3 : Int32)), .val (.int cc3)] [(.int (3 : Int32)), (.ref x2)])) (fun _ k => XS.iloadN X14.here hx rfl (hb hby d7t4_27) rfl  k) ?_
          refine own_st (T' := T14) (F' := (mkF m 30 #[.val (.ref x0), .val (.int (3 : Int32)), .val (.ref x2), .val (.int (3 : Int32)), .val (.int (4 : Int32)), .val (.int (3 : Int32)), .val (.int cc3)] [(.int cc3), (.int (3 : Int32)), (.ref x2)])) (fun _ k => XS.iload X14.here hx rfl (hb hby d7t4_28) rfl  k) ?_
          refine own_st (T' := T14) (F' := (mkF m 31 #[.val (.ref x0), .val (.int (3 : Int32)), .val (.ref x2), .val (.int (3 : Int32)), .val (.int (4 : Int32)), .val (.int (3 : Int32)), .val (.int cc3)] [(.int (cc3.toInt8.toInt32)), (.int (3 : Int32)), (.ref x2)])) (fun _ k => XS.i2b X14.here hx rfl (hb hby d7t4_30) rfl k) ?_
          obtain ⟨cl19, Ar19, Aq19, As19, Am19, Ah19, Au19⟩ := id V14
          have hin19 : ¬ ((3 : Int32) < 0 ∨ cl19.slots.size ≤ ((3 : Int32)).toNatClampNeg) := inb_of As19 ⟨by decide, by decide⟩
          obtain ⟨T19, h19, X19, e19, W19, st19⟩ := stB X14 hx hZ e14 Ar19 (j := (3 : Int32)) hin19 (g := (mkF m 31 #[.val (.ref x0), .val (.int (3 : Int32)), .val (.ref x2), .val (.int (3 : Int32)), .val (.int (4 : Int32)), .val (.int (3 : Int32)), .val (.int cc3)] [(.int (cc3.toInt8.toInt32)), (.int (3 : Int32)), (.ref x2)])) rfl rfl (hb hby d7t4_31)
          have V19 : Arv Z h19 x2 vkb .byte (4 : Int32) [(.int ((cc0.toInt8.toInt32).toInt8.toInt32)), (.int ((cc1.toInt8.toInt32).toInt8.toInt32)), (.int ((cc2.toInt8.toInt32).toInt8.toInt32)), (.int ((cc3.toInt8.toInt32).toInt8.toInt32))] (.int (0 : Int32)) := Arv.set Ar19 Aq19 As19 Am19 Ah19 Au19 (fits_nar_byte _) W19 3 rfl (show 3 < 4 by decide)
          have N19 := Fr.snoc X19 N14 hge
          have f20 : Arv Z h19 x0 vkc .char (4 : Int32) [(.int cc0), (.int cc1), (.int cc2), (.int cc3)] (.int (0 : Int32)) := f15.other W19 (Ne.symm hno)
          have K19 : Keep h0 h19 [x2] := K14.wr W19 (Or.inl (List.mem_of_getElem? (i := 0) rfl))
          have Zs19 : n0 ≤ h19.size := Nat.le_trans Z0 K19.1
          refine own_st (T' := T19) (F' := (mkF m 32 #[.val (.ref x0), .val (.int (3 : Int32)), .val (.ref x2), .val (.int (3 : Int32)), .val (.int (4 : Int32)), .val (.int (3 : Int32)), .val (.int cc3)] [])) (fun _ k => st19 _ k) ?_
          refine own_st (T' := T19) (F' := (mkF m 35 #[.val (.ref x0), .val (.int (4 : Int32)), .val (.ref x2), .val (.int (3 : Int32)), .val (.int (4 : Int32)), .val (.int (3 : Int32)), .val (.int cc3)] [])) (fun _ k => XS.iinc X19.here hx rfl (hb hby d7t4_32) rfl (l' := #[.val (.ref x0), .val (.int (4 : Int32)), .val (.ref x2), .val (.int (3 : Int32)), .val (.int (4 : Int32)), .val (.int (3 : Int32)), .val (.int cc3)]) rfl k) ?_
          refine own_st (T' := T19) (F' := (mkF m 38 #[.val (.ref x0), .val (.int (4 : Int32)), .val (.ref x2), .val (.int (4 : Int32)), .val (.int (4 : Int32)), .val (.int (3 : Int32)), .val (.int cc3)] [])) (fun _ k => XS.iinc X19.here hx rfl (hb hby d7t4_35) rfl (l' := #[.val (.ref x0), .val (.int (4 : Int32)), .val (.ref x2), .val (.int (4 : Int32)), .val (.int (4 : Int32)), .val (.int (3 : Int32)), .val (.int cc3)]) rfl k) ?_
          refine own_st (T' := T19) (F' := (mkF m 41 #[.val (.ref x0), .val (.int (4 : Int32)), .val (.ref x2), .val (.int (4 : Int32)), .val (.int (4 : Int32)), .val (.int (4 : Int32)), .val (.int cc3)] [])) (fun _ k => XS.iinc X19.here hx rfl (hb hby d7t4_38) rfl (l' := #[.val (.ref x0), .val (.int (4 : Int32)), .val (.ref x2), .val (.int (4 : Int32)), .val (.int (4 : Int32)), .val (.int (4 : Int32)), .val (.int cc3)]) rfl k) ?_
          refine own_st (T' := T19) (F' := (mkF m 3 #[.val (.ref x0), .val (.int (4 : Int32)), .val (.ref x2), .val (.int (4 : Int32)), .val (.int (4 : Int32)), .val (.int (4 : Int32)), .val (.int cc3)] [])) (fun _ k => XS.goto X19.here hx rfl (pc0 := 41) (pc' := 3) rfl (hb hby d7t4_41) (by decide) (by decide) k) ?_
          refine own_st (T' := T19) (F' := (mkF m 5 #[.val (.ref x0), .val (.int (4 : Int32)), .val (.ref x2), .val (.int (4 : Int32)), .val (.int (4 : Int32)), .val (.int (4 : Int32)), .val (.int cc3)] [(.int (4 : Int32))])) (fun _ k => XS.iload X19.here hx rfl (hb hby d7t4_3) rfl  k) ?_
          refine own_st (T' := T19) (F' := (mkF m 7 #[.val (.ref x0), .val (.int (4 : Int32)), .val (.ref x2), .val (.int (4 : Int32)), .val (.int (4 : Int32)), .val (.int (4 : Int32)), .val (.int cc3)] [(.int (4 : Int32)), (.int (4 : Int32))])) (fun _ k => XS.iload X19.here hx rfl (hb hby d7t4_5) rfl  k) ?_
          refine own_icmp X19 hx (pc' := 44) (pc2 := 10) (hb hby d7t4_7) (by decide) (by decide) rfl (fun (hc7_21 : ¬ ((4 : Int32) < (4 : Int32))) => ?_) (fun (hc7_21 : (4 : Int32) < (4 : Int32)) => ?_)
          rotate_left
          · exact absurd hc7_21 (by decide)
          refine own_st (T' := T19) (F' := (mkF m 46 #[.val (.ref x0), .val (.int (4 : Int32)), .val (.ref x2), .val (.int (4 : Int32)), .val (.int (4 : Int32)), .val (.int (4 : Int32)), .val (.int cc3)] [(.int (4 : Int32))])) (fun _ k => XS.iload X19.here hx rfl (hb hby d7t4_44) rfl  k) ?_
          refine own_retI X19 hx hlk Bd.returns (hb hby d7t4_46) ?_ (by decide) (by decide)
          rw [e19]
          refine ⟨?_, N19, K19, V19⟩
          rfl
        ·
          first | exact absurd hc20_18 h255_0 | exact absurd hc20_18 h255_1 | exact absurd hc20_18 h255_2 | exact absurd hc20_18 h255_3
      ·
        first | exact absurd hc20_13 h255_0 | exact absurd hc20_13 h255_1 | exact absurd hc20_13 h255_2 | exact absurd hc20_13 h255_3
    ·
      first | exact absurd hc20_8 h255_0 | exact absurd hc20_8 h255_1 | exact absurd hc20_8 h255_2 | exact absurd hc20_8 h255_3
  ·
    first | exact absurd hc20_3 h255_0 | exact absurd hc20_3 h255_1 | exact absurd hc20_3 h255_2 | exact absurd hc20_3 h255_3
theorem d6t4_0 : decode jdk_52_method_16_code 0 = .ok (.iload_n 2, 1) := by decide +kernel
theorem d6t4_1 : decode jdk_52_method_16_code 1 = .ok (.newarray .byte, 2) := by decide +kernel
theorem d6t4_3 : decode jdk_52_method_16_code 3 = .ok (.astore_n 3, 1) := by decide +kernel
theorem d6t4_4 : decode jdk_52_method_16_code 4 = .ok (.aload_n 0, 1) := by decide +kernel
theorem d6t4_5 : decode jdk_52_method_16_code 5 = .ok (.iload_n 1, 1) := by decide +kernel
theorem d6t4_6 : decode jdk_52_method_16_code 6 = .ok (.aload_n 3, 1) := by decide +kernel
theorem d6t4_7 : decode jdk_52_method_16_code 7 = .ok (.iconst 0, 1) := by decide +kernel
theorem d6t4_8 : decode jdk_52_method_16_code 8 = .ok (.iload_n 2, 1) := by decide +kernel
theorem d6t4_9 : decode jdk_52_method_16_code 9 = .ok (.invokestatic 115, 3) := by decide +kernel
theorem d6t4_12 : decode jdk_52_method_16_code 12 = .ok (.istore 4, 2) := by decide +kernel
theorem d6t4_14 : decode jdk_52_method_16_code 14 = .ok (.iload 4, 2) := by decide +kernel
theorem d6t4_16 : decode jdk_52_method_16_code 16 = .ok (.iload_n 2, 1) := by decide +kernel
theorem d6t4_17 : decode jdk_52_method_16_code 17 = .ok (.if_icmp .eq 40, 3) := by decide +kernel
theorem d6t4_57 : decode jdk_52_method_16_code 57 = .ok (.aload_n 3, 1) := by decide +kernel
theorem d6t4_58 : decode jdk_52_method_16_code 58 = .ok (.areturn, 1) := by decide +kernel
theorem own_pn6t4 : plainName "java/lang/StringUTF16" = true := by first | (simp [plainName, overriddenIn]; done) | decide +kernel
theorem own_ef6t4 (m : MethodId) (x0 : Addr) : entryFrame m #[(.ref x0), (.int (0 : Int32)), (.int (4 : Int32))] 6 = (mkF m 0 #[.val (.ref x0), .val (.int (0 : Int32)), .val (.int (4 : Int32)), .unset, .unset, .unset] []) := by first | (simp [entryFrame, mkF, argsToLocals, Value.category]; done) | rfl
def Q6t4 (Z : State) (x0 : Addr) (vkc : ClassId) (cc0 : Int32) (cc1 : Int32) (cc2 : Int32) (cc3 : Int32) (h0 : Heap) (n0 : Nat) (v : Option Value) (h : Heap) (L : List Loc) : Prop := (∃ z : Addr, v = some (.ref z) ∧ (∃ vkb : ClassId, h0.size ≤ z ∧ Arv Z h z vkb .byte (4 : Int32) [(.int ((cc0.toInt8.toInt32).toInt8.toInt32)), (.int ((cc1.toInt8.toInt32).toInt8.toInt32)), (.int ((cc2.toInt8.toInt32).toInt8.toInt32)), (.int ((cc3.toInt8.toInt32).toInt8.toInt32))] (.int (0 : Int32)))) ∧ Fr n0 L ∧ Keep h0 h []
set_option maxRecDepth 65536 in
set_option maxHeartbeats 40000000 in
theorem rm6t4 (l : Launch) (Z : State) (a0 : Array Value) (hw : ∀ d ∈ tables_1, d.before a0 Z = true) (ws : List Jvm.Cond) (x0 : Addr) (vkc : ClassId) (cc0 : Int32) (cc1 : Int32) (cc2 : Int32) (cc3 : Int32) (h0 : Heap) (n0 : Nat) (Z0 : n0 ≤ h0.size) (V_c : Arv Z h0 x0 vkc .char (4 : Int32) [(.int cc0), (.int cc1), (.int cc2), (.int cc3)] (.int (0 : Int32))) (h255_0 : ¬ ((255 : Int32) < cc0)) (h255_1 : ¬ ((255 : Int32) < cc1)) (h255_2 : ¬ ((255 : Int32) < cc2)) (h255_3 : ¬ ((255 : Int32) < cc3)) :
    MetFree l (⟨"java/lang/StringUTF16", "compress", "([CII)[B"⟩ : MethodName) (head1 (Jvm.Cond.code (⟨"java/lang/StringUTF16", "compress", "([CII)[B"⟩ : MethodName) jdk_52_method_16_code 6 (some (.array .byte)) :: ws) ({ frames := 1, cells := 1, slots := 4, locals := 18 } : Room)) (fun a U => a = #[(.ref x0), (.int (0 : Int32)), (.int (4 : Int32))] ∧ Z.Warmed39 U.vm ∧ U.heap = h0) (fun _ _ _ _ _ => True) (fun _ U oc U' => ∃ v L, oc = .returned v ∧ Q6t4 Z x0 vkc cc0 cc1 cc2 cc3 h0 n0 v U'.heap L ∧ FrameEnd U oc U' L ({ frames := 1, cells := 1, slots := 4, locals := 18 } : Room).cells ({ frames := 1, cells := 1, slots := 4, locals := 18 } : Room).slots) := by
  refine MetFree.of_bodySF (plainFor_of_name own_pn6t4) hisR ?_
  intro p e s m args below meth c s₁ Bd hml0 hP hK
  obtain ⟨rfl, hZ, hh⟩ := hP
  have hx := Bd.exec
  have hby := Bd.bytes
  have hlk : meth.locks = false := BodyLoose.notSynchronized Bd
  have hml : c.maxLocals = 6 := hml0
  have hown : s.vm.findClass "java/lang/StringUTF16" = some m.cls := findClass_of_methodNamed Bd.named
  have hnm := (name_of_methodNamed Bd.named Bd.method).1
  have X0 : Stand p l e ({ frames := 1, cells := 1, slots := 4, locals := 18 } : Room) s m #[(.ref x0), (.int (0 : Int32)), (.int (4 : Int32))] below meth c s₁ [] 0 0 := Stand.of_body Bd
  have e0 : s₁.heap = h0 := by rw [← hh, Bd.state]; rfl
  have N0 := Fr.nil n0
  refine own_enter (own_ef6t4 m x0) ?_
  show own_Go p e below (own_E s (Q6t4 Z x0 vkc cc0 cc1 cc2 cc3 h0 n0) ({ frames := 1, cells := 1, slots := 4, locals := 18 } : Room).cells ({ frames := 1, cells := 1, slots := 4, locals := 18 } : Room).slots) s₁ (mkF m 0 #[.val (.ref x0), .val (.int (0 : Int32)), .val (.int (4 : Int32)), .unset, .unset, .unset] [])
  refine own_st (T' := s₁) (F' := (mkF m 1 #[.val (.ref x0), .val (.int (0 : Int32)), .val (.int (4 : Int32)), .unset, .unset, .unset] [(.int (4 : Int32))])) (fun _ k => XS.iloadN X0.here hx rfl (hb hby d6t4_0) rfl  k) ?_
  obtain ⟨T1, h1, k1, X1, e1, E1, A1, AE1, st1⟩ := newPE X0 hx hZ (hw _ (List.mem_of_getElem? (i := 31) rfl)) e0 (g := (mkF m 1 #[.val (.ref x0), .val (.int (0 : Int32)), .val (.int (4 : Int32)), .unset, .unset, .unset] [(.int (4 : Int32))])) rfl (hb hby d6t4_1) rfl (by decide) (cap := 4) (by decide) (by decide) (by decide) (by decide) (ad := "[B") (by decide)
  obtain ⟨b1, g1⟩ : ∃ z, z = h0.size := ⟨_, rfl⟩
  rw [← g1] at A1 AE1 st1
  have ge1 : n0 ≤ b1 := by rw [g1]; exact Z0
  have hge1 : h0.size ≤ b1 := by rw [g1]; exact (Keep.refl h0 []).1
  have ne1_1 : x0 ≠ b1 := by rw [g1]; exact Nat.ne_of_lt V_c.lt
  have f2 : Arv Z h1 x0 vkc .char (4 : Int32) [(.int cc0), (.int cc1), (.int cc2), (.int cc3)] (.int (0 : Int32)) := V_c.ext E1
  have K1 : Keep h0 h1 [] := (Keep.refl h0 []).ext E1
  have Zs1 : n0 ≤ h1.size := Nat.le_trans Z0 K1.1
  have V1 : Arv Z h1 b1 k1 .byte (4 : Int32) [(.int (0 : Int32)), (.int (0 : Int32)), (.int (0 : Int32)), (.int (0 : Int32))] (.int (0 : Int32)) := (Arv.new A1 (by decide)).pad (pad_rep [] (.int (0 : Int32)) 4)
  refine own_st (T' := T1) (F' := (mkF m 3 #[.val (.ref x0), .val (.int (0 : Int32)), .val (.int (4 : Int32)), .unset, .unset, .unset] [(.ref b1)])) (fun _ k => st1 _ k) ?_
  refine own_st (T' := T1) (F' := (mkF m 4 #[.val (.ref x0), .val (.int (0 : Int32)), .val (.int (4 : Int32)), .val (.ref b1), .unset, .unset] [])) (fun _ k => XS.astoreN X1.here hx rfl (hb hby d6t4_3) rfl rfl (l' := #[.val (.ref x0), .val (.int (0 : Int32)), .val (.int (4 : Int32)), .val (.ref b1), .unset, .unset]) rfl k) ?_
  refine own_st (T' := T1) (F' := (mkF m 5 #[.val (.ref x0), .val (.int (0 : Int32)), .val (.int (4 : Int32)), .val (.ref b1), .unset, .unset] [(.ref x0)])) (fun _ k => XS.aloadN X1.here hx rfl (hb hby d6t4_4) rfl rfl k) ?_
  refine own_st (T' := T1) (F' := (mkF m 6 #[.val (.ref x0), .val (.int (0 : Int32)), .val (.int (4 : Int32)), .val (.ref b1), .unset, .unset] [(.int (0 : Int32)), (.ref x0)])) (fun _ k => XS.iloadN X1.here hx rfl (hb hby d6t4_5) rfl  k) ?_
  refine own_st (T' := T1) (F' := (mkF m 7 #[.val (.ref x0), .val (.int (0 : Int32)), .val (.int (4 : Int32)), .val (.ref b1), .unset, .unset] [(.ref b1), (.int (0 : Int32)), (.ref x0)])) (fun _ k => XS.aloadN X1.here hx rfl (hb hby d6t4_6) rfl rfl k) ?_
  refine own_st (T' := T1) (F' := (mkF m 8 #[.val (.ref x0), .val (.int (0 : Int32)), .val (.int (4 : Int32)), .val (.ref b1), .unset, .unset] [(.int (0 : Int32)), (.ref b1), (.int (0 : Int32)), (.ref x0)])) (fun _ k => XS.iconst X1.here hx rfl (hb hby d6t4_7) k) ?_
  refine own_st (T' := T1) (F' := (mkF m 9 #[.val (.ref x0), .val (.int (0 : Int32)), .val (.int (4 : Int32)), .val (.ref b1), .unset, .unset] [(.int (4 : Int32)), (.int (0 : Int32)), (.ref b1), (.int (0 : Int32)), (.ref x0)])) (fun _ k => XS.iloadN X1.here hx rfl (hb hby d6t4_8) rfl  k) ?_
  obtain ⟨_, _, ⟨T3, L3, k3, n3⟩, -, X3, ⟨Lc3, hQ3, l3, y3, z3⟩, st3⟩ := Jvm.LawKit.callS X1 hx (y := (⟨"java/lang/StringUTF16", "compress", "([CI[BII)I"⟩ : MethodName)) hown (mvT hZ (hw _ (List.mem_of_getElem? (i := 32) rfl))) (mvT hZ (hw _ (List.mem_of_getElem? (i := 33) rfl))) (mvT hZ (hw _ (List.mem_of_getElem? (i := 29) rfl))) (mvT hZ (hw _ (List.mem_of_getElem? (i := 34) rfl))) (by decide) (backOf (W := 0) (rm7t4 l Z a0 hw [] x0 b1 vkc k1 cc0 cc1 cc2 cc3 h1 n0 Zs1 ge1 (Ne.symm ne1_1) f2 V1 h255_0 h255_1 h255_2 h255_3) hZ (hw _ (List.mem_of_getElem? (i := 34) rfl)) (hw _ (List.mem_of_getElem? (i := 29) rfl)) (by decide) (by decide)) (g := (mkF m 9 #[.val (.ref x0), .val (.int (0 : Int32)), .val (.int (4 : Int32)), .val (.ref b1), .unset, .unset] [(.int (4 : Int32)), (.int (0 : Int32)), (.ref b1), (.int (0 : Int32)), (.ref x0)])) rfl (by rw [hml]; rfl) (argsL := [(.ref x0), (.int (0 : Int32)), (.ref b1), (.int (0 : Int32)), (.int (4 : Int32))]) (rest := []) (lenOf own_pd8 rfl) rfl (by show 2 * 0 + _ ≤ _; exact Nat.le_of_eq rfl) (hb hby d6t4_9) (fun _ _ => ⟨rfl, e1, (by decide : 1 + 0 ≤ _), (by decide : 4 + 0 ≤ _)⟩)
  dsimp only [Pt.U, Pt.locs, Pt.cells, Pt.slots] at X3 l3 y3 z3 st3 hQ3
  subst l3 y3 z3
  obtain ⟨rfl, Nq3, g3_0, g3_1⟩ := hQ3
  have N3 := Fr.app N0 Nq3
  have f4 : Arv Z T3.heap x0 vkc .char (4 : Int32) [(.int cc0), (.int cc1), (.int cc2), (.int cc3)] (.int (0 : Int32)) := f2.keep g3_0 (ninS ne1_1 nin0)
  have f5 : Exa Z T3.heap b1 "[B" := AE1.keep g3_0
  have K3 : Keep h0 T3.heap [] := K1.trans g3_0 (allS (Or.inr hge1) all0)
  have Zs3 : n0 ≤ T3.heap.size := Nat.le_trans Z0 K3.1
  refine own_st (T' := T3) (F' := (mkF m 12 #[.val (.ref x0), .val (.int (0 : Int32)), .val (.int (4 : Int32)), .val (.ref b1), .unset, .unset] [(.int (4 : Int32))])) (fun _ k => st3 _ k) ?_
  refine own_st (T' := T3) (F' := (mkF m 14 #[.val (.ref x0), .val (.int (0 : Int32)), .val (.int (4 : Int32)), .val (.ref b1), .val (.int (4 : Int32)), .unset] [])) (fun _ k => XS.istore X3.here hx rfl (hb hby d6t4_12) rfl (l' := #[.val (.ref x0), .val (.int (0 : Int32)), .val (.int (4 : Int32)), .val (.ref b1), .val (.int (4 : Int32)), .unset]) rfl k) ?_
  refine own_st (T' := T3) (F' := (mkF m 16 #[.val (.ref x0), .val (.int (0 : Int32)), .val (.int (4 : Int32)), .val (.ref b1), .val (.int (4 : Int32)), .unset] [(.int (4 : Int32))])) (fun _ k => XS.iload X3.here hx rfl (hb hby d6t4_14) rfl  k) ?_
  refine own_st (T' := T3) (F' := (mkF m 17 #[.val (.ref x0), .val (.int (0 : Int32)), .val (.int (4 : Int32)), .val (.ref b1), .val (.int (4 : Int32)), .unset] [(.int (4 : Int32)), (.int (4 : Int32))])) (fun _ k => XS.iloadN X3.here hx rfl (hb hby d6t4_16) rfl  k) ?_
  refine own_icmp X3 hx (pc' := 57) (pc2 := 20) (hb hby d6t4_17) (by decide) (by decide) rfl (fun (hc17 : (4 : Int32) = (4 : Int32)) => ?_) (fun (hc17 : ¬ ((4 : Int32) = (4 : Int32))) => ?_)
  rotate_left
  · exact absurd hc17 (by decide)
  refine own_st (T' := T3) (F' := (mkF m 58 #[.val (.ref x0), .val (.int (0 : Int32)), .val (.int (4 : Int32)), .val (.ref b1), .val (.int (4 : Int32)), .unset] [(.ref b1)])) (fun _ k => XS.aloadN X3.here hx rfl (hb hby d6t4_57) rfl rfl k) ?_
  refine own_retA X3 hx hlk (t := (.array .byte)) Bd.returns rfl rfl rfl (hb hby d6t4_58) ?_ (by decide) (by decide)
  show Q6t4 Z x0 vkc cc0 cc1 cc2 cc3 h0 n0 _ T3.heap _
  refine ⟨⟨_, rfl, ?_⟩, N3, K3⟩
  exact ⟨_, hge1, g3_1⟩
theorem d8t4_0 : decode jdk_52_method_15_code 0 = .ok (.iload_n 1, 1) := by decide +kernel
theorem d8t4_1 : decode jdk_52_method_15_code 1 = .ok (.aload_n 0, 1) := by decide +kernel
theorem d8t4_2 : decode jdk_52_method_15_code 2 = .ok (.arraylength, 1) := by decide +kernel
theorem d8t4_3 : decode jdk_52_method_15_code 3 = .ok (.isub, 1) := by decide +kernel
theorem d8t4_4 : decode jdk_52_method_15_code 4 = .ok (.bipush 31, 2) := by decide +kernel
theorem d8t4_6 : decode jdk_52_method_15_code 6 = .ok (.iushr, 1) := by decide +kernel
theorem d8t4_7 : decode jdk_52_method_15_code 7 = .ok (.i2b, 1) := by decide +kernel
theorem d8t4_8 : decode jdk_52_method_15_code 8 = .ok (.ireturn, 1) := by decide +kernel
theorem own_pn8t4 : plainName "java/lang/StringUTF16" = true := by first | (simp [plainName, overriddenIn]; done) | decide +kernel
theorem own_ef8t4 (m : MethodId) (x0 : Addr) : entryFrame m #[(.ref x0), (.int (4 : Int32))] 2 = (mkF m 0 #[.val (.ref x0), .val (.int (4 : Int32))] []) := by first | (simp [entryFrame, mkF, argsToLocals, Value.category]; done) | rfl
def Q8t4 (Z : State) (x0 : Addr) (vkb : ClassId) (cc0 : Int32) (cc1 : Int32) (cc2 : Int32) (cc3 : Int32) (h0 : Heap) (n0 : Nat) (v : Option Value) (h : Heap) (L : List Loc) : Prop := v = some (.int (0 : Int32)) ∧ Fr n0 L ∧ h = h0
set_option maxRecDepth 65536 in
set_option maxHeartbeats 40000000 in
theorem rm8t4 (l : Launch) (Z : State) (a0 : Array Value) (hw : ∀ d ∈ tables_1, d.before a0 Z = true) (ws : List Jvm.Cond) (x0 : Addr) (vkb : ClassId) (cc0 : Int32) (cc1 : Int32) (cc2 : Int32) (cc3 : Int32) (h0 : Heap) (n0 : Nat) (Z0 : n0 ≤ h0.size) (V_b : Arv Z h0 x0 vkb .byte (4 : Int32) [(.int ((cc0.toInt8.toInt32).toInt8.toInt32)), (.int ((cc1.toInt8.toInt32).toInt8.toInt32)), (.int ((cc2.toInt8.toInt32).toInt8.toInt32)), (.int ((cc3.toInt8.toInt32).toInt8.toInt32))] (.int (0 : Int32))) :
    MetFree l (⟨"java/lang/StringUTF16", "coderFromArrayLen", "([BI)B"⟩ : MethodName) (head1 (Jvm.Cond.code (⟨"java/lang/StringUTF16", "coderFromArrayLen", "([BI)B"⟩ : MethodName) jdk_52_method_15_code 2 (some .byte) :: ws) ({ frames := 0, cells := 0, slots := 0, locals := 0 } : Room)) (fun a U => a = #[(.ref x0), (.int (4 : Int32))] ∧ Z.Warmed39 U.vm ∧ U.heap = h0) (fun _ _ _ _ _ => True) (fun _ U oc U' => ∃ v L, oc = .returned v ∧ Q8t4 Z x0 vkb cc0 cc1 cc2 cc3 h0 n0 v U'.heap L ∧ FrameEnd U oc U' L ({ frames := 0, cells := 0, slots := 0, locals := 0 } : Room).cells ({ frames := 0, cells := 0, slots := 0, locals := 0 } : Room).slots) := by
  refine MetFree.of_bodySF (plainFor_of_name own_pn8t4) hisR ?_
  intro p e s m args below meth c s₁ Bd hml0 hP hK
  obtain ⟨rfl, hZ, hh⟩ := hP
  have hx := Bd.exec
  have hby := Bd.bytes
  have hlk : meth.locks = false := BodyLoose.notSynchronized Bd
  have hml : c.maxLocals = 2 := hml0
  have hown : s.vm.findClass "java/lang/StringUTF16" = some m.cls := findClass_of_methodNamed Bd.named
  have hnm := (name_of_methodNamed Bd.named Bd.method).1
  have X0 : Stand p l e ({ frames := 0, cells := 0, slots := 0, locals := 0 } : Room) s m #[(.ref x0), (.int (4 : Int32))] below meth c s₁ [] 0 0 := Stand.of_body Bd
  have e0 : s₁.heap = h0 := by rw [← hh, Bd.state]; rfl
  have N0 := Fr.nil n0
  refine own_enter (own_ef8t4 m x0) ?_
  show own_Go p e below (own_E s (Q8t4 Z x0 vkb cc0 cc1 cc2 cc3 h0 n0) ({ frames := 0, cells := 0, slots := 0, locals := 0 } : Room).cells ({ frames := 0, cells := 0, slots := 0, locals := 0 } : Room).slots) s₁ (mkF m 0 #[.val (.ref x0), .val (.int (4 : Int32))] [])
  refine own_st (T' := s₁) (F' := (mkF m 1 #[.val (.ref x0), .val (.int (4 : Int32))] [(.int (4 : Int32))])) (fun _ k => XS.iloadN X0.here hx rfl (hb hby d8t4_0) rfl  k) ?_
  refine own_st (T' := s₁) (F' := (mkF m 2 #[.val (.ref x0), .val (.int (4 : Int32))] [(.ref x0), (.int (4 : Int32))])) (fun _ k => XS.aloadN X0.here hx rfl (hb hby d8t4_1) rfl rfl k) ?_
  obtain ⟨cl1, Ar1, Aq1, As1, Am1, Ah1, Au1⟩ := id V_b
  refine own_st (T' := s₁) (F' := (mkF m 3 #[.val (.ref x0), .val (.int (4 : Int32))] [(.int (4 : Int32)), (.int (4 : Int32))])) (fun _ k => X0.arraylength hx (cell := cl1) (by rw [e0]; exact Ar1.1) (State.isArrayOf_alike hZ.alike Ar1.2.1) (g := (mkF m 2 #[.val (.ref x0), .val (.int (4 : Int32))] [(.ref x0), (.int (4 : Int32))])) rfl (rest := [(.int (4 : Int32))]) rfl (hb hby d8t4_2) _ (by rw [len_of As1 Am1]; exact k)) ?_
  refine own_st (T' := s₁) (F' := (mkF m 4 #[.val (.ref x0), .val (.int (4 : Int32))] [(.int (0 : Int32))])) (fun _ k => XS.isub X0.here hx rfl (hb hby d8t4_3) rfl k) ?_
  refine own_st (T' := s₁) (F' := (mkF m 6 #[.val (.ref x0), .val (.int (4 : Int32))] [(.int (31 : Int32)), (.int (0 : Int32))])) (fun _ k => XS.bipush X0.here hx rfl (hb hby d8t4_4) k) ?_
  refine own_st (T' := s₁) (F' := (mkF m 7 #[.val (.ref x0), .val (.int (4 : Int32))] [(.int (((0 : Int32).toUInt32 >>> ((31 : Int32) &&& 31).toUInt32).toInt32))])) (fun _ k => XS.iushr X0.here hx rfl (hb hby d8t4_6) rfl k) ?_
  refine own_st (T' := s₁) (F' := (mkF m 8 #[.val (.ref x0), .val (.int (4 : Int32))] [(.int ((((0 : Int32).toUInt32 >>> ((31 : Int32) &&& 31).toUInt32).toInt32).toInt8.toInt32))])) (fun _ k => XS.i2b X0.here hx rfl (hb hby d8t4_7) rfl k) ?_
  refine own_retN X0 hx hlk (t := .byte) Bd.returns (by simp) (hb hby d8t4_8) ?_ (by decide) (by decide)
  rw [e0]
  refine ⟨?_, N0, rfl⟩
  rfl
theorem d4t4_0 : decode jdk_42_method_149_code 0 = .ok (.aload_n 0, 1) := by decide +kernel
theorem d4t4_1 : decode jdk_42_method_149_code 1 = .ok (.invokespecial 1, 3) := by decide +kernel
theorem d4t4_4 : decode jdk_42_method_149_code 4 = .ok (.iload_n 3, 1) := by decide +kernel
theorem d4t4_5 : decode jdk_42_method_149_code 5 = .ok (.ifCond .ne 22, 3) := by decide +kernel
theorem d4t4_27 : decode jdk_42_method_149_code 27 = .ok (.getstatic 38, 3) := by decide +kernel
theorem d4t4_30 : decode jdk_42_method_149_code 30 = .ok (.ifCond .eq 28, 3) := by decide +kernel
theorem d4t4_33 : decode jdk_42_method_149_code 33 = .ok (.aload_n 1, 1) := by decide +kernel
theorem d4t4_34 : decode jdk_42_method_149_code 34 = .ok (.iload_n 2, 1) := by decide +kernel
theorem d4t4_35 : decode jdk_42_method_149_code 35 = .ok (.iload_n 3, 1) := by decide +kernel
theorem d4t4_36 : decode jdk_42_method_149_code 36 = .ok (.invokestatic 177, 3) := by decide +kernel
theorem d4t4_39 : decode jdk_42_method_149_code 39 = .ok (.astore 5, 2) := by decide +kernel
theorem d4t4_41 : decode jdk_42_method_149_code 41 = .ok (.aload_n 0, 1) := by decide +kernel
theorem d4t4_42 : decode jdk_42_method_149_code 42 = .ok (.aload 5, 2) := by decide +kernel
theorem d4t4_44 : decode jdk_42_method_149_code 44 = .ok (.iload_n 3, 1) := by decide +kernel
theorem d4t4_45 : decode jdk_42_method_149_code 45 = .ok (.invokestatic 47, 3) := by decide +kernel
theorem d4t4_48 : decode jdk_42_method_149_code 48 = .ok (.putfield 15, 3) := by decide +kernel
theorem d4t4_51 : decode jdk_42_method_149_code 51 = .ok (.aload_n 0, 1) := by decide +kernel
theorem d4t4_52 : decode jdk_42_method_149_code 52 = .ok (.aload 5, 2) := by decide +kernel
theorem d4t4_54 : decode jdk_42_method_149_code 54 = .ok (.putfield 9, 3) := by decide +kernel
theorem d4t4_57 : decode jdk_42_method_149_code 57 = .ok (.return_, 1) := by decide +kernel
theorem own_pn4t4 : plainName "java/lang/String" = true := by first | (simp [plainName, overriddenIn]; done) | decide +kernel
theorem own_ef4t4 (m : MethodId) (o : Addr) (x0 : Addr) : entryFrame m #[(.ref o), (.ref x0), (.int (0 : Int32)), (.int (4 : Int32)), .null] 6 = (mkF m 0 #[.val (.ref o), .val (.ref x0), .val (.int (0 : Int32)), .val (.int (4 : Int32)), .val .null, .unset] []) := by first | (simp [entryFrame, mkF, argsToLocals, Value.category]; done) | rfl
def Q4t4 (Z : State) (o : Addr) (x0 : Addr) (cs : Int32) (vkc : ClassId) (cc0 : Int32) (cc1 : Int32) (cc2 : Int32) (cc3 : Int32) (h0 : Heap) (n0 : Nat) (v : Option Value) (h : Heap) (L : List Loc) : Prop := v = none ∧ Fr n0 L ∧ Keep h0 h [o] ∧ Fld Z h o "java/lang/String" "coder" "B" (.int (0 : Int32)) ∧ (∃ (b : Addr) (kb : ClassId) (g : List Int32), Fld Z h o "java/lang/String" "value" "[B" (.ref b) ∧ Arv Z h b kb .byte (4 : Int32) (g.map Value.int) (.int (0 : Int32)))
set_option maxRecDepth 65536 in
set_option maxHeartbeats 40000000 in
theorem rm4t4 (l : Launch) (Z : State) (a0 : Array Value) (hw : ∀ d ∈ tables_1, d.before a0 Z = true) (ws : List Jvm.Cond) (o : Addr) (x0 : Addr) (cs : Int32) (vkc : ClassId) (cc0 : Int32) (cc1 : Int32) (cc2 : Int32) (cc3 : Int32) (h0 : Heap) (n0 : Nat) (Z0 : n0 ≤ h0.size) (S_cs : Sta Z h0 "java/lang/String" "COMPACT_STRINGS" "Z" (.int cs)) (hcs : ¬ (cs = 0)) (hge : n0 ≤ o) (hno : o ≠ x0) (hEo : Exa Z h0 o "java/lang/String") (hFc : Fld Z h0 o "java/lang/String" "coder" "B" (.int (0 : Int32))) (hFv : Fld Z h0 o "java/lang/String" "value" "[B" .null) (V_c : Arv Z h0 x0 vkc .char (4 : Int32) [(.int cc0), (.int cc1), (.int cc2), (.int cc3)] (.int (0 : Int32))) (h255_0 : ¬ ((255 : Int32) < cc0)) (h255_1 : ¬ ((255 : Int32) < cc1)) (h255_2 : ¬ ((255 : Int32) < cc2)) (h255_3 : ¬ ((255 : Int32) < cc3)) :
    MetFree l (⟨"java/lang/String", "<init>", "([CIILjava/lang/Void;)V"⟩ : MethodName) (head1 (Jvm.Cond.code (⟨"java/lang/String", "<init>", "([CIILjava/lang/Void;)V"⟩ : MethodName) jdk_42_method_149_code 6 none :: ws) ({ frames := 2, cells := 1, slots := 4, locals := 35 } : Room)) (fun a U => a = #[(.ref o), (.ref x0), (.int (0 : Int32)), (.int (4 : Int32)), .null] ∧ Z.Warmed39 U.vm ∧ U.heap = h0) (fun _ _ _ _ _ => True) (fun _ U oc U' => ∃ v L, oc = .returned v ∧ Q4t4 Z o x0 cs vkc cc0 cc1 cc2 cc3 h0 n0 v U'.heap L ∧ FrameEnd U oc U' L ({ frames := 2, cells := 1, slots := 4, locals := 35 } : Room).cells ({ frames := 2, cells := 1, slots := 4, locals := 35 } : Room).slots) := by
  refine MetFree.of_bodySF (plainFor_of_name own_pn4t4) hisR ?_
  intro p e s m args below meth c s₁ Bd hml0 hP hK
  obtain ⟨rfl, hZ, hh⟩ := hP
  have hx := Bd.exec
  have hby := Bd.bytes
  have hlk : meth.locks = false := BodyLoose.notSynchronized Bd
  have hml : c.maxLocals = 6 := hml0
  have hown : s.vm.findClass "java/lang/String" = some m.cls := findClass_of_methodNamed Bd.named
  have hnm := (name_of_methodNamed Bd.named Bd.method).1
  have X0 : Stand p l e ({ frames := 2, cells := 1, slots := 4, locals := 35 } : Room) s m #[(.ref o), (.ref x0), (.int (0 : Int32)), (.int (4 : Int32)), .null] below meth c s₁ [] 0 0 := Stand.of_body Bd
  have e0 : s₁.heap = h0 := by rw [← hh, Bd.state]; rfl
  have N0 := Fr.nil n0
  refine own_enter (own_ef4t4 m o x0) ?_
  show own_Go p e below (own_E s (Q4t4 Z o x0 cs vkc cc0 cc1 cc2 cc3 h0 n0) ({ frames := 2, cells := 1, slots := 4, locals := 35 } : Room).cells ({ frames := 2, cells := 1, slots := 4, locals := 35 } : Room).slots) s₁ (mkF m 0 #[.val (.ref o), .val (.ref x0), .val (.int (0 : Int32)), .val (.int (4 : Int32)), .val .null, .unset] [])
  refine own_st (T' := s₁) (F' := (mkF m 1 #[.val (.ref o), .val (.ref x0), .val (.int (0 : Int32)), .val (.int (4 : Int32)), .val .null, .unset] [(.ref o)])) (fun _ k => XS.aloadN X0.here hx rfl (hb hby d4t4_0) rfl rfl k) ?_
  obtain ⟨T1, X1, e1, st1⟩ := initO X0 hx hZ hown (hw _ (List.mem_of_getElem? (i := 23) rfl)) (hw _ (List.mem_of_getElem? (i := 24) rfl)) (hw _ (List.mem_of_getElem? (i := 25) rfl)) e0 (g := (mkF m 1 #[.val (.ref o), .val (.ref x0), .val (.int (0 : Int32)), .val (.int (4 : Int32)), .val .null, .unset] [(.ref o)])) rfl (by rw [hml]; rfl) rfl (hb hby d4t4_1) (by decide) (W := 0) (by show 2 * 0 + _ ≤ _; exact Nat.le_of_eq rfl) (by decide)
  refine own_st (T' := T1) (F' := (mkF m 4 #[.val (.ref o), .val (.ref x0), .val (.int (0 : Int32)), .val (.int (4 : Int32)), .val .null, .unset] [])) (fun _ k => st1 _ k) ?_
  refine own_st (T' := T1) (F' := (mkF m 5 #[.val (.ref o), .val (.ref x0), .val (.int (0 : Int32)), .val (.int (4 : Int32)), .val .null, .unset] [(.int (4 : Int32))])) (fun _ k => XS.iloadN X1.here hx rfl (hb hby d4t4_4) rfl  k) ?_
  refine own_ifc X1 hx (pc' := 27) (pc2 := 8) (hb hby d4t4_5) (by decide) (by decide) rfl (fun (hc5 : ¬ ((4 : Int32) = (0 : Int32))) => ?_) (fun (hc5 : (4 : Int32) = (0 : Int32)) => ?_)
  rotate_left
  · exact absurd hc5 (by decide)
  obtain ⟨T2, X2, e2, st2⟩ := getS2 X1 hx hZ hown (host := "") (Or.inl (hw _ (List.mem_of_getElem? (i := 26) rfl))) Via.refl e1 S_cs (g := (mkF m 27 #[.val (.ref o), .val (.ref x0), .val (.int (0 : Int32)), .val (.int (4 : Int32)), .val .null, .unset] [])) rfl (hb hby d4t4_27)
  refine own_st (T' := T2) (F' := (mkF m 30 #[.val (.ref o), .val (.ref x0), .val (.int (0 : Int32)), .val (.int (4 : Int32)), .val .null, .unset] [(.int cs)])) (fun _ k => st2 _ k) ?_
  refine own_ifc X2 hx (pc' := 58) (pc2 := 33) (hb hby d4t4_30) (by decide) (by decide) rfl (fun (hc30 : cs = (0 : Int32)) => ?_) (fun (hc30 : ¬ (cs = (0 : Int32))) => ?_)
  ·
    exact absurd hc30 hcs
  ·
    refine own_st (T' := T2) (F' := (mkF m 34 #[.val (.ref o), .val (.ref x0), .val (.int (0 : Int32)), .val (.int (4 : Int32)), .val .null, .unset] [(.ref x0)])) (fun _ k => XS.aloadN X2.here hx rfl (hb hby d4t4_33) rfl rfl k) ?_
    refine own_st (T' := T2) (F' := (mkF m 35 #[.val (.ref o), .val (.ref x0), .val (.int (0 : Int32)), .val (.int (4 : Int32)), .val .null, .unset] [(.int (0 : Int32)), (.ref x0)])) (fun _ k => XS.iloadN X2.here hx rfl (hb hby d4t4_34) rfl  k) ?_
    refine own_st (T' := T2) (F' := (mkF m 36 #[.val (.ref o), .val (.ref x0), .val (.int (0 : Int32)), .val (.int (4 : Int32)), .val .null, .unset] [(.int (4 : Int32)), (.int (0 : Int32)), (.ref x0)])) (fun _ k => XS.iloadN X2.here hx rfl (hb hby d4t4_35) rfl  k) ?_
    obtain ⟨_, _, ⟨T3, L3, k3, n3⟩, -, X3, ⟨Lc3, hQ3, l3, y3, z3⟩, st3⟩ := Jvm.LawKit.callS X2 hx (y := (⟨"java/lang/StringUTF16", "compress", "([CII)[B"⟩ : MethodName)) hown (mvT hZ (hw _ (List.mem_of_getElem? (i := 27) rfl))) (mvT hZ (hw _ (List.mem_of_getElem? (i := 28) rfl))) (mvT hZ (hw _ (List.mem_of_getElem? (i := 29) rfl))) (mvT hZ (hw _ (List.mem_of_getElem? (i := 30) rfl))) (by decide) (backOf (W := 0) (rm6t4 l Z a0 hw [] x0 vkc cc0 cc1 cc2 cc3 h0 n0 Z0 V_c h255_0 h255_1 h255_2 h255_3) hZ (hw _ (List.mem_of_getElem? (i := 30) rfl)) (hw _ (List.mem_of_getElem? (i := 29) rfl)) (by decide) (by decide)) (g := (mkF m 36 #[.val (.ref o), .val (.ref x0), .val (.int (0 : Int32)), .val (.int (4 : Int32)), .val .null, .unset] [(.int (4 : Int32)), (.int (0 : Int32)), (.ref x0)])) rfl (by rw [hml]; rfl) (argsL := [(.ref x0), (.int (0 : Int32)), (.int (4 : Int32))]) (rest := []) (lenOf own_pd9 rfl) rfl (by show 2 * 0 + _ ≤ _; exact Nat.le_of_eq rfl) (hb hby d4t4_36) (fun _ _ => ⟨rfl, e2, (by decide : 0 + 1 ≤ _), (by decide : 0 + 4 ≤ _)⟩)
    dsimp only [Pt.U, Pt.locs, Pt.cells, Pt.slots] at X3 l3 y3 z3 st3 hQ3
    subst l3 y3 z3
    obtain ⟨⟨r3, rfl, hr3⟩, Nq3, g3_0⟩ := hQ3
    have N3 := Fr.app N0 Nq3
    have f4 : Sta Z T3.heap "java/lang/String" "COMPACT_STRINGS" "Z" (.int cs) := own_stk S_cs g3_0 all0
    have f5 : Exa Z T3.heap o "java/lang/String" := hEo.keep g3_0
    have f6 : Fld Z T3.heap o "java/lang/String" "coder" "B" (.int (0 : Int32)) := hFc.keep g3_0 nin0
    have f7 : Fld Z T3.heap o "java/lang/String" "value" "[B" .null := hFv.keep g3_0 nin0
    have f8 : Arv Z T3.heap x0 vkc .char (4 : Int32) [(.int cc0), (.int cc1), (.int cc2), (.int cc3)] (.int (0 : Int32)) := V_c.keep g3_0 nin0
    have K3 : Keep h0 T3.heap [o] := (Keep.refl h0 [o]).trans g3_0 all0
    have Zs3 : n0 ≤ T3.heap.size := Nat.le_trans Z0 K3.1
    obtain ⟨kk3, zge3, zV3⟩ := hr3
    have zne3 : r3 ≠ o := (Nat.ne_of_lt (Nat.lt_of_lt_of_le hEo.lt zge3)).symm
    refine own_st (T' := T3) (F' := (mkF m 39 #[.val (.ref o), .val (.ref x0), .val (.int (0 : Int32)), .val (.int (4 : Int32)), .val .null, .unset] [(.ref r3)])) (fun _ k => st3 _ k) ?_
    refine own_st (T' := T3) (F' := (mkF m 41 #[.val (.ref o), .val (.ref x0), .val (.int (0 : Int32)), .val (.int (4 : Int32)), .val .null, .val (.ref r3)] [])) (fun _ k => XS.astore X3.here hx rfl (hb hby d4t4_39) rfl rfl (l' := #[.val (.ref o), .val (.ref x0), .val (.int (0 : Int32)), .val (.int (4 : Int32)), .val .null, .val (.ref r3)]) rfl k) ?_
    refine own_st (T' := T3) (F' := (mkF m 42 #[.val (.ref o), .val (.ref x0), .val (.int (0 : Int32)), .val (.int (4 : Int32)), .val .null, .val (.ref r3)] [(.ref o)])) (fun _ k => XS.aloadN X3.here hx rfl (hb hby d4t4_41) rfl rfl k) ?_
    refine own_st (T' := T3) (F' := (mkF m 44 #[.val (.ref o), .val (.ref x0), .val (.int (0 : Int32)), .val (.int (4 : Int32)), .val .null, .val (.ref r3)] [(.ref r3), (.ref o)])) (fun _ k => XS.aload X3.here hx rfl (hb hby d4t4_42) rfl rfl k) ?_
    refine own_st (T' := T3) (F' := (mkF m 45 #[.val (.ref o), .val (.ref x0), .val (.int (0 : Int32)), .val (.int (4 : Int32)), .val .null, .val (.ref r3)] [(.int (4 : Int32)), (.ref r3), (.ref o)])) (fun _ k => XS.iloadN X3.here hx rfl (hb hby d4t4_44) rfl  k) ?_
    obtain ⟨_, _, ⟨T9, L9, k9, n9⟩, -, X9, ⟨Lc9, hQ9, l9, y9, z9⟩, st9⟩ := Jvm.LawKit.callS X3 hx (y := (⟨"java/lang/StringUTF16", "coderFromArrayLen", "([BI)B"⟩ : MethodName)) hown (mvT hZ (hw _ (List.mem_of_getElem? (i := 35) rfl))) (mvT hZ (hw _ (List.mem_of_getElem? (i := 36) rfl))) (mvT hZ (hw _ (List.mem_of_getElem? (i := 29) rfl))) (mvT hZ (hw _ (List.mem_of_getElem? (i := 37) rfl))) (by decide) (backOf (W := 1) (rm8t4 l Z a0 hw [] r3 kk3 cc0 cc1 cc2 cc3 T3.heap n0 Zs3 zV3) hZ (hw _ (List.mem_of_getElem? (i := 37) rfl)) (hw _ (List.mem_of_getElem? (i := 29) rfl)) (by decide) (by decide)) (g := (mkF m 45 #[.val (.ref o), .val (.ref x0), .val (.int (0 : Int32)), .val (.int (4 : Int32)), .val .null, .val (.ref r3)] [(.int (4 : Int32)), (.ref r3), (.ref o)])) rfl (by rw [hml]; rfl) (argsL := [(.ref r3), (.int (4 : Int32))]) (rest := [(.ref o)]) (lenOf own_pd10 rfl) rfl (by show 2 * 0 + _ ≤ _; exact Nat.le_of_eq rfl) (hb hby d4t4_45) (fun _ _ => ⟨rfl, rfl, (by decide : 1 + 0 ≤ _), (by decide : 4 + 0 ≤ _)⟩)
    dsimp only [Pt.U, Pt.locs, Pt.cells, Pt.slots] at X9 l9 y9 z9 st9 hQ9
    subst l9 y9 z9
    obtain ⟨rfl, Nq9, eq9⟩ := hQ9
    have N9 := Fr.app N3 Nq9
    refine own_st (T' := T9) (F' := (mkF m 48 #[.val (.ref o), .val (.ref x0), .val (.int (0 : Int32)), .val (.int (4 : Int32)), .val .null, .val (.ref r3)] [(.int (0 : Int32)), (.ref o)])) (fun _ k => st9 _ k) ?_
    obtain ⟨T10, h10, X10, e10, W10, st10⟩ := putFN X9 hx hZ hown (hw _ (List.mem_of_getElem? (i := 38) rfl)) Via.refl eq9 f6 f5 (Or.inr ⟨(hw _ (List.mem_of_getElem? (i := 39) rfl)), rfl, hnm⟩) (hw _ (List.mem_of_getElem? (i := 13) rfl)) (ty := .byte) (v' := (.int (nar .byte (0 : Int32)))) (by decide) rfl (fits_nar_byte _) (g := (mkF m 48 #[.val (.ref o), .val (.ref x0), .val (.int (0 : Int32)), .val (.int (4 : Int32)), .val .null, .val (.ref r3)] [(.int (0 : Int32)), (.ref o)])) rfl rfl (hb hby d4t4_48)
    have N10 := Fr.snoc X10 N9 hge
    have f11 : Sta Z h10 "java/lang/String" "COMPACT_STRINGS" "Z" (.int cs) := f4.wr W10
    have f12 : Exa Z h10 o "java/lang/String" := f5.wr W10
    have f13 : Fld Z h10 o "java/lang/String" "coder" "B" (.int (0 : Int32)) := f6.same W10
    have f14 : Fld Z h10 o "java/lang/String" "value" "[B" .null := f7.other W10 (Or.inr (slot_ne (Or.inr (hw _ (List.mem_of_getElem? (i := 41) rfl))) (Or.inr (hw _ (List.mem_of_getElem? (i := 39) rfl))) (by decide) (t := (.array .byte)) (t' := .byte) (by decide) (by decide)))
    have f15 : Arv Z h10 x0 vkc .char (4 : Int32) [(.int cc0), (.int cc1), (.int cc2), (.int cc3)] (.int (0 : Int32)) := f8.other W10 (Ne.symm hno)
    have f16 : Arv Z h10 r3 kk3 .byte (4 : Int32) [(.int ((cc0.toInt8.toInt32).toInt8.toInt32)), (.int ((cc1.toInt8.toInt32).toInt8.toInt32)), (.int ((cc2.toInt8.toInt32).toInt8.toInt32)), (.int ((cc3.toInt8.toInt32).toInt8.toInt32))] (.int (0 : Int32)) := zV3.other W10 zne3
    have K10 : Keep h0 h10 [o] := K3.wr W10 (Or.inl (List.mem_of_getElem? (i := 0) rfl))
    have Zs10 : n0 ≤ h10.size := Nat.le_trans Z0 K10.1
    refine own_st (T' := T10) (F' := (mkF m 51 #[.val (.ref o), .val (.ref x0), .val (.int (0 : Int32)), .val (.int (4 : Int32)), .val .null, .val (.ref r3)] [])) (fun _ k => st10 _ k) ?_
    refine own_st (T' := T10) (F' := (mkF m 52 #[.val (.ref o), .val (.ref x0), .val (.int (0 : Int32)), .val (.int (4 : Int32)), .val .null, .val (.ref r3)] [(.ref o)])) (fun _ k => XS.aloadN X10.here hx rfl (hb hby d4t4_51) rfl rfl k) ?_
    refine own_st (T' := T10) (F' := (mkF m 54 #[.val (.ref o), .val (.ref x0), .val (.int (0 : Int32)), .val (.int (4 : Int32)), .val .null, .val (.ref r3)] [(.ref r3), (.ref o)])) (fun _ k => XS.aload X10.here hx rfl (hb hby d4t4_52) rfl rfl k) ?_
    obtain ⟨T17, h17, X17, e17, W17, st17⟩ := putF X10 hx hZ hown (host := "") (Or.inl (hw _ (List.mem_of_getElem? (i := 40) rfl))) Via.refl e10 f14 f12 (Or.inr ⟨(hw _ (List.mem_of_getElem? (i := 41) rfl)), rfl, hnm⟩) (hw _ (List.mem_of_getElem? (i := 13) rfl)) (ty := (.array .byte)) (by decide) rfl rfl (g := (mkF m 54 #[.val (.ref o), .val (.ref x0), .val (.int (0 : Int32)), .val (.int (4 : Int32)), .val .null, .val (.ref r3)] [(.ref r3), (.ref o)])) rfl rfl (hb hby d4t4_54)
    have N17 := Fr.snoc X17 N10 hge
    have f18 : Sta Z h17 "java/lang/String" "COMPACT_STRINGS" "Z" (.int cs) := f11.wr W17
    have f19 : Exa Z h17 o "java/lang/String" := f12.wr W17
    have f20 : Fld Z h17 o "java/lang/String" "coder" "B" (.int (0 : Int32)) := f13.other W17 (Or.inr (slot_ne (Or.inr (hw _ (List.mem_of_getElem? (i := 39) rfl))) (Or.inr (hw _ (List.mem_of_getElem? (i := 41) rfl))) (by decide) (t := .byte) (t' := (.array .byte)) (by decide) (by decide)))
    have f21 : Fld Z h17 o "java/lang/String" "value" "[B" (.ref r3) := f14.same W17
    have f22 : Arv Z h17 x0 vkc .char (4 : Int32) [(.int cc0), (.int cc1), (.int cc2), (.int cc3)] (.int (0 : Int32)) := f15.other W17 (Ne.symm hno)
    have f23 : Arv Z h17 r3 kk3 .byte (4 : Int32) [(.int ((cc0.toInt8.toInt32).toInt8.toInt32)), (.int ((cc1.toInt8.toInt32).toInt8.toInt32)), (.int ((cc2.toInt8.toInt32).toInt8.toInt32)), (.int ((cc3.toInt8.toInt32).toInt8.toInt32))] (.int (0 : Int32)) := f16.other W17 zne3
    have K17 : Keep h0 h17 [o] := K10.wr W17 (Or.inl (List.mem_of_getElem? (i := 0) rfl))
    have Zs17 : n0 ≤ h17.size := Nat.le_trans Z0 K17.1
    refine own_st (T' := T17) (F' := (mkF m 57 #[.val (.ref o), .val (.ref x0), .val (.int (0 : Int32)), .val (.int (4 : Int32)), .val .null, .val (.ref r3)] [])) (fun _ k => st17 _ k) ?_
    refine own_retV X17 hx hlk Bd.returns (hb hby d4t4_57) ?_ (by decide) (by decide)
    rw [e17]
    refine ⟨rfl, N17, K17, f20, ?_⟩
    exact ⟨_, _, [((cc0.toInt8.toInt32).toInt8.toInt32), ((cc1.toInt8.toInt32).toInt8.toInt32), ((cc2.toInt8.toInt32).toInt8.toInt32), ((cc3.toInt8.toInt32).toInt8.toInt32)], f21, f23⟩
theorem d3t4_0 : decode jdk_42_method_3_code 0 = .ok (.aload_n 0, 1) := by decide +kernel
theorem d3t4_1 : decode jdk_42_method_3_code 1 = .ok (.aload_n 1, 1) := by decide +kernel
theorem d3t4_2 : decode jdk_42_method_3_code 2 = .ok (.iconst 0, 1) := by decide +kernel
theorem d3t4_3 : decode jdk_42_method_3_code 3 = .ok (.aload_n 1, 1) := by decide +kernel
theorem d3t4_4 : decode jdk_42_method_3_code 4 = .ok (.arraylength, 1) := by decide +kernel
theorem d3t4_5 : decode jdk_42_method_3_code 5 = .ok (.aconst_null, 1) := by decide +kernel
theorem d3t4_6 : decode jdk_42_method_3_code 6 = .ok (.invokespecial 27, 3) := by decide +kernel
theorem d3t4_9 : decode jdk_42_method_3_code 9 = .ok (.return_, 1) := by decide +kernel
theorem own_pn3t4 : plainName "java/lang/String" = true := by first | (simp [plainName, overriddenIn]; done) | decide +kernel
theorem own_ef3t4 (m : MethodId) (o : Addr) (x0 : Addr) : entryFrame m #[(.ref o), (.ref x0)] 2 = (mkF m 0 #[.val (.ref o), .val (.ref x0)] []) := by first | (simp [entryFrame, mkF, argsToLocals, Value.category]; done) | rfl
def Q3t4 (Z : State) (o : Addr) (x0 : Addr) (cs : Int32) (vkc : ClassId) (cc0 : Int32) (cc1 : Int32) (cc2 : Int32) (cc3 : Int32) (h0 : Heap) (n0 : Nat) (v : Option Value) (h : Heap) (L : List Loc) : Prop := v = none ∧ Fr n0 L ∧ Keep h0 h [o] ∧ Fld Z h o "java/lang/String" "coder" "B" (.int (0 : Int32)) ∧ (∃ (b : Addr) (kb : ClassId) (g : List Int32), Fld Z h o "java/lang/String" "value" "[B" (.ref b) ∧ Arv Z h b kb .byte (4 : Int32) (g.map Value.int) (.int (0 : Int32)))
set_option maxRecDepth 65536 in
set_option maxHeartbeats 40000000 in
theorem rm3t4 (l : Launch) (Z : State) (a0 : Array Value) (hw : ∀ d ∈ tables_1, d.before a0 Z = true) (ws : List Jvm.Cond) (o : Addr) (x0 : Addr) (cs : Int32) (vkc : ClassId) (cc0 : Int32) (cc1 : Int32) (cc2 : Int32) (cc3 : Int32) (h0 : Heap) (n0 : Nat) (Z0 : n0 ≤ h0.size) (S_cs : Sta Z h0 "java/lang/String" "COMPACT_STRINGS" "Z" (.int cs)) (hcs : ¬ (cs = 0)) (hge : n0 ≤ o) (hno : o ≠ x0) (hEo : Exa Z h0 o "java/lang/String") (hFc : Fld Z h0 o "java/lang/String" "coder" "B" (.int (0 : Int32))) (hFv : Fld Z h0 o "java/lang/String" "value" "[B" .null) (V_c : Arv Z h0 x0 vkc .char (4 : Int32) [(.int cc0), (.int cc1), (.int cc2), (.int cc3)] (.int (0 : Int32))) (h255_0 : ¬ ((255 : Int32) < cc0)) (h255_1 : ¬ ((255 : Int32) < cc1)) (h255_2 : ¬ ((255 : Int32) < cc2)) (h255_3 : ¬ ((255 : Int32) < cc3)) :
    MetFree l (⟨"java/lang/String", "<init>", "([C)V"⟩ : MethodName) (head1 (Jvm.Cond.code (⟨"java/lang/String", "<init>", "([C)V"⟩ : MethodName) jdk_42_method_3_code 2 none :: ws) ({ frames := 3, cells := 1, slots := 4, locals := 52 } : Room)) (fun a U => a = #[(.ref o), (.ref x0)] ∧ Z.Warmed39 U.vm ∧ U.heap = h0) (fun _ _ _ _ _ => True) (fun _ U oc U' => ∃ v L, oc = .returned v ∧ Q3t4 Z o x0 cs vkc cc0 cc1 cc2 cc3 h0 n0 v U'.heap L ∧ FrameEnd U oc U' L ({ frames := 3, cells := 1, slots := 4, locals := 52 } : Room).cells ({ frames := 3, cells := 1, slots := 4, locals := 52 } : Room).slots) := by
  refine MetFree.of_bodySF (plainFor_of_name own_pn3t4) hisR ?_
  intro p e s m args below meth c s₁ Bd hml0 hP hK
  obtain ⟨rfl, hZ, hh⟩ := hP
  have hx := Bd.exec
  have hby := Bd.bytes
  have hlk : meth.locks = false := BodyLoose.notSynchronized Bd
  have hml : c.maxLocals = 2 := hml0
  have hown : s.vm.findClass "java/lang/String" = some m.cls := findClass_of_methodNamed Bd.named
  have hnm := (name_of_methodNamed Bd.named Bd.method).1
  have X0 : Stand p l e ({ frames := 3, cells := 1, slots := 4, locals := 52 } : Room) s m #[(.ref o), (.ref x0)] below meth c s₁ [] 0 0 := Stand.of_body Bd
  have e0 : s₁.heap = h0 := by rw [← hh, Bd.state]; rfl
  have N0 := Fr.nil n0
  refine own_enter (own_ef3t4 m o x0) ?_
  show own_Go p e below (own_E s (Q3t4 Z o x0 cs vkc cc0 cc1 cc2 cc3 h0 n0) ({ frames := 3, cells := 1, slots := 4, locals := 52 } : Room).cells ({ frames := 3, cells := 1, slots := 4, locals := 52 } : Room).slots) s₁ (mkF m 0 #[.val (.ref o), .val (.ref x0)] [])
  refine own_st (T' := s₁) (F' := (mkF m 1 #[.val (.ref o), .val (.ref x0)] [(.ref o)])) (fun _ k => XS.aloadN X0.here hx rfl (hb hby d3t4_0) rfl rfl k) ?_
  refine own_st (T' := s₁) (F' := (mkF m 2 #[.val (.ref o), .val (.ref x0)] [(.ref x0), (.ref o)])) (fun _ k => XS.aloadN X0.here hx rfl (hb hby d3t4_1) rfl rfl k) ?_
  refine own_st (T' := s₁) (F' := (mkF m 3 #[.val (.ref o), .val (.ref x0)] [(.int (0 : Int32)), (.ref x0), (.ref o)])) (fun _ k => XS.iconst X0.here hx rfl (hb hby d3t4_2) k) ?_
  refine own_st (T' := s₁) (F' := (mkF m 4 #[.val (.ref o), .val (.ref x0)] [(.ref x0), (.int (0 : Int32)), (.ref x0), (.ref o)])) (fun _ k => XS.aloadN X0.here hx rfl (hb hby d3t4_3) rfl rfl k) ?_
  obtain ⟨cl1, Ar1, Aq1, As1, Am1, Ah1, Au1⟩ := id V_c
  refine own_st (T' := s₁) (F' := (mkF m 5 #[.val (.ref o), .val (.ref x0)] [(.int (4 : Int32)), (.int (0 : Int32)), (.ref x0), (.ref o)])) (fun _ k => X0.arraylength hx (cell := cl1) (by rw [e0]; exact Ar1.1) (State.isArrayOf_alike hZ.alike Ar1.2.1) (g := (mkF m 4 #[.val (.ref o), .val (.ref x0)] [(.ref x0), (.int (0 : Int32)), (.ref x0), (.ref o)])) rfl (rest := [(.int (0 : Int32)), (.ref x0), (.ref o)]) rfl (hb hby d3t4_4) _ (by rw [len_of As1 Am1]; exact k)) ?_
  refine own_st (T' := s₁) (F' := (mkF m 6 #[.val (.ref o), .val (.ref x0)] [.null, (.int (4 : Int32)), (.int (0 : Int32)), (.ref x0), (.ref o)])) (fun _ k => XS.aconstNull X0.here hx rfl (hb hby d3t4_5) k) ?_
  obtain ⟨_, _, ⟨T2, L2, k2, n2⟩, -, X2, ⟨Lc2, hQ2, l2, y2, z2⟩, st2⟩ := X0.specialBack hx (y := (⟨"java/lang/String", "<init>", "([CIILjava/lang/Void;)V"⟩ : MethodName)) rfl hown (mvT hZ (hw _ (List.mem_of_getElem? (i := 19) rfl))) (mvT hZ (hw _ (List.mem_of_getElem? (i := 20) rfl))) (mvT hZ (hw _ (List.mem_of_getElem? (i := 22) rfl))) (by decide) (backOf (W := 0) (rm4t4 l Z a0 hw [] o x0 cs vkc cc0 cc1 cc2 cc3 h0 n0 Z0 S_cs hcs hge hno hEo hFc hFv V_c h255_0 h255_1 h255_2 h255_3) hZ (hw _ (List.mem_of_getElem? (i := 22) rfl)) (hw _ (List.mem_of_getElem? (i := 14) rfl)) (by decide) (by decide)) (g := (mkF m 6 #[.val (.ref o), .val (.ref x0)] [.null, (.int (4 : Int32)), (.int (0 : Int32)), (.ref x0), (.ref o)])) rfl (by rw [hml]; rfl) (Steps.refl _) (a := o) (argsL := [(.ref x0), (.int (0 : Int32)), (.int (4 : Int32)), .null]) (rest := []) (lenOf own_pd11 rfl) rfl (by show 2 * 0 + _ ≤ _; exact Nat.le_of_eq rfl) (hb hby d3t4_6) (fun _ _ => ⟨rfl, e0, (by decide : 0 + 1 ≤ _), (by decide : 0 + 4 ≤ _)⟩)
  dsimp only [Pt.U, Pt.locs, Pt.cells, Pt.slots] at X2 l2 y2 z2 st2 hQ2
  subst l2 y2 z2
  obtain ⟨rfl, Nq2, g2_0, g2_1, g2_2⟩ := hQ2
  have N2 := Fr.app N0 Nq2
  have f3 : Sta Z T2.heap "java/lang/String" "COMPACT_STRINGS" "Z" (.int cs) := own_stk S_cs g2_0 (allS (own_npE hEo) all0)
  have f4 : Exa Z T2.heap o "java/lang/String" := hEo.keep g2_0
  have f5 : Arv Z T2.heap x0 vkc .char (4 : Int32) [(.int cc0), (.int cc1), (.int cc2), (.int cc3)] (.int (0 : Int32)) := V_c.keep g2_0 (ninS (Ne.symm hno) nin0)
  have K2 : Keep h0 T2.heap [o] := (Keep.refl h0 [o]).trans g2_0 (allS (Or.inl (List.mem_of_getElem? (i := 0) rfl)) all0)
  have Zs2 : n0 ≤ T2.heap.size := Nat.le_trans Z0 K2.1
  obtain ⟨vv2, vk2, gg2, fv2, av2⟩ := id g2_2
  refine own_tr (T' := T2) (F' := (mkF m 9 #[.val (.ref o), .val (.ref x0)] [])) st2 ?_
  refine own_retV X2 hx hlk Bd.returns (hb hby d3t4_9) ?_ (by decide) (by decide)
  show Q3t4 Z o x0 cs vkc cc0 cc1 cc2 cc3 h0 n0 _ T2.heap _
  refine ⟨rfl, N2, K2, g2_1, ?_⟩
  exact g2_2
theorem d4te_0 : decode jdk_42_method_149_code 0 = .ok (.aload_n 0, 1) := by decide +kernel
theorem d4te_1 : decode jdk_42_method_149_code 1 = .ok (.invokespecial 1, 3) := by decide +kernel
theorem d4te_4 : decode jdk_42_method_149_code 4 = .ok (.iload_n 3, 1) := by decide +kernel
theorem d4te_5 : decode jdk_42_method_149_code 5 = .ok (.ifCond .ne 22, 3) := by decide +kernel
theorem d4te_8 : decode jdk_42_method_149_code 8 = .ok (.aload_n 0, 1) := by decide +kernel
theorem d4te_9 : decode jdk_42_method_149_code 9 = .ok (.ldc 7, 2) := by decide +kernel
theorem d4te_11 : decode jdk_42_method_149_code 11 = .ok (.getfield 9, 3) := by decide +kernel
theorem d4te_14 : decode jdk_42_method_149_code 14 = .ok (.putfield 9, 3) := by decide +kernel
theorem d4te_17 : decode jdk_42_method_149_code 17 = .ok (.aload_n 0, 1) := by decide +kernel
theorem d4te_18 : decode jdk_42_method_149_code 18 = .ok (.ldc 7, 2) := by decide +kernel
theorem d4te_20 : decode jdk_42_method_149_code 20 = .ok (.getfield 15, 3) := by decide +kernel
theorem d4te_23 : decode jdk_42_method_149_code 23 = .ok (.putfield 15, 3) := by decide +kernel
theorem d4te_26 : decode jdk_42_method_149_code 26 = .ok (.return_, 1) := by decide +kernel
theorem own_pn4te : plainName "java/lang/String" = true := by first | (simp [plainName, overriddenIn]; done) | decide +kernel
theorem own_ef4te (m : MethodId) (o : Addr) (x0 : Addr) : entryFrame m #[(.ref o), (.ref x0), (.int (0 : Int32)), (.int (0 : Int32)), .null] 6 = (mkF m 0 #[.val (.ref o), .val (.ref x0), .val (.int (0 : Int32)), .val (.int (0 : Int32)), .val .null, .unset] []) := by first | (simp [entryFrame, mkF, argsToLocals, Value.category]; done) | rfl
def Q4te (Z : State) (o : Addr) (x0 : Addr)  (h0 : Heap) (n0 : Nat) (v : Option Value) (h : Heap) (L : List Loc) : Prop := v = none ∧ Fr n0 L ∧ Keep h0 h [o] ∧ Fld Z h o "java/lang/String" "coder" "B" (.int (0 : Int32)) ∧ (∃ (b : Addr) (kb : ClassId) (g : List Int32), Fld Z h o "java/lang/String" "value" "[B" (.ref b) ∧ Arv Z h b kb .byte (0 : Int32) (g.map Value.int) (.int (0 : Int32)))
set_option maxRecDepth 65536 in
set_option maxHeartbeats 40000000 in
theorem rm4te (l : Launch) (Z : State) (a0 : Array Value) (hw : ∀ d ∈ tables_1, d.before a0 Z = true) (ws : List Jvm.Cond) (o : Addr) (x0 : Addr)  (h0 : Heap) (n0 : Nat) (Z0 : n0 ≤ h0.size) (hge : n0 ≤ o) (hEo : Exa Z h0 o "java/lang/String") (hFc : Fld Z h0 o "java/lang/String" "coder" "B" (.int (0 : Int32))) (hFv : Fld Z h0 o "java/lang/String" "value" "[B" .null) :
    MetFree l (⟨"java/lang/String", "<init>", "([CIILjava/lang/Void;)V"⟩ : MethodName) (head1 (Jvm.Cond.code (⟨"java/lang/String", "<init>", "([CIILjava/lang/Void;)V"⟩ : MethodName) jdk_42_method_149_code 6 none :: ws) ({ frames := 1, cells := 4, slots := 8, locals := 12 } : Room)) (fun a U => a = #[(.ref o), (.ref x0), (.int (0 : Int32)), (.int (0 : Int32)), .null] ∧ Z.Warmed39 U.vm ∧ U.heap = h0 ∧ CHv Z own_EL U.vm h0) (fun _ _ _ _ _ => True) (fun _ U oc U' => ∃ v L, oc = .returned v ∧ Q4te Z o x0  h0 n0 v U'.heap L ∧ CHr Z own_EL U.vm U.heap U'.vm U'.heap ∧ ReturnedEndW U oc U' L ({ frames := 1, cells := 4, slots := 8, locals := 12 } : Room).cells ({ frames := 1, cells := 4, slots := 8, locals := 12 } : Room).slots) := by
  refine MetFree.of_bodySF (plainFor_of_name own_pn4te) hisR ?_
  intro p e s m args below meth c s₁ Bd hml0 hP hK
  obtain ⟨rfl, hZ, hh, hCH0⟩ := hP
  have hx := Bd.exec
  have hby := Bd.bytes
  have hlk : meth.locks = false := BodyLoose.notSynchronized Bd
  have hml : c.maxLocals = 6 := hml0
  have hown : s.vm.findClass "java/lang/String" = some m.cls := findClass_of_methodNamed Bd.named
  have hnm := (name_of_methodNamed Bd.named Bd.method).1
  have X0 : Stand p l e ({ frames := 1, cells := 4, slots := 8, locals := 12 } : Room) (s.setVm s.vm) m #[(.ref o), (.ref x0), (.int (0 : Int32)), (.int (0 : Int32)), .null] below meth c s₁ [] 0 0 := Stand.of_body Bd
  have e0 : s₁.heap = h0 := by rw [← hh, Bd.state]; rfl
  have N0 := Fr.nil n0
  have hS0 : s.Since s.vm 0 := (State.WarmedH.refl s).since 0
  have hk0 : 0 ≤ h0.size := Nat.zero_le _
  have C0 : CHr Z own_EL s.vm s.heap s.vm h0 := by rw [hh]; exact CHr.refl hCH0
  have hEL : EW Z a0 own_EL := own_hEL hw
  have wS := own_wS hw
  refine own_enter (own_ef4te m o x0) ?_
  show own_Go p e below (own_ES s Z own_EL (Q4te Z o x0  h0 n0) ({ frames := 1, cells := 4, slots := 8, locals := 12 } : Room).cells ({ frames := 1, cells := 4, slots := 8, locals := 12 } : Room).slots) s₁ (mkF m 0 #[.val (.ref o), .val (.ref x0), .val (.int (0 : Int32)), .val (.int (0 : Int32)), .val .null, .unset] [])
  refine own_st (T' := s₁) (F' := (mkF m 1 #[.val (.ref o), .val (.ref x0), .val (.int (0 : Int32)), .val (.int (0 : Int32)), .val .null, .unset] [(.ref o)])) (fun _ k => XS.aloadN X0.here hx rfl (hb hby d4te_0) rfl rfl k) ?_
  obtain ⟨T1, X1, e1, st1⟩ := initO X0 hx hZ hown (hw _ (List.mem_of_getElem? (i := 23) rfl)) (hw _ (List.mem_of_getElem? (i := 24) rfl)) (hw _ (List.mem_of_getElem? (i := 25) rfl)) e0 (g := (mkF m 1 #[.val (.ref o), .val (.ref x0), .val (.int (0 : Int32)), .val (.int (0 : Int32)), .val .null, .unset] [(.ref o)])) rfl (by rw [hml]; rfl) rfl (hb hby d4te_1) (by decide) (W := 0) (by show 2 * 0 + _ ≤ _; exact Nat.le_of_eq rfl) (by decide)
  refine own_st (T' := T1) (F' := (mkF m 4 #[.val (.ref o), .val (.ref x0), .val (.int (0 : Int32)), .val (.int (0 : Int32)), .val .null, .unset] [])) (fun _ k => st1 _ k) ?_
  refine own_st (T' := T1) (F' := (mkF m 5 #[.val (.ref o), .val (.ref x0), .val (.int (0 : Int32)), .val (.int (0 : Int32)), .val .null, .unset] [(.int (0 : Int32))])) (fun _ k => XS.iloadN X1.here hx rfl (hb hby d4te_4) rfl  k) ?_
  refine own_ifc X1 hx (pc' := 27) (pc2 := 8) (hb hby d4te_5) (by decide) (by decide) rfl (fun (hc5 : ¬ ((0 : Int32) = (0 : Int32))) => ?_) (fun (hc5 : (0 : Int32) = (0 : Int32)) => ?_)
  · exact absurd hc5 (by decide)
  refine own_st (T' := T1) (F' := (mkF m 9 #[.val (.ref o), .val (.ref x0), .val (.int (0 : Int32)), .val (.int (0 : Int32)), .val .null, .unset] [(.ref o)])) (fun _ k => XS.aloadN X1.here hx rfl (hb hby d4te_8) rfl rfl k) ?_
  have Y2_o : Safe Z own_EL _ h0 o := own_safe0 hZ.alike hEo hFv
  obtain ⟨a2, T2, h2, k2, b2, kk2, X2, e2, E2, hS2, hk2, hZ, hown, A2, f2a, f2b, V2, lt2a, lt2b, C2a, Lt2, Sf2, st2⟩ := ldcCH X1 hx hZ hown (hw _ (List.mem_of_getElem? (i := 88) rfl)) wS e1 hS0 hk0 hEL (List.mem_of_getElem? (i := 8) rfl) C0.1 (vs := (own_sE.map Value.int)) (z := (0 : Int32)) (own_lit8) (by decide) (by decide) (g := (mkF m 9 #[.val (.ref o), .val (.ref x0), .val (.int (0 : Int32)), .val (.int (0 : Int32)), .val .null, .unset] [(.ref o)])) rfl (hb hby d4te_9) (n := 0) (by decide) (by decide) (by decide) (by decide)
  have f3 : Exa Z h2 o "java/lang/String" := hEo.ext E2
  have f4 : Fld Z h2 o "java/lang/String" "coder" "B" (.int (0 : Int32)) := hFc.ext E2
  have f5 : Fld Z h2 o "java/lang/String" "value" "[B" .null := hFv.ext E2
  have K2 : Keep h0 h2 [o] := (Keep.refl h0 [o]).ext E2
  have Zs2 : n0 ≤ h2.size := Nat.le_trans Z0 K2.1
  have C2 := C0.trans C2a
  have Y2_0 : Safe Z own_EL _ h2 o := C2a.safe hEo.lt Y2_o
  refine own_st (T' := T2) (F' := (mkF m 11 #[.val (.ref o), .val (.ref x0), .val (.int (0 : Int32)), .val (.int (0 : Int32)), .val .null, .unset] [(.ref a2), (.ref o)])) (fun _ k => st2 _ k) ?_
  obtain ⟨T6, X6, e6, st6⟩ := getF X2 hx hZ hown (host := "") (Or.inl (hw _ (List.mem_of_getElem? (i := 40) rfl))) Via.refl e2 f2b (g := (mkF m 11 #[.val (.ref o), .val (.ref x0), .val (.int (0 : Int32)), .val (.int (0 : Int32)), .val .null, .unset] [(.ref a2), (.ref o)])) rfl rfl (hb hby d4te_11)
  refine own_st (T' := T6) (F' := (mkF m 14 #[.val (.ref o), .val (.ref x0), .val (.int (0 : Int32)), .val (.int (0 : Int32)), .val .null, .unset] [(.ref b2), (.ref o)])) (fun _ k => st6 _ k) ?_
  obtain ⟨T7, h7, X7, e7, W7, st7⟩ := putF X6 hx hZ hown (host := "") (Or.inl (hw _ (List.mem_of_getElem? (i := 40) rfl))) Via.refl e6 f5 f3 (Or.inr ⟨(hw _ (List.mem_of_getElem? (i := 41) rfl)), rfl, hnm⟩) (hw _ (List.mem_of_getElem? (i := 13) rfl)) (ty := (.array .byte)) (by decide) rfl rfl (g := (mkF m 14 #[.val (.ref o), .val (.ref x0), .val (.int (0 : Int32)), .val (.int (0 : Int32)), .val .null, .unset] [(.ref b2), (.ref o)])) rfl rfl (hb hby d4te_14)
  have N7 := Fr.snoc X7 N0 hge
  have f8 : Exa Z h7 o "java/lang/String" := f3.wr W7
  have f9 : Fld Z h7 o "java/lang/String" "coder" "B" (.int (0 : Int32)) := f4.other W7 (Or.inr (slot_ne (Or.inr (hw _ (List.mem_of_getElem? (i := 39) rfl))) (Or.inr (hw _ (List.mem_of_getElem? (i := 41) rfl))) (by decide) (t := .byte) (t' := (.array .byte)) (by decide) (by decide)))
  have f10 : Fld Z h7 o "java/lang/String" "value" "[B" (.ref b2) := f5.same W7
  have f11 : Exa Z h7 a2 "java/lang/String" := A2.wr W7
  have f12 : Fld Z h7 a2 "java/lang/String" "coder" "B" (.int (0 : Int32)) := f2a.other W7 (Or.inl (Ne.symm (Sf2 _ Y2_0).1))
  have f13 : Fld Z h7 a2 "java/lang/String" "value" "[B" (.ref b2) := f2b.other W7 (Or.inl (Ne.symm (Sf2 _ Y2_0).1))
  have f14 : Arv Z h7 b2 kk2 .byte (0 : Int32) (own_sE.map Value.int) (.int (0 : Int32)) := V2.other W7 (Ne.symm (Sf2 _ Y2_0).2)
  have K7 : Keep h0 h7 [o] := K2.wr W7 (Or.inl (List.mem_of_getElem? (i := 0) rfl))
  have Zs7 : n0 ≤ h7.size := Nat.le_trans Z0 K7.1
  have Y7_0 : Safe Z own_EL _ h7 o := Safe.wr W7 Y2_0 C2.1 Y2_0
  have Cs7 := CHr.wr W7 Y2_0 C2.1
  have C7 := C2.trans Cs7
  have hk7 := Nat.le_trans hk2 Cs7.2.1
  refine own_st (T' := T7) (F' := (mkF m 17 #[.val (.ref o), .val (.ref x0), .val (.int (0 : Int32)), .val (.int (0 : Int32)), .val .null, .unset] [])) (fun _ k => st7 _ k) ?_
  refine own_st (T' := T7) (F' := (mkF m 18 #[.val (.ref o), .val (.ref x0), .val (.int (0 : Int32)), .val (.int (0 : Int32)), .val .null, .unset] [(.ref o)])) (fun _ k => XS.aloadN X7.here hx rfl (hb hby d4te_17) rfl rfl k) ?_
  obtain ⟨a15, T15, h15, k15, b15, kk15, X15, e15, E15, hS15, hk15, hZ, hown, A15, f15a, f15b, V15, lt15a, lt15b, C15a, Lt15, Sf15, st15⟩ := ldcCH X7 hx hZ hown (hw _ (List.mem_of_getElem? (i := 88) rfl)) wS e7 hS2 hk7 hEL (List.mem_of_getElem? (i := 8) rfl) C7.1 (vs := (own_sE.map Value.int)) (z := (0 : Int32)) (own_lit8) (by decide) (by decide) (g := (mkF m 18 #[.val (.ref o), .val (.ref x0), .val (.int (0 : Int32)), .val (.int (0 : Int32)), .val .null, .unset] [(.ref o)])) rfl (hb hby d4te_18) (n := 0) (by decide) (by decide) (by decide) (by decide)
  have f16 : Exa Z h15 o "java/lang/String" := f8.ext E15
  have f17 : Fld Z h15 o "java/lang/String" "coder" "B" (.int (0 : Int32)) := f9.ext E15
  have f18 : Fld Z h15 o "java/lang/String" "value" "[B" (.ref b2) := f10.ext E15
  have f19 : Exa Z h15 a2 "java/lang/String" := f11.ext E15
  have f20 : Fld Z h15 a2 "java/lang/String" "coder" "B" (.int (0 : Int32)) := f12.ext E15
  have f21 : Fld Z h15 a2 "java/lang/String" "value" "[B" (.ref b2) := f13.ext E15
  have f22 : Arv Z h15 b2 kk2 .byte (0 : Int32) (own_sE.map Value.int) (.int (0 : Int32)) := f14.ext E15
  have K15 : Keep h0 h15 [o] := K7.ext E15
  have Zs15 : n0 ≤ h15.size := Nat.le_trans Z0 K15.1
  have C15 := C7.trans C15a
  have Y15_0 : Safe Z own_EL _ h15 o := C15a.safe f8.lt Y7_0
  refine own_st (T' := T15) (F' := (mkF m 20 #[.val (.ref o), .val (.ref x0), .val (.int (0 : Int32)), .val (.int (0 : Int32)), .val .null, .unset] [(.ref a15), (.ref o)])) (fun _ k => st15 _ k) ?_
  obtain ⟨T23, X23, e23, st23⟩ := getF X15 hx hZ hown (host := "") (Or.inl (hw _ (List.mem_of_getElem? (i := 38) rfl))) Via.refl e15 f15a (g := (mkF m 20 #[.val (.ref o), .val (.ref x0), .val (.int (0 : Int32)), .val (.int (0 : Int32)), .val .null, .unset] [(.ref a15), (.ref o)])) rfl rfl (hb hby d4te_20)
  refine own_st (T' := T23) (F' := (mkF m 23 #[.val (.ref o), .val (.ref x0), .val (.int (0 : Int32)), .val (.int (0 : Int32)), .val .null, .unset] [(.int (0 : Int32)), (.ref o)])) (fun _ k => st23 _ k) ?_
  obtain ⟨T24, h24, X24, e24, W24, st24⟩ := putFN X23 hx hZ hown (hw _ (List.mem_of_getElem? (i := 38) rfl)) Via.refl e23 f17 f16 (Or.inr ⟨(hw _ (List.mem_of_getElem? (i := 39) rfl)), rfl, hnm⟩) (hw _ (List.mem_of_getElem? (i := 13) rfl)) (ty := .byte) (v' := (.int (nar .byte (0 : Int32)))) (by decide) rfl (fits_nar_byte _) (g := (mkF m 23 #[.val (.ref o), .val (.ref x0), .val (.int (0 : Int32)), .val (.int (0 : Int32)), .val .null, .unset] [(.int (0 : Int32)), (.ref o)])) rfl rfl (hb hby d4te_23)
  have N24 := Fr.snoc X24 N7 hge
  have f25 : Exa Z h24 o "java/lang/String" := f16.wr W24
  have f26 : Fld Z h24 o "java/lang/String" "coder" "B" (.int (0 : Int32)) := f17.same W24
  have f27 : Fld Z h24 o "java/lang/String" "value" "[B" (.ref b2) := f18.other W24 (Or.inr (slot_ne (Or.inr (hw _ (List.mem_of_getElem? (i := 41) rfl))) (Or.inr (hw _ (List.mem_of_getElem? (i := 39) rfl))) (by decide) (t := (.array .byte)) (t' := .byte) (by decide) (by decide)))
  have f28 : Exa Z h24 a2 "java/lang/String" := f19.wr W24
  have f29 : Fld Z h24 a2 "java/lang/String" "coder" "B" (.int (0 : Int32)) := f20.other W24 (Or.inl (Ne.symm (Sf2 _ Y2_0).1))
  have f30 : Fld Z h24 a2 "java/lang/String" "value" "[B" (.ref b2) := f21.other W24 (Or.inl (Ne.symm (Sf2 _ Y2_0).1))
  have f31 : Arv Z h24 b2 kk2 .byte (0 : Int32) (own_sE.map Value.int) (.int (0 : Int32)) := f22.other W24 (Ne.symm (Sf2 _ Y2_0).2)
  have f32 : Exa Z h24 a15 "java/lang/String" := A15.wr W24
  have f33 : Fld Z h24 a15 "java/lang/String" "coder" "B" (.int (0 : Int32)) := f15a.other W24 (Or.inl (Ne.symm (Sf15 _ Y15_0).1))
  have f34 : Fld Z h24 a15 "java/lang/String" "value" "[B" (.ref b15) := f15b.other W24 (Or.inl (Ne.symm (Sf15 _ Y15_0).1))
  have f35 : Arv Z h24 b15 kk15 .byte (0 : Int32) (own_sE.map Value.int) (.int (0 : Int32)) := V15.other W24 (Ne.symm (Sf15 _ Y15_0).2)
  have K24 : Keep h0 h24 [o] := K15.wr W24 (Or.inl (List.mem_of_getElem? (i := 0) rfl))
  have Zs24 : n0 ≤ h24.size := Nat.le_trans Z0 K24.1
  have Y24_0 : Safe Z own_EL _ h24 o := Safe.wr W24 Y15_0 C15.1 Y15_0
  have Cs24 := CHr.wr W24 Y15_0 C15.1
  have C24 := C15.trans Cs24
  have hk24 := Nat.le_trans hk15 Cs24.2.1
  refine own_st (T' := T24) (F' := (mkF m 26 #[.val (.ref o), .val (.ref x0), .val (.int (0 : Int32)), .val (.int (0 : Int32)), .val .null, .unset] [])) (fun _ k => st24 _ k) ?_
  refine own_sretV X24 hx hS15 (by rw [e24]; exact hk24) hlk Bd.returns (hb hby d4te_26) ?_ (by rw [e24]; exact C24.trans (CHv.at X24 hZ hEL C24.1)) (by decide) (by decide)
  rw [e24]
  refine ⟨rfl, N24, K24, f26, ?_⟩
  exact ⟨_, _, own_sE, f27, f31⟩
theorem d3te_0 : decode jdk_42_method_3_code 0 = .ok (.aload_n 0, 1) := by decide +kernel
theorem d3te_1 : decode jdk_42_method_3_code 1 = .ok (.aload_n 1, 1) := by decide +kernel
theorem d3te_2 : decode jdk_42_method_3_code 2 = .ok (.iconst 0, 1) := by decide +kernel
theorem d3te_3 : decode jdk_42_method_3_code 3 = .ok (.aload_n 1, 1) := by decide +kernel
theorem d3te_4 : decode jdk_42_method_3_code 4 = .ok (.arraylength, 1) := by decide +kernel
theorem d3te_5 : decode jdk_42_method_3_code 5 = .ok (.aconst_null, 1) := by decide +kernel
theorem d3te_6 : decode jdk_42_method_3_code 6 = .ok (.invokespecial 27, 3) := by decide +kernel
theorem d3te_9 : decode jdk_42_method_3_code 9 = .ok (.return_, 1) := by decide +kernel
theorem own_pn3te : plainName "java/lang/String" = true := by first | (simp [plainName, overriddenIn]; done) | decide +kernel
theorem own_ef3te (m : MethodId) (o : Addr) (x0 : Addr) : entryFrame m #[(.ref o), (.ref x0)] 2 = (mkF m 0 #[.val (.ref o), .val (.ref x0)] []) := by first | (simp [entryFrame, mkF, argsToLocals, Value.category]; done) | rfl
def Q3te (Z : State) (o : Addr) (x0 : Addr) (vkc : ClassId) (h0 : Heap) (n0 : Nat) (v : Option Value) (h : Heap) (L : List Loc) : Prop := v = none ∧ Fr n0 L ∧ Keep h0 h [o] ∧ Fld Z h o "java/lang/String" "coder" "B" (.int (0 : Int32)) ∧ (∃ (b : Addr) (kb : ClassId) (g : List Int32), Fld Z h o "java/lang/String" "value" "[B" (.ref b) ∧ Arv Z h b kb .byte (0 : Int32) (g.map Value.int) (.int (0 : Int32)))
set_option maxRecDepth 65536 in
set_option maxHeartbeats 40000000 in
theorem rm3te (l : Launch) (Z : State) (a0 : Array Value) (hw : ∀ d ∈ tables_1, d.before a0 Z = true) (ws : List Jvm.Cond) (o : Addr) (x0 : Addr) (vkc : ClassId) (h0 : Heap) (n0 : Nat) (Z0 : n0 ≤ h0.size) (hge : n0 ≤ o) (hEo : Exa Z h0 o "java/lang/String") (hFc : Fld Z h0 o "java/lang/String" "coder" "B" (.int (0 : Int32))) (hFv : Fld Z h0 o "java/lang/String" "value" "[B" .null) (hno : o ≠ x0) (V_c : Arv Z h0 x0 vkc .char (0 : Int32) [] (.int (0 : Int32))) :
    MetFree l (⟨"java/lang/String", "<init>", "([C)V"⟩ : MethodName) (head1 (Jvm.Cond.code (⟨"java/lang/String", "<init>", "([C)V"⟩ : MethodName) jdk_42_method_3_code 2 none :: ws) ({ frames := 2, cells := 4, slots := 8, locals := 29 } : Room)) (fun a U => a = #[(.ref o), (.ref x0)] ∧ Z.Warmed39 U.vm ∧ U.heap = h0 ∧ CHv Z own_EL U.vm h0) (fun _ _ _ _ _ => True) (fun _ U oc U' => ∃ v L, oc = .returned v ∧ Q3te Z o x0 vkc h0 n0 v U'.heap L ∧ CHr Z own_EL U.vm U.heap U'.vm U'.heap ∧ ReturnedEndW U oc U' L ({ frames := 2, cells := 4, slots := 8, locals := 29 } : Room).cells ({ frames := 2, cells := 4, slots := 8, locals := 29 } : Room).slots) := by
  refine MetFree.of_bodySF (plainFor_of_name own_pn3te) hisR ?_
  intro p e s m args below meth c s₁ Bd hml0 hP hK
  obtain ⟨rfl, hZ, hh, hCH0⟩ := hP
  have hx := Bd.exec
  have hby := Bd.bytes
  have hlk : meth.locks = false := BodyLoose.notSynchronized Bd
  have hml : c.maxLocals = 2 := hml0
  have hown : s.vm.findClass "java/lang/String" = some m.cls := findClass_of_methodNamed Bd.named
  have hnm := (name_of_methodNamed Bd.named Bd.method).1
  have X0 : Stand p l e ({ frames := 2, cells := 4, slots := 8, locals := 29 } : Room) (s.setVm s.vm) m #[(.ref o), (.ref x0)] below meth c s₁ [] 0 0 := Stand.of_body Bd
  have e0 : s₁.heap = h0 := by rw [← hh, Bd.state]; rfl
  have N0 := Fr.nil n0
  have hS0 : s.Since s.vm 0 := (State.WarmedH.refl s).since 0
  have hk0 : 0 ≤ h0.size := Nat.zero_le _
  have C0 : CHr Z own_EL s.vm s.heap s.vm h0 := by rw [hh]; exact CHr.refl hCH0
  have hEL : EW Z a0 own_EL := own_hEL hw
  have wS := own_wS hw
  refine own_enter (own_ef3te m o x0) ?_
  show own_Go p e below (own_ES s Z own_EL (Q3te Z o x0 vkc h0 n0) ({ frames := 2, cells := 4, slots := 8, locals := 29 } : Room).cells ({ frames := 2, cells := 4, slots := 8, locals := 29 } : Room).slots) s₁ (mkF m 0 #[.val (.ref o), .val (.ref x0)] [])
  refine own_st (T' := s₁) (F' := (mkF m 1 #[.val (.ref o), .val (.ref x0)] [(.ref o)])) (fun _ k => XS.aloadN X0.here hx rfl (hb hby d3te_0) rfl rfl k) ?_
  refine own_st (T' := s₁) (F' := (mkF m 2 #[.val (.ref o), .val (.ref x0)] [(.ref x0), (.ref o)])) (fun _ k => XS.aloadN X0.here hx rfl (hb hby d3te_1) rfl rfl k) ?_
  refine own_st (T' := s₁) (F' := (mkF m 3 #[.val (.ref o), .val (.ref x0)] [(.int (0 : Int32)), (.ref x0), (.ref o)])) (fun _ k => XS.iconst X0.here hx rfl (hb hby d3te_2) k) ?_
  refine own_st (T' := s₁) (F' := (mkF m 4 #[.val (.ref o), .val (.ref x0)] [(.ref x0), (.int (0 : Int32)), (.ref x0), (.ref o)])) (fun _ k => XS.aloadN X0.here hx rfl (hb hby d3te_3) rfl rfl k) ?_
  obtain ⟨cl1, Ar1, Aq1, As1, Am1, Ah1, Au1⟩ := id V_c
  refine own_st (T' := s₁) (F' := (mkF m 5 #[.val (.ref o), .val (.ref x0)] [(.int (0 : Int32)), (.int (0 : Int32)), (.ref x0), (.ref o)])) (fun _ k => X0.arraylength hx (cell := cl1) (by rw [e0]; exact Ar1.1) (State.isArrayOf_alike hZ.alike Ar1.2.1) (g := (mkF m 4 #[.val (.ref o), .val (.ref x0)] [(.ref x0), (.int (0 : Int32)), (.ref x0), (.ref o)])) rfl (rest := [(.int (0 : Int32)), (.ref x0), (.ref o)]) rfl (hb hby d3te_4) _ (by rw [len_of As1 Am1]; exact k)) ?_
  refine own_st (T' := s₁) (F' := (mkF m 6 #[.val (.ref o), .val (.ref x0)] [.null, (.int (0 : Int32)), (.int (0 : Int32)), (.ref x0), (.ref o)])) (fun _ k => XS.aconstNull X0.here hx rfl (hb hby d3te_5) k) ?_
  obtain ⟨_, _, ⟨T2, L2, k2, n2⟩, -, X2, hSa2, hgr2, ⟨Lc2, hQ2, l2, y2, z2, C2a⟩, st2⟩ := X0.specialBackS hx (y := (⟨"java/lang/String", "<init>", "([CIILjava/lang/Void;)V"⟩ : MethodName)) rfl hown (mvT hZ (hw _ (List.mem_of_getElem? (i := 19) rfl))) (mvT hZ (hw _ (List.mem_of_getElem? (i := 20) rfl))) (mvT hZ (hw _ (List.mem_of_getElem? (i := 22) rfl))) (by decide) (backOfSH (W := 0) (rm4te l Z a0 hw [] o x0  h0 n0 Z0 hge hEo hFc hFv) hZ (hw _ (List.mem_of_getElem? (i := 22) rfl)) (hw _ (List.mem_of_getElem? (i := 14) rfl)) (by decide) (by decide) hEL C0.1) (g := (mkF m 6 #[.val (.ref o), .val (.ref x0)] [.null, (.int (0 : Int32)), (.int (0 : Int32)), (.ref x0), (.ref o)])) rfl (by rw [hml]; rfl) (Steps.refl _) (a := o) (argsL := [(.ref x0), (.int (0 : Int32)), (.int (0 : Int32)), .null]) (rest := []) (lenOf own_pd11 rfl) rfl (by show 2 * 0 + _ ≤ _; exact Nat.le_of_eq rfl) (hb hby d3te_6) (fun _ _ => ⟨rfl, e0, (by decide : 0 + 4 ≤ _), (by decide : 0 + 8 ≤ _)⟩)
  dsimp only [Pt.U, Pt.locs, Pt.cells, Pt.slots] at X2 l2 y2 z2 st2 hQ2 hSa2 hgr2 C2a
  subst l2 y2 z2
  have X2 := (show Stand p l e ({ frames := 2, cells := 4, slots := 8, locals := 29 } : Room) (s.setVm T2.vm) m #[(.ref o), (.ref x0)] below meth c T2 _ _ _ from X2)
  have hS2 := foldS hS0 (by rw [e0]; exact hk0) hSa2 hgr2
  have hk2 : T2.heap.size ≤ T2.heap.size := Nat.le_refl _
  have C2 := C0.trans C2a
  have hown : T2.vm.findClass "java/lang/String" = some m.cls := by rw [hSa2.1.alike.findClass]; exact hown
  have hZ : Z.Warmed39 (s.setVm T2.vm).vm := State.Warmed39.trans hZ hSa2.1
  obtain ⟨rfl, Nq2, g2_0, g2_1, g2_2⟩ := hQ2
  have N2 := Fr.app N0 Nq2
  have f3 : Exa Z T2.heap o "java/lang/String" := hEo.keep g2_0
  have f4 : Arv Z T2.heap x0 vkc .char (0 : Int32) [] (.int (0 : Int32)) := V_c.keep g2_0 (ninS (Ne.symm hno) nin0)
  have K2 : Keep h0 T2.heap [o] := (Keep.refl h0 [o]).trans g2_0 (allS (Or.inl (List.mem_of_getElem? (i := 0) rfl)) all0)
  have Zs2 : n0 ≤ T2.heap.size := Nat.le_trans Z0 K2.1
  obtain ⟨vv2, vk2, gg2, fv2, av2⟩ := id g2_2
  refine own_tr (T' := T2) (F' := (mkF m 9 #[.val (.ref o), .val (.ref x0)] [])) st2 ?_
  refine own_sretV X2 hx hS2 (by exact hk2) hlk Bd.returns (hb hby d3te_9) ?_ (by exact C2.trans (CHv.at X2 hZ hEL C2.1)) (by decide) (by decide)
  show Q3te Z o x0 vkc h0 n0 _ T2.heap _
  refine ⟨rfl, N2, K2, g2_1, ?_⟩
  exact g2_2
theorem own_pd12 : parseMethodDescriptor "([C)V" = some ⟨[(.array .char)], none⟩ := by decide +kernel
theorem d2_0 : decode method_4_code 0 = .ok (.lload_n 1, 1) := by decide +kernel
theorem d2_1 : decode method_4_code 1 = .ok (.ldc2_w 84, 3) := by decide +kernel
theorem d2_4 : decode method_4_code 4 = .ok (.land, 1) := by decide +kernel
theorem d2_5 : decode method_4_code 5 = .ok (.l2i, 1) := by decide +kernel
theorem d2_6 : decode method_4_code 6 = .ok (.i2c, 1) := by decide +kernel
theorem d2_7 : decode method_4_code 7 = .ok (.istore_n 3, 1) := by decide +kernel
theorem d2_8 : decode method_4_code 8 = .ok (.lload_n 1, 1) := by decide +kernel
theorem d2_9 : decode method_4_code 9 = .ok (.bipush 8, 2) := by decide +kernel
theorem d2_11 : decode method_4_code 11 = .ok (.lushr, 1) := by decide +kernel
theorem d2_12 : decode method_4_code 12 = .ok (.ldc2_w 84, 3) := by decide +kernel
theorem d2_15 : decode method_4_code 15 = .ok (.land, 1) := by decide +kernel
theorem d2_16 : decode method_4_code 16 = .ok (.l2i, 1) := by decide +kernel
theorem d2_17 : decode method_4_code 17 = .ok (.i2c, 1) := by decide +kernel
theorem d2_18 : decode method_4_code 18 = .ok (.istore 4, 2) := by decide +kernel
theorem d2_20 : decode method_4_code 20 = .ok (.lload_n 1, 1) := by decide +kernel
theorem d2_21 : decode method_4_code 21 = .ok (.bipush 16, 2) := by decide +kernel
theorem d2_23 : decode method_4_code 23 = .ok (.lushr, 1) := by decide +kernel
theorem d2_24 : decode method_4_code 24 = .ok (.ldc2_w 84, 3) := by decide +kernel
theorem d2_27 : decode method_4_code 27 = .ok (.land, 1) := by decide +kernel
theorem d2_28 : decode method_4_code 28 = .ok (.l2i, 1) := by decide +kernel
theorem d2_29 : decode method_4_code 29 = .ok (.i2c, 1) := by decide +kernel
theorem d2_30 : decode method_4_code 30 = .ok (.istore 5, 2) := by decide +kernel
theorem d2_32 : decode method_4_code 32 = .ok (.lload_n 1, 1) := by decide +kernel
theorem d2_33 : decode method_4_code 33 = .ok (.bipush 24, 2) := by decide +kernel
theorem d2_35 : decode method_4_code 35 = .ok (.lushr, 1) := by decide +kernel
theorem d2_36 : decode method_4_code 36 = .ok (.ldc2_w 84, 3) := by decide +kernel
theorem d2_39 : decode method_4_code 39 = .ok (.land, 1) := by decide +kernel
theorem d2_40 : decode method_4_code 40 = .ok (.l2i, 1) := by decide +kernel
theorem d2_41 : decode method_4_code 41 = .ok (.i2c, 1) := by decide +kernel
theorem d2_42 : decode method_4_code 42 = .ok (.istore 6, 2) := by decide +kernel
theorem d2_44 : decode method_4_code 44 = .ok (.iload_n 0, 1) := by decide +kernel
theorem d2_45 : decode method_4_code 45 = .ok (.ifCond .ne 14, 3) := by decide +kernel
theorem d2_48 : decode method_4_code 48 = .ok (.new 86, 3) := by decide +kernel
theorem d2_51 : decode method_4_code 51 = .ok (.dup, 1) := by decide +kernel
theorem d2_52 : decode method_4_code 52 = .ok (.iconst 0, 1) := by decide +kernel
theorem d2_53 : decode method_4_code 53 = .ok (.newarray .char, 2) := by decide +kernel
theorem d2_55 : decode method_4_code 55 = .ok (.invokespecial 88, 3) := by decide +kernel
theorem d2_58 : decode method_4_code 58 = .ok (.areturn, 1) := by decide +kernel
theorem d2_59 : decode method_4_code 59 = .ok (.iload_n 0, 1) := by decide +kernel
theorem d2_60 : decode method_4_code 60 = .ok (.iconst 1, 1) := by decide +kernel
theorem d2_61 : decode method_4_code 61 = .ok (.if_icmp .ne 18, 3) := by decide +kernel
theorem d2_64 : decode method_4_code 64 = .ok (.new 86, 3) := by decide +kernel
theorem d2_67 : decode method_4_code 67 = .ok (.dup, 1) := by decide +kernel
theorem d2_68 : decode method_4_code 68 = .ok (.iconst 1, 1) := by decide +kernel
theorem d2_69 : decode method_4_code 69 = .ok (.newarray .char, 2) := by decide +kernel
theorem d2_71 : decode method_4_code 71 = .ok (.dup, 1) := by decide +kernel
theorem d2_72 : decode method_4_code 72 = .ok (.iconst 0, 1) := by decide +kernel
theorem d2_73 : decode method_4_code 73 = .ok (.iload_n 3, 1) := by decide +kernel
theorem d2_74 : decode method_4_code 74 = .ok (.castore, 1) := by decide +kernel
theorem d2_75 : decode method_4_code 75 = .ok (.invokespecial 88, 3) := by decide +kernel
theorem d2_78 : decode method_4_code 78 = .ok (.areturn, 1) := by decide +kernel
theorem d2_79 : decode method_4_code 79 = .ok (.iload_n 0, 1) := by decide +kernel
theorem d2_80 : decode method_4_code 80 = .ok (.iconst 2, 1) := by decide +kernel
theorem d2_81 : decode method_4_code 81 = .ok (.if_icmp .ne 23, 3) := by decide +kernel
theorem d2_84 : decode method_4_code 84 = .ok (.new 86, 3) := by decide +kernel
theorem d2_87 : decode method_4_code 87 = .ok (.dup, 1) := by decide +kernel
theorem d2_88 : decode method_4_code 88 = .ok (.iconst 2, 1) := by decide +kernel
theorem d2_89 : decode method_4_code 89 = .ok (.newarray .char, 2) := by decide +kernel
theorem d2_91 : decode method_4_code 91 = .ok (.dup, 1) := by decide +kernel
theorem d2_92 : decode method_4_code 92 = .ok (.iconst 0, 1) := by decide +kernel
theorem d2_93 : decode method_4_code 93 = .ok (.iload_n 3, 1) := by decide +kernel
theorem d2_94 : decode method_4_code 94 = .ok (.castore, 1) := by decide +kernel
theorem d2_95 : decode method_4_code 95 = .ok (.dup, 1) := by decide +kernel
theorem d2_96 : decode method_4_code 96 = .ok (.iconst 1, 1) := by decide +kernel
theorem d2_97 : decode method_4_code 97 = .ok (.iload 4, 2) := by decide +kernel
theorem d2_99 : decode method_4_code 99 = .ok (.castore, 1) := by decide +kernel
theorem d2_100 : decode method_4_code 100 = .ok (.invokespecial 88, 3) := by decide +kernel
theorem d2_103 : decode method_4_code 103 = .ok (.areturn, 1) := by decide +kernel
theorem d2_104 : decode method_4_code 104 = .ok (.iload_n 0, 1) := by decide +kernel
theorem d2_105 : decode method_4_code 105 = .ok (.iconst 3, 1) := by decide +kernel
theorem d2_106 : decode method_4_code 106 = .ok (.if_icmp .ne 28, 3) := by decide +kernel
theorem d2_109 : decode method_4_code 109 = .ok (.new 86, 3) := by decide +kernel
theorem d2_112 : decode method_4_code 112 = .ok (.dup, 1) := by decide +kernel
theorem d2_113 : decode method_4_code 113 = .ok (.iconst 3, 1) := by decide +kernel
theorem d2_114 : decode method_4_code 114 = .ok (.newarray .char, 2) := by decide +kernel
theorem d2_116 : decode method_4_code 116 = .ok (.dup, 1) := by decide +kernel
theorem d2_117 : decode method_4_code 117 = .ok (.iconst 0, 1) := by decide +kernel
theorem d2_118 : decode method_4_code 118 = .ok (.iload_n 3, 1) := by decide +kernel
theorem d2_119 : decode method_4_code 119 = .ok (.castore, 1) := by decide +kernel
theorem d2_120 : decode method_4_code 120 = .ok (.dup, 1) := by decide +kernel
theorem d2_121 : decode method_4_code 121 = .ok (.iconst 1, 1) := by decide +kernel
theorem d2_122 : decode method_4_code 122 = .ok (.iload 4, 2) := by decide +kernel
theorem d2_124 : decode method_4_code 124 = .ok (.castore, 1) := by decide +kernel
theorem d2_125 : decode method_4_code 125 = .ok (.dup, 1) := by decide +kernel
theorem d2_126 : decode method_4_code 126 = .ok (.iconst 2, 1) := by decide +kernel
theorem d2_127 : decode method_4_code 127 = .ok (.iload 5, 2) := by decide +kernel
theorem d2_129 : decode method_4_code 129 = .ok (.castore, 1) := by decide +kernel
theorem d2_130 : decode method_4_code 130 = .ok (.invokespecial 88, 3) := by decide +kernel
theorem d2_133 : decode method_4_code 133 = .ok (.areturn, 1) := by decide +kernel
theorem d2_134 : decode method_4_code 134 = .ok (.new 86, 3) := by decide +kernel
theorem d2_137 : decode method_4_code 137 = .ok (.dup, 1) := by decide +kernel
theorem d2_138 : decode method_4_code 138 = .ok (.iconst 4, 1) := by decide +kernel
theorem d2_139 : decode method_4_code 139 = .ok (.newarray .char, 2) := by decide +kernel
theorem d2_141 : decode method_4_code 141 = .ok (.dup, 1) := by decide +kernel
theorem d2_142 : decode method_4_code 142 = .ok (.iconst 0, 1) := by decide +kernel
theorem d2_143 : decode method_4_code 143 = .ok (.iload_n 3, 1) := by decide +kernel
theorem d2_144 : decode method_4_code 144 = .ok (.castore, 1) := by decide +kernel
theorem d2_145 : decode method_4_code 145 = .ok (.dup, 1) := by decide +kernel
theorem d2_146 : decode method_4_code 146 = .ok (.iconst 1, 1) := by decide +kernel
theorem d2_147 : decode method_4_code 147 = .ok (.iload 4, 2) := by decide +kernel
theorem d2_149 : decode method_4_code 149 = .ok (.castore, 1) := by decide +kernel
theorem d2_150 : decode method_4_code 150 = .ok (.dup, 1) := by decide +kernel
theorem d2_151 : decode method_4_code 151 = .ok (.iconst 2, 1) := by decide +kernel
theorem d2_152 : decode method_4_code 152 = .ok (.iload 5, 2) := by decide +kernel
theorem d2_154 : decode method_4_code 154 = .ok (.castore, 1) := by decide +kernel
theorem d2_155 : decode method_4_code 155 = .ok (.dup, 1) := by decide +kernel
theorem d2_156 : decode method_4_code 156 = .ok (.iconst 3, 1) := by decide +kernel
theorem d2_157 : decode method_4_code 157 = .ok (.iload 6, 2) := by decide +kernel
theorem d2_159 : decode method_4_code 159 = .ok (.castore, 1) := by decide +kernel
theorem d2_160 : decode method_4_code 160 = .ok (.invokespecial 88, 3) := by decide +kernel
theorem d2_163 : decode method_4_code 163 = .ok (.areturn, 1) := by decide +kernel
theorem own_pn2 : plainName "com/example/fieldloom/fieldloom/KindIsFlagPinLaw" = true := by first | (simp [plainName, overriddenIn]; done) | decide +kernel
theorem own_ef2 (m : MethodId) (x0 : Int32) (x1 : Int64) : entryFrame m #[(.int x0), (.long x1)] 7 = (mkF m 0 #[.val (.int x0), .val (.long x1), .second, .unset, .unset, .unset, .unset] []) := by first | (simp [entryFrame, mkF, argsToLocals, Value.category]; done) | rfl
def Q2 (Z : State) (x0 : Int32) (x1 : Int64) (cs : Int32) (h0 : Heap) (n0 : Nat) (v : Option Value) (h : Heap) (L : List Loc) : Prop := (∃ z : Addr, v = some (.ref z) ∧ ((Exa Z h z "java/lang/String" ∧ Fld Z h z "java/lang/String" "coder" "B" (.int (0 : Int32)) ∧ ∃ (b : Addr) (kb : ClassId) (n : Int32) (g : List Int32), Fld Z h z "java/lang/String" "value" "[B" (.ref b) ∧ Arv Z h b kb .byte n (g.map Value.int) (.int (0 : Int32))))) ∧ Fr n0 L ∧ Keep h0 h []
set_option maxRecDepth 65536 in
set_option maxHeartbeats 40000000 in
theorem rm2 (l : Launch) (Z : State) (a0 : Array Value) (hw : ∀ d ∈ tables_1, d.before a0 Z = true) (ws : List Jvm.Cond) (x0 : Int32) (x1 : Int64) (cs : Int32) (h0 : Heap) (n0 : Nat) (Z0 : n0 ≤ h0.size) (S_cs : Sta Z h0 "java/lang/String" "COMPACT_STRINGS" "Z" (.int cs)) (hcs : ¬ (cs = 0)) :
    MetFree l (⟨"com/example/fieldloom/fieldloom/KindIsFlagPinLaw", "draw", "(IJ)Ljava/lang/String;"⟩ : MethodName) (head1 (Jvm.Cond.code (⟨"com/example/fieldloom/fieldloom/KindIsFlagPinLaw", "draw", "(IJ)Ljava/lang/String;"⟩ : MethodName) method_4_code 7 (some (.object "java/lang/String")) :: ws) ({ frames := 4, cells := 6, slots := 12, locals := 66 } : Room)) (fun a U => a = #[(.int x0), (.long x1)] ∧ Z.Warmed39 U.vm ∧ U.heap = h0 ∧ CHv Z own_EL U.vm h0) (fun _ _ _ _ _ => True) (fun _ U oc U' => ∃ v L, oc = .returned v ∧ Q2 Z x0 x1 cs h0 n0 v U'.heap L ∧ CHr Z own_EL U.vm U.heap U'.vm U'.heap ∧ ReturnedEndW U oc U' L ({ frames := 4, cells := 6, slots := 12, locals := 66 } : Room).cells ({ frames := 4, cells := 6, slots := 12, locals := 66 } : Room).slots) := by
  refine MetFree.of_bodySF (plainFor_of_name own_pn2) hisR ?_
  intro p e s m args below meth c s₁ Bd hml0 hP hK
  obtain ⟨rfl, hZ, hh, hCH0⟩ := hP
  have hx := Bd.exec
  have hby := Bd.bytes
  have hlk : meth.locks = false := BodyLoose.notSynchronized Bd
  have hml : c.maxLocals = 7 := hml0
  have hown : s.vm.findClass "com/example/fieldloom/fieldloom/KindIsFlagPinLaw" = some m.cls := findClass_of_methodNamed Bd.named
  have hnm := (name_of_methodNamed Bd.named Bd.method).1
  have X0 : Stand p l e ({ frames := 4, cells := 6, slots := 12, locals := 66 } : Room) (s.setVm s.vm) m #[(.int x0), (.long x1)] below meth c s₁ [] 0 0 := Stand.of_body Bd
  have e0 : s₁.heap = h0 := by rw [← hh, Bd.state]; rfl
  have N0 := Fr.nil n0
  have hS0 : s.Since s.vm 0 := (State.WarmedH.refl s).since 0
  have hk0 : 0 ≤ h0.size := Nat.zero_le _
  have C0 : CHr Z own_EL s.vm s.heap s.vm h0 := by rw [hh]; exact CHr.refl hCH0
  have hEL : EW Z a0 own_EL := own_hEL hw
  have wS := own_wS hw
  refine own_enter (own_ef2 m x0 x1) ?_
  show own_Go p e below (own_ES s Z own_EL (Q2 Z x0 x1 cs h0 n0) ({ frames := 4, cells := 6, slots := 12, locals := 66 } : Room).cells ({ frames := 4, cells := 6, slots := 12, locals := 66 } : Room).slots) s₁ (mkF m 0 #[.val (.int x0), .val (.long x1), .second, .unset, .unset, .unset, .unset] [])
  refine own_st (T' := s₁) (F' := (mkF m 1 #[.val (.int x0), .val (.long x1), .second, .unset, .unset, .unset, .unset] [(.long x1)])) (fun _ k => XS.lloadN X0.here hx rfl (hb hby d2_0) rfl  k) ?_
  refine own_st (T' := s₁) (F' := (mkF m 4 #[.val (.int x0), .val (.long x1), .second, .unset, .unset, .unset, .unset] [(.long (255 : Int64)), (.long x1)])) (fun _ k => X0.ldc2Long hx hown (mvT hZ (hw _ (List.mem_of_getElem? (i := 11) rfl))) (g := (mkF m 1 #[.val (.int x0), .val (.long x1), .second, .unset, .unset, .unset, .unset] [(.long x1)])) rfl (hb hby d2_1) _ k) ?_
  refine own_st (T' := s₁) (F' := (mkF m 5 #[.val (.int x0), .val (.long x1), .second, .unset, .unset, .unset, .unset] [(.long (x1 &&& (255 : Int64)))])) (fun _ k => XS.land X0.here hx rfl (hb hby d2_4) rfl k) ?_
  refine own_st (T' := s₁) (F' := (mkF m 6 #[.val (.int x0), .val (.long x1), .second, .unset, .unset, .unset, .unset] [(.int ((x1 &&& (255 : Int64)).toInt32))])) (fun _ k => XS.l2i X0.here hx rfl (hb hby d2_5) rfl k) ?_
  refine own_st (T' := s₁) (F' := (mkF m 7 #[.val (.int x0), .val (.long x1), .second, .unset, .unset, .unset, .unset] [(.int (((x1 &&& (255 : Int64)).toInt32).toUInt32.toUInt16.toUInt32.toInt32))])) (fun _ k => XS.i2c X0.here hx rfl (hb hby d2_6) rfl k) ?_
  refine own_st (T' := s₁) (F' := (mkF m 8 #[.val (.int x0), .val (.long x1), .second, .val (.int (((x1 &&& (255 : Int64)).toInt32).toUInt32.toUInt16.toUInt32.toInt32)), .unset, .unset, .unset] [])) (fun _ k => XS.istoreN X0.here hx rfl (hb hby d2_7) rfl (l' := #[.val (.int x0), .val (.long x1), .second, .val (.int (((x1 &&& (255 : Int64)).toInt32).toUInt32.toUInt16.toUInt32.toInt32)), .unset, .unset, .unset]) rfl k) ?_
  refine own_st (T' := s₁) (F' := (mkF m 9 #[.val (.int x0), .val (.long x1), .second, .val (.int (((x1 &&& (255 : Int64)).toInt32).toUInt32.toUInt16.toUInt32.toInt32)), .unset, .unset, .unset] [(.long x1)])) (fun _ k => XS.lloadN X0.here hx rfl (hb hby d2_8) rfl  k) ?_
  refine own_st (T' := s₁) (F' := (mkF m 11 #[.val (.int x0), .val (.long x1), .second, .val (.int (((x1 &&& (255 : Int64)).toInt32).toUInt32.toUInt16.toUInt32.toInt32)), .unset, .unset, .unset] [(.int (8 : Int32)), (.long x1)])) (fun _ k => XS.bipush X0.here hx rfl (hb hby d2_9) k) ?_
  refine own_st (T' := s₁) (F' := (mkF m 12 #[.val (.int x0), .val (.long x1), .second, .val (.int (((x1 &&& (255 : Int64)).toInt32).toUInt32.toUInt16.toUInt32.toInt32)), .unset, .unset, .unset] [(.long ((x1.toUInt64 >>> ((8 : Int32) &&& 0x3f).toInt64.toUInt64).toInt64))])) (fun _ k => XS.lushr X0.here hx rfl (hb hby d2_11) rfl k) ?_
  refine own_st (T' := s₁) (F' := (mkF m 15 #[.val (.int x0), .val (.long x1), .second, .val (.int (((x1 &&& (255 : Int64)).toInt32).toUInt32.toUInt16.toUInt32.toInt32)), .unset, .unset, .unset] [(.long (255 : Int64)), (.long ((x1.toUInt64 >>> ((8 : Int32) &&& 0x3f).toInt64.toUInt64).toInt64))])) (fun _ k => X0.ldc2Long hx hown (mvT hZ (hw _ (List.mem_of_getElem? (i := 11) rfl))) (g := (mkF m 12 #[.val (.int x0), .val (.long x1), .second, .val (.int (((x1 &&& (255 : Int64)).toInt32).toUInt32.toUInt16.toUInt32.toInt32)), .unset, .unset, .unset] [(.long ((x1.toUInt64 >>> ((8 : Int32) &&& 0x3f).toInt64.toUInt64).toInt64))])) rfl (hb hby d2_12) _ k) ?_
  refine own_st (T' := s₁) (F' := (mkF m 16 #[.val (.int x0), .val (.long x1), .second, .val (.int (((x1 &&& (255 : Int64)).toInt32).toUInt32.toUInt16.toUInt32.toInt32)), .unset, .unset, .unset] [(.long (((x1.toUInt64 >>> ((8 : Int32) &&& 0x3f).toInt64.toUInt64).toInt64) &&& (255 : Int64)))])) (fun _ k => XS.land X0.here hx rfl (hb hby d2_15) rfl k) ?_
  refine own_st (T' := s₁) (F' := (mkF m 17 #[.val (.int x0), .val (.long x1), .second, .val (.int (((x1 &&& (255 : Int64)).toInt32).toUInt32.toUInt16.toUInt32.toInt32)), .unset, .unset, .unset] [(.int ((((x1.toUInt64 >>> ((8 : Int32) &&& 0x3f).toInt64.toUInt64).toInt64) &&& (255 : Int64)).toInt32))])) (fun _ k => XS.l2i X0.here hx rfl (hb hby d2_16) rfl k) ?_
  refine own_st (T' := s₁) (F' := (mkF m 18 #[.val (.int x0), .val (.long x1), .second, .val (.int (((x1 &&& (255 : Int64)).toInt32).toUInt32.toUInt16.toUInt32.toInt32)), .unset, .unset, .unset] [(.int (((((x1.toUInt64 >>> ((8 : Int32) &&& 0x3f).toInt64.toUInt64).toInt64) &&& (255 : Int64)).toInt32).toUInt32.toUInt16.toUInt32.toInt32))])) (fun _ k => XS.i2c X0.here hx rfl (hb hby d2_17) rfl k) ?_
  refine own_st (T' := s₁) (F' := (mkF m 20 #[.val (.int x0), .val (.long x1), .second, .val (.int (((x1 &&& (255 : Int64)).toInt32).toUInt32.toUInt16.toUInt32.toInt32)), .val (.int (((((x1.toUInt64 >>> ((8 : Int32) &&& 0x3f).toInt64.toUInt64).toInt64) &&& (255 : Int64)).toInt32).toUInt32.toUInt16.toUInt32.toInt32)), .unset, .unset] [])) (fun _ k => XS.istore X0.here hx rfl (hb hby d2_18) rfl (l' := #[.val (.int x0), .val (.long x1), .second, .val (.int (((x1 &&& (255 : Int64)).toInt32).toUInt32.toUInt16.toUInt32.toInt32)), .val (.int (((((x1.toUInt64 >>> ((8 : Int32) &&& 0x3f).toInt64.toUInt64).toInt64) &&& (255 : Int64)).toInt32).toUInt32.toUInt16.toUInt32.toInt32)), .unset, .unset]) rfl k) ?_
  refine own_st (T' := s₁) (F' := (mkF m 21 #[.val (.int x0), .val (.long x1), .second, .val (.int (((x1 &&& (255 : Int64)).toInt32).toUInt32.toUInt16.toUInt32.toInt32)), .val (.int (((((x1.toUInt64 >>> ((8 : Int32) &&& 0x3f).toInt64.toUInt64).toInt64) &&& (255 : Int64)).toInt32).toUInt32.toUInt16.toUInt32.toInt32)), .unset, .unset] [(.long x1)])) (fun _ k => XS.lloadN X0.here hx rfl (hb hby d2_20) rfl  k) ?_
  refine own_st (T' := s₁) (F' := (mkF m 23 #[.val (.int x0), .val (.long x1), .second, .val (.int (((x1 &&& (255 : Int64)).toInt32).toUInt32.toUInt16.toUInt32.toInt32)), .val (.int (((((x1.toUInt64 >>> ((8 : Int32) &&& 0x3f).toInt64.toUInt64).toInt64) &&& (255 : Int64)).toInt32).toUInt32.toUInt16.toUInt32.toInt32)), .unset, .unset] [(.int (16 : Int32)), (.long x1)])) (fun _ k => XS.bipush X0.here hx rfl (hb hby d2_21) k) ?_
  refine own_st (T' := s₁) (F' := (mkF m 24 #[.val (.int x0), .val (.long x1), .second, .val (.int (((x1 &&& (255 : Int64)).toInt32).toUInt32.toUInt16.toUInt32.toInt32)), .val (.int (((((x1.toUInt64 >>> ((8 : Int32) &&& 0x3f).toInt64.toUInt64).toInt64) &&& (255 : Int64)).toInt32).toUInt32.toUInt16.toUInt32.toInt32)), .unset, .unset] [(.long ((x1.toUInt64 >>> ((16 : Int32) &&& 0x3f).toInt64.toUInt64).toInt64))])) (fun _ k => XS.lushr X0.here hx rfl (hb hby d2_23) rfl k) ?_
  refine own_st (T' := s₁) (F' := (mkF m 27 #[.val (.int x0), .val (.long x1), .second, .val (.int (((x1 &&& (255 : Int64)).toInt32).toUInt32.toUInt16.toUInt32.toInt32)), .val (.int (((((x1.toUInt64 >>> ((8 : Int32) &&& 0x3f).toInt64.toUInt64).toInt64) &&& (255 : Int64)).toInt32).toUInt32.toUInt16.toUInt32.toInt32)), .unset, .unset] [(.long (255 : Int64)), (.long ((x1.toUInt64 >>> ((16 : Int32) &&& 0x3f).toInt64.toUInt64).toInt64))])) (fun _ k => X0.ldc2Long hx hown (mvT hZ (hw _ (List.mem_of_getElem? (i := 11) rfl))) (g := (mkF m 24 #[.val (.int x0), .val (.long x1), .second, .val (.int (((x1 &&& (255 : Int64)).toInt32).toUInt32.toUInt16.toUInt32.toInt32)), .val (.int (((((x1.toUInt64 >>> ((8 : Int32) &&& 0x3f).toInt64.toUInt64).toInt64) &&& (255 : Int64)).toInt32).toUInt32.toUInt16.toUInt32.toInt32)), .unset, .unset] [(.long ((x1.toUInt64 >>> ((16 : Int32) &&& 0x3f).toInt64.toUInt64).toInt64))])) rfl (hb hby d2_24) _ k) ?_
  refine own_st (T' := s₁) (F' := (mkF m 28 #[.val (.int x0), .val (.long x1), .second, .val (.int (((x1 &&& (255 : Int64)).toInt32).toUInt32.toUInt16.toUInt32.toInt32)), .val (.int (((((x1.toUInt64 >>> ((8 : Int32) &&& 0x3f).toInt64.toUInt64).toInt64) &&& (255 : Int64)).toInt32).toUInt32.toUInt16.toUInt32.toInt32)), .unset, .unset] [(.long (((x1.toUInt64 >>> ((16 : Int32) &&& 0x3f).toInt64.toUInt64).toInt64) &&& (255 : Int64)))])) (fun _ k => XS.land X0.here hx rfl (hb hby d2_27) rfl k) ?_
  refine own_st (T' := s₁) (F' := (mkF m 29 #[.val (.int x0), .val (.long x1), .second, .val (.int (((x1 &&& (255 : Int64)).toInt32).toUInt32.toUInt16.toUInt32.toInt32)), .val (.int (((((x1.toUInt64 >>> ((8 : Int32) &&& 0x3f).toInt64.toUInt64).toInt64) &&& (255 : Int64)).toInt32).toUInt32.toUInt16.toUInt32.toInt32)), .unset, .unset] [(.int ((((x1.toUInt64 >>> ((16 : Int32) &&& 0x3f).toInt64.toUInt64).toInt64) &&& (255 : Int64)).toInt32))])) (fun _ k => XS.l2i X0.here hx rfl (hb hby d2_28) rfl k) ?_
  refine own_st (T' := s₁) (F' := (mkF m 30 #[.val (.int x0), .val (.long x1), .second, .val (.int (((x1 &&& (255 : Int64)).toInt32).toUInt32.toUInt16.toUInt32.toInt32)), .val (.int (((((x1.toUInt64 >>> ((8 : Int32) &&& 0x3f).toInt64.toUInt64).toInt64) &&& (255 : Int64)).toInt32).toUInt32.toUInt16.toUInt32.toInt32)), .unset, .unset] [(.int (((((x1.toUInt64 >>> ((16 : Int32) &&& 0x3f).toInt64.toUInt64).toInt64) &&& (255 : Int64)).toInt32).toUInt32.toUInt16.toUInt32.toInt32))])) (fun _ k => XS.i2c X0.here hx rfl (hb hby d2_29) rfl k) ?_
  refine own_st (T' := s₁) (F' := (mkF m 32 #[.val (.int x0), .val (.long x1), .second, .val (.int (((x1 &&& (255 : Int64)).toInt32).toUInt32.toUInt16.toUInt32.toInt32)), .val (.int (((((x1.toUInt64 >>> ((8 : Int32) &&& 0x3f).toInt64.toUInt64).toInt64) &&& (255 : Int64)).toInt32).toUInt32.toUInt16.toUInt32.toInt32)), .val (.int (((((x1.toUInt64 >>> ((16 : Int32) &&& 0x3f).toInt64.toUInt64).toInt64) &&& (255 : Int64)).toInt32).toUInt32.toUInt16.toUInt32.toInt32)), .unset] [])) (fun _ k => XS.istore X0.here hx rfl (hb hby d2_30) rfl (l' := #[.val (.int x0), .val (.long x1), .second, .val (.int (((x1 &&& (255 : Int64)).toInt32).toUInt32.toUInt16.toUInt32.toInt32)), .val (.int (((((x1.toUInt64 >>> ((8 : Int32) &&& 0x3f).toInt64.toUInt64).toInt64) &&& (255 : Int64)).toInt32).toUInt32.toUInt16.toUInt32.toInt32)), .val (.int (((((x1.toUInt64 >>> ((16 : Int32) &&& 0x3f).toInt64.toUInt64).toInt64) &&& (255 : Int64)).toInt32).toUInt32.toUInt16.toUInt32.toInt32)), .unset]) rfl k) ?_
  refine own_st (T' := s₁) (F' := (mkF m 33 #[.val (.int x0), .val (.long x1), .second, .val (.int (((x1 &&& (255 : Int64)).toInt32).toUInt32.toUInt16.toUInt32.toInt32)), .val (.int (((((x1.toUInt64 >>> ((8 : Int32) &&& 0x3f).toInt64.toUInt64).toInt64) &&& (255 : Int64)).toInt32).toUInt32.toUInt16.toUInt32.toInt32)), .val (.int (((((x1.toUInt64 >>> ((16 : Int32) &&& 0x3f).toInt64.toUInt64).toInt64) &&& (255 : Int64)).toInt32).toUInt32.toUInt16.toUInt32.toInt32)), .unset] [(.long x1)])) (fun _ k => XS.lloadN X0.here hx rfl (hb hby d2_32) rfl  k) ?_
  refine own_st (T' := s₁) (F' := (mkF m 35 #[.val (.int x0), .val (.long x1), .second, .val (.int (((x1 &&& (255 : Int64)).toInt32).toUInt32.toUInt16.toUInt32.toInt32)), .val (.int (((((x1.toUInt64 >>> ((8 : Int32) &&& 0x3f).toInt64.toUInt64).toInt64) &&& (255 : Int64)).toInt32).toUInt32.toUInt16.toUInt32.toInt32)), .val (.int (((((x1.toUInt64 >>> ((16 : Int32) &&& 0x3f).toInt64.toUInt64).toInt64) &&& (255 : Int64)).toInt32).toUInt32.toUInt16.toUInt32.toInt32)), .unset] [(.int (24 : Int32)), (.long x1)])) (fun _ k => XS.bipush X0.here hx rfl (hb hby d2_33) k) ?_
  refine own_st (T' := s₁) (F' := (mkF m 36 #[.val (.int x0), .val (.long x1), .second, .val (.int (((x1 &&& (255 : Int64)).toInt32).toUInt32.toUInt16.toUInt32.toInt32)), .val (.int (((((x1.toUInt64 >>> ((8 : Int32) &&& 0x3f).toInt64.toUInt64).toInt64) &&& (255 : Int64)).toInt32).toUInt32.toUInt16.toUInt32.toInt32)), .val (.int (((((x1.toUInt64 >>> ((16 : Int32) &&& 0x3f).toInt64.toUInt64).toInt64) &&& (255 : Int64)).toInt32).toUInt32.toUInt16.toUInt32.toInt32)), .unset] [(.long ((x1.toUInt64 >>> ((24 : Int32) &&& 0x3f).toInt64.toUInt64).toInt64))])) (fun _ k => XS.lushr X0.here hx rfl (hb hby d2_35) rfl k) ?_
  refine own_st (T' := s₁) (F' := (mkF m 39 #[.val (.int x0), .val (.long x1), .second, .val (.int (((x1 &&& (255 : Int64)).toInt32).toUInt32.toUInt16.toUInt32.toInt32)), .val (.int (((((x1.toUInt64 >>> ((8 : Int32) &&& 0x3f).toInt64.toUInt64).toInt64) &&& (255 : Int64)).toInt32).toUInt32.toUInt16.toUInt32.toInt32)), .val (.int (((((x1.toUInt64 >>> ((16 : Int32) &&& 0x3f).toInt64.toUInt64).toInt64) &&& (255 : Int64)).toInt32).toUInt32.toUInt16.toUInt32.toInt32)), .unset] [(.long (255 : Int64)), (.long ((x1.toUInt64 >>> ((24 : Int32) &&& 0x3f).toInt64.toUInt64).toInt64))])) (fun _ k => X0.ldc2Long hx hown (mvT hZ (hw _ (List.mem_of_getElem? (i := 11) rfl))) (g := (mkF m 36 #[.val (.int x0), .val (.long x1), .second, .val (.int (((x1 &&& (255 : Int64)).toInt32).toUInt32.toUInt16.toUInt32.toInt32)), .val (.int (((((x1.toUInt64 >>> ((8 : Int32) &&& 0x3f).toInt64.toUInt64).toInt64) &&& (255 : Int64)).toInt32).toUInt32.toUInt16.toUInt32.toInt32)), .val (.int (((((x1.toUInt64 >>> ((16 : Int32) &&& 0x3f).toInt64.toUInt64).toInt64) &&& (255 : Int64)).toInt32).toUInt32.toUInt16.toUInt32.toInt32)), .unset] [(.long ((x1.toUInt64 >>> ((24 : Int32) &&& 0x3f).toInt64.toUInt64).toInt64))])) rfl (hb hby d2_36) _ k) ?_
  refine own_st (T' := s₁) (F' := (mkF m 40 #[.val (.int x0), .val (.long x1), .second, .val (.int (((x1 &&& (255 : Int64)).toInt32).toUInt32.toUInt16.toUInt32.toInt32)), .val (.int (((((x1.toUInt64 >>> ((8 : Int32) &&& 0x3f).toInt64.toUInt64).toInt64) &&& (255 : Int64)).toInt32).toUInt32.toUInt16.toUInt32.toInt32)), .val (.int (((((x1.toUInt64 >>> ((16 : Int32) &&& 0x3f).toInt64.toUInt64).toInt64) &&& (255 : Int64)).toInt32).toUInt32.toUInt16.toUInt32.toInt32)), .unset] [(.long (((x1.toUInt64 >>> ((24 : Int32) &&& 0x3f).toInt64.toUInt64).toInt64) &&& (255 : Int64)))])) (fun _ k => XS.land X0.here hx rfl (hb hby d2_39) rfl k) ?_
  refine own_st (T' := s₁) (F' := (mkF m 41 #[.val (.int x0), .val (.long x1), .second, .val (.int (((x1 &&& (255 : Int64)).toInt32).toUInt32.toUInt16.toUInt32.toInt32)), .val (.int (((((x1.toUInt64 >>> ((8 : Int32) &&& 0x3f).toInt64.toUInt64).toInt64) &&& (255 : Int64)).toInt32).toUInt32.toUInt16.toUInt32.toInt32)), .val (.int (((((x1.toUInt64 >>> ((16 : Int32) &&& 0x3f).toInt64.toUInt64).toInt64) &&& (255 : Int64)).toInt32).toUInt32.toUInt16.toUInt32.toInt32)), .unset] [(.int ((((x1.toUInt64 >>> ((24 : Int32) &&& 0x3f).toInt64.toUInt64).toInt64) &&& (255 : Int64)).toInt32))])) (fun _ k => XS.l2i X0.here hx rfl (hb hby d2_40) rfl k) ?_
  refine own_st (T' := s₁) (F' := (mkF m 42 #[.val (.int x0), .val (.long x1), .second, .val (.int (((x1 &&& (255 : Int64)).toInt32).toUInt32.toUInt16.toUInt32.toInt32)), .val (.int (((((x1.toUInt64 >>> ((8 : Int32) &&& 0x3f).toInt64.toUInt64).toInt64) &&& (255 : Int64)).toInt32).toUInt32.toUInt16.toUInt32.toInt32)), .val (.int (((((x1.toUInt64 >>> ((16 : Int32) &&& 0x3f).toInt64.toUInt64).toInt64) &&& (255 : Int64)).toInt32).toUInt32.toUInt16.toUInt32.toInt32)), .unset] [(.int (((((x1.toUInt64 >>> ((24 : Int32) &&& 0x3f).toInt64.toUInt64).toInt64) &&& (255 : Int64)).toInt32).toUInt32.toUInt16.toUInt32.toInt32))])) (fun _ k => XS.i2c X0.here hx rfl (hb hby d2_41) rfl k) ?_
  refine own_st (T' := s₁) (F' := (mkF m 44 #[.val (.int x0), .val (.long x1), .second, .val (.int (((x1 &&& (255 : Int64)).toInt32).toUInt32.toUInt16.toUInt32.toInt32)), .val (.int (((((x1.toUInt64 >>> ((8 : Int32) &&& 0x3f).toInt64.toUInt64).toInt64) &&& (255 : Int64)).toInt32).toUInt32.toUInt16.toUInt32.toInt32)), .val (.int (((((x1.toUInt64 >>> ((16 : Int32) &&& 0x3f).toInt64.toUInt64).toInt64) &&& (255 : Int64)).toInt32).toUInt32.toUInt16.toUInt32.toInt32)), .val (.int (((((x1.toUInt64 >>> ((24 : Int32) &&& 0x3f).toInt64.toUInt64).toInt64) &&& (255 : Int64)).toInt32).toUInt32.toUInt16.toUInt32.toInt32))] [])) (fun _ k => XS.istore X0.here hx rfl (hb hby d2_42) rfl (l' := #[.val (.int x0), .val (.long x1), .second, .val (.int (((x1 &&& (255 : Int64)).toInt32).toUInt32.toUInt16.toUInt32.toInt32)), .val (.int (((((x1.toUInt64 >>> ((8 : Int32) &&& 0x3f).toInt64.toUInt64).toInt64) &&& (255 : Int64)).toInt32).toUInt32.toUInt16.toUInt32.toInt32)), .val (.int (((((x1.toUInt64 >>> ((16 : Int32) &&& 0x3f).toInt64.toUInt64).toInt64) &&& (255 : Int64)).toInt32).toUInt32.toUInt16.toUInt32.toInt32)), .val (.int (((((x1.toUInt64 >>> ((24 : Int32) &&& 0x3f).toInt64.toUInt64).toInt64) &&& (255 : Int64)).toInt32).toUInt32.toUInt16.toUInt32.toInt32))]) rfl k) ?_
  refine own_st (T' := s₁) (F' := (mkF m 45 #[.val (.int x0), .val (.long x1), .second, .val (.int (((x1 &&& (255 : Int64)).toInt32).toUInt32.toUInt16.toUInt32.toInt32)), .val (.int (((((x1.toUInt64 >>> ((8 : Int32) &&& 0x3f).toInt64.toUInt64).toInt64) &&& (255 : Int64)).toInt32).toUInt32.toUInt16.toUInt32.toInt32)), .val (.int (((((x1.toUInt64 >>> ((16 : Int32) &&& 0x3f).toInt64.toUInt64).toInt64) &&& (255 : Int64)).toInt32).toUInt32.toUInt16.toUInt32.toInt32)), .val (.int (((((x1.toUInt64 >>> ((24 : Int32) &&& 0x3f).toInt64.toUInt64).toInt64) &&& (255 : Int64)).toInt32).toUInt32.toUInt16.toUInt32.toInt32))] [(.int x0)])) (fun _ k => XS.iloadN X0.here hx rfl (hb hby d2_44) rfl  k) ?_
  refine own_ifc X0 hx (pc' := 59) (pc2 := 48) (hb hby d2_45) (by decide) (by decide) rfl (fun (hc45 : ¬ (x0 = (0 : Int32))) => ?_) (fun (hc45 : x0 = (0 : Int32)) => ?_)
  ·
    refine own_st (T' := s₁) (F' := (mkF m 60 #[.val (.int x0), .val (.long x1), .second, .val (.int (((x1 &&& (255 : Int64)).toInt32).toUInt32.toUInt16.toUInt32.toInt32)), .val (.int (((((x1.toUInt64 >>> ((8 : Int32) &&& 0x3f).toInt64.toUInt64).toInt64) &&& (255 : Int64)).toInt32).toUInt32.toUInt16.toUInt32.toInt32)), .val (.int (((((x1.toUInt64 >>> ((16 : Int32) &&& 0x3f).toInt64.toUInt64).toInt64) &&& (255 : Int64)).toInt32).toUInt32.toUInt16.toUInt32.toInt32)), .val (.int (((((x1.toUInt64 >>> ((24 : Int32) &&& 0x3f).toInt64.toUInt64).toInt64) &&& (255 : Int64)).toInt32).toUInt32.toUInt16.toUInt32.toInt32))] [(.int x0)])) (fun _ k => XS.iloadN X0.here hx rfl (hb hby d2_59) rfl  k) ?_
    refine own_st (T' := s₁) (F' := (mkF m 61 #[.val (.int x0), .val (.long x1), .second, .val (.int (((x1 &&& (255 : Int64)).toInt32).toUInt32.toUInt16.toUInt32.toInt32)), .val (.int (((((x1.toUInt64 >>> ((8 : Int32) &&& 0x3f).toInt64.toUInt64).toInt64) &&& (255 : Int64)).toInt32).toUInt32.toUInt16.toUInt32.toInt32)), .val (.int (((((x1.toUInt64 >>> ((16 : Int32) &&& 0x3f).toInt64.toUInt64).toInt64) &&& (255 : Int64)).toInt32).toUInt32.toUInt16.toUInt32.toInt32)), .val (.int (((((x1.toUInt64 >>> ((24 : Int32) &&& 0x3f).toInt64.toUInt64).toInt64) &&& (255 : Int64)).toInt32).toUInt32.toUInt16.toUInt32.toInt32))] [(.int (1 : Int32)), (.int x0)])) (fun _ k => XS.iconst X0.here hx rfl (hb hby d2_60) k) ?_
    refine own_icmp X0 hx (pc' := 79) (pc2 := 64) (hb hby d2_61) (by decide) (by decide) rfl (fun (hc61 : ¬ (x0 = (1 : Int32))) => ?_) (fun (hc61 : x0 = (1 : Int32)) => ?_)
    ·
      refine own_st (T' := s₁) (F' := (mkF m 80 #[.val (.int x0), .val (.long x1), .second, .val (.int (((x1 &&& (255 : Int64)).toInt32).toUInt32.toUInt16.toUInt32.toInt32)), .val (.int (((((x1.toUInt64 >>> ((8 : Int32) &&& 0x3f).toInt64.toUInt64).toInt64) &&& (255 : Int64)).toInt32).toUInt32.toUInt16.toUInt32.toInt32)), .val (.int (((((x1.toUInt64 >>> ((16 : Int32) &&& 0x3f).toInt64.toUInt64).toInt64) &&& (255 : Int64)).toInt32).toUInt32.toUInt16.toUInt32.toInt32)), .val (.int (((((x1.toUInt64 >>> ((24 : Int32) &&& 0x3f).toInt64.toUInt64).toInt64) &&& (255 : Int64)).toInt32).toUInt32.toUInt16.toUInt32.toInt32))] [(.int x0)])) (fun _ k => XS.iloadN X0.here hx rfl (hb hby d2_79) rfl  k) ?_
      refine own_st (T' := s₁) (F' := (mkF m 81 #[.val (.int x0), .val (.long x1), .second, .val (.int (((x1 &&& (255 : Int64)).toInt32).toUInt32.toUInt16.toUInt32.toInt32)), .val (.int (((((x1.toUInt64 >>> ((8 : Int32) &&& 0x3f).toInt64.toUInt64).toInt64) &&& (255 : Int64)).toInt32).toUInt32.toUInt16.toUInt32.toInt32)), .val (.int (((((x1.toUInt64 >>> ((16 : Int32) &&& 0x3f).toInt64.toUInt64).toInt64) &&& (255 : Int64)).toInt32).toUInt32.toUInt16.toUInt32.toInt32)), .val (.int (((((x1.toUInt64 >>> ((24 : Int32) &&& 0x3f).toInt64.toUInt64).toInt64) &&& (255 : Int64)).toInt32).toUInt32.toUInt16.toUInt32.toInt32))] [(.int (2 : Int32)), (.int x0)])) (fun _ k => XS.iconst X0.here hx rfl (hb hby d2_80) k) ?_
      refine own_icmp X0 hx (pc' := 104) (pc2 := 84) (hb hby d2_81) (by decide) (by decide) rfl (fun (hc81 : ¬ (x0 = (2 : Int32))) => ?_) (fun (hc81 : x0 = (2 : Int32)) => ?_)
      ·
        refine own_st (T' := s₁) (F' := (mkF m 105 #[.val (.int x0), .val (.long x1), .second, .val (.int (((x1 &&& (255 : Int64)).toInt32).toUInt32.toUInt16.toUInt32.toInt32)), .val (.int (((((x1.toUInt64 >>> ((8 : Int32) &&& 0x3f).toInt64.toUInt64).toInt64) &&& (255 : Int64)).toInt32).toUInt32.toUInt16.toUInt32.toInt32)), .val (.int (((((x1.toUInt64 >>> ((16 : Int32) &&& 0x3f).toInt64.toUInt64).toInt64) &&& (255 : Int64)).toInt32).toUInt32.toUInt16.toUInt32.toInt32)), .val (.int (((((x1.toUInt64 >>> ((24 : Int32) &&& 0x3f).toInt64.toUInt64).toInt64) &&& (255 : Int64)).toInt32).toUInt32.toUInt16.toUInt32.toInt32))] [(.int x0)])) (fun _ k => XS.iloadN X0.here hx rfl (hb hby d2_104) rfl  k) ?_
        refine own_st (T' := s₁) (F' := (mkF m 106 #[.val (.int x0), .val (.long x1), .second, .val (.int (((x1 &&& (255 : Int64)).toInt32).toUInt32.toUInt16.toUInt32.toInt32)), .val (.int (((((x1.toUInt64 >>> ((8 : Int32) &&& 0x3f).toInt64.toUInt64).toInt64) &&& (255 : Int64)).toInt32).toUInt32.toUInt16.toUInt32.toInt32)), .val (.int (((((x1.toUInt64 >>> ((16 : Int32) &&& 0x3f).toInt64.toUInt64).toInt64) &&& (255 : Int64)).toInt32).toUInt32.toUInt16.toUInt32.toInt32)), .val (.int (((((x1.toUInt64 >>> ((24 : Int32) &&& 0x3f).toInt64.toUInt64).toInt64) &&& (255 : Int64)).toInt32).toUInt32.toUInt16.toUInt32.toInt32))] [(.int (3 : Int32)), (.int x0)])) (fun _ k => XS.iconst X0.here hx rfl (hb hby d2_105) k) ?_
        refine own_icmp X0 hx (pc' := 134) (pc2 := 109) (hb hby d2_106) (by decide) (by decide) rfl (fun (hc106 : ¬ (x0 = (3 : Int32))) => ?_) (fun (hc106 : x0 = (3 : Int32)) => ?_)
        ·
          obtain ⟨T1, h1, X1, e1, E1, A1, D1, -, st1⟩ := newO X0 hx hZ hown (hw _ (List.mem_of_getElem? (i := 12) rfl)) (hw _ (List.mem_of_getElem? (i := 13) rfl)) (hw _ (List.mem_of_getElem? (i := 14) rfl)) e0 (g := (mkF m 134 #[.val (.int x0), .val (.long x1), .second, .val (.int (((x1 &&& (255 : Int64)).toInt32).toUInt32.toUInt16.toUInt32.toInt32)), .val (.int (((((x1.toUInt64 >>> ((8 : Int32) &&& 0x3f).toInt64.toUInt64).toInt64) &&& (255 : Int64)).toInt32).toUInt32.toUInt16.toUInt32.toInt32)), .val (.int (((((x1.toUInt64 >>> ((16 : Int32) &&& 0x3f).toInt64.toUInt64).toInt64) &&& (255 : Int64)).toInt32).toUInt32.toUInt16.toUInt32.toInt32)), .val (.int (((((x1.toUInt64 >>> ((24 : Int32) &&& 0x3f).toInt64.toUInt64).toInt64) &&& (255 : Int64)).toInt32).toUInt32.toUInt16.toUInt32.toInt32))] [])) rfl (hb hby d2_134) (by decide) (by decide)
          obtain ⟨b1, g1⟩ : ∃ z, z = h0.size := ⟨_, rfl⟩
          rw [← g1] at A1 D1 st1
          have ge1 : n0 ≤ b1 := by rw [g1]; exact Z0
          have hge1 : h0.size ≤ b1 := by rw [g1]; exact (Keep.refl h0 []).1
          have f2 : Sta Z h1 "java/lang/String" "COMPACT_STRINGS" "Z" (.int cs) := S_cs.ext E1
          have K1 : Keep h0 h1 [] := (Keep.refl h0 []).ext E1
          have Zs1 : n0 ≤ h1.size := Nat.le_trans Z0 K1.1
          have Cs1 := CHr.ext E1 C0.1
          have C1 := C0.trans Cs1
          have hk1 := Nat.le_trans hk0 Cs1.2.1
          have f3 : Fld Z h1 b1 "java/lang/String" "coder" "B" (.int (0 : Int32)) := D1 (Or.inr (hw _ (List.mem_of_getElem? (i := 39) rfl))) (ty := .byte) (by decide)
          have f4 : Fld Z h1 b1 "java/lang/String" "value" "[B" .null := D1 (Or.inr (hw _ (List.mem_of_getElem? (i := 41) rfl))) (ty := (.array .byte)) (by decide)
          refine own_st (T' := T1) (F' := (mkF m 137 #[.val (.int x0), .val (.long x1), .second, .val (.int (((x1 &&& (255 : Int64)).toInt32).toUInt32.toUInt16.toUInt32.toInt32)), .val (.int (((((x1.toUInt64 >>> ((8 : Int32) &&& 0x3f).toInt64.toUInt64).toInt64) &&& (255 : Int64)).toInt32).toUInt32.toUInt16.toUInt32.toInt32)), .val (.int (((((x1.toUInt64 >>> ((16 : Int32) &&& 0x3f).toInt64.toUInt64).toInt64) &&& (255 : Int64)).toInt32).toUInt32.toUInt16.toUInt32.toInt32)), .val (.int (((((x1.toUInt64 >>> ((24 : Int32) &&& 0x3f).toInt64.toUInt64).toInt64) &&& (255 : Int64)).toInt32).toUInt32.toUInt16.toUInt32.toInt32))] [(.ref b1)])) (fun _ k => st1 _ k) ?_
          refine own_st (T' := T1) (F' := (mkF m 138 #[.val (.int x0), .val (.long x1), .second, .val (.int (((x1 &&& (255 : Int64)).toInt32).toUInt32.toUInt16.toUInt32.toInt32)), .val (.int (((((x1.toUInt64 >>> ((8 : Int32) &&& 0x3f).toInt64.toUInt64).toInt64) &&& (255 : Int64)).toInt32).toUInt32.toUInt16.toUInt32.toInt32)), .val (.int (((((x1.toUInt64 >>> ((16 : Int32) &&& 0x3f).toInt64.toUInt64).toInt64) &&& (255 : Int64)).toInt32).toUInt32.toUInt16.toUInt32.toInt32)), .val (.int (((((x1.toUInt64 >>> ((24 : Int32) &&& 0x3f).toInt64.toUInt64).toInt64) &&& (255 : Int64)).toInt32).toUInt32.toUInt16.toUInt32.toInt32))] [(.ref b1), (.ref b1)])) (fun _ k => XS.dup X1.here hx rfl (hb hby d2_137) rfl rfl k) ?_
          refine own_st (T' := T1) (F' := (mkF m 139 #[.val (.int x0), .val (.long x1), .second, .val (.int (((x1 &&& (255 : Int64)).toInt32).toUInt32.toUInt16.toUInt32.toInt32)), .val (.int (((((x1.toUInt64 >>> ((8 : Int32) &&& 0x3f).toInt64.toUInt64).toInt64) &&& (255 : Int64)).toInt32).toUInt32.toUInt16.toUInt32.toInt32)), .val (.int (((((x1.toUInt64 >>> ((16 : Int32) &&& 0x3f).toInt64.toUInt64).toInt64) &&& (255 : Int64)).toInt32).toUInt32.toUInt16.toUInt32.toInt32)), .val (.int (((((x1.toUInt64 >>> ((24 : Int32) &&& 0x3f).toInt64.toUInt64).toInt64) &&& (255 : Int64)).toInt32).toUInt32.toUInt16.toUInt32.toInt32))] [(.int (4 : Int32)), (.ref b1), (.ref b1)])) (fun _ k => XS.iconst X1.here hx rfl (hb hby d2_138) k) ?_
          obtain ⟨T5, h5, k5, X5, e5, E5, A5, AE5, st5⟩ := newPE X1 hx hZ (hw _ (List.mem_of_getElem? (i := 15) rfl)) e1 (g := (mkF m 139 #[.val (.int x0), .val (.long x1), .second, .val (.int (((x1 &&& (255 : Int64)).toInt32).toUInt32.toUInt16.toUInt32.toInt32)), .val (.int (((((x1.toUInt64 >>> ((8 : Int32) &&& 0x3f).toInt64.toUInt64).toInt64) &&& (255 : Int64)).toInt32).toUInt32.toUInt16.toUInt32.toInt32)), .val (.int (((((x1.toUInt64 >>> ((16 : Int32) &&& 0x3f).toInt64.toUInt64).toInt64) &&& (255 : Int64)).toInt32).toUInt32.toUInt16.toUInt32.toInt32)), .val (.int (((((x1.toUInt64 >>> ((24 : Int32) &&& 0x3f).toInt64.toUInt64).toInt64) &&& (255 : Int64)).toInt32).toUInt32.toUInt16.toUInt32.toInt32))] [(.int (4 : Int32)), (.ref b1), (.ref b1)])) rfl (hb hby d2_139) rfl (by decide) (cap := 4) (by decide) (by decide) (by decide) (by decide) (ad := "[C") (by decide)
          obtain ⟨b5, g5⟩ : ∃ z, z = h1.size := ⟨_, rfl⟩
          rw [← g5] at A5 AE5 st5
          have ge5 : n0 ≤ b5 := by rw [g5]; exact Zs1
          have hge5 : h0.size ≤ b5 := by rw [g5]; exact K1.1
          have ne5_1 : b1 ≠ b5 := by rw [g5]; exact Nat.ne_of_lt A1.lt
          have f6 : Sta Z h5 "java/lang/String" "COMPACT_STRINGS" "Z" (.int cs) := f2.ext E5
          have f7 : Exa Z h5 b1 "java/lang/String" := A1.ext E5
          have f8 : Fld Z h5 b1 "java/lang/String" "coder" "B" (.int (0 : Int32)) := f3.ext E5
          have f9 : Fld Z h5 b1 "java/lang/String" "value" "[B" .null := f4.ext E5
          have K5 : Keep h0 h5 [] := K1.ext E5
          have Zs5 : n0 ≤ h5.size := Nat.le_trans Z0 K5.1
          have Cs5 := CHr.ext E5 C1.1
          have C5 := C1.trans Cs5
          have hk5 := Nat.le_trans hk1 Cs5.2.1
          have V5 : Arv Z h5 b5 k5 .char (4 : Int32) [(.int (0 : Int32)), (.int (0 : Int32)), (.int (0 : Int32)), (.int (0 : Int32))] (.int (0 : Int32)) := (Arv.new A5 (by decide)).pad (pad_rep [] (.int (0 : Int32)) 4)
          refine own_st (T' := T5) (F' := (mkF m 141 #[.val (.int x0), .val (.long x1), .second, .val (.int (((x1 &&& (255 : Int64)).toInt32).toUInt32.toUInt16.toUInt32.toInt32)), .val (.int (((((x1.toUInt64 >>> ((8 : Int32) &&& 0x3f).toInt64.toUInt64).toInt64) &&& (255 : Int64)).toInt32).toUInt32.toUInt16.toUInt32.toInt32)), .val (.int (((((x1.toUInt64 >>> ((16 : Int32) &&& 0x3f).toInt64.toUInt64).toInt64) &&& (255 : Int64)).toInt32).toUInt32.toUInt16.toUInt32.toInt32)), .val (.int (((((x1.toUInt64 >>> ((24 : Int32) &&& 0x3f).toInt64.toUInt64).toInt64) &&& (255 : Int64)).toInt32).toUInt32.toUInt16.toUInt32.toInt32))] [(.ref b5), (.ref b1), (.ref b1)])) (fun _ k => st5 _ k) ?_
          refine own_st (T' := T5) (F' := (mkF m 142 #[.val (.int x0), .val (.long x1), .second, .val (.int (((x1 &&& (255 : Int64)).toInt32).toUInt32.toUInt16.toUInt32.toInt32)), .val (.int (((((x1.toUInt64 >>> ((8 : Int32) &&& 0x3f).toInt64.toUInt64).toInt64) &&& (255 : Int64)).toInt32).toUInt32.toUInt16.toUInt32.toInt32)), .val (.int (((((x1.toUInt64 >>> ((16 : Int32) &&& 0x3f).toInt64.toUInt64).toInt64) &&& (255 : Int64)).toInt32).toUInt32.toUInt16.toUInt32.toInt32)), .val (.int (((((x1.toUInt64 >>> ((24 : Int32) &&& 0x3f).toInt64.toUInt64).toInt64) &&& (255 : Int64)).toInt32).toUInt32.toUInt16.toUInt32.toInt32))] [(.ref b5), (.ref b5), (.ref b1), (.ref b1)])) (fun _ k => XS.dup X5.here hx rfl (hb hby d2_141) rfl rfl k) ?_
          refine own_st (T' := T5) (F' := (mkF m 143 #[.val (.int x0), .val (.long x1), .second, .val (.int (((x1 &&& (255 : Int64)).toInt32).toUInt32.toUInt16.toUInt32.toInt32)), .val (.int (((((x1.toUInt64 >>> ((8 : Int32) &&& 0x3f).toInt64.toUInt64).toInt64) &&& (255 : Int64)).toInt32).toUInt32.toUInt16.toUInt32.toInt32)), .val (.int (((((x1.toUInt64 >>> ((16 : Int32) &&& 0x3f).toInt64.toUInt64).toInt64) &&& (255 : Int64)).toInt32).toUInt32.toUInt16.toUInt32.toInt32)), .val (.int (((((x1.toUInt64 >>> ((24 : Int32) &&& 0x3f).toInt64.toUInt64).toInt64) &&& (255 : Int64)).toInt32).toUInt32.toUInt16.toUInt32.toInt32))] [(.int (0 : Int32)), (.ref b5), (.ref b5), (.ref b1), (.ref b1)])) (fun _ k => XS.iconst X5.here hx rfl (hb hby d2_142) k) ?_
          refine own_st (T' := T5) (F' := (mkF m 144 #[.val (.int x0), .val (.long x1), .second, .val (.int (((x1 &&& (255 : Int64)).toInt32).toUInt32.toUInt16.toUInt32.toInt32)), .val (.int (((((x1.toUInt64 >>> ((8 : Int32) &&& 0x3f).toInt64.toUInt64).toInt64) &&& (255 : Int64)).toInt32).toUInt32.toUInt16.toUInt32.toInt32)), .val (.int (((((x1.toUInt64 >>> ((16 : Int32) &&& 0x3f).toInt64.toUInt64).toInt64) &&& (255 : Int64)).toInt32).toUInt32.toUInt16.toUInt32.toInt32)), .val (.int (((((x1.toUInt64 >>> ((24 : Int32) &&& 0x3f).toInt64.toUInt64).toInt64) &&& (255 : Int64)).toInt32).toUInt32.toUInt16.toUInt32.toInt32))] [(.int (((x1 &&& (255 : Int64)).toInt32).toUInt32.toUInt16.toUInt32.toInt32)), (.int (0 : Int32)), (.ref b5), (.ref b5), (.ref b1), (.ref b1)])) (fun _ k => XS.iloadN X5.here hx rfl (hb hby d2_143) rfl  k) ?_
          obtain ⟨cl10, Ar10, Aq10, As10, Am10, Ah10, Au10⟩ := id V5
          have hin10 : ¬ ((0 : Int32) < 0 ∨ cl10.slots.size ≤ ((0 : Int32)).toNatClampNeg) := inb_of As10 ⟨by decide, by decide⟩
          obtain ⟨T10, h10, X10, e10, W10, st10⟩ := stC X5 hx hZ e5 Ar10 (j := (0 : Int32)) hin10 (g := (mkF m 144 #[.val (.int x0), .val (.long x1), .second, .val (.int (((x1 &&& (255 : Int64)).toInt32).toUInt32.toUInt16.toUInt32.toInt32)), .val (.int (((((x1.toUInt64 >>> ((8 : Int32) &&& 0x3f).toInt64.toUInt64).toInt64) &&& (255 : Int64)).toInt32).toUInt32.toUInt16.toUInt32.toInt32)), .val (.int (((((x1.toUInt64 >>> ((16 : Int32) &&& 0x3f).toInt64.toUInt64).toInt64) &&& (255 : Int64)).toInt32).toUInt32.toUInt16.toUInt32.toInt32)), .val (.int (((((x1.toUInt64 >>> ((24 : Int32) &&& 0x3f).toInt64.toUInt64).toInt64) &&& (255 : Int64)).toInt32).toUInt32.toUInt16.toUInt32.toInt32))] [(.int (((x1 &&& (255 : Int64)).toInt32).toUInt32.toUInt16.toUInt32.toInt32)), (.int (0 : Int32)), (.ref b5), (.ref b5), (.ref b1), (.ref b1)])) rfl rfl (hb hby d2_144)
          have V10 : Arv Z h10 b5 k5 .char (4 : Int32) [(.int (nar .char (((x1 &&& (255 : Int64)).toInt32).toUInt32.toUInt16.toUInt32.toInt32))), (.int (0 : Int32)), (.int (0 : Int32)), (.int (0 : Int32))] (.int (0 : Int32)) := Arv.set Ar10 Aq10 As10 Am10 Ah10 Au10 (fits_nar_char _) W10 0 rfl (show 0 < 4 by decide)
          have N10 := Fr.snoc X10 N0 ge5
          have f11 : Sta Z h10 "java/lang/String" "COMPACT_STRINGS" "Z" (.int cs) := f6.wr W10
          have f12 : Exa Z h10 b1 "java/lang/String" := f7.wr W10
          have f13 : Fld Z h10 b1 "java/lang/String" "coder" "B" (.int (0 : Int32)) := f8.other W10 (Or.inl ne5_1)
          have f14 : Fld Z h10 b1 "java/lang/String" "value" "[B" .null := f9.other W10 (Or.inl ne5_1)
          have f15 : Exa Z h10 b5 "[C" := AE5.wr W10
          have K10 : Keep h0 h10 [] := K5.wr W10 (Or.inr hge5)
          have Zs10 : n0 ≤ h10.size := Nat.le_trans Z0 K10.1
          have Cs10 := CHr.wr W10 (Safe.arv hZ.alike V5 (by decide)) C5.1
          have C10 := C5.trans Cs10
          have hk10 := Nat.le_trans hk5 Cs10.2.1
          refine own_st (T' := T10) (F' := (mkF m 145 #[.val (.int x0), .val (.long x1), .second, .val (.int (((x1 &&& (255 : Int64)).toInt32).toUInt32.toUInt16.toUInt32.toInt32)), .val (.int (((((x1.toUInt64 >>> ((8 : Int32) &&& 0x3f).toInt64.toUInt64).toInt64) &&& (255 : Int64)).toInt32).toUInt32.toUInt16.toUInt32.toInt32)), .val (.int (((((x1.toUInt64 >>> ((16 : Int32) &&& 0x3f).toInt64.toUInt64).toInt64) &&& (255 : Int64)).toInt32).toUInt32.toUInt16.toUInt32.toInt32)), .val (.int (((((x1.toUInt64 >>> ((24 : Int32) &&& 0x3f).toInt64.toUInt64).toInt64) &&& (255 : Int64)).toInt32).toUInt32.toUInt16.toUInt32.toInt32))] [(.ref b5), (.ref b1), (.ref b1)])) (fun _ k => st10 _ k) ?_
          refine own_st (T' := T10) (F' := (mkF m 146 #[.val (.int x0), .val (.long x1), .second, .val (.int (((x1 &&& (255 : Int64)).toInt32).toUInt32.toUInt16.toUInt32.toInt32)), .val (.int (((((x1.toUInt64 >>> ((8 : Int32) &&& 0x3f).toInt64.toUInt64).toInt64) &&& (255 : Int64)).toInt32).toUInt32.toUInt16.toUInt32.toInt32)), .val (.int (((((x1.toUInt64 >>> ((16 : Int32) &&& 0x3f).toInt64.toUInt64).toInt64) &&& (255 : Int64)).toInt32).toUInt32.toUInt16.toUInt32.toInt32)), .val (.int (((((x1.toUInt64 >>> ((24 : Int32) &&& 0x3f).toInt64.toUInt64).toInt64) &&& (255 : Int64)).toInt32).toUInt32.toUInt16.toUInt32.toInt32))] [(.ref b5), (.ref b5), (.ref b1), (.ref b1)])) (fun _ k => XS.dup X10.here hx rfl (hb hby d2_145) rfl rfl k) ?_
          refine own_st (T' := T10) (F' := (mkF m 147 #[.val (.int x0), .val (.long x1), .second, .val (.int (((x1 &&& (255 : Int64)).toInt32).toUInt32.toUInt16.toUInt32.toInt32)), .val (.int (((((x1.toUInt64 >>> ((8 : Int32) &&& 0x3f).toInt64.toUInt64).toInt64) &&& (255 : Int64)).toInt32).toUInt32.toUInt16.toUInt32.toInt32)), .val (.int (((((x1.toUInt64 >>> ((16 : Int32) &&& 0x3f).toInt64.toUInt64).toInt64) &&& (255 : Int64)).toInt32).toUInt32.toUInt16.toUInt32.toInt32)), .val (.int (((((x1.toUInt64 >>> ((24 : Int32) &&& 0x3f).toInt64.toUInt64).toInt64) &&& (255 : Int64)).toInt32).toUInt32.toUInt16.toUInt32.toInt32))] [(.int (1 : Int32)), (.ref b5), (.ref b5), (.ref b1), (.ref b1)])) (fun _ k => XS.iconst X10.here hx rfl (hb hby d2_146) k) ?_
          refine own_st (T' := T10) (F' := (mkF m 149 #[.val (.int x0), .val (.long x1), .second, .val (.int (((x1 &&& (255 : Int64)).toInt32).toUInt32.toUInt16.toUInt32.toInt32)), .val (.int (((((x1.toUInt64 >>> ((8 : Int32) &&& 0x3f).toInt64.toUInt64).toInt64) &&& (255 : Int64)).toInt32).toUInt32.toUInt16.toUInt32.toInt32)), .val (.int (((((x1.toUInt64 >>> ((16 : Int32) &&& 0x3f).toInt64.toUInt64).toInt64) &&& (255 : Int64)).toInt32).toUInt32.toUInt16.toUInt32.toInt32)), .val (.int (((((x1.toUInt64 >>> ((24 : Int32) &&& 0x3f).toInt64.toUInt64).toInt64) &&& (255 : Int64)).toInt32).toUInt32.toUInt16.toUInt32.toInt32))] [(.int (((((x1.toUInt64 >>> ((8 : Int32) &&& 0x3f).toInt64.toUInt64).toInt64) &&& (255 : Int64)).toInt32).toUInt32.toUInt16.toUInt32.toInt32)), (.int (1 : Int32)), (.ref b5), (.ref b5), (.ref b1), (.ref b1)])) (fun _ k => XS.iload X10.here hx rfl (hb hby d2_147) rfl  k) ?_
          obtain ⟨cl16, Ar16, Aq16, As16, Am16, Ah16, Au16⟩ := id V10
          have hin16 : ¬ ((1 : Int32) < 0 ∨ cl16.slots.size ≤ ((1 : Int32)).toNatClampNeg) := inb_of As16 ⟨by decide, by decide⟩
          obtain ⟨T16, h16, X16, e16, W16, st16⟩ := stC X10 hx hZ e10 Ar16 (j := (1 : Int32)) hin16 (g := (mkF m 149 #[.val (.int x0), .val (.long x1), .second, .val (.int (((x1 &&& (255 : Int64)).toInt32).toUInt32.toUInt16.toUInt32.toInt32)), .val (.int (((((x1.toUInt64 >>> ((8 : Int32) &&& 0x3f).toInt64.toUInt64).toInt64) &&& (255 : Int64)).toInt32).toUInt32.toUInt16.toUInt32.toInt32)), .val (.int (((((x1.toUInt64 >>> ((16 : Int32) &&& 0x3f).toInt64.toUInt64).toInt64) &&& (255 : Int64)).toInt32).toUInt32.toUInt16.toUInt32.toInt32)), .val (.int (((((x1.toUInt64 >>> ((24 : Int32) &&& 0x3f).toInt64.toUInt64).toInt64) &&& (255 : Int64)).toInt32).toUInt32.toUInt16.toUInt32.toInt32))] [(.int (((((x1.toUInt64 >>> ((8 : Int32) &&& 0x3f).toInt64.toUInt64).toInt64) &&& (255 : Int64)).toInt32).toUInt32.toUInt16.toUInt32.toInt32)), (.int (1 : Int32)), (.ref b5), (.ref b5), (.ref b1), (.ref b1)])) rfl rfl (hb hby d2_149)
          have V16 : Arv Z h16 b5 k5 .char (4 : Int32) [(.int (nar .char (((x1 &&& (255 : Int64)).toInt32).toUInt32.toUInt16.toUInt32.toInt32))), (.int (nar .char (((((x1.toUInt64 >>> ((8 : Int32) &&& 0x3f).toInt64.toUInt64).toInt64) &&& (255 : Int64)).toInt32).toUInt32.toUInt16.toUInt32.toInt32))), (.int (0 : Int32)), (.int (0 : Int32))] (.int (0 : Int32)) := Arv.set Ar16 Aq16 As16 Am16 Ah16 Au16 (fits_nar_char _) W16 1 rfl (show 1 < 4 by decide)
          have N16 := Fr.snoc X16 N10 ge5
          have f17 : Sta Z h16 "java/lang/String" "COMPACT_STRINGS" "Z" (.int cs) := f11.wr W16
          have f18 : Exa Z h16 b1 "java/lang/String" := f12.wr W16
          have f19 : Fld Z h16 b1 "java/lang/String" "coder" "B" (.int (0 : Int32)) := f13.other W16 (Or.inl ne5_1)
          have f20 : Fld Z h16 b1 "java/lang/String" "value" "[B" .null := f14.other W16 (Or.inl ne5_1)
          have f21 : Exa Z h16 b5 "[C" := f15.wr W16
          have K16 : Keep h0 h16 [] := K10.wr W16 (Or.inr hge5)
          have Zs16 : n0 ≤ h16.size := Nat.le_trans Z0 K16.1
          have Cs16 := CHr.wr W16 (Safe.arv hZ.alike V10 (by decide)) C10.1
          have C16 := C10.trans Cs16
          have hk16 := Nat.le_trans hk10 Cs16.2.1
          refine own_st (T' := T16) (F' := (mkF m 150 #[.val (.int x0), .val (.long x1), .second, .val (.int (((x1 &&& (255 : Int64)).toInt32).toUInt32.toUInt16.toUInt32.toInt32)), .val (.int (((((x1.toUInt64 >>> ((8 : Int32) &&& 0x3f).toInt64.toUInt64).toInt64) &&& (255 : Int64)).toInt32).toUInt32.toUInt16.toUInt32.toInt32)), .val (.int (((((x1.toUInt64 >>> ((16 : Int32) &&& 0x3f).toInt64.toUInt64).toInt64) &&& (255 : Int64)).toInt32).toUInt32.toUInt16.toUInt32.toInt32)), .val (.int (((((x1.toUInt64 >>> ((24 : Int32) &&& 0x3f).toInt64.toUInt64).toInt64) &&& (255 : Int64)).toInt32).toUInt32.toUInt16.toUInt32.toInt32))] [(.ref b5), (.ref b1), (.ref b1)])) (fun _ k => st16 _ k) ?_
          refine own_st (T' := T16) (F' := (mkF m 151 #[.val (.int x0), .val (.long x1), .second, .val (.int (((x1 &&& (255 : Int64)).toInt32).toUInt32.toUInt16.toUInt32.toInt32)), .val (.int (((((x1.toUInt64 >>> ((8 : Int32) &&& 0x3f).toInt64.toUInt64).toInt64) &&& (255 : Int64)).toInt32).toUInt32.toUInt16.toUInt32.toInt32)), .val (.int (((((x1.toUInt64 >>> ((16 : Int32) &&& 0x3f).toInt64.toUInt64).toInt64) &&& (255 : Int64)).toInt32).toUInt32.toUInt16.toUInt32.toInt32)), .val (.int (((((x1.toUInt64 >>> ((24 : Int32) &&& 0x3f).toInt64.toUInt64).toInt64) &&& (255 : Int64)).toInt32).toUInt32.toUInt16.toUInt32.toInt32))] [(.ref b5), (.ref b5), (.ref b1), (.ref b1)])) (fun _ k => XS.dup X16.here hx rfl (hb hby d2_150) rfl rfl k) ?_
          refine own_st (T' := T16) (F' := (mkF m 152 #[.val (.int x0), .val (.long x1), .second, .val (.int (((x1 &&& (255 : Int64)).toInt32).toUInt32.toUInt16.toUInt32.toInt32)), .val (.int (((((x1.toUInt64 >>> ((8 : Int32) &&& 0x3f).toInt64.toUInt64).toInt64) &&& (255 : Int64)).toInt32).toUInt32.toUInt16.toUInt32.toInt32)), .val (.int (((((x1.toUInt64 >>> ((16 : Int32) &&& 0x3f).toInt64.toUInt64).toInt64) &&& (255 : Int64)).toInt32).toUInt32.toUInt16.toUInt32.toInt32)), .val (.int (((((x1.toUInt64 >>> ((24 : Int32) &&& 0x3f).toInt64.toUInt64).toInt64) &&& (255 : Int64)).toInt32).toUInt32.toUInt16.toUInt32.toInt32))] [(.int (2 : Int32)), (.ref b5), (.ref b5), (.ref b1), (.ref b1)])) (fun _ k => XS.iconst X16.here hx rfl (hb hby d2_151) k) ?_
          refine own_st (T' := T16) (F' := (mkF m 154 #[.val (.int x0), .val (.long x1), .second, .val (.int (((x1 &&& (255 : Int64)).toInt32).toUInt32.toUInt16.toUInt32.toInt32)), .val (.int (((((x1.toUInt64 >>> ((8 : Int32) &&& 0x3f).toInt64.toUInt64).toInt64) &&& (255 : Int64)).toInt32).toUInt32.toUInt16.toUInt32.toInt32)), .val (.int (((((x1.toUInt64 >>> ((16 : Int32) &&& 0x3f).toInt64.toUInt64).toInt64) &&& (255 : Int64)).toInt32).toUInt32.toUInt16.toUInt32.toInt32)), .val (.int (((((x1.toUInt64 >>> ((24 : Int32) &&& 0x3f).toInt64.toUInt64).toInt64) &&& (255 : Int64)).toInt32).toUInt32.toUInt16.toUInt32.toInt32))] [(.int (((((x1.toUInt64 >>> ((16 : Int32) &&& 0x3f).toInt64.toUInt64).toInt64) &&& (255 : Int64)).toInt32).toUInt32.toUInt16.toUInt32.toInt32)), (.int (2 : Int32)), (.ref b5), (.ref b5), (.ref b1), (.ref b1)])) (fun _ k => XS.iload X16.here hx rfl (hb hby d2_152) rfl  k) ?_
          obtain ⟨cl22, Ar22, Aq22, As22, Am22, Ah22, Au22⟩ := id V16
          have hin22 : ¬ ((2 : Int32) < 0 ∨ cl22.slots.size ≤ ((2 : Int32)).toNatClampNeg) := inb_of As22 ⟨by decide, by decide⟩
          obtain ⟨T22, h22, X22, e22, W22, st22⟩ := stC X16 hx hZ e16 Ar22 (j := (2 : Int32)) hin22 (g := (mkF m 154 #[.val (.int x0), .val (.long x1), .second, .val (.int (((x1 &&& (255 : Int64)).toInt32).toUInt32.toUInt16.toUInt32.toInt32)), .val (.int (((((x1.toUInt64 >>> ((8 : Int32) &&& 0x3f).toInt64.toUInt64).toInt64) &&& (255 : Int64)).toInt32).toUInt32.toUInt16.toUInt32.toInt32)), .val (.int (((((x1.toUInt64 >>> ((16 : Int32) &&& 0x3f).toInt64.toUInt64).toInt64) &&& (255 : Int64)).toInt32).toUInt32.toUInt16.toUInt32.toInt32)), .val (.int (((((x1.toUInt64 >>> ((24 : Int32) &&& 0x3f).toInt64.toUInt64).toInt64) &&& (255 : Int64)).toInt32).toUInt32.toUInt16.toUInt32.toInt32))] [(.int (((((x1.toUInt64 >>> ((16 : Int32) &&& 0x3f).toInt64.toUInt64).toInt64) &&& (255 : Int64)).toInt32).toUInt32.toUInt16.toUInt32.toInt32)), (.int (2 : Int32)), (.ref b5), (.ref b5), (.ref b1), (.ref b1)])) rfl rfl (hb hby d2_154)
          have V22 : Arv Z h22 b5 k5 .char (4 : Int32) [(.int (nar .char (((x1 &&& (255 : Int64)).toInt32).toUInt32.toUInt16.toUInt32.toInt32))), (.int (nar .char (((((x1.toUInt64 >>> ((8 : Int32) &&& 0x3f).toInt64.toUInt64).toInt64) &&& (255 : Int64)).toInt32).toUInt32.toUInt16.toUInt32.toInt32))), (.int (nar .char (((((x1.toUInt64 >>> ((16 : Int32) &&& 0x3f).toInt64.toUInt64).toInt64) &&& (255 : Int64)).toInt32).toUInt32.toUInt16.toUInt32.toInt32))), (.int (0 : Int32))] (.int (0 : Int32)) := Arv.set Ar22 Aq22 As22 Am22 Ah22 Au22 (fits_nar_char _) W22 2 rfl (show 2 < 4 by decide)
          have N22 := Fr.snoc X22 N16 ge5
          have f23 : Sta Z h22 "java/lang/String" "COMPACT_STRINGS" "Z" (.int cs) := f17.wr W22
          have f24 : Exa Z h22 b1 "java/lang/String" := f18.wr W22
          have f25 : Fld Z h22 b1 "java/lang/String" "coder" "B" (.int (0 : Int32)) := f19.other W22 (Or.inl ne5_1)
          have f26 : Fld Z h22 b1 "java/lang/String" "value" "[B" .null := f20.other W22 (Or.inl ne5_1)
          have f27 : Exa Z h22 b5 "[C" := f21.wr W22
          have K22 : Keep h0 h22 [] := K16.wr W22 (Or.inr hge5)
          have Zs22 : n0 ≤ h22.size := Nat.le_trans Z0 K22.1
          have Cs22 := CHr.wr W22 (Safe.arv hZ.alike V16 (by decide)) C16.1
          have C22 := C16.trans Cs22
          have hk22 := Nat.le_trans hk16 Cs22.2.1
          refine own_st (T' := T22) (F' := (mkF m 155 #[.val (.int x0), .val (.long x1), .second, .val (.int (((x1 &&& (255 : Int64)).toInt32).toUInt32.toUInt16.toUInt32.toInt32)), .val (.int (((((x1.toUInt64 >>> ((8 : Int32) &&& 0x3f).toInt64.toUInt64).toInt64) &&& (255 : Int64)).toInt32).toUInt32.toUInt16.toUInt32.toInt32)), .val (.int (((((x1.toUInt64 >>> ((16 : Int32) &&& 0x3f).toInt64.toUInt64).toInt64) &&& (255 : Int64)).toInt32).toUInt32.toUInt16.toUInt32.toInt32)), .val (.int (((((x1.toUInt64 >>> ((24 : Int32) &&& 0x3f).toInt64.toUInt64).toInt64) &&& (255 : Int64)).toInt32).toUInt32.toUInt16.toUInt32.toInt32))] [(.ref b5), (.ref b1), (.ref b1)])) (fun _ k => st22 _ k) ?_
          refine own_st (T' := T22) (F' := (mkF m 156 #[.val (.int x0), .val (.long x1), .second, .val (.int (((x1 &&& (255 : Int64)).toInt32).toUInt32.toUInt16.toUInt32.toInt32)), .val (.int (((((x1.toUInt64 >>> ((8 : Int32) &&& 0x3f).toInt64.toUInt64).toInt64) &&& (255 : Int64)).toInt32).toUInt32.toUInt16.toUInt32.toInt32)), .val (.int (((((x1.toUInt64 >>> ((16 : Int32) &&& 0x3f).toInt64.toUInt64).toInt64) &&& (255 : Int64)).toInt32).toUInt32.toUInt16.toUInt32.toInt32)), .val (.int (((((x1.toUInt64 >>> ((24 : Int32) &&& 0x3f).toInt64.toUInt64).toInt64) &&& (255 : Int64)).toInt32).toUInt32.toUInt16.toUInt32.toInt32))] [(.ref b5), (.ref b5), (.ref b1), (.ref b1)])) (fun _ k => XS.dup X22.here hx rfl (hb hby d2_155) rfl rfl k) ?_
          refine own_st (T' := T22) (F' := (mkF m 157 #[.val (.int x0), .val (.long x1), .second, .val (.int (((x1 &&& (255 : Int64)).toInt32).toUInt32.toUInt16.toUInt32.toInt32)), .val (.int (((((x1.toUInt64 >>> ((8 : Int32) &&& 0x3f).toInt64.toUInt64).toInt64) &&& (255 : Int64)).toInt32).toUInt32.toUInt16.toUInt32.toInt32)), .val (.int (((((x1.toUInt64 >>> ((16 : Int32) &&& 0x3f).toInt64.toUInt64).toInt64) &&& (255 : Int64)).toInt32).toUInt32.toUInt16.toUInt32.toInt32)), .val (.int (((((x1.toUInt64 >>> ((24 : Int32) &&& 0x3f).toInt64.toUInt64).toInt64) &&& (255 : Int64)).toInt32).toUInt32.toUInt16.toUInt32.toInt32))] [(.int (3 : Int32)), (.ref b5), (.ref b5), (.ref b1), (.ref b1)])) (fun _ k => XS.iconst X22.here hx rfl (hb hby d2_156) k) ?_
          refine own_st (T' := T22) (F' := (mkF m 159 #[.val (.int x0), .val (.long x1), .second, .val (.int (((x1 &&& (255 : Int64)).toInt32).toUInt32.toUInt16.toUInt32.toInt32)), .val (.int (((((x1.toUInt64 >>> ((8 : Int32) &&& 0x3f).toInt64.toUInt64).toInt64) &&& (255 : Int64)).toInt32).toUInt32.toUInt16.toUInt32.toInt32)), .val (.int (((((x1.toUInt64 >>> ((16 : Int32) &&& 0x3f).toInt64.toUInt64).toInt64) &&& (255 : Int64)).toInt32).toUInt32.toUInt16.toUInt32.toInt32)), .val (.int (((((x1.toUInt64 >>> ((24 : Int32) &&& 0x3f).toInt64.toUInt64).toInt64) &&& (255 : Int64)).toInt32).toUInt32.toUInt16.toUInt32.toInt32))] [(.int (((((x1.toUInt64 >>> ((24 : Int32) &&& 0x3f).toInt64.toUInt64).toInt64) &&& (255 : Int64)).toInt32).toUInt32.toUInt16.toUInt32.toInt32)), (.int (3 : Int32)), (.ref b5), (.ref b5), (.ref b1), (.ref b1)])) (fun _ k => XS.iload X22.here hx rfl (hb hby d2_157) rfl  k) ?_
          obtain ⟨cl28, Ar28, Aq28, As28, Am28, Ah28, Au28⟩ := id V22
          have hin28 : ¬ ((3 : Int32) < 0 ∨ cl28.slots.size ≤ ((3 : Int32)).toNatClampNeg) := inb_of As28 ⟨by decide, by decide⟩
          obtain ⟨T28, h28, X28, e28, W28, st28⟩ := stC X22 hx hZ e22 Ar28 (j := (3 : Int32)) hin28 (g := (mkF m 159 #[.val (.int x0), .val (.long x1), .second, .val (.int (((x1 &&& (255 : Int64)).toInt32).toUInt32.toUInt16.toUInt32.toInt32)), .val (.int (((((x1.toUInt64 >>> ((8 : Int32) &&& 0x3f).toInt64.toUInt64).toInt64) &&& (255 : Int64)).toInt32).toUInt32.toUInt16.toUInt32.toInt32)), .val (.int (((((x1.toUInt64 >>> ((16 : Int32) &&& 0x3f).toInt64.toUInt64).toInt64) &&& (255 : Int64)).toInt32).toUInt32.toUInt16.toUInt32.toInt32)), .val (.int (((((x1.toUInt64 >>> ((24 : Int32) &&& 0x3f).toInt64.toUInt64).toInt64) &&& (255 : Int64)).toInt32).toUInt32.toUInt16.toUInt32.toInt32))] [(.int (((((x1.toUInt64 >>> ((24 : Int32) &&& 0x3f).toInt64.toUInt64).toInt64) &&& (255 : Int64)).toInt32).toUInt32.toUInt16.toUInt32.toInt32)), (.int (3 : Int32)), (.ref b5), (.ref b5), (.ref b1), (.ref b1)])) rfl rfl (hb hby d2_159)
          have V28 : Arv Z h28 b5 k5 .char (4 : Int32) [(.int (nar .char (((x1 &&& (255 : Int64)).toInt32).toUInt32.toUInt16.toUInt32.toInt32))), (.int (nar .char (((((x1.toUInt64 >>> ((8 : Int32) &&& 0x3f).toInt64.toUInt64).toInt64) &&& (255 : Int64)).toInt32).toUInt32.toUInt16.toUInt32.toInt32))), (.int (nar .char (((((x1.toUInt64 >>> ((16 : Int32) &&& 0x3f).toInt64.toUInt64).toInt64) &&& (255 : Int64)).toInt32).toUInt32.toUInt16.toUInt32.toInt32))), (.int (nar .char (((((x1.toUInt64 >>> ((24 : Int32) &&& 0x3f).toInt64.toUInt64).toInt64) &&& (255 : Int64)).toInt32).toUInt32.toUInt16.toUInt32.toInt32)))] (.int (0 : Int32)) := Arv.set Ar28 Aq28 As28 Am28 Ah28 Au28 (fits_nar_char _) W28 3 rfl (show 3 < 4 by decide)
          have N28 := Fr.snoc X28 N22 ge5
          have f29 : Sta Z h28 "java/lang/String" "COMPACT_STRINGS" "Z" (.int cs) := f23.wr W28
          have f30 : Exa Z h28 b1 "java/lang/String" := f24.wr W28
          have f31 : Fld Z h28 b1 "java/lang/String" "coder" "B" (.int (0 : Int32)) := f25.other W28 (Or.inl ne5_1)
          have f32 : Fld Z h28 b1 "java/lang/String" "value" "[B" .null := f26.other W28 (Or.inl ne5_1)
          have f33 : Exa Z h28 b5 "[C" := f27.wr W28
          have K28 : Keep h0 h28 [] := K22.wr W28 (Or.inr hge5)
          have Zs28 : n0 ≤ h28.size := Nat.le_trans Z0 K28.1
          have Cs28 := CHr.wr W28 (Safe.arv hZ.alike V22 (by decide)) C22.1
          have C28 := C22.trans Cs28
          have hk28 := Nat.le_trans hk22 Cs28.2.1
          refine own_st (T' := T28) (F' := (mkF m 160 #[.val (.int x0), .val (.long x1), .second, .val (.int (((x1 &&& (255 : Int64)).toInt32).toUInt32.toUInt16.toUInt32.toInt32)), .val (.int (((((x1.toUInt64 >>> ((8 : Int32) &&& 0x3f).toInt64.toUInt64).toInt64) &&& (255 : Int64)).toInt32).toUInt32.toUInt16.toUInt32.toInt32)), .val (.int (((((x1.toUInt64 >>> ((16 : Int32) &&& 0x3f).toInt64.toUInt64).toInt64) &&& (255 : Int64)).toInt32).toUInt32.toUInt16.toUInt32.toInt32)), .val (.int (((((x1.toUInt64 >>> ((24 : Int32) &&& 0x3f).toInt64.toUInt64).toInt64) &&& (255 : Int64)).toInt32).toUInt32.toUInt16.toUInt32.toInt32))] [(.ref b5), (.ref b1), (.ref b1)])) (fun _ k => st28 _ k) ?_
          obtain ⟨_, _, ⟨T34, L34, k34, n34⟩, -, X34, ⟨Lc34, hQ34, l34, y34, z34⟩, st34⟩ := X28.specialBack hx (y := (⟨"java/lang/String", "<init>", "([C)V"⟩ : MethodName)) rfl hown (mvT hZ (hw _ (List.mem_of_getElem? (i := 16) rfl))) (mvT hZ (hw _ (List.mem_of_getElem? (i := 17) rfl))) (mvT hZ (hw _ (List.mem_of_getElem? (i := 18) rfl))) (by decide) (backOf (W := 1) (rm3t4 l Z a0 hw [] b1 b5 cs k5 (nar .char (((x1 &&& (255 : Int64)).toInt32).toUInt32.toUInt16.toUInt32.toInt32)) (nar .char (((((x1.toUInt64 >>> ((8 : Int32) &&& 0x3f).toInt64.toUInt64).toInt64) &&& (255 : Int64)).toInt32).toUInt32.toUInt16.toUInt32.toInt32)) (nar .char (((((x1.toUInt64 >>> ((16 : Int32) &&& 0x3f).toInt64.toUInt64).toInt64) &&& (255 : Int64)).toInt32).toUInt32.toUInt16.toUInt32.toInt32)) (nar .char (((((x1.toUInt64 >>> ((24 : Int32) &&& 0x3f).toInt64.toUInt64).toInt64) &&& (255 : Int64)).toInt32).toUInt32.toUInt16.toUInt32.toInt32)) h28 n0 Zs28 f29 hcs ge1 ne5_1 f30 f31 f32 V28 (own_c255 _) (own_c255 _) (own_c255 _) (own_c255 _)) hZ (hw _ (List.mem_of_getElem? (i := 18) rfl)) (hw _ (List.mem_of_getElem? (i := 14) rfl)) (by decide) (by decide)) (g := (mkF m 160 #[.val (.int x0), .val (.long x1), .second, .val (.int (((x1 &&& (255 : Int64)).toInt32).toUInt32.toUInt16.toUInt32.toInt32)), .val (.int (((((x1.toUInt64 >>> ((8 : Int32) &&& 0x3f).toInt64.toUInt64).toInt64) &&& (255 : Int64)).toInt32).toUInt32.toUInt16.toUInt32.toInt32)), .val (.int (((((x1.toUInt64 >>> ((16 : Int32) &&& 0x3f).toInt64.toUInt64).toInt64) &&& (255 : Int64)).toInt32).toUInt32.toUInt16.toUInt32.toInt32)), .val (.int (((((x1.toUInt64 >>> ((24 : Int32) &&& 0x3f).toInt64.toUInt64).toInt64) &&& (255 : Int64)).toInt32).toUInt32.toUInt16.toUInt32.toInt32))] [(.ref b5), (.ref b1), (.ref b1)])) rfl (by rw [hml]; rfl) (Steps.refl _) (a := b1) (argsL := [(.ref b5)]) (rest := [(.ref b1)]) (lenOf own_pd12 rfl) rfl (by show 2 * 0 + _ ≤ _; exact Nat.le_of_eq rfl) (hb hby d2_160) (fun _ _ => ⟨rfl, e28, (by decide : 2 + 1 ≤ _), (by decide : 8 + 4 ≤ _)⟩)
          dsimp only [Pt.U, Pt.locs, Pt.cells, Pt.slots] at X34 l34 y34 z34 st34 hQ34
          subst l34 y34 z34
          obtain ⟨rfl, Nq34, g34_0, g34_1, g34_2⟩ := hQ34
          have N34 := Fr.app N28 Nq34
          have f35 : Sta Z T34.heap "java/lang/String" "COMPACT_STRINGS" "Z" (.int cs) := own_stk f29 g34_0 (allS (own_npE f30) all0)
          have f36 : Exa Z T34.heap b1 "java/lang/String" := f30.keep g34_0
          have f37 : Exa Z T34.heap b5 "[C" := f33.keep g34_0
          have f38 : Arv Z T34.heap b5 k5 .char (4 : Int32) [(.int (nar .char (((x1 &&& (255 : Int64)).toInt32).toUInt32.toUInt16.toUInt32.toInt32))), (.int (nar .char (((((x1.toUInt64 >>> ((8 : Int32) &&& 0x3f).toInt64.toUInt64).toInt64) &&& (255 : Int64)).toInt32).toUInt32.toUInt16.toUInt32.toInt32))), (.int (nar .char (((((x1.toUInt64 >>> ((16 : Int32) &&& 0x3f).toInt64.toUInt64).toInt64) &&& (255 : Int64)).toInt32).toUInt32.toUInt16.toUInt32.toInt32))), (.int (nar .char (((((x1.toUInt64 >>> ((24 : Int32) &&& 0x3f).toInt64.toUInt64).toInt64) &&& (255 : Int64)).toInt32).toUInt32.toUInt16.toUInt32.toInt32)))] (.int (0 : Int32)) := V28.keep g34_0 (ninS (Ne.symm ne5_1) nin0)
          have K34 : Keep h0 T34.heap [] := K28.trans g34_0 (allS (Or.inr hge1) all0)
          have Zs34 : n0 ≤ T34.heap.size := Nat.le_trans Z0 K34.1
          have Cs34 := CHr.keep g34_0 (sfS (own_safe0 hZ.alike f30 f32) sf0) C28.1
          have C34 := C28.trans Cs34
          have hk34 := Nat.le_trans hk28 Cs34.2.1
          obtain ⟨vv34, vk34, gg34, fv34, av34⟩ := id g34_2
          refine own_tr (T' := T34) (F' := (mkF m 163 #[.val (.int x0), .val (.long x1), .second, .val (.int (((x1 &&& (255 : Int64)).toInt32).toUInt32.toUInt16.toUInt32.toInt32)), .val (.int (((((x1.toUInt64 >>> ((8 : Int32) &&& 0x3f).toInt64.toUInt64).toInt64) &&& (255 : Int64)).toInt32).toUInt32.toUInt16.toUInt32.toInt32)), .val (.int (((((x1.toUInt64 >>> ((16 : Int32) &&& 0x3f).toInt64.toUInt64).toInt64) &&& (255 : Int64)).toInt32).toUInt32.toUInt16.toUInt32.toInt32)), .val (.int (((((x1.toUInt64 >>> ((24 : Int32) &&& 0x3f).toInt64.toUInt64).toInt64) &&& (255 : Int64)).toInt32).toUInt32.toUInt16.toUInt32.toInt32))] [(.ref b1)])) st34 ?_
          refine own_sretA X34 hx hS0 (by exact hk34) hlk (t := (.object "java/lang/String")) Bd.returns rfl rfl rfl (hb hby d2_163) ?_ (by exact C34.trans (CHv.at X34 hZ hEL C34.1)) (by decide) (by decide)
          show Q2 Z x0 x1 cs h0 n0 _ T34.heap _
          refine ⟨⟨_, rfl, ?_⟩, N34, K34⟩
          exact ⟨f36, g34_1, _, _, _, _, fv34, av34⟩
        ·
          obtain ⟨T39, h39, X39, e39, E39, A39, D39, -, st39⟩ := newO X0 hx hZ hown (hw _ (List.mem_of_getElem? (i := 12) rfl)) (hw _ (List.mem_of_getElem? (i := 13) rfl)) (hw _ (List.mem_of_getElem? (i := 14) rfl)) e0 (g := (mkF m 109 #[.val (.int x0), .val (.long x1), .second, .val (.int (((x1 &&& (255 : Int64)).toInt32).toUInt32.toUInt16.toUInt32.toInt32)), .val (.int (((((x1.toUInt64 >>> ((8 : Int32) &&& 0x3f).toInt64.toUInt64).toInt64) &&& (255 : Int64)).toInt32).toUInt32.toUInt16.toUInt32.toInt32)), .val (.int (((((x1.toUInt64 >>> ((16 : Int32) &&& 0x3f).toInt64.toUInt64).toInt64) &&& (255 : Int64)).toInt32).toUInt32.toUInt16.toUInt32.toInt32)), .val (.int (((((x1.toUInt64 >>> ((24 : Int32) &&& 0x3f).toInt64.toUInt64).toInt64) &&& (255 : Int64)).toInt32).toUInt32.toUInt16.toUInt32.toInt32))] [])) rfl (hb hby d2_109) (by decide) (by decide)
          obtain ⟨b39, g39⟩ : ∃ z, z = h0.size := ⟨_, rfl⟩
          rw [← g39] at A39 D39 st39
          have ge39 : n0 ≤ b39 := by rw [g39]; exact Z0
          have hge39 : h0.size ≤ b39 := by rw [g39]; exact (Keep.refl h0 []).1
          have f40 : Sta Z h39 "java/lang/String" "COMPACT_STRINGS" "Z" (.int cs) := S_cs.ext E39
          have K39 : Keep h0 h39 [] := (Keep.refl h0 []).ext E39
          have Zs39 : n0 ≤ h39.size := Nat.le_trans Z0 K39.1
          have Cs39 := CHr.ext E39 C0.1
          have C39 := C0.trans Cs39
          have hk39 := Nat.le_trans hk0 Cs39.2.1
          have f41 : Fld Z h39 b39 "java/lang/String" "coder" "B" (.int (0 : Int32)) := D39 (Or.inr (hw _ (List.mem_of_getElem? (i := 39) rfl))) (ty := .byte) (by decide)
          have f42 : Fld Z h39 b39 "java/lang/String" "value" "[B" .null := D39 (Or.inr (hw _ (List.mem_of_getElem? (i := 41) rfl))) (ty := (.array .byte)) (by decide)
          refine own_st (T' := T39) (F' := (mkF m 112 #[.val (.int x0), .val (.long x1), .second, .val (.int (((x1 &&& (255 : Int64)).toInt32).toUInt32.toUInt16.toUInt32.toInt32)), .val (.int (((((x1.toUInt64 >>> ((8 : Int32) &&& 0x3f).toInt64.toUInt64).toInt64) &&& (255 : Int64)).toInt32).toUInt32.toUInt16.toUInt32.toInt32)), .val (.int (((((x1.toUInt64 >>> ((16 : Int32) &&& 0x3f).toInt64.toUInt64).toInt64) &&& (255 : Int64)).toInt32).toUInt32.toUInt16.toUInt32.toInt32)), .val (.int (((((x1.toUInt64 >>> ((24 : Int32) &&& 0x3f).toInt64.toUInt64).toInt64) &&& (255 : Int64)).toInt32).toUInt32.toUInt16.toUInt32.toInt32))] [(.ref b39)])) (fun _ k => st39 _ k) ?_
          refine own_st (T' := T39) (F' := (mkF m 113 #[.val (.int x0), .val (.long x1), .second, .val (.int (((x1 &&& (255 : Int64)).toInt32).toUInt32.toUInt16.toUInt32.toInt32)), .val (.int (((((x1.toUInt64 >>> ((8 : Int32) &&& 0x3f).toInt64.toUInt64).toInt64) &&& (255 : Int64)).toInt32).toUInt32.toUInt16.toUInt32.toInt32)), .val (.int (((((x1.toUInt64 >>> ((16 : Int32) &&& 0x3f).toInt64.toUInt64).toInt64) &&& (255 : Int64)).toInt32).toUInt32.toUInt16.toUInt32.toInt32)), .val (.int (((((x1.toUInt64 >>> ((24 : Int32) &&& 0x3f).toInt64.toUInt64).toInt64) &&& (255 : Int64)).toInt32).toUInt32.toUInt16.toUInt32.toInt32))] [(.ref b39), (.ref b39)])) (fun _ k => XS.dup X39.here hx rfl (hb hby d2_112) rfl rfl k) ?_
          refine own_st (T' := T39) (F' := (mkF m 114 #[.val (.int x0), .val (.long x1), .second, .val (.int (((x1 &&& (255 : Int64)).toInt32).toUInt32.toUInt16.toUInt32.toInt32)), .val (.int (((((x1.toUInt64 >>> ((8 : Int32) &&& 0x3f).toInt64.toUInt64).toInt64) &&& (255 : Int64)).toInt32).toUInt32.toUInt16.toUInt32.toInt32)), .val (.int (((((x1.toUInt64 >>> ((16 : Int32) &&& 0x3f).toInt64.toUInt64).toInt64) &&& (255 : Int64)).toInt32).toUInt32.toUInt16.toUInt32.toInt32)), .val (.int (((((x1.toUInt64 >>> ((24 : Int32) &&& 0x3f).toInt64.toUInt64).toInt64) &&& (255 : Int64)).toInt32).toUInt32.toUInt16.toUInt32.toInt32))] [(.int (3 : Int32)), (.ref b39), (.ref b39)])) (fun _ k => XS.iconst X39.here hx rfl (hb hby d2_113) k) ?_
          obtain ⟨T43, h43, k43, X43, e43, E43, A43, AE43, st43⟩ := newPE X39 hx hZ (hw _ (List.mem_of_getElem? (i := 15) rfl)) e39 (g := (mkF m 114 #[.val (.int x0), .val (.long x1), .second, .val (.int (((x1 &&& (255 : Int64)).toInt32).toUInt32.toUInt16.toUInt32.toInt32)), .val (.int (((((x1.toUInt64 >>> ((8 : Int32) &&& 0x3f).toInt64.toUInt64).toInt64) &&& (255 : Int64)).toInt32).toUInt32.toUInt16.toUInt32.toInt32)), .val (.int (((((x1.toUInt64 >>> ((16 : Int32) &&& 0x3f).toInt64.toUInt64).toInt64) &&& (255 : Int64)).toInt32).toUInt32.toUInt16.toUInt32.toInt32)), .val (.int (((((x1.toUInt64 >>> ((24 : Int32) &&& 0x3f).toInt64.toUInt64).toInt64) &&& (255 : Int64)).toInt32).toUInt32.toUInt16.toUInt32.toInt32))] [(.int (3 : Int32)), (.ref b39), (.ref b39)])) rfl (hb hby d2_114) rfl (by decide) (cap := 3) (by decide) (by decide) (by decide) (by decide) (ad := "[C") (by decide)
          obtain ⟨b43, g43⟩ : ∃ z, z = h39.size := ⟨_, rfl⟩
          rw [← g43] at A43 AE43 st43
          have ge43 : n0 ≤ b43 := by rw [g43]; exact Zs39
          have hge43 : h0.size ≤ b43 := by rw [g43]; exact K39.1
          have ne43_1 : b39 ≠ b43 := by rw [g43]; exact Nat.ne_of_lt A39.lt
          have f44 : Sta Z h43 "java/lang/String" "COMPACT_STRINGS" "Z" (.int cs) := f40.ext E43
          have f45 : Exa Z h43 b39 "java/lang/String" := A39.ext E43
          have f46 : Fld Z h43 b39 "java/lang/String" "coder" "B" (.int (0 : Int32)) := f41.ext E43
          have f47 : Fld Z h43 b39 "java/lang/String" "value" "[B" .null := f42.ext E43
          have K43 : Keep h0 h43 [] := K39.ext E43
          have Zs43 : n0 ≤ h43.size := Nat.le_trans Z0 K43.1
          have Cs43 := CHr.ext E43 C39.1
          have C43 := C39.trans Cs43
          have hk43 := Nat.le_trans hk39 Cs43.2.1
          have V43 : Arv Z h43 b43 k43 .char (3 : Int32) [(.int (0 : Int32)), (.int (0 : Int32)), (.int (0 : Int32))] (.int (0 : Int32)) := (Arv.new A43 (by decide)).pad (pad_rep [] (.int (0 : Int32)) 3)
          refine own_st (T' := T43) (F' := (mkF m 116 #[.val (.int x0), .val (.long x1), .second, .val (.int (((x1 &&& (255 : Int64)).toInt32).toUInt32.toUInt16.toUInt32.toInt32)), .val (.int (((((x1.toUInt64 >>> ((8 : Int32) &&& 0x3f).toInt64.toUInt64).toInt64) &&& (255 : Int64)).toInt32).toUInt32.toUInt16.toUInt32.toInt32)), .val (.int (((((x1.toUInt64 >>> ((16 : Int32) &&& 0x3f).toInt64.toUInt64).toInt64) &&& (255 : Int64)).toInt32).toUInt32.toUInt16.toUInt32.toInt32)), .val (.int (((((x1.toUInt64 >>> ((24 : Int32) &&& 0x3f).toInt64.toUInt64).toInt64) &&& (255 : Int64)).toInt32).toUInt32.toUInt16.toUInt32.toInt32))] [(.ref b43), (.ref b39), (.ref b39)])) (fun _ k => st43 _ k) ?_
          refine own_st (T' := T43) (F' := (mkF m 117 #[.val (.int x0), .val (.long x1), .second, .val (.int (((x1 &&& (255 : Int64)).toInt32).toUInt32.toUInt16.toUInt32.toInt32)), .val (.int (((((x1.toUInt64 >>> ((8 : Int32) &&& 0x3f).toInt64.toUInt64).toInt64) &&& (255 : Int64)).toInt32).toUInt32.toUInt16.toUInt32.toInt32)), .val (.int (((((x1.toUInt64 >>> ((16 : Int32) &&& 0x3f).toInt64.toUInt64).toInt64) &&& (255 : Int64)).toInt32).toUInt32.toUInt16.toUInt32.toInt32)), .val (.int (((((x1.toUInt64 >>> ((24 : Int32) &&& 0x3f).toInt64.toUInt64).toInt64) &&& (255 : Int64)).toInt32).toUInt32.toUInt16.toUInt32.toInt32))] [(.ref b43), (.ref b43), (.ref b39), (.ref b39)])) (fun _ k => XS.dup X43.here hx rfl (hb hby d2_116) rfl rfl k) ?_
          refine own_st (T' := T43) (F' := (mkF m 118 #[.val (.int x0), .val (.long x1), .second, .val (.int (((x1 &&& (255 : Int64)).toInt32).toUInt32.toUInt16.toUInt32.toInt32)), .val (.int (((((x1.toUInt64 >>> ((8 : Int32) &&& 0x3f).toInt64.toUInt64).toInt64) &&& (255 : Int64)).toInt32).toUInt32.toUInt16.toUInt32.toInt32)), .val (.int (((((x1.toUInt64 >>> ((16 : Int32) &&& 0x3f).toInt64.toUInt64).toInt64) &&& (255 : Int64)).toInt32).toUInt32.toUInt16.toUInt32.toInt32)), .val (.int (((((x1.toUInt64 >>> ((24 : Int32) &&& 0x3f).toInt64.toUInt64).toInt64) &&& (255 : Int64)).toInt32).toUInt32.toUInt16.toUInt32.toInt32))] [(.int (0 : Int32)), (.ref b43), (.ref b43), (.ref b39), (.ref b39)])) (fun _ k => XS.iconst X43.here hx rfl (hb hby d2_117) k) ?_
          refine own_st (T' := T43) (F' := (mkF m 119 #[.val (.int x0), .val (.long x1), .second, .val (.int (((x1 &&& (255 : Int64)).toInt32).toUInt32.toUInt16.toUInt32.toInt32)), .val (.int (((((x1.toUInt64 >>> ((8 : Int32) &&& 0x3f).toInt64.toUInt64).toInt64) &&& (255 : Int64)).toInt32).toUInt32.toUInt16.toUInt32.toInt32)), .val (.int (((((x1.toUInt64 >>> ((16 : Int32) &&& 0x3f).toInt64.toUInt64).toInt64) &&& (255 : Int64)).toInt32).toUInt32.toUInt16.toUInt32.toInt32)), .val (.int (((((x1.toUInt64 >>> ((24 : Int32) &&& 0x3f).toInt64.toUInt64).toInt64) &&& (255 : Int64)).toInt32).toUInt32.toUInt16.toUInt32.toInt32))] [(.int (((x1 &&& (255 : Int64)).toInt32).toUInt32.toUInt16.toUInt32.toInt32)), (.int (0 : Int32)), (.ref b43), (.ref b43), (.ref b39), (.ref b39)])) (fun _ k => XS.iloadN X43.here hx rfl (hb hby d2_118) rfl  k) ?_
          obtain ⟨cl48, Ar48, Aq48, As48, Am48, Ah48, Au48⟩ := id V43
          have hin48 : ¬ ((0 : Int32) < 0 ∨ cl48.slots.size ≤ ((0 : Int32)).toNatClampNeg) := inb_of As48 ⟨by decide, by decide⟩
          obtain ⟨T48, h48, X48, e48, W48, st48⟩ := stC X43 hx hZ e43 Ar48 (j := (0 : Int32)) hin48 (g := (mkF m 119 #[.val (.int x0), .val (.long x1), .second, .val (.int (((x1 &&& (255 : Int64)).toInt32).toUInt32.toUInt16.toUInt32.toInt32)), .val (.int (((((x1.toUInt64 >>> ((8 : Int32) &&& 0x3f).toInt64.toUInt64).toInt64) &&& (255 : Int64)).toInt32).toUInt32.toUInt16.toUInt32.toInt32)), .val (.int (((((x1.toUInt64 >>> ((16 : Int32) &&& 0x3f).toInt64.toUInt64).toInt64) &&& (255 : Int64)).toInt32).toUInt32.toUInt16.toUInt32.toInt32)), .val (.int (((((x1.toUInt64 >>> ((24 : Int32) &&& 0x3f).toInt64.toUInt64).toInt64) &&& (255 : Int64)).toInt32).toUInt32.toUInt16.toUInt32.toInt32))] [(.int (((x1 &&& (255 : Int64)).toInt32).toUInt32.toUInt16.toUInt32.toInt32)), (.int (0 : Int32)), (.ref b43), (.ref b43), (.ref b39), (.ref b39)])) rfl rfl (hb hby d2_119)
          have V48 : Arv Z h48 b43 k43 .char (3 : Int32) [(.int (nar .char (((x1 &&& (255 : Int64)).toInt32).toUInt32.toUInt16.toUInt32.toInt32))), (.int (0 : Int32)), (.int (0 : Int32))] (.int (0 : Int32)) := Arv.set Ar48 Aq48 As48 Am48 Ah48 Au48 (fits_nar_char _) W48 0 rfl (show 0 < 3 by decide)
          have N48 := Fr.snoc X48 N0 ge43
          have f49 : Sta Z h48 "java/lang/String" "COMPACT_STRINGS" "Z" (.int cs) := f44.wr W48
          have f50 : Exa Z h48 b39 "java/lang/String" := f45.wr W48
          have f51 : Fld Z h48 b39 "java/lang/String" "coder" "B" (.int (0 : Int32)) := f46.other W48 (Or.inl ne43_1)
          have f52 : Fld Z h48 b39 "java/lang/String" "value" "[B" .null := f47.other W48 (Or.inl ne43_1)
          have f53 : Exa Z h48 b43 "[C" := AE43.wr W48
          have K48 : Keep h0 h48 [] := K43.wr W48 (Or.inr hge43)
          have Zs48 : n0 ≤ h48.size := Nat.le_trans Z0 K48.1
          have Cs48 := CHr.wr W48 (Safe.arv hZ.alike V43 (by decide)) C43.1
          have C48 := C43.trans Cs48
          have hk48 := Nat.le_trans hk43 Cs48.2.1
          refine own_st (T' := T48) (F' := (mkF m 120 #[.val (.int x0), .val (.long x1), .second, .val (.int (((x1 &&& (255 : Int64)).toInt32).toUInt32.toUInt16.toUInt32.toInt32)), .val (.int (((((x1.toUInt64 >>> ((8 : Int32) &&& 0x3f).toInt64.toUInt64).toInt64) &&& (255 : Int64)).toInt32).toUInt32.toUInt16.toUInt32.toInt32)), .val (.int (((((x1.toUInt64 >>> ((16 : Int32) &&& 0x3f).toInt64.toUInt64).toInt64) &&& (255 : Int64)).toInt32).toUInt32.toUInt16.toUInt32.toInt32)), .val (.int (((((x1.toUInt64 >>> ((24 : Int32) &&& 0x3f).toInt64.toUInt64).toInt64) &&& (255 : Int64)).toInt32).toUInt32.toUInt16.toUInt32.toInt32))] [(.ref b43), (.ref b39), (.ref b39)])) (fun _ k => st48 _ k) ?_
          refine own_st (T' := T48) (F' := (mkF m 121 #[.val (.int x0), .val (.long x1), .second, .val (.int (((x1 &&& (255 : Int64)).toInt32).toUInt32.toUInt16.toUInt32.toInt32)), .val (.int (((((x1.toUInt64 >>> ((8 : Int32) &&& 0x3f).toInt64.toUInt64).toInt64) &&& (255 : Int64)).toInt32).toUInt32.toUInt16.toUInt32.toInt32)), .val (.int (((((x1.toUInt64 >>> ((16 : Int32) &&& 0x3f).toInt64.toUInt64).toInt64) &&& (255 : Int64)).toInt32).toUInt32.toUInt16.toUInt32.toInt32)), .val (.int (((((x1.toUInt64 >>> ((24 : Int32) &&& 0x3f).toInt64.toUInt64).toInt64) &&& (255 : Int64)).toInt32).toUInt32.toUInt16.toUInt32.toInt32))] [(.ref b43), (.ref b43), (.ref b39), (.ref b39)])) (fun _ k => XS.dup X48.here hx rfl (hb hby d2_120) rfl rfl k) ?_
          refine own_st (T' := T48) (F' := (mkF m 122 #[.val (.int x0), .val (.long x1), .second, .val (.int (((x1 &&& (255 : Int64)).toInt32).toUInt32.toUInt16.toUInt32.toInt32)), .val (.int (((((x1.toUInt64 >>> ((8 : Int32) &&& 0x3f).toInt64.toUInt64).toInt64) &&& (255 : Int64)).toInt32).toUInt32.toUInt16.toUInt32.toInt32)), .val (.int (((((x1.toUInt64 >>> ((16 : Int32) &&& 0x3f).toInt64.toUInt64).toInt64) &&& (255 : Int64)).toInt32).toUInt32.toUInt16.toUInt32.toInt32)), .val (.int (((((x1.toUInt64 >>> ((24 : Int32) &&& 0x3f).toInt64.toUInt64).toInt64) &&& (255 : Int64)).toInt32).toUInt32.toUInt16.toUInt32.toInt32))] [(.int (1 : Int32)), (.ref b43), (.ref b43), (.ref b39), (.ref b39)])) (fun _ k => XS.iconst X48.here hx rfl (hb hby d2_121) k) ?_
          refine own_st (T' := T48) (F' := (mkF m 124 #[.val (.int x0), .val (.long x1), .second, .val (.int (((x1 &&& (255 : Int64)).toInt32).toUInt32.toUInt16.toUInt32.toInt32)), .val (.int (((((x1.toUInt64 >>> ((8 : Int32) &&& 0x3f).toInt64.toUInt64).toInt64) &&& (255 : Int64)).toInt32).toUInt32.toUInt16.toUInt32.toInt32)), .val (.int (((((x1.toUInt64 >>> ((16 : Int32) &&& 0x3f).toInt64.toUInt64).toInt64) &&& (255 : Int64)).toInt32).toUInt32.toUInt16.toUInt32.toInt32)), .val (.int (((((x1.toUInt64 >>> ((24 : Int32) &&& 0x3f).toInt64.toUInt64).toInt64) &&& (255 : Int64)).toInt32).toUInt32.toUInt16.toUInt32.toInt32))] [(.int (((((x1.toUInt64 >>> ((8 : Int32) &&& 0x3f).toInt64.toUInt64).toInt64) &&& (255 : Int64)).toInt32).toUInt32.toUInt16.toUInt32.toInt32)), (.int (1 : Int32)), (.ref b43), (.ref b43), (.ref b39), (.ref b39)])) (fun _ k => XS.iload X48.here hx rfl (hb hby d2_122) rfl  k) ?_
          obtain ⟨cl54, Ar54, Aq54, As54, Am54, Ah54, Au54⟩ := id V48
          have hin54 : ¬ ((1 : Int32) < 0 ∨ cl54.slots.size ≤ ((1 : Int32)).toNatClampNeg) := inb_of As54 ⟨by decide, by decide⟩
          obtain ⟨T54, h54, X54, e54, W54, st54⟩ := stC X48 hx hZ e48 Ar54 (j := (1 : Int32)) hin54 (g := (mkF m 124 #[.val (.int x0), .val (.long x1), .second, .val (.int (((x1 &&& (255 : Int64)).toInt32).toUInt32.toUInt16.toUInt32.toInt32)), .val (.int (((((x1.toUInt64 >>> ((8 : Int32) &&& 0x3f).toInt64.toUInt64).toInt64) &&& (255 : Int64)).toInt32).toUInt32.toUInt16.toUInt32.toInt32)), .val (.int (((((x1.toUInt64 >>> ((16 : Int32) &&& 0x3f).toInt64.toUInt64).toInt64) &&& (255 : Int64)).toInt32).toUInt32.toUInt16.toUInt32.toInt32)), .val (.int (((((x1.toUInt64 >>> ((24 : Int32) &&& 0x3f).toInt64.toUInt64).toInt64) &&& (255 : Int64)).toInt32).toUInt32.toUInt16.toUInt32.toInt32))] [(.int (((((x1.toUInt64 >>> ((8 : Int32) &&& 0x3f).toInt64.toUInt64).toInt64) &&& (255 : Int64)).toInt32).toUInt32.toUInt16.toUInt32.toInt32)), (.int (1 : Int32)), (.ref b43), (.ref b43), (.ref b39), (.ref b39)])) rfl rfl (hb hby d2_124)
          have V54 : Arv Z h54 b43 k43 .char (3 : Int32) [(.int (nar .char (((x1 &&& (255 : Int64)).toInt32).toUInt32.toUInt16.toUInt32.toInt32))), (.int (nar .char (((((x1.toUInt64 >>> ((8 : Int32) &&& 0x3f).toInt64.toUInt64).toInt64) &&& (255 : Int64)).toInt32).toUInt32.toUInt16.toUInt32.toInt32))), (.int (0 : Int32))] (.int (0 : Int32)) := Arv.set Ar54 Aq54 As54 Am54 Ah54 Au54 (fits_nar_char _) W54 1 rfl (show 1 < 3 by decide)
          have N54 := Fr.snoc X54 N48 ge43
          have f55 : Sta Z h54 "java/lang/String" "COMPACT_STRINGS" "Z" (.int cs) := f49.wr W54
          have f56 : Exa Z h54 b39 "java/lang/String" := f50.wr W54
          have f57 : Fld Z h54 b39 "java/lang/String" "coder" "B" (.int (0 : Int32)) := f51.other W54 (Or.inl ne43_1)
          have f58 : Fld Z h54 b39 "java/lang/String" "value" "[B" .null := f52.other W54 (Or.inl ne43_1)
          have f59 : Exa Z h54 b43 "[C" := f53.wr W54
          have K54 : Keep h0 h54 [] := K48.wr W54 (Or.inr hge43)
          have Zs54 : n0 ≤ h54.size := Nat.le_trans Z0 K54.1
          have Cs54 := CHr.wr W54 (Safe.arv hZ.alike V48 (by decide)) C48.1
          have C54 := C48.trans Cs54
          have hk54 := Nat.le_trans hk48 Cs54.2.1
          refine own_st (T' := T54) (F' := (mkF m 125 #[.val (.int x0), .val (.long x1), .second, .val (.int (((x1 &&& (255 : Int64)).toInt32).toUInt32.toUInt16.toUInt32.toInt32)), .val (.int (((((x1.toUInt64 >>> ((8 : Int32) &&& 0x3f).toInt64.toUInt64).toInt64) &&& (255 : Int64)).toInt32).toUInt32.toUInt16.toUInt32.toInt32)), .val (.int (((((x1.toUInt64 >>> ((16 : Int32) &&& 0x3f).toInt64.toUInt64).toInt64) &&& (255 : Int64)).toInt32).toUInt32.toUInt16.toUInt32.toInt32)), .val (.int (((((x1.toUInt64 >>> ((24 : Int32) &&& 0x3f).toInt64.toUInt64).toInt64) &&& (255 : Int64)).toInt32).toUInt32.toUInt16.toUInt32.toInt32))] [(.ref b43), (.ref b39), (.ref b39)])) (fun _ k => st54 _ k) ?_
          refine own_st (T' := T54) (F' := (mkF m 126 #[.val (.int x0), .val (.long x1), .second, .val (.int (((x1 &&& (255 : Int64)).toInt32).toUInt32.toUInt16.toUInt32.toInt32)), .val (.int (((((x1.toUInt64 >>> ((8 : Int32) &&& 0x3f).toInt64.toUInt64).toInt64) &&& (255 : Int64)).toInt32).toUInt32.toUInt16.toUInt32.toInt32)), .val (.int (((((x1.toUInt64 >>> ((16 : Int32) &&& 0x3f).toInt64.toUInt64).toInt64) &&& (255 : Int64)).toInt32).toUInt32.toUInt16.toUInt32.toInt32)), .val (.int (((((x1.toUInt64 >>> ((24 : Int32) &&& 0x3f).toInt64.toUInt64).toInt64) &&& (255 : Int64)).toInt32).toUInt32.toUInt16.toUInt32.toInt32))] [(.ref b43), (.ref b43), (.ref b39), (.ref b39)])) (fun _ k => XS.dup X54.here hx rfl (hb hby d2_125) rfl rfl k) ?_
          refine own_st (T' := T54) (F' := (mkF m 127 #[.val (.int x0), .val (.long x1), .second, .val (.int (((x1 &&& (255 : Int64)).toInt32).toUInt32.toUInt16.toUInt32.toInt32)), .val (.int (((((x1.toUInt64 >>> ((8 : Int32) &&& 0x3f).toInt64.toUInt64).toInt64) &&& (255 : Int64)).toInt32).toUInt32.toUInt16.toUInt32.toInt32)), .val (.int (((((x1.toUInt64 >>> ((16 : Int32) &&& 0x3f).toInt64.toUInt64).toInt64) &&& (255 : Int64)).toInt32).toUInt32.toUInt16.toUInt32.toInt32)), .val (.int (((((x1.toUInt64 >>> ((24 : Int32) &&& 0x3f).toInt64.toUInt64).toInt64) &&& (255 : Int64)).toInt32).toUInt32.toUInt16.toUInt32.toInt32))] [(.int (2 : Int32)), (.ref b43), (.ref b43), (.ref b39), (.ref b39)])) (fun _ k => XS.iconst X54.here hx rfl (hb hby d2_126) k) ?_
          refine own_st (T' := T54) (F' := (mkF m 129 #[.val (.int x0), .val (.long x1), .second, .val (.int (((x1 &&& (255 : Int64)).toInt32).toUInt32.toUInt16.toUInt32.toInt32)), .val (.int (((((x1.toUInt64 >>> ((8 : Int32) &&& 0x3f).toInt64.toUInt64).toInt64) &&& (255 : Int64)).toInt32).toUInt32.toUInt16.toUInt32.toInt32)), .val (.int (((((x1.toUInt64 >>> ((16 : Int32) &&& 0x3f).toInt64.toUInt64).toInt64) &&& (255 : Int64)).toInt32).toUInt32.toUInt16.toUInt32.toInt32)), .val (.int (((((x1.toUInt64 >>> ((24 : Int32) &&& 0x3f).toInt64.toUInt64).toInt64) &&& (255 : Int64)).toInt32).toUInt32.toUInt16.toUInt32.toInt32))] [(.int (((((x1.toUInt64 >>> ((16 : Int32) &&& 0x3f).toInt64.toUInt64).toInt64) &&& (255 : Int64)).toInt32).toUInt32.toUInt16.toUInt32.toInt32)), (.int (2 : Int32)), (.ref b43), (.ref b43), (.ref b39), (.ref b39)])) (fun _ k => XS.iload X54.here hx rfl (hb hby d2_127) rfl  k) ?_
          obtain ⟨cl60, Ar60, Aq60, As60, Am60, Ah60, Au60⟩ := id V54
          have hin60 : ¬ ((2 : Int32) < 0 ∨ cl60.slots.size ≤ ((2 : Int32)).toNatClampNeg) := inb_of As60 ⟨by decide, by decide⟩
          obtain ⟨T60, h60, X60, e60, W60, st60⟩ := stC X54 hx hZ e54 Ar60 (j := (2 : Int32)) hin60 (g := (mkF m 129 #[.val (.int x0), .val (.long x1), .second, .val (.int (((x1 &&& (255 : Int64)).toInt32).toUInt32.toUInt16.toUInt32.toInt32)), .val (.int (((((x1.toUInt64 >>> ((8 : Int32) &&& 0x3f).toInt64.toUInt64).toInt64) &&& (255 : Int64)).toInt32).toUInt32.toUInt16.toUInt32.toInt32)), .val (.int (((((x1.toUInt64 >>> ((16 : Int32) &&& 0x3f).toInt64.toUInt64).toInt64) &&& (255 : Int64)).toInt32).toUInt32.toUInt16.toUInt32.toInt32)), .val (.int (((((x1.toUInt64 >>> ((24 : Int32) &&& 0x3f).toInt64.toUInt64).toInt64) &&& (255 : Int64)).toInt32).toUInt32.toUInt16.toUInt32.toInt32))] [(.int (((((x1.toUInt64 >>> ((16 : Int32) &&& 0x3f).toInt64.toUInt64).toInt64) &&& (255 : Int64)).toInt32).toUInt32.toUInt16.toUInt32.toInt32)), (.int (2 : Int32)), (.ref b43), (.ref b43), (.ref b39), (.ref b39)])) rfl rfl (hb hby d2_129)
          have V60 : Arv Z h60 b43 k43 .char (3 : Int32) [(.int (nar .char (((x1 &&& (255 : Int64)).toInt32).toUInt32.toUInt16.toUInt32.toInt32))), (.int (nar .char (((((x1.toUInt64 >>> ((8 : Int32) &&& 0x3f).toInt64.toUInt64).toInt64) &&& (255 : Int64)).toInt32).toUInt32.toUInt16.toUInt32.toInt32))), (.int (nar .char (((((x1.toUInt64 >>> ((16 : Int32) &&& 0x3f).toInt64.toUInt64).toInt64) &&& (255 : Int64)).toInt32).toUInt32.toUInt16.toUInt32.toInt32)))] (.int (0 : Int32)) := Arv.set Ar60 Aq60 As60 Am60 Ah60 Au60 (fits_nar_char _) W60 2 rfl (show 2 < 3 by decide)
          have N60 := Fr.snoc X60 N54 ge43
          have f61 : Sta Z h60 "java/lang/String" "COMPACT_STRINGS" "Z" (.int cs) := f55.wr W60
          have f62 : Exa Z h60 b39 "java/lang/String" := f56.wr W60
          have f63 : Fld Z h60 b39 "java/lang/String" "coder" "B" (.int (0 : Int32)) := f57.other W60 (Or.inl ne43_1)
          have f64 : Fld Z h60 b39 "java/lang/String" "value" "[B" .null := f58.other W60 (Or.inl ne43_1)
          have f65 : Exa Z h60 b43 "[C" := f59.wr W60
          have K60 : Keep h0 h60 [] := K54.wr W60 (Or.inr hge43)
          have Zs60 : n0 ≤ h60.size := Nat.le_trans Z0 K60.1
          have Cs60 := CHr.wr W60 (Safe.arv hZ.alike V54 (by decide)) C54.1
          have C60 := C54.trans Cs60
          have hk60 := Nat.le_trans hk54 Cs60.2.1
          refine own_st (T' := T60) (F' := (mkF m 130 #[.val (.int x0), .val (.long x1), .second, .val (.int (((x1 &&& (255 : Int64)).toInt32).toUInt32.toUInt16.toUInt32.toInt32)), .val (.int (((((x1.toUInt64 >>> ((8 : Int32) &&& 0x3f).toInt64.toUInt64).toInt64) &&& (255 : Int64)).toInt32).toUInt32.toUInt16.toUInt32.toInt32)), .val (.int (((((x1.toUInt64 >>> ((16 : Int32) &&& 0x3f).toInt64.toUInt64).toInt64) &&& (255 : Int64)).toInt32).toUInt32.toUInt16.toUInt32.toInt32)), .val (.int (((((x1.toUInt64 >>> ((24 : Int32) &&& 0x3f).toInt64.toUInt64).toInt64) &&& (255 : Int64)).toInt32).toUInt32.toUInt16.toUInt32.toInt32))] [(.ref b43), (.ref b39), (.ref b39)])) (fun _ k => st60 _ k) ?_
          obtain ⟨_, _, ⟨T66, L66, k66, n66⟩, -, X66, ⟨Lc66, hQ66, l66, y66, z66⟩, st66⟩ := X60.specialBack hx (y := (⟨"java/lang/String", "<init>", "([C)V"⟩ : MethodName)) rfl hown (mvT hZ (hw _ (List.mem_of_getElem? (i := 16) rfl))) (mvT hZ (hw _ (List.mem_of_getElem? (i := 17) rfl))) (mvT hZ (hw _ (List.mem_of_getElem? (i := 18) rfl))) (by decide) (backOf (W := 1) (rm3t3 l Z a0 hw [] b39 b43 cs k43 (nar .char (((x1 &&& (255 : Int64)).toInt32).toUInt32.toUInt16.toUInt32.toInt32)) (nar .char (((((x1.toUInt64 >>> ((8 : Int32) &&& 0x3f).toInt64.toUInt64).toInt64) &&& (255 : Int64)).toInt32).toUInt32.toUInt16.toUInt32.toInt32)) (nar .char (((((x1.toUInt64 >>> ((16 : Int32) &&& 0x3f).toInt64.toUInt64).toInt64) &&& (255 : Int64)).toInt32).toUInt32.toUInt16.toUInt32.toInt32)) h60 n0 Zs60 f61 hcs ge39 ne43_1 f62 f63 f64 V60 (own_c255 _) (own_c255 _) (own_c255 _)) hZ (hw _ (List.mem_of_getElem? (i := 18) rfl)) (hw _ (List.mem_of_getElem? (i := 14) rfl)) (by decide) (by decide)) (g := (mkF m 130 #[.val (.int x0), .val (.long x1), .second, .val (.int (((x1 &&& (255 : Int64)).toInt32).toUInt32.toUInt16.toUInt32.toInt32)), .val (.int (((((x1.toUInt64 >>> ((8 : Int32) &&& 0x3f).toInt64.toUInt64).toInt64) &&& (255 : Int64)).toInt32).toUInt32.toUInt16.toUInt32.toInt32)), .val (.int (((((x1.toUInt64 >>> ((16 : Int32) &&& 0x3f).toInt64.toUInt64).toInt64) &&& (255 : Int64)).toInt32).toUInt32.toUInt16.toUInt32.toInt32)), .val (.int (((((x1.toUInt64 >>> ((24 : Int32) &&& 0x3f).toInt64.toUInt64).toInt64) &&& (255 : Int64)).toInt32).toUInt32.toUInt16.toUInt32.toInt32))] [(.ref b43), (.ref b39), (.ref b39)])) rfl (by rw [hml]; rfl) (Steps.refl _) (a := b39) (argsL := [(.ref b43)]) (rest := [(.ref b39)]) (lenOf own_pd12 rfl) rfl (by show 2 * 0 + _ ≤ _; exact Nat.le_of_eq rfl) (hb hby d2_130) (fun _ _ => ⟨rfl, e60, (by decide : 2 + 1 ≤ _), (by decide : 7 + 3 ≤ _)⟩)
          dsimp only [Pt.U, Pt.locs, Pt.cells, Pt.slots] at X66 l66 y66 z66 st66 hQ66
          subst l66 y66 z66
          obtain ⟨rfl, Nq66, g66_0, g66_1, g66_2⟩ := hQ66
          have N66 := Fr.app N60 Nq66
          have f67 : Sta Z T66.heap "java/lang/String" "COMPACT_STRINGS" "Z" (.int cs) := own_stk f61 g66_0 (allS (own_npE f62) all0)
          have f68 : Exa Z T66.heap b39 "java/lang/String" := f62.keep g66_0
          have f69 : Exa Z T66.heap b43 "[C" := f65.keep g66_0
          have f70 : Arv Z T66.heap b43 k43 .char (3 : Int32) [(.int (nar .char (((x1 &&& (255 : Int64)).toInt32).toUInt32.toUInt16.toUInt32.toInt32))), (.int (nar .char (((((x1.toUInt64 >>> ((8 : Int32) &&& 0x3f).toInt64.toUInt64).toInt64) &&& (255 : Int64)).toInt32).toUInt32.toUInt16.toUInt32.toInt32))), (.int (nar .char (((((x1.toUInt64 >>> ((16 : Int32) &&& 0x3f).toInt64.toUInt64).toInt64) &&& (255 : Int64)).toInt32).toUInt32.toUInt16.toUInt32.toInt32)))] (.int (0 : Int32)) := V60.keep g66_0 (ninS (Ne.symm ne43_1) nin0)
          have K66 : Keep h0 T66.heap [] := K60.trans g66_0 (allS (Or.inr hge39) all0)
          have Zs66 : n0 ≤ T66.heap.size := Nat.le_trans Z0 K66.1
          have Cs66 := CHr.keep g66_0 (sfS (own_safe0 hZ.alike f62 f64) sf0) C60.1
          have C66 := C60.trans Cs66
          have hk66 := Nat.le_trans hk60 Cs66.2.1
          obtain ⟨vv66, vk66, gg66, fv66, av66⟩ := id g66_2
          refine own_tr (T' := T66) (F' := (mkF m 133 #[.val (.int x0), .val (.long x1), .second, .val (.int (((x1 &&& (255 : Int64)).toInt32).toUInt32.toUInt16.toUInt32.toInt32)), .val (.int (((((x1.toUInt64 >>> ((8 : Int32) &&& 0x3f).toInt64.toUInt64).toInt64) &&& (255 : Int64)).toInt32).toUInt32.toUInt16.toUInt32.toInt32)), .val (.int (((((x1.toUInt64 >>> ((16 : Int32) &&& 0x3f).toInt64.toUInt64).toInt64) &&& (255 : Int64)).toInt32).toUInt32.toUInt16.toUInt32.toInt32)), .val (.int (((((x1.toUInt64 >>> ((24 : Int32) &&& 0x3f).toInt64.toUInt64).toInt64) &&& (255 : Int64)).toInt32).toUInt32.toUInt16.toUInt32.toInt32))] [(.ref b39)])) st66 ?_
          refine own_sretA X66 hx hS0 (by exact hk66) hlk (t := (.object "java/lang/String")) Bd.returns rfl rfl rfl (hb hby d2_133) ?_ (by exact C66.trans (CHv.at X66 hZ hEL C66.1)) (by decide) (by decide)
          show Q2 Z x0 x1 cs h0 n0 _ T66.heap _
          refine ⟨⟨_, rfl, ?_⟩, N66, K66⟩
          exact ⟨f68, g66_1, _, _, _, _, fv66, av66⟩
      ·
        obtain ⟨T71, h71, X71, e71, E71, A71, D71, -, st71⟩ := newO X0 hx hZ hown (hw _ (List.mem_of_getElem? (i := 12) rfl)) (hw _ (List.mem_of_getElem? (i := 13) rfl)) (hw _ (List.mem_of_getElem? (i := 14) rfl)) e0 (g := (mkF m 84 #[.val (.int x0), .val (.long x1), .second, .val (.int (((x1 &&& (255 : Int64)).toInt32).toUInt32.toUInt16.toUInt32.toInt32)), .val (.int (((((x1.toUInt64 >>> ((8 : Int32) &&& 0x3f).toInt64.toUInt64).toInt64) &&& (255 : Int64)).toInt32).toUInt32.toUInt16.toUInt32.toInt32)), .val (.int (((((x1.toUInt64 >>> ((16 : Int32) &&& 0x3f).toInt64.toUInt64).toInt64) &&& (255 : Int64)).toInt32).toUInt32.toUInt16.toUInt32.toInt32)), .val (.int (((((x1.toUInt64 >>> ((24 : Int32) &&& 0x3f).toInt64.toUInt64).toInt64) &&& (255 : Int64)).toInt32).toUInt32.toUInt16.toUInt32.toInt32))] [])) rfl (hb hby d2_84) (by decide) (by decide)
        obtain ⟨b71, g71⟩ : ∃ z, z = h0.size := ⟨_, rfl⟩
        rw [← g71] at A71 D71 st71
        have ge71 : n0 ≤ b71 := by rw [g71]; exact Z0
        have hge71 : h0.size ≤ b71 := by rw [g71]; exact (Keep.refl h0 []).1
        have f72 : Sta Z h71 "java/lang/String" "COMPACT_STRINGS" "Z" (.int cs) := S_cs.ext E71
        have K71 : Keep h0 h71 [] := (Keep.refl h0 []).ext E71
        have Zs71 : n0 ≤ h71.size := Nat.le_trans Z0 K71.1
        have Cs71 := CHr.ext E71 C0.1
        have C71 := C0.trans Cs71
        have hk71 := Nat.le_trans hk0 Cs71.2.1
        have f73 : Fld Z h71 b71 "java/lang/String" "coder" "B" (.int (0 : Int32)) := D71 (Or.inr (hw _ (List.mem_of_getElem? (i := 39) rfl))) (ty := .byte) (by decide)
        have f74 : Fld Z h71 b71 "java/lang/String" "value" "[B" .null := D71 (Or.inr (hw _ (List.mem_of_getElem? (i := 41) rfl))) (ty := (.array .byte)) (by decide)
        refine own_st (T' := T71) (F' := (mkF m 87 #[.val (.int x0), .val (.long x1), .second, .val (.int (((x1 &&& (255 : Int64)).toInt32).toUInt32.toUInt16.toUInt32.toInt32)), .val (.int (((((x1.toUInt64 >>> ((8 : Int32) &&& 0x3f).toInt64.toUInt64).toInt64) &&& (255 : Int64)).toInt32).toUInt32.toUInt16.toUInt32.toInt32)), .val (.int (((((x1.toUInt64 >>> ((16 : Int32) &&& 0x3f).toInt64.toUInt64).toInt64) &&& (255 : Int64)).toInt32).toUInt32.toUInt16.toUInt32.toInt32)), .val (.int (((((x1.toUInt64 >>> ((24 : Int32) &&& 0x3f).toInt64.toUInt64).toInt64) &&& (255 : Int64)).toInt32).toUInt32.toUInt16.toUInt32.toInt32))] [(.ref b71)])) (fun _ k => st71 _ k) ?_
        refine own_st (T' := T71) (F' := (mkF m 88 #[.val (.int x0), .val (.long x1), .second, .val (.int (((x1 &&& (255 : Int64)).toInt32).toUInt32.toUInt16.toUInt32.toInt32)), .val (.int (((((x1.toUInt64 >>> ((8 : Int32) &&& 0x3f).toInt64.toUInt64).toInt64) &&& (255 : Int64)).toInt32).toUInt32.toUInt16.toUInt32.toInt32)), .val (.int (((((x1.toUInt64 >>> ((16 : Int32) &&& 0x3f).toInt64.toUInt64).toInt64) &&& (255 : Int64)).toInt32).toUInt32.toUInt16.toUInt32.toInt32)), .val (.int (((((x1.toUInt64 >>> ((24 : Int32) &&& 0x3f).toInt64.toUInt64).toInt64) &&& (255 : Int64)).toInt32).toUInt32.toUInt16.toUInt32.toInt32))] [(.ref b71), (.ref b71)])) (fun _ k => XS.dup X71.here hx rfl (hb hby d2_87) rfl rfl k) ?_
        refine own_st (T' := T71) (F' := (mkF m 89 #[.val (.int x0), .val (.long x1), .second, .val (.int (((x1 &&& (255 : Int64)).toInt32).toUInt32.toUInt16.toUInt32.toInt32)), .val (.int (((((x1.toUInt64 >>> ((8 : Int32) &&& 0x3f).toInt64.toUInt64).toInt64) &&& (255 : Int64)).toInt32).toUInt32.toUInt16.toUInt32.toInt32)), .val (.int (((((x1.toUInt64 >>> ((16 : Int32) &&& 0x3f).toInt64.toUInt64).toInt64) &&& (255 : Int64)).toInt32).toUInt32.toUInt16.toUInt32.toInt32)), .val (.int (((((x1.toUInt64 >>> ((24 : Int32) &&& 0x3f).toInt64.toUInt64).toInt64) &&& (255 : Int64)).toInt32).toUInt32.toUInt16.toUInt32.toInt32))] [(.int (2 : Int32)), (.ref b71), (.ref b71)])) (fun _ k => XS.iconst X71.here hx rfl (hb hby d2_88) k) ?_
        obtain ⟨T75, h75, k75, X75, e75, E75, A75, AE75, st75⟩ := newPE X71 hx hZ (hw _ (List.mem_of_getElem? (i := 15) rfl)) e71 (g := (mkF m 89 #[.val (.int x0), .val (.long x1), .second, .val (.int (((x1 &&& (255 : Int64)).toInt32).toUInt32.toUInt16.toUInt32.toInt32)), .val (.int (((((x1.toUInt64 >>> ((8 : Int32) &&& 0x3f).toInt64.toUInt64).toInt64) &&& (255 : Int64)).toInt32).toUInt32.toUInt16.toUInt32.toInt32)), .val (.int (((((x1.toUInt64 >>> ((16 : Int32) &&& 0x3f).toInt64.toUInt64).toInt64) &&& (255 : Int64)).toInt32).toUInt32.toUInt16.toUInt32.toInt32)), .val (.int (((((x1.toUInt64 >>> ((24 : Int32) &&& 0x3f).toInt64.toUInt64).toInt64) &&& (255 : Int64)).toInt32).toUInt32.toUInt16.toUInt32.toInt32))] [(.int (2 : Int32)), (.ref b71), (.ref b71)])) rfl (hb hby d2_89) rfl (by decide) (cap := 2) (by decide) (by decide) (by decide) (by decide) (ad := "[C") (by decide)
        obtain ⟨b75, g75⟩ : ∃ z, z = h71.size := ⟨_, rfl⟩
        rw [← g75] at A75 AE75 st75
        have ge75 : n0 ≤ b75 := by rw [g75]; exact Zs71
        have hge75 : h0.size ≤ b75 := by rw [g75]; exact K71.1
        have ne75_1 : b71 ≠ b75 := by rw [g75]; exact Nat.ne_of_lt A71.lt
        have f76 : Sta Z h75 "java/lang/String" "COMPACT_STRINGS" "Z" (.int cs) := f72.ext E75
        have f77 : Exa Z h75 b71 "java/lang/String" := A71.ext E75
        have f78 : Fld Z h75 b71 "java/lang/String" "coder" "B" (.int (0 : Int32)) := f73.ext E75
        have f79 : Fld Z h75 b71 "java/lang/String" "value" "[B" .null := f74.ext E75
        have K75 : Keep h0 h75 [] := K71.ext E75
        have Zs75 : n0 ≤ h75.size := Nat.le_trans Z0 K75.1
        have Cs75 := CHr.ext E75 C71.1
        have C75 := C71.trans Cs75
        have hk75 := Nat.le_trans hk71 Cs75.2.1
        have V75 : Arv Z h75 b75 k75 .char (2 : Int32) [(.int (0 : Int32)), (.int (0 : Int32))] (.int (0 : Int32)) := (Arv.new A75 (by decide)).pad (pad_rep [] (.int (0 : Int32)) 2)
        refine own_st (T' := T75) (F' := (mkF m 91 #[.val (.int x0), .val (.long x1), .second, .val (.int (((x1 &&& (255 : Int64)).toInt32).toUInt32.toUInt16.toUInt32.toInt32)), .val (.int (((((x1.toUInt64 >>> ((8 : Int32) &&& 0x3f).toInt64.toUInt64).toInt64) &&& (255 : Int64)).toInt32).toUInt32.toUInt16.toUInt32.toInt32)), .val (.int (((((x1.toUInt64 >>> ((16 : Int32) &&& 0x3f).toInt64.toUInt64).toInt64) &&& (255 : Int64)).toInt32).toUInt32.toUInt16.toUInt32.toInt32)), .val (.int (((((x1.toUInt64 >>> ((24 : Int32) &&& 0x3f).toInt64.toUInt64).toInt64) &&& (255 : Int64)).toInt32).toUInt32.toUInt16.toUInt32.toInt32))] [(.ref b75), (.ref b71), (.ref b71)])) (fun _ k => st75 _ k) ?_
        refine own_st (T' := T75) (F' := (mkF m 92 #[.val (.int x0), .val (.long x1), .second, .val (.int (((x1 &&& (255 : Int64)).toInt32).toUInt32.toUInt16.toUInt32.toInt32)), .val (.int (((((x1.toUInt64 >>> ((8 : Int32) &&& 0x3f).toInt64.toUInt64).toInt64) &&& (255 : Int64)).toInt32).toUInt32.toUInt16.toUInt32.toInt32)), .val (.int (((((x1.toUInt64 >>> ((16 : Int32) &&& 0x3f).toInt64.toUInt64).toInt64) &&& (255 : Int64)).toInt32).toUInt32.toUInt16.toUInt32.toInt32)), .val (.int (((((x1.toUInt64 >>> ((24 : Int32) &&& 0x3f).toInt64.toUInt64).toInt64) &&& (255 : Int64)).toInt32).toUInt32.toUInt16.toUInt32.toInt32))] [(.ref b75), (.ref b75), (.ref b71), (.ref b71)])) (fun _ k => XS.dup X75.here hx rfl (hb hby d2_91) rfl rfl k) ?_
        refine own_st (T' := T75) (F' := (mkF m 93 #[.val (.int x0), .val (.long x1), .second, .val (.int (((x1 &&& (255 : Int64)).toInt32).toUInt32.toUInt16.toUInt32.toInt32)), .val (.int (((((x1.toUInt64 >>> ((8 : Int32) &&& 0x3f).toInt64.toUInt64).toInt64) &&& (255 : Int64)).toInt32).toUInt32.toUInt16.toUInt32.toInt32)), .val (.int (((((x1.toUInt64 >>> ((16 : Int32) &&& 0x3f).toInt64.toUInt64).toInt64) &&& (255 : Int64)).toInt32).toUInt32.toUInt16.toUInt32.toInt32)), .val (.int (((((x1.toUInt64 >>> ((24 : Int32) &&& 0x3f).toInt64.toUInt64).toInt64) &&& (255 : Int64)).toInt32).toUInt32.toUInt16.toUInt32.toInt32))] [(.int (0 : Int32)), (.ref b75), (.ref b75), (.ref b71), (.ref b71)])) (fun _ k => XS.iconst X75.here hx rfl (hb hby d2_92) k) ?_
        refine own_st (T' := T75) (F' := (mkF m 94 #[.val (.int x0), .val (.long x1), .second, .val (.int (((x1 &&& (255 : Int64)).toInt32).toUInt32.toUInt16.toUInt32.toInt32)), .val (.int (((((x1.toUInt64 >>> ((8 : Int32) &&& 0x3f).toInt64.toUInt64).toInt64) &&& (255 : Int64)).toInt32).toUInt32.toUInt16.toUInt32.toInt32)), .val (.int (((((x1.toUInt64 >>> ((16 : Int32) &&& 0x3f).toInt64.toUInt64).toInt64) &&& (255 : Int64)).toInt32).toUInt32.toUInt16.toUInt32.toInt32)), .val (.int (((((x1.toUInt64 >>> ((24 : Int32) &&& 0x3f).toInt64.toUInt64).toInt64) &&& (255 : Int64)).toInt32).toUInt32.toUInt16.toUInt32.toInt32))] [(.int (((x1 &&& (255 : Int64)).toInt32).toUInt32.toUInt16.toUInt32.toInt32)), (.int (0 : Int32)), (.ref b75), (.ref b75), (.ref b71), (.ref b71)])) (fun _ k => XS.iloadN X75.here hx rfl (hb hby d2_93) rfl  k) ?_
        obtain ⟨cl80, Ar80, Aq80, As80, Am80, Ah80, Au80⟩ := id V75
        have hin80 : ¬ ((0 : Int32) < 0 ∨ cl80.slots.size ≤ ((0 : Int32)).toNatClampNeg) := inb_of As80 ⟨by decide, by decide⟩
        obtain ⟨T80, h80, X80, e80, W80, st80⟩ := stC X75 hx hZ e75 Ar80 (j := (0 : Int32)) hin80 (g := (mkF m 94 #[.val (.int x0), .val (.long x1), .second, .val (.int (((x1 &&& (255 : Int64)).toInt32).toUInt32.toUInt16.toUInt32.toInt32)), .val (.int (((((x1.toUInt64 >>> ((8 : Int32) &&& 0x3f).toInt64.toUInt64).toInt64) &&& (255 : Int64)).toInt32).toUInt32.toUInt16.toUInt32.toInt32)), .val (.int (((((x1.toUInt64 >>> ((16 : Int32) &&& 0x3f).toInt64.toUInt64).toInt64) &&& (255 : Int64)).toInt32).toUInt32.toUInt16.toUInt32.toInt32)), .val (.int (((((x1.toUInt64 >>> ((24 : Int32) &&& 0x3f).toInt64.toUInt64).toInt64) &&& (255 : Int64)).toInt32).toUInt32.toUInt16.toUInt32.toInt32))] [(.int (((x1 &&& (255 : Int64)).toInt32).toUInt32.toUInt16.toUInt32.toInt32)), (.int (0 : Int32)), (.ref b75), (.ref b75), (.ref b71), (.ref b71)])) rfl rfl (hb hby d2_94)
        have V80 : Arv Z h80 b75 k75 .char (2 : Int32) [(.int (nar .char (((x1 &&& (255 : Int64)).toInt32).toUInt32.toUInt16.toUInt32.toInt32))), (.int (0 : Int32))] (.int (0 : Int32)) := Arv.set Ar80 Aq80 As80 Am80 Ah80 Au80 (fits_nar_char _) W80 0 rfl (show 0 < 2 by decide)
        have N80 := Fr.snoc X80 N0 ge75
        have f81 : Sta Z h80 "java/lang/String" "COMPACT_STRINGS" "Z" (.int cs) := f76.wr W80
        have f82 : Exa Z h80 b71 "java/lang/String" := f77.wr W80
        have f83 : Fld Z h80 b71 "java/lang/String" "coder" "B" (.int (0 : Int32)) := f78.other W80 (Or.inl ne75_1)
        have f84 : Fld Z h80 b71 "java/lang/String" "value" "[B" .null := f79.other W80 (Or.inl ne75_1)
        have f85 : Exa Z h80 b75 "[C" := AE75.wr W80
        have K80 : Keep h0 h80 [] := K75.wr W80 (Or.inr hge75)
        have Zs80 : n0 ≤ h80.size := Nat.le_trans Z0 K80.1
        have Cs80 := CHr.wr W80 (Safe.arv hZ.alike V75 (by decide)) C75.1
        have C80 := C75.trans Cs80
        have hk80 := Nat.le_trans hk75 Cs80.2.1
        refine own_st (T' := T80) (F' := (mkF m 95 #[.val (.int x0), .val (.long x1), .second, .val (.int (((x1 &&& (255 : Int64)).toInt32).toUInt32.toUInt16.toUInt32.toInt32)), .val (.int (((((x1.toUInt64 >>> ((8 : Int32) &&& 0x3f).toInt64.toUInt64).toInt64) &&& (255 : Int64)).toInt32).toUInt32.toUInt16.toUInt32.toInt32)), .val (.int (((((x1.toUInt64 >>> ((16 : Int32) &&& 0x3f).toInt64.toUInt64).toInt64) &&& (255 : Int64)).toInt32).toUInt32.toUInt16.toUInt32.toInt32)), .val (.int (((((x1.toUInt64 >>> ((24 : Int32) &&& 0x3f).toInt64.toUInt64).toInt64) &&& (255 : Int64)).toInt32).toUInt32.toUInt16.toUInt32.toInt32))] [(.ref b75), (.ref b71), (.ref b71)])) (fun _ k => st80 _ k) ?_
        refine own_st (T' := T80) (F' := (mkF m 96 #[.val (.int x0), .val (.long x1), .second, .val (.int (((x1 &&& (255 : Int64)).toInt32).toUInt32.toUInt16.toUInt32.toInt32)), .val (.int (((((x1.toUInt64 >>> ((8 : Int32) &&& 0x3f).toInt64.toUInt64).toInt64) &&& (255 : Int64)).toInt32).toUInt32.toUInt16.toUInt32.toInt32)), .val (.int (((((x1.toUInt64 >>> ((16 : Int32) &&& 0x3f).toInt64.toUInt64).toInt64) &&& (255 : Int64)).toInt32).toUInt32.toUInt16.toUInt32.toInt32)), .val (.int (((((x1.toUInt64 >>> ((24 : Int32) &&& 0x3f).toInt64.toUInt64).toInt64) &&& (255 : Int64)).toInt32).toUInt32.toUInt16.toUInt32.toInt32))] [(.ref b75), (.ref b75), (.ref b71), (.ref b71)])) (fun _ k => XS.dup X80.here hx rfl (hb hby d2_95) rfl rfl k) ?_
        refine own_st (T' := T80) (F' := (mkF m 97 #[.val (.int x0), .val (.long x1), .second, .val (.int (((x1 &&& (255 : Int64)).toInt32).toUInt32.toUInt16.toUInt32.toInt32)), .val (.int (((((x1.toUInt64 >>> ((8 : Int32) &&& 0x3f).toInt64.toUInt64).toInt64) &&& (255 : Int64)).toInt32).toUInt32.toUInt16.toUInt32.toInt32)), .val (.int (((((x1.toUInt64 >>> ((16 : Int32) &&& 0x3f).toInt64.toUInt64).toInt64) &&& (255 : Int64)).toInt32).toUInt32.toUInt16.toUInt32.toInt32)), .val (.int (((((x1.toUInt64 >>> ((24 : Int32) &&& 0x3f).toInt64.toUInt64).toInt64) &&& (255 : Int64)).toInt32).toUInt32.toUInt16.toUInt32.toInt32))] [(.int (1 : Int32)), (.ref b75), (.ref b75), (.ref b71), (.ref b71)])) (fun _ k => XS.iconst X80.here hx rfl (hb hby d2_96) k) ?_
        refine own_st (T' := T80) (F' := (mkF m 99 #[.val (.int x0), .val (.long x1), .second, .val (.int (((x1 &&& (255 : Int64)).toInt32).toUInt32.toUInt16.toUInt32.toInt32)), .val (.int (((((x1.toUInt64 >>> ((8 : Int32) &&& 0x3f).toInt64.toUInt64).toInt64) &&& (255 : Int64)).toInt32).toUInt32.toUInt16.toUInt32.toInt32)), .val (.int (((((x1.toUInt64 >>> ((16 : Int32) &&& 0x3f).toInt64.toUInt64).toInt64) &&& (255 : Int64)).toInt32).toUInt32.toUInt16.toUInt32.toInt32)), .val (.int (((((x1.toUInt64 >>> ((24 : Int32) &&& 0x3f).toInt64.toUInt64).toInt64) &&& (255 : Int64)).toInt32).toUInt32.toUInt16.toUInt32.toInt32))] [(.int (((((x1.toUInt64 >>> ((8 : Int32) &&& 0x3f).toInt64.toUInt64).toInt64) &&& (255 : Int64)).toInt32).toUInt32.toUInt16.toUInt32.toInt32)), (.int (1 : Int32)), (.ref b75), (.ref b75), (.ref b71), (.ref b71)])) (fun _ k => XS.iload X80.here hx rfl (hb hby d2_97) rfl  k) ?_
        obtain ⟨cl86, Ar86, Aq86, As86, Am86, Ah86, Au86⟩ := id V80
        have hin86 : ¬ ((1 : Int32) < 0 ∨ cl86.slots.size ≤ ((1 : Int32)).toNatClampNeg) := inb_of As86 ⟨by decide, by decide⟩
        obtain ⟨T86, h86, X86, e86, W86, st86⟩ := stC X80 hx hZ e80 Ar86 (j := (1 : Int32)) hin86 (g := (mkF m 99 #[.val (.int x0), .val (.long x1), .second, .val (.int (((x1 &&& (255 : Int64)).toInt32).toUInt32.toUInt16.toUInt32.toInt32)), .val (.int (((((x1.toUInt64 >>> ((8 : Int32) &&& 0x3f).toInt64.toUInt64).toInt64) &&& (255 : Int64)).toInt32).toUInt32.toUInt16.toUInt32.toInt32)), .val (.int (((((x1.toUInt64 >>> ((16 : Int32) &&& 0x3f).toInt64.toUInt64).toInt64) &&& (255 : Int64)).toInt32).toUInt32.toUInt16.toUInt32.toInt32)), .val (.int (((((x1.toUInt64 >>> ((24 : Int32) &&& 0x3f).toInt64.toUInt64).toInt64) &&& (255 : Int64)).toInt32).toUInt32.toUInt16.toUInt32.toInt32))] [(.int (((((x1.toUInt64 >>> ((8 : Int32) &&& 0x3f).toInt64.toUInt64).toInt64) &&& (255 : Int64)).toInt32).toUInt32.toUInt16.toUInt32.toInt32)), (.int (1 : Int32)), (.ref b75), (.ref b75), (.ref b71), (.ref b71)])) rfl rfl (hb hby d2_99)
        have V86 : Arv Z h86 b75 k75 .char (2 : Int32) [(.int (nar .char (((x1 &&& (255 : Int64)).toInt32).toUInt32.toUInt16.toUInt32.toInt32))), (.int (nar .char (((((x1.toUInt64 >>> ((8 : Int32) &&& 0x3f).toInt64.toUInt64).toInt64) &&& (255 : Int64)).toInt32).toUInt32.toUInt16.toUInt32.toInt32)))] (.int (0 : Int32)) := Arv.set Ar86 Aq86 As86 Am86 Ah86 Au86 (fits_nar_char _) W86 1 rfl (show 1 < 2 by decide)
        have N86 := Fr.snoc X86 N80 ge75
        have f87 : Sta Z h86 "java/lang/String" "COMPACT_STRINGS" "Z" (.int cs) := f81.wr W86
        have f88 : Exa Z h86 b71 "java/lang/String" := f82.wr W86
        have f89 : Fld Z h86 b71 "java/lang/String" "coder" "B" (.int (0 : Int32)) := f83.other W86 (Or.inl ne75_1)
        have f90 : Fld Z h86 b71 "java/lang/String" "value" "[B" .null := f84.other W86 (Or.inl ne75_1)
        have f91 : Exa Z h86 b75 "[C" := f85.wr W86
        have K86 : Keep h0 h86 [] := K80.wr W86 (Or.inr hge75)
        have Zs86 : n0 ≤ h86.size := Nat.le_trans Z0 K86.1
        have Cs86 := CHr.wr W86 (Safe.arv hZ.alike V80 (by decide)) C80.1
        have C86 := C80.trans Cs86
        have hk86 := Nat.le_trans hk80 Cs86.2.1
        refine own_st (T' := T86) (F' := (mkF m 100 #[.val (.int x0), .val (.long x1), .second, .val (.int (((x1 &&& (255 : Int64)).toInt32).toUInt32.toUInt16.toUInt32.toInt32)), .val (.int (((((x1.toUInt64 >>> ((8 : Int32) &&& 0x3f).toInt64.toUInt64).toInt64) &&& (255 : Int64)).toInt32).toUInt32.toUInt16.toUInt32.toInt32)), .val (.int (((((x1.toUInt64 >>> ((16 : Int32) &&& 0x3f).toInt64.toUInt64).toInt64) &&& (255 : Int64)).toInt32).toUInt32.toUInt16.toUInt32.toInt32)), .val (.int (((((x1.toUInt64 >>> ((24 : Int32) &&& 0x3f).toInt64.toUInt64).toInt64) &&& (255 : Int64)).toInt32).toUInt32.toUInt16.toUInt32.toInt32))] [(.ref b75), (.ref b71), (.ref b71)])) (fun _ k => st86 _ k) ?_
        obtain ⟨_, _, ⟨T92, L92, k92, n92⟩, -, X92, ⟨Lc92, hQ92, l92, y92, z92⟩, st92⟩ := X86.specialBack hx (y := (⟨"java/lang/String", "<init>", "([C)V"⟩ : MethodName)) rfl hown (mvT hZ (hw _ (List.mem_of_getElem? (i := 16) rfl))) (mvT hZ (hw _ (List.mem_of_getElem? (i := 17) rfl))) (mvT hZ (hw _ (List.mem_of_getElem? (i := 18) rfl))) (by decide) (backOf (W := 1) (rm3t2 l Z a0 hw [] b71 b75 cs k75 (nar .char (((x1 &&& (255 : Int64)).toInt32).toUInt32.toUInt16.toUInt32.toInt32)) (nar .char (((((x1.toUInt64 >>> ((8 : Int32) &&& 0x3f).toInt64.toUInt64).toInt64) &&& (255 : Int64)).toInt32).toUInt32.toUInt16.toUInt32.toInt32)) h86 n0 Zs86 f87 hcs ge71 ne75_1 f88 f89 f90 V86 (own_c255 _) (own_c255 _)) hZ (hw _ (List.mem_of_getElem? (i := 18) rfl)) (hw _ (List.mem_of_getElem? (i := 14) rfl)) (by decide) (by decide)) (g := (mkF m 100 #[.val (.int x0), .val (.long x1), .second, .val (.int (((x1 &&& (255 : Int64)).toInt32).toUInt32.toUInt16.toUInt32.toInt32)), .val (.int (((((x1.toUInt64 >>> ((8 : Int32) &&& 0x3f).toInt64.toUInt64).toInt64) &&& (255 : Int64)).toInt32).toUInt32.toUInt16.toUInt32.toInt32)), .val (.int (((((x1.toUInt64 >>> ((16 : Int32) &&& 0x3f).toInt64.toUInt64).toInt64) &&& (255 : Int64)).toInt32).toUInt32.toUInt16.toUInt32.toInt32)), .val (.int (((((x1.toUInt64 >>> ((24 : Int32) &&& 0x3f).toInt64.toUInt64).toInt64) &&& (255 : Int64)).toInt32).toUInt32.toUInt16.toUInt32.toInt32))] [(.ref b75), (.ref b71), (.ref b71)])) rfl (by rw [hml]; rfl) (Steps.refl _) (a := b71) (argsL := [(.ref b75)]) (rest := [(.ref b71)]) (lenOf own_pd12 rfl) rfl (by show 2 * 0 + _ ≤ _; exact Nat.le_of_eq rfl) (hb hby d2_100) (fun _ _ => ⟨rfl, e86, (by decide : 2 + 1 ≤ _), (by decide : 6 + 2 ≤ _)⟩)
        dsimp only [Pt.U, Pt.locs, Pt.cells, Pt.slots] at X92 l92 y92 z92 st92 hQ92
        subst l92 y92 z92
        obtain ⟨rfl, Nq92, g92_0, g92_1, g92_2⟩ := hQ92
        have N92 := Fr.app N86 Nq92
        have f93 : Sta Z T92.heap "java/lang/String" "COMPACT_STRINGS" "Z" (.int cs) := own_stk f87 g92_0 (allS (own_npE f88) all0)
        have f94 : Exa Z T92.heap b71 "java/lang/String" := f88.keep g92_0
        have f95 : Exa Z T92.heap b75 "[C" := f91.keep g92_0
        have f96 : Arv Z T92.heap b75 k75 .char (2 : Int32) [(.int (nar .char (((x1 &&& (255 : Int64)).toInt32).toUInt32.toUInt16.toUInt32.toInt32))), (.int (nar .char (((((x1.toUInt64 >>> ((8 : Int32) &&& 0x3f).toInt64.toUInt64).toInt64) &&& (255 : Int64)).toInt32).toUInt32.toUInt16.toUInt32.toInt32)))] (.int (0 : Int32)) := V86.keep g92_0 (ninS (Ne.symm ne75_1) nin0)
        have K92 : Keep h0 T92.heap [] := K86.trans g92_0 (allS (Or.inr hge71) all0)
        have Zs92 : n0 ≤ T92.heap.size := Nat.le_trans Z0 K92.1
        have Cs92 := CHr.keep g92_0 (sfS (own_safe0 hZ.alike f88 f90) sf0) C86.1
        have C92 := C86.trans Cs92
        have hk92 := Nat.le_trans hk86 Cs92.2.1
        obtain ⟨vv92, vk92, gg92, fv92, av92⟩ := id g92_2
        refine own_tr (T' := T92) (F' := (mkF m 103 #[.val (.int x0), .val (.long x1), .second, .val (.int (((x1 &&& (255 : Int64)).toInt32).toUInt32.toUInt16.toUInt32.toInt32)), .val (.int (((((x1.toUInt64 >>> ((8 : Int32) &&& 0x3f).toInt64.toUInt64).toInt64) &&& (255 : Int64)).toInt32).toUInt32.toUInt16.toUInt32.toInt32)), .val (.int (((((x1.toUInt64 >>> ((16 : Int32) &&& 0x3f).toInt64.toUInt64).toInt64) &&& (255 : Int64)).toInt32).toUInt32.toUInt16.toUInt32.toInt32)), .val (.int (((((x1.toUInt64 >>> ((24 : Int32) &&& 0x3f).toInt64.toUInt64).toInt64) &&& (255 : Int64)).toInt32).toUInt32.toUInt16.toUInt32.toInt32))] [(.ref b71)])) st92 ?_
        refine own_sretA X92 hx hS0 (by exact hk92) hlk (t := (.object "java/lang/String")) Bd.returns rfl rfl rfl (hb hby d2_103) ?_ (by exact C92.trans (CHv.at X92 hZ hEL C92.1)) (by decide) (by decide)
        show Q2 Z x0 x1 cs h0 n0 _ T92.heap _
        refine ⟨⟨_, rfl, ?_⟩, N92, K92⟩
        exact ⟨f94, g92_1, _, _, _, _, fv92, av92⟩
    ·
      obtain ⟨T97, h97, X97, e97, E97, A97, D97, -, st97⟩ := newO X0 hx hZ hown (hw _ (List.mem_of_getElem? (i := 12) rfl)) (hw _ (List.mem_of_getElem? (i := 13) rfl)) (hw _ (List.mem_of_getElem? (i := 14) rfl)) e0 (g := (mkF m 64 #[.val (.int x0), .val (.long x1), .second, .val (.int (((x1 &&& (255 : Int64)).toInt32).toUInt32.toUInt16.toUInt32.toInt32)), .val (.int (((((x1.toUInt64 >>> ((8 : Int32) &&& 0x3f).toInt64.toUInt64).toInt64) &&& (255 : Int64)).toInt32).toUInt32.toUInt16.toUInt32.toInt32)), .val (.int (((((x1.toUInt64 >>> ((16 : Int32) &&& 0x3f).toInt64.toUInt64).toInt64) &&& (255 : Int64)).toInt32).toUInt32.toUInt16.toUInt32.toInt32)), .val (.int (((((x1.toUInt64 >>> ((24 : Int32) &&& 0x3f).toInt64.toUInt64).toInt64) &&& (255 : Int64)).toInt32).toUInt32.toUInt16.toUInt32.toInt32))] [])) rfl (hb hby d2_64) (by decide) (by decide)
      obtain ⟨b97, g97⟩ : ∃ z, z = h0.size := ⟨_, rfl⟩
      rw [← g97] at A97 D97 st97
      have ge97 : n0 ≤ b97 := by rw [g97]; exact Z0
      have hge97 : h0.size ≤ b97 := by rw [g97]; exact (Keep.refl h0 []).1
      have f98 : Sta Z h97 "java/lang/String" "COMPACT_STRINGS" "Z" (.int cs) := S_cs.ext E97
      have K97 : Keep h0 h97 [] := (Keep.refl h0 []).ext E97
      have Zs97 : n0 ≤ h97.size := Nat.le_trans Z0 K97.1
      have Cs97 := CHr.ext E97 C0.1
      have C97 := C0.trans Cs97
      have hk97 := Nat.le_trans hk0 Cs97.2.1
      have f99 : Fld Z h97 b97 "java/lang/String" "coder" "B" (.int (0 : Int32)) := D97 (Or.inr (hw _ (List.mem_of_getElem? (i := 39) rfl))) (ty := .byte) (by decide)
      have f100 : Fld Z h97 b97 "java/lang/String" "value" "[B" .null := D97 (Or.inr (hw _ (List.mem_of_getElem? (i := 41) rfl))) (ty := (.array .byte)) (by decide)
      refine own_st (T' := T97) (F' := (mkF m 67 #[.val (.int x0), .val (.long x1), .second, .val (.int (((x1 &&& (255 : Int64)).toInt32).toUInt32.toUInt16.toUInt32.toInt32)), .val (.int (((((x1.toUInt64 >>> ((8 : Int32) &&& 0x3f).toInt64.toUInt64).toInt64) &&& (255 : Int64)).toInt32).toUInt32.toUInt16.toUInt32.toInt32)), .val (.int (((((x1.toUInt64 >>> ((16 : Int32) &&& 0x3f).toInt64.toUInt64).toInt64) &&& (255 : Int64)).toInt32).toUInt32.toUInt16.toUInt32.toInt32)), .val (.int (((((x1.toUInt64 >>> ((24 : Int32) &&& 0x3f).toInt64.toUInt64).toInt64) &&& (255 : Int64)).toInt32).toUInt32.toUInt16.toUInt32.toInt32))] [(.ref b97)])) (fun _ k => st97 _ k) ?_
      refine own_st (T' := T97) (F' := (mkF m 68 #[.val (.int x0), .val (.long x1), .second, .val (.int (((x1 &&& (255 : Int64)).toInt32).toUInt32.toUInt16.toUInt32.toInt32)), .val (.int (((((x1.toUInt64 >>> ((8 : Int32) &&& 0x3f).toInt64.toUInt64).toInt64) &&& (255 : Int64)).toInt32).toUInt32.toUInt16.toUInt32.toInt32)), .val (.int (((((x1.toUInt64 >>> ((16 : Int32) &&& 0x3f).toInt64.toUInt64).toInt64) &&& (255 : Int64)).toInt32).toUInt32.toUInt16.toUInt32.toInt32)), .val (.int (((((x1.toUInt64 >>> ((24 : Int32) &&& 0x3f).toInt64.toUInt64).toInt64) &&& (255 : Int64)).toInt32).toUInt32.toUInt16.toUInt32.toInt32))] [(.ref b97), (.ref b97)])) (fun _ k => XS.dup X97.here hx rfl (hb hby d2_67) rfl rfl k) ?_
      refine own_st (T' := T97) (F' := (mkF m 69 #[.val (.int x0), .val (.long x1), .second, .val (.int (((x1 &&& (255 : Int64)).toInt32).toUInt32.toUInt16.toUInt32.toInt32)), .val (.int (((((x1.toUInt64 >>> ((8 : Int32) &&& 0x3f).toInt64.toUInt64).toInt64) &&& (255 : Int64)).toInt32).toUInt32.toUInt16.toUInt32.toInt32)), .val (.int (((((x1.toUInt64 >>> ((16 : Int32) &&& 0x3f).toInt64.toUInt64).toInt64) &&& (255 : Int64)).toInt32).toUInt32.toUInt16.toUInt32.toInt32)), .val (.int (((((x1.toUInt64 >>> ((24 : Int32) &&& 0x3f).toInt64.toUInt64).toInt64) &&& (255 : Int64)).toInt32).toUInt32.toUInt16.toUInt32.toInt32))] [(.int (1 : Int32)), (.ref b97), (.ref b97)])) (fun _ k => XS.iconst X97.here hx rfl (hb hby d2_68) k) ?_
      obtain ⟨T101, h101, k101, X101, e101, E101, A101, AE101, st101⟩ := newPE X97 hx hZ (hw _ (List.mem_of_getElem? (i := 15) rfl)) e97 (g := (mkF m 69 #[.val (.int x0), .val (.long x1), .second, .val (.int (((x1 &&& (255 : Int64)).toInt32).toUInt32.toUInt16.toUInt32.toInt32)), .val (.int (((((x1.toUInt64 >>> ((8 : Int32) &&& 0x3f).toInt64.toUInt64).toInt64) &&& (255 : Int64)).toInt32).toUInt32.toUInt16.toUInt32.toInt32)), .val (.int (((((x1.toUInt64 >>> ((16 : Int32) &&& 0x3f).toInt64.toUInt64).toInt64) &&& (255 : Int64)).toInt32).toUInt32.toUInt16.toUInt32.toInt32)), .val (.int (((((x1.toUInt64 >>> ((24 : Int32) &&& 0x3f).toInt64.toUInt64).toInt64) &&& (255 : Int64)).toInt32).toUInt32.toUInt16.toUInt32.toInt32))] [(.int (1 : Int32)), (.ref b97), (.ref b97)])) rfl (hb hby d2_69) rfl (by decide) (cap := 1) (by decide) (by decide) (by decide) (by decide) (ad := "[C") (by decide)
      obtain ⟨b101, g101⟩ : ∃ z, z = h97.size := ⟨_, rfl⟩
      rw [← g101] at A101 AE101 st101
      have ge101 : n0 ≤ b101 := by rw [g101]; exact Zs97
      have hge101 : h0.size ≤ b101 := by rw [g101]; exact K97.1
      have ne101_1 : b97 ≠ b101 := by rw [g101]; exact Nat.ne_of_lt A97.lt
      have f102 : Sta Z h101 "java/lang/String" "COMPACT_STRINGS" "Z" (.int cs) := f98.ext E101
      have f103 : Exa Z h101 b97 "java/lang/String" := A97.ext E101
      have f104 : Fld Z h101 b97 "java/lang/String" "coder" "B" (.int (0 : Int32)) := f99.ext E101
      have f105 : Fld Z h101 b97 "java/lang/String" "value" "[B" .null := f100.ext E101
      have K101 : Keep h0 h101 [] := K97.ext E101
      have Zs101 : n0 ≤ h101.size := Nat.le_trans Z0 K101.1
      have Cs101 := CHr.ext E101 C97.1
      have C101 := C97.trans Cs101
      have hk101 := Nat.le_trans hk97 Cs101.2.1
      have V101 : Arv Z h101 b101 k101 .char (1 : Int32) [(.int (0 : Int32))] (.int (0 : Int32)) := (Arv.new A101 (by decide)).pad (pad_rep [] (.int (0 : Int32)) 1)
      refine own_st (T' := T101) (F' := (mkF m 71 #[.val (.int x0), .val (.long x1), .second, .val (.int (((x1 &&& (255 : Int64)).toInt32).toUInt32.toUInt16.toUInt32.toInt32)), .val (.int (((((x1.toUInt64 >>> ((8 : Int32) &&& 0x3f).toInt64.toUInt64).toInt64) &&& (255 : Int64)).toInt32).toUInt32.toUInt16.toUInt32.toInt32)), .val (.int (((((x1.toUInt64 >>> ((16 : Int32) &&& 0x3f).toInt64.toUInt64).toInt64) &&& (255 : Int64)).toInt32).toUInt32.toUInt16.toUInt32.toInt32)), .val (.int (((((x1.toUInt64 >>> ((24 : Int32) &&& 0x3f).toInt64.toUInt64).toInt64) &&& (255 : Int64)).toInt32).toUInt32.toUInt16.toUInt32.toInt32))] [(.ref b101), (.ref b97), (.ref b97)])) (fun _ k => st101 _ k) ?_
      refine own_st (T' := T101) (F' := (mkF m 72 #[.val (.int x0), .val (.long x1), .second, .val (.int (((x1 &&& (255 : Int64)).toInt32).toUInt32.toUInt16.toUInt32.toInt32)), .val (.int (((((x1.toUInt64 >>> ((8 : Int32) &&& 0x3f).toInt64.toUInt64).toInt64) &&& (255 : Int64)).toInt32).toUInt32.toUInt16.toUInt32.toInt32)), .val (.int (((((x1.toUInt64 >>> ((16 : Int32) &&& 0x3f).toInt64.toUInt64).toInt64) &&& (255 : Int64)).toInt32).toUInt32.toUInt16.toUInt32.toInt32)), .val (.int (((((x1.toUInt64 >>> ((24 : Int32) &&& 0x3f).toInt64.toUInt64).toInt64) &&& (255 : Int64)).toInt32).toUInt32.toUInt16.toUInt32.toInt32))] [(.ref b101), (.ref b101), (.ref b97), (.ref b97)])) (fun _ k => XS.dup X101.here hx rfl (hb hby d2_71) rfl rfl k) ?_
      refine own_st (T' := T101) (F' := (mkF m 73 #[.val (.int x0), .val (.long x1), .second, .val (.int (((x1 &&& (255 : Int64)).toInt32).toUInt32.toUInt16.toUInt32.toInt32)), .val (.int (((((x1.toUInt64 >>> ((8 : Int32) &&& 0x3f).toInt64.toUInt64).toInt64) &&& (255 : Int64)).toInt32).toUInt32.toUInt16.toUInt32.toInt32)), .val (.int (((((x1.toUInt64 >>> ((16 : Int32) &&& 0x3f).toInt64.toUInt64).toInt64) &&& (255 : Int64)).toInt32).toUInt32.toUInt16.toUInt32.toInt32)), .val (.int (((((x1.toUInt64 >>> ((24 : Int32) &&& 0x3f).toInt64.toUInt64).toInt64) &&& (255 : Int64)).toInt32).toUInt32.toUInt16.toUInt32.toInt32))] [(.int (0 : Int32)), (.ref b101), (.ref b101), (.ref b97), (.ref b97)])) (fun _ k => XS.iconst X101.here hx rfl (hb hby d2_72) k) ?_
      refine own_st (T' := T101) (F' := (mkF m 74 #[.val (.int x0), .val (.long x1), .second, .val (.int (((x1 &&& (255 : Int64)).toInt32).toUInt32.toUInt16.toUInt32.toInt32)), .val (.int (((((x1.toUInt64 >>> ((8 : Int32) &&& 0x3f).toInt64.toUInt64).toInt64) &&& (255 : Int64)).toInt32).toUInt32.toUInt16.toUInt32.toInt32)), .val (.int (((((x1.toUInt64 >>> ((16 : Int32) &&& 0x3f).toInt64.toUInt64).toInt64) &&& (255 : Int64)).toInt32).toUInt32.toUInt16.toUInt32.toInt32)), .val (.int (((((x1.toUInt64 >>> ((24 : Int32) &&& 0x3f).toInt64.toUInt64).toInt64) &&& (255 : Int64)).toInt32).toUInt32.toUInt16.toUInt32.toInt32))] [(.int (((x1 &&& (255 : Int64)).toInt32).toUInt32.toUInt16.toUInt32.toInt32)), (.int (0 : Int32)), (.ref b101), (.ref b101), (.ref b97), (.ref b97)])) (fun _ k => XS.iloadN X101.here hx rfl (hb hby d2_73) rfl  k) ?_
      obtain ⟨cl106, Ar106, Aq106, As106, Am106, Ah106, Au106⟩ := id V101
      have hin106 : ¬ ((0 : Int32) < 0 ∨ cl106.slots.size ≤ ((0 : Int32)).toNatClampNeg) := inb_of As106 ⟨by decide, by decide⟩
      obtain ⟨T106, h106, X106, e106, W106, st106⟩ := stC X101 hx hZ e101 Ar106 (j := (0 : Int32)) hin106 (g := (mkF m 74 #[.val (.int x0), .val (.long x1), .second, .val (.int (((x1 &&& (255 : Int64)).toInt32).toUInt32.toUInt16.toUInt32.toInt32)), .val (.int (((((x1.toUInt64 >>> ((8 : Int32) &&& 0x3f).toInt64.toUInt64).toInt64) &&& (255 : Int64)).toInt32).toUInt32.toUInt16.toUInt32.toInt32)), .val (.int (((((x1.toUInt64 >>> ((16 : Int32) &&& 0x3f).toInt64.toUInt64).toInt64) &&& (255 : Int64)).toInt32).toUInt32.toUInt16.toUInt32.toInt32)), .val (.int (((((x1.toUInt64 >>> ((24 : Int32) &&& 0x3f).toInt64.toUInt64).toInt64) &&& (255 : Int64)).toInt32).toUInt32.toUInt16.toUInt32.toInt32))] [(.int (((x1 &&& (255 : Int64)).toInt32).toUInt32.toUInt16.toUInt32.toInt32)), (.int (0 : Int32)), (.ref b101), (.ref b101), (.ref b97), (.ref b97)])) rfl rfl (hb hby d2_74)
      have V106 : Arv Z h106 b101 k101 .char (1 : Int32) [(.int (nar .char (((x1 &&& (255 : Int64)).toInt32).toUInt32.toUInt16.toUInt32.toInt32)))] (.int (0 : Int32)) := Arv.set Ar106 Aq106 As106 Am106 Ah106 Au106 (fits_nar_char _) W106 0 rfl (show 0 < 1 by decide)
      have N106 := Fr.snoc X106 N0 ge101
      have f107 : Sta Z h106 "java/lang/String" "COMPACT_STRINGS" "Z" (.int cs) := f102.wr W106
      have f108 : Exa Z h106 b97 "java/lang/String" := f103.wr W106
      have f109 : Fld Z h106 b97 "java/lang/String" "coder" "B" (.int (0 : Int32)) := f104.other W106 (Or.inl ne101_1)
      have f110 : Fld Z h106 b97 "java/lang/String" "value" "[B" .null := f105.other W106 (Or.inl ne101_1)
      have f111 : Exa Z h106 b101 "[C" := AE101.wr W106
      have K106 : Keep h0 h106 [] := K101.wr W106 (Or.inr hge101)
      have Zs106 : n0 ≤ h106.size := Nat.le_trans Z0 K106.1
      have Cs106 := CHr.wr W106 (Safe.arv hZ.alike V101 (by decide)) C101.1
      have C106 := C101.trans Cs106
      have hk106 := Nat.le_trans hk101 Cs106.2.1
      refine own_st (T' := T106) (F' := (mkF m 75 #[.val (.int x0), .val (.long x1), .second, .val (.int (((x1 &&& (255 : Int64)).toInt32).toUInt32.toUInt16.toUInt32.toInt32)), .val (.int (((((x1.toUInt64 >>> ((8 : Int32) &&& 0x3f).toInt64.toUInt64).toInt64) &&& (255 : Int64)).toInt32).toUInt32.toUInt16.toUInt32.toInt32)), .val (.int (((((x1.toUInt64 >>> ((16 : Int32) &&& 0x3f).toInt64.toUInt64).toInt64) &&& (255 : Int64)).toInt32).toUInt32.toUInt16.toUInt32.toInt32)), .val (.int (((((x1.toUInt64 >>> ((24 : Int32) &&& 0x3f).toInt64.toUInt64).toInt64) &&& (255 : Int64)).toInt32).toUInt32.toUInt16.toUInt32.toInt32))] [(.ref b101), (.ref b97), (.ref b97)])) (fun _ k => st106 _ k) ?_
      obtain ⟨_, _, ⟨T112, L112, k112, n112⟩, -, X112, ⟨Lc112, hQ112, l112, y112, z112⟩, st112⟩ := X106.specialBack hx (y := (⟨"java/lang/String", "<init>", "([C)V"⟩ : MethodName)) rfl hown (mvT hZ (hw _ (List.mem_of_getElem? (i := 16) rfl))) (mvT hZ (hw _ (List.mem_of_getElem? (i := 17) rfl))) (mvT hZ (hw _ (List.mem_of_getElem? (i := 18) rfl))) (by decide) (backOf (W := 1) (rm3t1 l Z a0 hw [] b97 b101 cs k101 (nar .char (((x1 &&& (255 : Int64)).toInt32).toUInt32.toUInt16.toUInt32.toInt32)) h106 n0 Zs106 f107 hcs ge97 ne101_1 f108 f109 f110 V106 (own_c255 _)) hZ (hw _ (List.mem_of_getElem? (i := 18) rfl)) (hw _ (List.mem_of_getElem? (i := 14) rfl)) (by decide) (by decide)) (g := (mkF m 75 #[.val (.int x0), .val (.long x1), .second, .val (.int (((x1 &&& (255 : Int64)).toInt32).toUInt32.toUInt16.toUInt32.toInt32)), .val (.int (((((x1.toUInt64 >>> ((8 : Int32) &&& 0x3f).toInt64.toUInt64).toInt64) &&& (255 : Int64)).toInt32).toUInt32.toUInt16.toUInt32.toInt32)), .val (.int (((((x1.toUInt64 >>> ((16 : Int32) &&& 0x3f).toInt64.toUInt64).toInt64) &&& (255 : Int64)).toInt32).toUInt32.toUInt16.toUInt32.toInt32)), .val (.int (((((x1.toUInt64 >>> ((24 : Int32) &&& 0x3f).toInt64.toUInt64).toInt64) &&& (255 : Int64)).toInt32).toUInt32.toUInt16.toUInt32.toInt32))] [(.ref b101), (.ref b97), (.ref b97)])) rfl (by rw [hml]; rfl) (Steps.refl _) (a := b97) (argsL := [(.ref b101)]) (rest := [(.ref b97)]) (lenOf own_pd12 rfl) rfl (by show 2 * 0 + _ ≤ _; exact Nat.le_of_eq rfl) (hb hby d2_75) (fun _ _ => ⟨rfl, e106, (by decide : 2 + 1 ≤ _), (by decide : 5 + 1 ≤ _)⟩)
      dsimp only [Pt.U, Pt.locs, Pt.cells, Pt.slots] at X112 l112 y112 z112 st112 hQ112
      subst l112 y112 z112
      obtain ⟨rfl, Nq112, g112_0, g112_1, g112_2⟩ := hQ112
      have N112 := Fr.app N106 Nq112
      have f113 : Sta Z T112.heap "java/lang/String" "COMPACT_STRINGS" "Z" (.int cs) := own_stk f107 g112_0 (allS (own_npE f108) all0)
      have f114 : Exa Z T112.heap b97 "java/lang/String" := f108.keep g112_0
      have f115 : Exa Z T112.heap b101 "[C" := f111.keep g112_0
      have f116 : Arv Z T112.heap b101 k101 .char (1 : Int32) [(.int (nar .char (((x1 &&& (255 : Int64)).toInt32).toUInt32.toUInt16.toUInt32.toInt32)))] (.int (0 : Int32)) := V106.keep g112_0 (ninS (Ne.symm ne101_1) nin0)
      have K112 : Keep h0 T112.heap [] := K106.trans g112_0 (allS (Or.inr hge97) all0)
      have Zs112 : n0 ≤ T112.heap.size := Nat.le_trans Z0 K112.1
      have Cs112 := CHr.keep g112_0 (sfS (own_safe0 hZ.alike f108 f110) sf0) C106.1
      have C112 := C106.trans Cs112
      have hk112 := Nat.le_trans hk106 Cs112.2.1
      obtain ⟨vv112, vk112, gg112, fv112, av112⟩ := id g112_2
      refine own_tr (T' := T112) (F' := (mkF m 78 #[.val (.int x0), .val (.long x1), .second, .val (.int (((x1 &&& (255 : Int64)).toInt32).toUInt32.toUInt16.toUInt32.toInt32)), .val (.int (((((x1.toUInt64 >>> ((8 : Int32) &&& 0x3f).toInt64.toUInt64).toInt64) &&& (255 : Int64)).toInt32).toUInt32.toUInt16.toUInt32.toInt32)), .val (.int (((((x1.toUInt64 >>> ((16 : Int32) &&& 0x3f).toInt64.toUInt64).toInt64) &&& (255 : Int64)).toInt32).toUInt32.toUInt16.toUInt32.toInt32)), .val (.int (((((x1.toUInt64 >>> ((24 : Int32) &&& 0x3f).toInt64.toUInt64).toInt64) &&& (255 : Int64)).toInt32).toUInt32.toUInt16.toUInt32.toInt32))] [(.ref b97)])) st112 ?_
      refine own_sretA X112 hx hS0 (by exact hk112) hlk (t := (.object "java/lang/String")) Bd.returns rfl rfl rfl (hb hby d2_78) ?_ (by exact C112.trans (CHv.at X112 hZ hEL C112.1)) (by decide) (by decide)
      show Q2 Z x0 x1 cs h0 n0 _ T112.heap _
      refine ⟨⟨_, rfl, ?_⟩, N112, K112⟩
      exact ⟨f114, g112_1, _, _, _, _, fv112, av112⟩
  ·
    obtain ⟨T117, h117, X117, e117, E117, A117, D117, -, st117⟩ := newO X0 hx hZ hown (hw _ (List.mem_of_getElem? (i := 12) rfl)) (hw _ (List.mem_of_getElem? (i := 13) rfl)) (hw _ (List.mem_of_getElem? (i := 14) rfl)) e0 (g := (mkF m 48 #[.val (.int x0), .val (.long x1), .second, .val (.int (((x1 &&& (255 : Int64)).toInt32).toUInt32.toUInt16.toUInt32.toInt32)), .val (.int (((((x1.toUInt64 >>> ((8 : Int32) &&& 0x3f).toInt64.toUInt64).toInt64) &&& (255 : Int64)).toInt32).toUInt32.toUInt16.toUInt32.toInt32)), .val (.int (((((x1.toUInt64 >>> ((16 : Int32) &&& 0x3f).toInt64.toUInt64).toInt64) &&& (255 : Int64)).toInt32).toUInt32.toUInt16.toUInt32.toInt32)), .val (.int (((((x1.toUInt64 >>> ((24 : Int32) &&& 0x3f).toInt64.toUInt64).toInt64) &&& (255 : Int64)).toInt32).toUInt32.toUInt16.toUInt32.toInt32))] [])) rfl (hb hby d2_48) (by decide) (by decide)
    obtain ⟨b117, g117⟩ : ∃ z, z = h0.size := ⟨_, rfl⟩
    rw [← g117] at A117 D117 st117
    have ge117 : n0 ≤ b117 := by rw [g117]; exact Z0
    have hge117 : h0.size ≤ b117 := by rw [g117]; exact (Keep.refl h0 []).1
    have f118 : Sta Z h117 "java/lang/String" "COMPACT_STRINGS" "Z" (.int cs) := S_cs.ext E117
    have K117 : Keep h0 h117 [] := (Keep.refl h0 []).ext E117
    have Zs117 : n0 ≤ h117.size := Nat.le_trans Z0 K117.1
    have Cs117 := CHr.ext E117 C0.1
    have C117 := C0.trans Cs117
    have hk117 := Nat.le_trans hk0 Cs117.2.1
    have f119 : Fld Z h117 b117 "java/lang/String" "coder" "B" (.int (0 : Int32)) := D117 (Or.inr (hw _ (List.mem_of_getElem? (i := 39) rfl))) (ty := .byte) (by decide)
    have f120 : Fld Z h117 b117 "java/lang/String" "value" "[B" .null := D117 (Or.inr (hw _ (List.mem_of_getElem? (i := 41) rfl))) (ty := (.array .byte)) (by decide)
    refine own_st (T' := T117) (F' := (mkF m 51 #[.val (.int x0), .val (.long x1), .second, .val (.int (((x1 &&& (255 : Int64)).toInt32).toUInt32.toUInt16.toUInt32.toInt32)), .val (.int (((((x1.toUInt64 >>> ((8 : Int32) &&& 0x3f).toInt64.toUInt64).toInt64) &&& (255 : Int64)).toInt32).toUInt32.toUInt16.toUInt32.toInt32)), .val (.int (((((x1.toUInt64 >>> ((16 : Int32) &&& 0x3f).toInt64.toUInt64).toInt64) &&& (255 : Int64)).toInt32).toUInt32.toUInt16.toUInt32.toInt32)), .val (.int (((((x1.toUInt64 >>> ((24 : Int32) &&& 0x3f).toInt64.toUInt64).toInt64) &&& (255 : Int64)).toInt32).toUInt32.toUInt16.toUInt32.toInt32))] [(.ref b117)])) (fun _ k => st117 _ k) ?_
    refine own_st (T' := T117) (F' := (mkF m 52 #[.val (.int x0), .val (.long x1), .second, .val (.int (((x1 &&& (255 : Int64)).toInt32).toUInt32.toUInt16.toUInt32.toInt32)), .val (.int (((((x1.toUInt64 >>> ((8 : Int32) &&& 0x3f).toInt64.toUInt64).toInt64) &&& (255 : Int64)).toInt32).toUInt32.toUInt16.toUInt32.toInt32)), .val (.int (((((x1.toUInt64 >>> ((16 : Int32) &&& 0x3f).toInt64.toUInt64).toInt64) &&& (255 : Int64)).toInt32).toUInt32.toUInt16.toUInt32.toInt32)), .val (.int (((((x1.toUInt64 >>> ((24 : Int32) &&& 0x3f).toInt64.toUInt64).toInt64) &&& (255 : Int64)).toInt32).toUInt32.toUInt16.toUInt32.toInt32))] [(.ref b117), (.ref b117)])) (fun _ k => XS.dup X117.here hx rfl (hb hby d2_51) rfl rfl k) ?_
    refine own_st (T' := T117) (F' := (mkF m 53 #[.val (.int x0), .val (.long x1), .second, .val (.int (((x1 &&& (255 : Int64)).toInt32).toUInt32.toUInt16.toUInt32.toInt32)), .val (.int (((((x1.toUInt64 >>> ((8 : Int32) &&& 0x3f).toInt64.toUInt64).toInt64) &&& (255 : Int64)).toInt32).toUInt32.toUInt16.toUInt32.toInt32)), .val (.int (((((x1.toUInt64 >>> ((16 : Int32) &&& 0x3f).toInt64.toUInt64).toInt64) &&& (255 : Int64)).toInt32).toUInt32.toUInt16.toUInt32.toInt32)), .val (.int (((((x1.toUInt64 >>> ((24 : Int32) &&& 0x3f).toInt64.toUInt64).toInt64) &&& (255 : Int64)).toInt32).toUInt32.toUInt16.toUInt32.toInt32))] [(.int (0 : Int32)), (.ref b117), (.ref b117)])) (fun _ k => XS.iconst X117.here hx rfl (hb hby d2_52) k) ?_
    obtain ⟨T121, h121, k121, X121, e121, E121, A121, AE121, st121⟩ := newPE X117 hx hZ (hw _ (List.mem_of_getElem? (i := 15) rfl)) e117 (g := (mkF m 53 #[.val (.int x0), .val (.long x1), .second, .val (.int (((x1 &&& (255 : Int64)).toInt32).toUInt32.toUInt16.toUInt32.toInt32)), .val (.int (((((x1.toUInt64 >>> ((8 : Int32) &&& 0x3f).toInt64.toUInt64).toInt64) &&& (255 : Int64)).toInt32).toUInt32.toUInt16.toUInt32.toInt32)), .val (.int (((((x1.toUInt64 >>> ((16 : Int32) &&& 0x3f).toInt64.toUInt64).toInt64) &&& (255 : Int64)).toInt32).toUInt32.toUInt16.toUInt32.toInt32)), .val (.int (((((x1.toUInt64 >>> ((24 : Int32) &&& 0x3f).toInt64.toUInt64).toInt64) &&& (255 : Int64)).toInt32).toUInt32.toUInt16.toUInt32.toInt32))] [(.int (0 : Int32)), (.ref b117), (.ref b117)])) rfl (hb hby d2_53) rfl (by decide) (cap := 0) (by decide) (by decide) (by decide) (by decide) (ad := "[C") (by decide)
    obtain ⟨b121, g121⟩ : ∃ z, z = h117.size := ⟨_, rfl⟩
    rw [← g121] at A121 AE121 st121
    have ge121 : n0 ≤ b121 := by rw [g121]; exact Zs117
    have hge121 : h0.size ≤ b121 := by rw [g121]; exact K117.1
    have ne121_1 : b117 ≠ b121 := by rw [g121]; exact Nat.ne_of_lt A117.lt
    have f122 : Sta Z h121 "java/lang/String" "COMPACT_STRINGS" "Z" (.int cs) := f118.ext E121
    have f123 : Exa Z h121 b117 "java/lang/String" := A117.ext E121
    have f124 : Fld Z h121 b117 "java/lang/String" "coder" "B" (.int (0 : Int32)) := f119.ext E121
    have f125 : Fld Z h121 b117 "java/lang/String" "value" "[B" .null := f120.ext E121
    have K121 : Keep h0 h121 [] := K117.ext E121
    have Zs121 : n0 ≤ h121.size := Nat.le_trans Z0 K121.1
    have Cs121 := CHr.ext E121 C117.1
    have C121 := C117.trans Cs121
    have hk121 := Nat.le_trans hk117 Cs121.2.1
    have V121 : Arv Z h121 b121 k121 .char (0 : Int32) [] (.int (0 : Int32)) := (Arv.new A121 (by decide)).pad (pad_rep [] (.int (0 : Int32)) 0)
    refine own_st (T' := T121) (F' := (mkF m 55 #[.val (.int x0), .val (.long x1), .second, .val (.int (((x1 &&& (255 : Int64)).toInt32).toUInt32.toUInt16.toUInt32.toInt32)), .val (.int (((((x1.toUInt64 >>> ((8 : Int32) &&& 0x3f).toInt64.toUInt64).toInt64) &&& (255 : Int64)).toInt32).toUInt32.toUInt16.toUInt32.toInt32)), .val (.int (((((x1.toUInt64 >>> ((16 : Int32) &&& 0x3f).toInt64.toUInt64).toInt64) &&& (255 : Int64)).toInt32).toUInt32.toUInt16.toUInt32.toInt32)), .val (.int (((((x1.toUInt64 >>> ((24 : Int32) &&& 0x3f).toInt64.toUInt64).toInt64) &&& (255 : Int64)).toInt32).toUInt32.toUInt16.toUInt32.toInt32))] [(.ref b121), (.ref b117), (.ref b117)])) (fun _ k => st121 _ k) ?_
    obtain ⟨_, _, ⟨T126, L126, k126, n126⟩, -, X126, hSa126, hgr126, ⟨Lc126, hQ126, l126, y126, z126, C126a⟩, st126⟩ := X121.specialBackS hx (y := (⟨"java/lang/String", "<init>", "([C)V"⟩ : MethodName)) rfl hown (mvT hZ (hw _ (List.mem_of_getElem? (i := 16) rfl))) (mvT hZ (hw _ (List.mem_of_getElem? (i := 17) rfl))) (mvT hZ (hw _ (List.mem_of_getElem? (i := 18) rfl))) (by decide) (backOfSH (W := 1) (rm3te l Z a0 hw [] b117 b121 k121 h121 n0 Zs121 ge117 f123 f124 f125 ne121_1 V121) hZ (hw _ (List.mem_of_getElem? (i := 18) rfl)) (hw _ (List.mem_of_getElem? (i := 14) rfl)) (by decide) (by decide) hEL C121.1) (g := (mkF m 55 #[.val (.int x0), .val (.long x1), .second, .val (.int (((x1 &&& (255 : Int64)).toInt32).toUInt32.toUInt16.toUInt32.toInt32)), .val (.int (((((x1.toUInt64 >>> ((8 : Int32) &&& 0x3f).toInt64.toUInt64).toInt64) &&& (255 : Int64)).toInt32).toUInt32.toUInt16.toUInt32.toInt32)), .val (.int (((((x1.toUInt64 >>> ((16 : Int32) &&& 0x3f).toInt64.toUInt64).toInt64) &&& (255 : Int64)).toInt32).toUInt32.toUInt16.toUInt32.toInt32)), .val (.int (((((x1.toUInt64 >>> ((24 : Int32) &&& 0x3f).toInt64.toUInt64).toInt64) &&& (255 : Int64)).toInt32).toUInt32.toUInt16.toUInt32.toInt32))] [(.ref b121), (.ref b117), (.ref b117)])) rfl (by rw [hml]; rfl) (Steps.refl _) (a := b117) (argsL := [(.ref b121)]) (rest := [(.ref b117)]) (lenOf own_pd12 rfl) rfl (by show 2 * 0 + _ ≤ _; exact Nat.le_of_eq rfl) (hb hby d2_55) (fun _ _ => ⟨rfl, e121, (by decide : 2 + 4 ≤ _), (by decide : 4 + 8 ≤ _)⟩)
    dsimp only [Pt.U, Pt.locs, Pt.cells, Pt.slots] at X126 l126 y126 z126 st126 hQ126 hSa126 hgr126 C126a
    subst l126 y126 z126
    have X126 := (show Stand p l e ({ frames := 4, cells := 6, slots := 12, locals := 66 } : Room) (s.setVm T126.vm) m #[(.int x0), (.long x1)] below meth c T126 _ _ _ from X126)
    have hS126 := foldS hS0 (by rw [e121]; exact hk121) hSa126 hgr126
    have hk126 : T126.heap.size ≤ T126.heap.size := Nat.le_refl _
    have C126 := C121.trans C126a
    have hown : T126.vm.findClass "com/example/fieldloom/fieldloom/KindIsFlagPinLaw" = some m.cls := by rw [hSa126.1.alike.findClass]; exact hown
    have hZ : Z.Warmed39 (s.setVm T126.vm).vm := State.Warmed39.trans hZ hSa126.1
    obtain ⟨rfl, Nq126, g126_0, g126_1, g126_2⟩ := hQ126
    have N126 := Fr.app N0 Nq126
    have f127 : Sta Z T126.heap "java/lang/String" "COMPACT_STRINGS" "Z" (.int cs) := own_stk f122 g126_0 (allS (own_npE f123) all0)
    have f128 : Exa Z T126.heap b117 "java/lang/String" := f123.keep g126_0
    have f129 : Exa Z T126.heap b121 "[C" := AE121.keep g126_0
    have f130 : Arv Z T126.heap b121 k121 .char (0 : Int32) [] (.int (0 : Int32)) := V121.keep g126_0 (ninS (Ne.symm ne121_1) nin0)
    have K126 : Keep h0 T126.heap [] := K121.trans g126_0 (allS (Or.inr hge117) all0)
    have Zs126 : n0 ≤ T126.heap.size := Nat.le_trans Z0 K126.1
    obtain ⟨vv126, vk126, gg126, fv126, av126⟩ := id g126_2
    refine own_tr (T' := T126) (F' := (mkF m 58 #[.val (.int x0), .val (.long x1), .second, .val (.int (((x1 &&& (255 : Int64)).toInt32).toUInt32.toUInt16.toUInt32.toInt32)), .val (.int (((((x1.toUInt64 >>> ((8 : Int32) &&& 0x3f).toInt64.toUInt64).toInt64) &&& (255 : Int64)).toInt32).toUInt32.toUInt16.toUInt32.toInt32)), .val (.int (((((x1.toUInt64 >>> ((16 : Int32) &&& 0x3f).toInt64.toUInt64).toInt64) &&& (255 : Int64)).toInt32).toUInt32.toUInt16.toUInt32.toInt32)), .val (.int (((((x1.toUInt64 >>> ((24 : Int32) &&& 0x3f).toInt64.toUInt64).toInt64) &&& (255 : Int64)).toInt32).toUInt32.toUInt16.toUInt32.toInt32))] [(.ref b117)])) st126 ?_
    refine own_sretA X126 hx hS126 (by exact hk126) hlk (t := (.object "java/lang/String")) Bd.returns rfl rfl rfl (hb hby d2_58) ?_ (by exact C126.trans (CHv.at X126 hZ hEL C126.1)) (by decide) (by decide)
    show Q2 Z x0 x1 cs h0 n0 _ T126.heap _
    refine ⟨⟨_, rfl, ?_⟩, N126, K126⟩
    exact ⟨f128, g126_1, _, _, _, _, fv126, av126⟩
theorem d1_0 : decode method_3_code 0 = .ok (.iload_n 0, 1) := by decide +kernel
theorem d1_1 : decode method_3_code 1 = .ok (.ifCond .ne 7, 3) := by decide +kernel
theorem d1_4 : decode method_3_code 4 = .ok (.getstatic 44, 3) := by decide +kernel
theorem d1_7 : decode method_3_code 7 = .ok (.areturn, 1) := by decide +kernel
theorem d1_8 : decode method_3_code 8 = .ok (.iload_n 0, 1) := by decide +kernel
theorem d1_9 : decode method_3_code 9 = .ok (.iconst 1, 1) := by decide +kernel
theorem d1_10 : decode method_3_code 10 = .ok (.if_icmp .ne 7, 3) := by decide +kernel
theorem d1_13 : decode method_3_code 13 = .ok (.getstatic 48, 3) := by decide +kernel
theorem d1_16 : decode method_3_code 16 = .ok (.areturn, 1) := by decide +kernel
theorem d1_17 : decode method_3_code 17 = .ok (.iload_n 0, 1) := by decide +kernel
theorem d1_18 : decode method_3_code 18 = .ok (.iconst 2, 1) := by decide +kernel
theorem d1_19 : decode method_3_code 19 = .ok (.if_icmp .ne 7, 3) := by decide +kernel
theorem d1_22 : decode method_3_code 22 = .ok (.getstatic 51, 3) := by decide +kernel
theorem d1_25 : decode method_3_code 25 = .ok (.areturn, 1) := by decide +kernel
theorem d1_26 : decode method_3_code 26 = .ok (.iload_n 0, 1) := by decide +kernel
theorem d1_27 : decode method_3_code 27 = .ok (.iconst 3, 1) := by decide +kernel
theorem d1_28 : decode method_3_code 28 = .ok (.if_icmp .ne 7, 3) := by decide +kernel
theorem d1_31 : decode method_3_code 31 = .ok (.getstatic 54, 3) := by decide +kernel
theorem d1_34 : decode method_3_code 34 = .ok (.areturn, 1) := by decide +kernel
theorem d1_35 : decode method_3_code 35 = .ok (.iload_n 0, 1) := by decide +kernel
theorem d1_36 : decode method_3_code 36 = .ok (.iconst 4, 1) := by decide +kernel
theorem d1_37 : decode method_3_code 37 = .ok (.if_icmp .ne 7, 3) := by decide +kernel
theorem d1_40 : decode method_3_code 40 = .ok (.getstatic 57, 3) := by decide +kernel
theorem d1_43 : decode method_3_code 43 = .ok (.areturn, 1) := by decide +kernel
theorem d1_44 : decode method_3_code 44 = .ok (.iload_n 0, 1) := by decide +kernel
theorem d1_45 : decode method_3_code 45 = .ok (.iconst 5, 1) := by decide +kernel
theorem d1_46 : decode method_3_code 46 = .ok (.if_icmp .ne 7, 3) := by decide +kernel
theorem d1_49 : decode method_3_code 49 = .ok (.getstatic 60, 3) := by decide +kernel
theorem d1_52 : decode method_3_code 52 = .ok (.areturn, 1) := by decide +kernel
theorem d1_53 : decode method_3_code 53 = .ok (.iload_n 0, 1) := by decide +kernel
theorem d1_54 : decode method_3_code 54 = .ok (.bipush 6, 2) := by decide +kernel
theorem d1_56 : decode method_3_code 56 = .ok (.if_icmp .ne 7, 3) := by decide +kernel
theorem d1_59 : decode method_3_code 59 = .ok (.getstatic 63, 3) := by decide +kernel
theorem d1_62 : decode method_3_code 62 = .ok (.areturn, 1) := by decide +kernel
theorem d1_63 : decode method_3_code 63 = .ok (.iload_n 0, 1) := by decide +kernel
theorem d1_64 : decode method_3_code 64 = .ok (.bipush 7, 2) := by decide +kernel
theorem d1_66 : decode method_3_code 66 = .ok (.if_icmp .ne 7, 3) := by decide +kernel
theorem d1_69 : decode method_3_code 69 = .ok (.getstatic 66, 3) := by decide +kernel
theorem d1_72 : decode method_3_code 72 = .ok (.areturn, 1) := by decide +kernel
theorem d1_73 : decode method_3_code 73 = .ok (.iload_n 0, 1) := by decide +kernel
theorem d1_74 : decode method_3_code 74 = .ok (.bipush 8, 2) := by decide +kernel
theorem d1_76 : decode method_3_code 76 = .ok (.if_icmp .ne 7, 3) := by decide +kernel
theorem d1_79 : decode method_3_code 79 = .ok (.getstatic 69, 3) := by decide +kernel
theorem d1_82 : decode method_3_code 82 = .ok (.areturn, 1) := by decide +kernel
theorem d1_83 : decode method_3_code 83 = .ok (.iload_n 0, 1) := by decide +kernel
theorem d1_84 : decode method_3_code 84 = .ok (.bipush 9, 2) := by decide +kernel
theorem d1_86 : decode method_3_code 86 = .ok (.if_icmp .ne 7, 3) := by decide +kernel
theorem d1_89 : decode method_3_code 89 = .ok (.getstatic 72, 3) := by decide +kernel
theorem d1_92 : decode method_3_code 92 = .ok (.areturn, 1) := by decide +kernel
theorem d1_93 : decode method_3_code 93 = .ok (.iload_n 0, 1) := by decide +kernel
theorem d1_94 : decode method_3_code 94 = .ok (.bipush 10, 2) := by decide +kernel
theorem d1_96 : decode method_3_code 96 = .ok (.if_icmp .ne 7, 3) := by decide +kernel
theorem d1_99 : decode method_3_code 99 = .ok (.getstatic 75, 3) := by decide +kernel
theorem d1_102 : decode method_3_code 102 = .ok (.areturn, 1) := by decide +kernel
theorem d1_103 : decode method_3_code 103 = .ok (.iload_n 0, 1) := by decide +kernel
theorem d1_104 : decode method_3_code 104 = .ok (.bipush 11, 2) := by decide +kernel
theorem d1_106 : decode method_3_code 106 = .ok (.if_icmp .ne 7, 3) := by decide +kernel
theorem d1_109 : decode method_3_code 109 = .ok (.getstatic 78, 3) := by decide +kernel
theorem d1_112 : decode method_3_code 112 = .ok (.areturn, 1) := by decide +kernel
theorem d1_113 : decode method_3_code 113 = .ok (.getstatic 81, 3) := by decide +kernel
theorem d1_116 : decode method_3_code 116 = .ok (.areturn, 1) := by decide +kernel
theorem own_pn1 : plainName "com/example/fieldloom/fieldloom/KindIsFlagPinLaw" = true := by first | (simp [plainName, overriddenIn]; done) | decide +kernel
theorem own_ef1 (m : MethodId) (x0 : Int32) : entryFrame m #[(.int x0)] 1 = (mkF m 0 #[.val (.int x0)] []) := by first | (simp [entryFrame, mkF, argsToLocals, Value.category]; done) | rfl
def Q1 (Z : State) (x0 : Int32) (ka0 : Addr) (ka1 : Addr) (ka2 : Addr) (ka3 : Addr) (ka4 : Addr) (ka5 : Addr) (ka6 : Addr) (ka7 : Addr) (ka8 : Addr) (ka9 : Addr) (ka10 : Addr) (ka11 : Addr) (ka12 : Addr) (h0 : Heap) (n0 : Nat) (v : Option Value) (h : Heap) (L : List Loc) : Prop := (∃ z : Addr, v = some (.ref z) ∧ (z = ka0 ∨ z = ka1 ∨ z = ka2 ∨ z = ka3 ∨ z = ka4 ∨ z = ka5 ∨ z = ka6 ∨ z = ka7 ∨ z = ka8 ∨ z = ka9 ∨ z = ka10 ∨ z = ka11 ∨ z = ka12)) ∧ Fr n0 L ∧ h = h0
set_option maxRecDepth 65536 in
set_option maxHeartbeats 40000000 in
theorem rm1 (l : Launch) (Z : State) (a0 : Array Value) (hw : ∀ d ∈ tables_1, d.before a0 Z = true) (ws : List Jvm.Cond) (x0 : Int32) (ka0 : Addr) (ka1 : Addr) (ka2 : Addr) (ka3 : Addr) (ka4 : Addr) (ka5 : Addr) (ka6 : Addr) (ka7 : Addr) (ka8 : Addr) (ka9 : Addr) (ka10 : Addr) (ka11 : Addr) (ka12 : Addr) (h0 : Heap) (n0 : Nat) (Z0 : n0 ≤ h0.size) (S_ka0 : Sta Z h0 "com/example/fieldloom/fieldloom/Kind" "TEXT" "Lcom/example/fieldloom/fieldloom/Kind;" (.ref ka0)) (S_ka1 : Sta Z h0 "com/example/fieldloom/fieldloom/Kind" "UNIQUE_TEXT" "Lcom/example/fieldloom/fieldloom/Kind;" (.ref ka1)) (S_ka2 : Sta Z h0 "com/example/fieldloom/fieldloom/Kind" "BOOLEAN" "Lcom/example/fieldloom/fieldloom/Kind;" (.ref ka2)) (S_ka3 : Sta Z h0 "com/example/fieldloom/fieldloom/Kind" "RESTRICTION_FLAG" "Lcom/example/fieldloom/fieldloom/Kind;" (.ref ka3)) (S_ka4 : Sta Z h0 "com/example/fieldloom/fieldloom/Kind" "PERSON_CODE" "Lcom/example/fieldloom/fieldloom/Kind;" (.ref ka4)) (S_ka5 : Sta Z h0 "com/example/fieldloom/fieldloom/Kind" "SESSION" "Lcom/example/fieldloom/fieldloom/Kind;" (.ref ka5)) (S_ka6 : Sta Z h0 "com/example/fieldloom/fieldloom/Kind" "EMAIL" "Lcom/example/fieldloom/fieldloom/Kind;" (.ref ka6)) (S_ka7 : Sta Z h0 "com/example/fieldloom/fieldloom/Kind" "DATE" "Lcom/example/fieldloom/fieldloom/Kind;" (.ref ka7)) (S_ka8 : Sta Z h0 "com/example/fieldloom/fieldloom/Kind" "DATE_OR_NA" "Lcom/example/fieldloom/fieldloom/Kind;" (.ref ka8)) (S_ka9 : Sta Z h0 "com/example/fieldloom/fieldloom/Kind" "DATE_PHRASE" "Lcom/example/fieldloom/fieldloom/Kind;" (.ref ka9)) (S_ka10 : Sta Z h0 "com/example/fieldloom/fieldloom/Kind" "CLOSED_LIST" "Lcom/example/fieldloom/fieldloom/Kind;" (.ref ka10)) (S_ka11 : Sta Z h0 "com/example/fieldloom/fieldloom/Kind" "OPEN_LIST" "Lcom/example/fieldloom/fieldloom/Kind;" (.ref ka11)) (S_ka12 : Sta Z h0 "com/example/fieldloom/fieldloom/Kind" "PERSON_REFERENCE" "Lcom/example/fieldloom/fieldloom/Kind;" (.ref ka12)) :
    MetFree l (⟨"com/example/fieldloom/fieldloom/KindIsFlagPinLaw", "pick", "(I)Lcom/example/fieldloom/fieldloom/Kind;"⟩ : MethodName) (head1 (Jvm.Cond.code (⟨"com/example/fieldloom/fieldloom/KindIsFlagPinLaw", "pick", "(I)Lcom/example/fieldloom/fieldloom/Kind;"⟩ : MethodName) method_3_code 1 (some (.object "com/example/fieldloom/fieldloom/Kind")) :: ws) ({ frames := 0, cells := 0, slots := 0, locals := 0 } : Room)) (fun a U => a = #[(.int x0)] ∧ Z.Warmed39 U.vm ∧ U.heap = h0) (fun _ _ _ _ _ => True) (fun _ U oc U' => ∃ v L, oc = .returned v ∧ Q1 Z x0 ka0 ka1 ka2 ka3 ka4 ka5 ka6 ka7 ka8 ka9 ka10 ka11 ka12 h0 n0 v U'.heap L ∧ FrameEnd U oc U' L ({ frames := 0, cells := 0, slots := 0, locals := 0 } : Room).cells ({ frames := 0, cells := 0, slots := 0, locals := 0 } : Room).slots) := by
  refine MetFree.of_bodySF (plainFor_of_name own_pn1) hisR ?_
  intro p e s m args below meth c s₁ Bd hml0 hP hK
  obtain ⟨rfl, hZ, hh⟩ := hP
  have hx := Bd.exec
  have hby := Bd.bytes
  have hlk : meth.locks = false := BodyLoose.notSynchronized Bd
  have hml : c.maxLocals = 1 := hml0
  have hown : s.vm.findClass "com/example/fieldloom/fieldloom/KindIsFlagPinLaw" = some m.cls := findClass_of_methodNamed Bd.named
  have hnm := (name_of_methodNamed Bd.named Bd.method).1
  have X0 : Stand p l e ({ frames := 0, cells := 0, slots := 0, locals := 0 } : Room) s m #[(.int x0)] below meth c s₁ [] 0 0 := Stand.of_body Bd
  have e0 : s₁.heap = h0 := by rw [← hh, Bd.state]; rfl
  have N0 := Fr.nil n0
  refine own_enter (own_ef1 m x0) ?_
  show own_Go p e below (own_E s (Q1 Z x0 ka0 ka1 ka2 ka3 ka4 ka5 ka6 ka7 ka8 ka9 ka10 ka11 ka12 h0 n0) ({ frames := 0, cells := 0, slots := 0, locals := 0 } : Room).cells ({ frames := 0, cells := 0, slots := 0, locals := 0 } : Room).slots) s₁ (mkF m 0 #[.val (.int x0)] [])
  refine own_st (T' := s₁) (F' := (mkF m 1 #[.val (.int x0)] [(.int x0)])) (fun _ k => XS.iloadN X0.here hx rfl (hb hby d1_0) rfl  k) ?_
  refine own_ifc X0 hx (pc' := 8) (pc2 := 4) (hb hby d1_1) (by decide) (by decide) rfl (fun (hc1 : ¬ (x0 = (0 : Int32))) => ?_) (fun (hc1 : x0 = (0 : Int32)) => ?_)
  ·
    refine own_st (T' := s₁) (F' := (mkF m 9 #[.val (.int x0)] [(.int x0)])) (fun _ k => XS.iloadN X0.here hx rfl (hb hby d1_8) rfl  k) ?_
    refine own_st (T' := s₁) (F' := (mkF m 10 #[.val (.int x0)] [(.int (1 : Int32)), (.int x0)])) (fun _ k => XS.iconst X0.here hx rfl (hb hby d1_9) k) ?_
    refine own_icmp X0 hx (pc' := 17) (pc2 := 13) (hb hby d1_10) (by decide) (by decide) rfl (fun (hc10 : ¬ (x0 = (1 : Int32))) => ?_) (fun (hc10 : x0 = (1 : Int32)) => ?_)
    ·
      refine own_st (T' := s₁) (F' := (mkF m 18 #[.val (.int x0)] [(.int x0)])) (fun _ k => XS.iloadN X0.here hx rfl (hb hby d1_17) rfl  k) ?_
      refine own_st (T' := s₁) (F' := (mkF m 19 #[.val (.int x0)] [(.int (2 : Int32)), (.int x0)])) (fun _ k => XS.iconst X0.here hx rfl (hb hby d1_18) k) ?_
      refine own_icmp X0 hx (pc' := 26) (pc2 := 22) (hb hby d1_19) (by decide) (by decide) rfl (fun (hc19 : ¬ (x0 = (2 : Int32))) => ?_) (fun (hc19 : x0 = (2 : Int32)) => ?_)
      ·
        refine own_st (T' := s₁) (F' := (mkF m 27 #[.val (.int x0)] [(.int x0)])) (fun _ k => XS.iloadN X0.here hx rfl (hb hby d1_26) rfl  k) ?_
        refine own_st (T' := s₁) (F' := (mkF m 28 #[.val (.int x0)] [(.int (3 : Int32)), (.int x0)])) (fun _ k => XS.iconst X0.here hx rfl (hb hby d1_27) k) ?_
        refine own_icmp X0 hx (pc' := 35) (pc2 := 31) (hb hby d1_28) (by decide) (by decide) rfl (fun (hc28 : ¬ (x0 = (3 : Int32))) => ?_) (fun (hc28 : x0 = (3 : Int32)) => ?_)
        ·
          refine own_st (T' := s₁) (F' := (mkF m 36 #[.val (.int x0)] [(.int x0)])) (fun _ k => XS.iloadN X0.here hx rfl (hb hby d1_35) rfl  k) ?_
          refine own_st (T' := s₁) (F' := (mkF m 37 #[.val (.int x0)] [(.int (4 : Int32)), (.int x0)])) (fun _ k => XS.iconst X0.here hx rfl (hb hby d1_36) k) ?_
          refine own_icmp X0 hx (pc' := 44) (pc2 := 40) (hb hby d1_37) (by decide) (by decide) rfl (fun (hc37 : ¬ (x0 = (4 : Int32))) => ?_) (fun (hc37 : x0 = (4 : Int32)) => ?_)
          ·
            refine own_st (T' := s₁) (F' := (mkF m 45 #[.val (.int x0)] [(.int x0)])) (fun _ k => XS.iloadN X0.here hx rfl (hb hby d1_44) rfl  k) ?_
            refine own_st (T' := s₁) (F' := (mkF m 46 #[.val (.int x0)] [(.int (5 : Int32)), (.int x0)])) (fun _ k => XS.iconst X0.here hx rfl (hb hby d1_45) k) ?_
            refine own_icmp X0 hx (pc' := 53) (pc2 := 49) (hb hby d1_46) (by decide) (by decide) rfl (fun (hc46 : ¬ (x0 = (5 : Int32))) => ?_) (fun (hc46 : x0 = (5 : Int32)) => ?_)
            ·
              refine own_st (T' := s₁) (F' := (mkF m 54 #[.val (.int x0)] [(.int x0)])) (fun _ k => XS.iloadN X0.here hx rfl (hb hby d1_53) rfl  k) ?_
              refine own_st (T' := s₁) (F' := (mkF m 56 #[.val (.int x0)] [(.int (6 : Int32)), (.int x0)])) (fun _ k => XS.bipush X0.here hx rfl (hb hby d1_54) k) ?_
              refine own_icmp X0 hx (pc' := 63) (pc2 := 59) (hb hby d1_56) (by decide) (by decide) rfl (fun (hc56 : ¬ (x0 = (6 : Int32))) => ?_) (fun (hc56 : x0 = (6 : Int32)) => ?_)
              ·
                refine own_st (T' := s₁) (F' := (mkF m 64 #[.val (.int x0)] [(.int x0)])) (fun _ k => XS.iloadN X0.here hx rfl (hb hby d1_63) rfl  k) ?_
                refine own_st (T' := s₁) (F' := (mkF m 66 #[.val (.int x0)] [(.int (7 : Int32)), (.int x0)])) (fun _ k => XS.bipush X0.here hx rfl (hb hby d1_64) k) ?_
                refine own_icmp X0 hx (pc' := 73) (pc2 := 69) (hb hby d1_66) (by decide) (by decide) rfl (fun (hc66 : ¬ (x0 = (7 : Int32))) => ?_) (fun (hc66 : x0 = (7 : Int32)) => ?_)
                ·
                  refine own_st (T' := s₁) (F' := (mkF m 74 #[.val (.int x0)] [(.int x0)])) (fun _ k => XS.iloadN X0.here hx rfl (hb hby d1_73) rfl  k) ?_
                  refine own_st (T' := s₁) (F' := (mkF m 76 #[.val (.int x0)] [(.int (8 : Int32)), (.int x0)])) (fun _ k => XS.bipush X0.here hx rfl (hb hby d1_74) k) ?_
                  refine own_icmp X0 hx (pc' := 83) (pc2 := 79) (hb hby d1_76) (by decide) (by decide) rfl (fun (hc76 : ¬ (x0 = (8 : Int32))) => ?_) (fun (hc76 : x0 = (8 : Int32)) => ?_)
                  ·
                    refine own_st (T' := s₁) (F' := (mkF m 84 #[.val (.int x0)] [(.int x0)])) (fun _ k => XS.iloadN X0.here hx rfl (hb hby d1_83) rfl  k) ?_
                    refine own_st (T' := s₁) (F' := (mkF m 86 #[.val (.int x0)] [(.int (9 : Int32)), (.int x0)])) (fun _ k => XS.bipush X0.here hx rfl (hb hby d1_84) k) ?_
                    refine own_icmp X0 hx (pc' := 93) (pc2 := 89) (hb hby d1_86) (by decide) (by decide) rfl (fun (hc86 : ¬ (x0 = (9 : Int32))) => ?_) (fun (hc86 : x0 = (9 : Int32)) => ?_)
                    ·
                      refine own_st (T' := s₁) (F' := (mkF m 94 #[.val (.int x0)] [(.int x0)])) (fun _ k => XS.iloadN X0.here hx rfl (hb hby d1_93) rfl  k) ?_
                      refine own_st (T' := s₁) (F' := (mkF m 96 #[.val (.int x0)] [(.int (10 : Int32)), (.int x0)])) (fun _ k => XS.bipush X0.here hx rfl (hb hby d1_94) k) ?_
                      refine own_icmp X0 hx (pc' := 103) (pc2 := 99) (hb hby d1_96) (by decide) (by decide) rfl (fun (hc96 : ¬ (x0 = (10 : Int32))) => ?_) (fun (hc96 : x0 = (10 : Int32)) => ?_)
                      ·
                        refine own_st (T' := s₁) (F' := (mkF m 104 #[.val (.int x0)] [(.int x0)])) (fun _ k => XS.iloadN X0.here hx rfl (hb hby d1_103) rfl  k) ?_
                        refine own_st (T' := s₁) (F' := (mkF m 106 #[.val (.int x0)] [(.int (11 : Int32)), (.int x0)])) (fun _ k => XS.bipush X0.here hx rfl (hb hby d1_104) k) ?_
                        refine own_icmp X0 hx (pc' := 113) (pc2 := 109) (hb hby d1_106) (by decide) (by decide) rfl (fun (hc106 : ¬ (x0 = (11 : Int32))) => ?_) (fun (hc106 : x0 = (11 : Int32)) => ?_)
                        ·
                          obtain ⟨T1, X1, e1, st1⟩ := getS2 X0 hx hZ hown (host := "") (Or.inl (hw _ (List.mem_of_getElem? (i := 68) rfl))) Via.refl e0 S_ka12 (g := (mkF m 113 #[.val (.int x0)] [])) rfl (hb hby d1_113)
                          refine own_st (T' := T1) (F' := (mkF m 116 #[.val (.int x0)] [(.ref ka12)])) (fun _ k => st1 _ k) ?_
                          refine own_retA X1 hx hlk (t := (.object "com/example/fieldloom/fieldloom/Kind")) Bd.returns rfl rfl rfl (hb hby d1_116) ?_ (by decide) (by decide)
                          rw [e1]
                          refine ⟨⟨_, rfl, ?_⟩, N0, rfl⟩
                          exact Or.inr (Or.inr (Or.inr (Or.inr (Or.inr (Or.inr (Or.inr (Or.inr (Or.inr (Or.inr (Or.inr (Or.inr (rfl))))))))))))
                        ·
                          obtain ⟨T2, X2, e2, st2⟩ := getS2 X0 hx hZ hown (host := "") (Or.inl (hw _ (List.mem_of_getElem? (i := 84) rfl))) Via.refl e0 S_ka11 (g := (mkF m 109 #[.val (.int x0)] [])) rfl (hb hby d1_109)
                          refine own_st (T' := T2) (F' := (mkF m 112 #[.val (.int x0)] [(.ref ka11)])) (fun _ k => st2 _ k) ?_
                          refine own_retA X2 hx hlk (t := (.object "com/example/fieldloom/fieldloom/Kind")) Bd.returns rfl rfl rfl (hb hby d1_112) ?_ (by decide) (by decide)
                          rw [e2]
                          refine ⟨⟨_, rfl, ?_⟩, N0, rfl⟩
                          exact Or.inr (Or.inr (Or.inr (Or.inr (Or.inr (Or.inr (Or.inr (Or.inr (Or.inr (Or.inr (Or.inr (Or.inl rfl)))))))))))
                      ·
                        obtain ⟨T3, X3, e3, st3⟩ := getS2 X0 hx hZ hown (host := "") (Or.inl (hw _ (List.mem_of_getElem? (i := 76) rfl))) Via.refl e0 S_ka10 (g := (mkF m 99 #[.val (.int x0)] [])) rfl (hb hby d1_99)
                        refine own_st (T' := T3) (F' := (mkF m 102 #[.val (.int x0)] [(.ref ka10)])) (fun _ k => st3 _ k) ?_
                        refine own_retA X3 hx hlk (t := (.object "com/example/fieldloom/fieldloom/Kind")) Bd.returns rfl rfl rfl (hb hby d1_102) ?_ (by decide) (by decide)
                        rw [e3]
                        refine ⟨⟨_, rfl, ?_⟩, N0, rfl⟩
                        exact Or.inr (Or.inr (Or.inr (Or.inr (Or.inr (Or.inr (Or.inr (Or.inr (Or.inr (Or.inr (Or.inl rfl))))))))))
                    ·
                      obtain ⟨T4, X4, e4, st4⟩ := getS2 X0 hx hZ hown (host := "") (Or.inl (hw _ (List.mem_of_getElem? (i := 158) rfl))) Via.refl e0 S_ka9 (g := (mkF m 89 #[.val (.int x0)] [])) rfl (hb hby d1_89)
                      refine own_st (T' := T4) (F' := (mkF m 92 #[.val (.int x0)] [(.ref ka9)])) (fun _ k => st4 _ k) ?_
                      refine own_retA X4 hx hlk (t := (.object "com/example/fieldloom/fieldloom/Kind")) Bd.returns rfl rfl rfl (hb hby d1_92) ?_ (by decide) (by decide)
                      rw [e4]
                      refine ⟨⟨_, rfl, ?_⟩, N0, rfl⟩
                      exact Or.inr (Or.inr (Or.inr (Or.inr (Or.inr (Or.inr (Or.inr (Or.inr (Or.inr (Or.inl rfl)))))))))
                  ·
                    obtain ⟨T5, X5, e5, st5⟩ := getS2 X0 hx hZ hown (host := "") (Or.inl (hw _ (List.mem_of_getElem? (i := 89) rfl))) Via.refl e0 S_ka8 (g := (mkF m 79 #[.val (.int x0)] [])) rfl (hb hby d1_79)
                    refine own_st (T' := T5) (F' := (mkF m 82 #[.val (.int x0)] [(.ref ka8)])) (fun _ k => st5 _ k) ?_
                    refine own_retA X5 hx hlk (t := (.object "com/example/fieldloom/fieldloom/Kind")) Bd.returns rfl rfl rfl (hb hby d1_82) ?_ (by decide) (by decide)
                    rw [e5]
                    refine ⟨⟨_, rfl, ?_⟩, N0, rfl⟩
                    exact Or.inr (Or.inr (Or.inr (Or.inr (Or.inr (Or.inr (Or.inr (Or.inr (Or.inl rfl))))))))
                ·
                  obtain ⟨T6, X6, e6, st6⟩ := getS2 X0 hx hZ hown (host := "") (Or.inl (hw _ (List.mem_of_getElem? (i := 174) rfl))) Via.refl e0 S_ka7 (g := (mkF m 69 #[.val (.int x0)] [])) rfl (hb hby d1_69)
                  refine own_st (T' := T6) (F' := (mkF m 72 #[.val (.int x0)] [(.ref ka7)])) (fun _ k => st6 _ k) ?_
                  refine own_retA X6 hx hlk (t := (.object "com/example/fieldloom/fieldloom/Kind")) Bd.returns rfl rfl rfl (hb hby d1_72) ?_ (by decide) (by decide)
                  rw [e6]
                  refine ⟨⟨_, rfl, ?_⟩, N0, rfl⟩
                  exact Or.inr (Or.inr (Or.inr (Or.inr (Or.inr (Or.inr (Or.inr (Or.inl rfl)))))))
              ·
                obtain ⟨T7, X7, e7, st7⟩ := getS2 X0 hx hZ hown (host := "") (Or.inl (hw _ (List.mem_of_getElem? (i := 93) rfl))) Via.refl e0 S_ka6 (g := (mkF m 59 #[.val (.int x0)] [])) rfl (hb hby d1_59)
                refine own_st (T' := T7) (F' := (mkF m 62 #[.val (.int x0)] [(.ref ka6)])) (fun _ k => st7 _ k) ?_
                refine own_retA X7 hx hlk (t := (.object "com/example/fieldloom/fieldloom/Kind")) Bd.returns rfl rfl rfl (hb hby d1_62) ?_ (by decide) (by decide)
                rw [e7]
                refine ⟨⟨_, rfl, ?_⟩, N0, rfl⟩
                exact Or.inr (Or.inr (Or.inr (Or.inr (Or.inr (Or.inr (Or.inl rfl))))))
            ·
              obtain ⟨T8, X8, e8, st8⟩ := getS2 X0 hx hZ hown (host := "") (Or.inl (hw _ (List.mem_of_getElem? (i := 178) rfl))) Via.refl e0 S_ka5 (g := (mkF m 49 #[.val (.int x0)] [])) rfl (hb hby d1_49)
              refine own_st (T' := T8) (F' := (mkF m 52 #[.val (.int x0)] [(.ref ka5)])) (fun _ k => st8 _ k) ?_
              refine own_retA X8 hx hlk (t := (.object "com/example/fieldloom/fieldloom/Kind")) Bd.returns rfl rfl rfl (hb hby d1_52) ?_ (by decide) (by decide)
              rw [e8]
              refine ⟨⟨_, rfl, ?_⟩, N0, rfl⟩
              exact Or.inr (Or.inr (Or.inr (Or.inr (Or.inr (Or.inl rfl)))))
          ·
            obtain ⟨T9, X9, e9, st9⟩ := getS2 X0 hx hZ hown (host := "") (Or.inl (hw _ (List.mem_of_getElem? (i := 80) rfl))) Via.refl e0 S_ka4 (g := (mkF m 40 #[.val (.int x0)] [])) rfl (hb hby d1_40)
            refine own_st (T' := T9) (F' := (mkF m 43 #[.val (.int x0)] [(.ref ka4)])) (fun _ k => st9 _ k) ?_
            refine own_retA X9 hx hlk (t := (.object "com/example/fieldloom/fieldloom/Kind")) Bd.returns rfl rfl rfl (hb hby d1_43) ?_ (by decide) (by decide)
            rw [e9]
            refine ⟨⟨_, rfl, ?_⟩, N0, rfl⟩
            exact Or.inr (Or.inr (Or.inr (Or.inr (Or.inl rfl))))
        ·
          obtain ⟨T10, X10, e10, st10⟩ := getS2 X0 hx hZ hown (host := "") (Or.inl (hw _ (List.mem_of_getElem? (i := 97) rfl))) Via.refl e0 S_ka3 (g := (mkF m 31 #[.val (.int x0)] [])) rfl (hb hby d1_31)
          refine own_st (T' := T10) (F' := (mkF m 34 #[.val (.int x0)] [(.ref ka3)])) (fun _ k => st10 _ k) ?_
          refine own_retA X10 hx hlk (t := (.object "com/example/fieldloom/fieldloom/Kind")) Bd.returns rfl rfl rfl (hb hby d1_34) ?_ (by decide) (by decide)
          rw [e10]
          refine ⟨⟨_, rfl, ?_⟩, N0, rfl⟩
          exact Or.inr (Or.inr (Or.inr (Or.inl rfl)))
      ·
        obtain ⟨T11, X11, e11, st11⟩ := getS2 X0 hx hZ hown (host := "") (Or.inl (hw _ (List.mem_of_getElem? (i := 162) rfl))) Via.refl e0 S_ka2 (g := (mkF m 22 #[.val (.int x0)] [])) rfl (hb hby d1_22)
        refine own_st (T' := T11) (F' := (mkF m 25 #[.val (.int x0)] [(.ref ka2)])) (fun _ k => st11 _ k) ?_
        refine own_retA X11 hx hlk (t := (.object "com/example/fieldloom/fieldloom/Kind")) Bd.returns rfl rfl rfl (hb hby d1_25) ?_ (by decide) (by decide)
        rw [e11]
        refine ⟨⟨_, rfl, ?_⟩, N0, rfl⟩
        exact Or.inr (Or.inr (Or.inl rfl))
    ·
      obtain ⟨T12, X12, e12, st12⟩ := getS2 X0 hx hZ hown (host := "") (Or.inl (hw _ (List.mem_of_getElem? (i := 72) rfl))) Via.refl e0 S_ka1 (g := (mkF m 13 #[.val (.int x0)] [])) rfl (hb hby d1_13)
      refine own_st (T' := T12) (F' := (mkF m 16 #[.val (.int x0)] [(.ref ka1)])) (fun _ k => st12 _ k) ?_
      refine own_retA X12 hx hlk (t := (.object "com/example/fieldloom/fieldloom/Kind")) Bd.returns rfl rfl rfl (hb hby d1_16) ?_ (by decide) (by decide)
      rw [e12]
      refine ⟨⟨_, rfl, ?_⟩, N0, rfl⟩
      exact Or.inr (Or.inl rfl)
  ·
    obtain ⟨T13, X13, e13, st13⟩ := getS2 X0 hx hZ hown (host := "") (Or.inl (hw _ (List.mem_of_getElem? (i := 5) rfl))) Via.refl e0 S_ka0 (g := (mkF m 4 #[.val (.int x0)] [])) rfl (hb hby d1_4)
    refine own_st (T' := T13) (F' := (mkF m 7 #[.val (.int x0)] [(.ref ka0)])) (fun _ k => st13 _ k) ?_
    refine own_retA X13 hx hlk (t := (.object "com/example/fieldloom/fieldloom/Kind")) Bd.returns rfl rfl rfl (hb hby d1_7) ?_ (by decide) (by decide)
    rw [e13]
    refine ⟨⟨_, rfl, ?_⟩, N0, rfl⟩
    exact Or.inl rfl
theorem d9_0 : decode prog_37_method_4_code 0 = .ok (.aload_n 0, 1) := by decide +kernel
theorem d9_1 : decode prog_37_method_4_code 1 = .ok (.getstatic 10, 3) := by decide +kernel
theorem d9_4 : decode prog_37_method_4_code 4 = .ok (.if_acmp .eq 10, 3) := by decide +kernel
theorem d9_7 : decode prog_37_method_4_code 7 = .ok (.aload_n 0, 1) := by decide +kernel
theorem d9_8 : decode prog_37_method_4_code 8 = .ok (.getstatic 13, 3) := by decide +kernel
theorem d9_11 : decode prog_37_method_4_code 11 = .ok (.if_acmp .ne 7, 3) := by decide +kernel
theorem d9_14 : decode prog_37_method_4_code 14 = .ok (.iconst 1, 1) := by decide +kernel
theorem d9_15 : decode prog_37_method_4_code 15 = .ok (.goto 4, 3) := by decide +kernel
theorem d9_18 : decode prog_37_method_4_code 18 = .ok (.iconst 0, 1) := by decide +kernel
theorem d9_19 : decode prog_37_method_4_code 19 = .ok (.ireturn, 1) := by decide +kernel
theorem own_pn9 : plainName "com/example/fieldloom/fieldloom/Kind" = true := by first | (simp [plainName, overriddenIn]; done) | decide +kernel
theorem own_ef9 (m : MethodId) (o : Addr) : entryFrame m #[(.ref o)] 1 = (mkF m 0 #[.val (.ref o)] []) := by first | (simp [entryFrame, mkF, argsToLocals, Value.category]; done) | rfl
def Q9 (Z : State) (o : Addr) (ka2 : Addr) (ka3 : Addr) (h0 : Heap) (n0 : Nat) (v : Option Value) (h : Heap) (L : List Loc) : Prop := (∃ z : Int32, v = some (.int z) ∧ (((o = ka2 ∨ o = ka3) → z = 1) ∧ (¬ o = ka2 → ¬ o = ka3 → z = 0))) ∧ Fr n0 L ∧ h = h0
set_option maxRecDepth 65536 in
set_option maxHeartbeats 40000000 in
theorem rm9 (l : Launch) (Z : State) (a0 : Array Value) (hw : ∀ d ∈ tables_1, d.before a0 Z = true) (ws : List Jvm.Cond) (o : Addr) (ka2 : Addr) (ka3 : Addr) (h0 : Heap) (n0 : Nat) (Z0 : n0 ≤ h0.size) (S_ka2 : Sta Z h0 "com/example/fieldloom/fieldloom/Kind" "BOOLEAN" "Lcom/example/fieldloom/fieldloom/Kind;" (.ref ka2)) (S_ka3 : Sta Z h0 "com/example/fieldloom/fieldloom/Kind" "RESTRICTION_FLAG" "Lcom/example/fieldloom/fieldloom/Kind;" (.ref ka3)) :
    MetFree l (⟨"com/example/fieldloom/fieldloom/Kind", "isFlag", "()Z"⟩ : MethodName) (head1 (Jvm.Cond.code (⟨"com/example/fieldloom/fieldloom/Kind", "isFlag", "()Z"⟩ : MethodName) prog_37_method_4_code 1 (some .boolean) :: ws) ({ frames := 0, cells := 0, slots := 0, locals := 0 } : Room)) (fun a U => a = #[(.ref o)] ∧ Z.Warmed39 U.vm ∧ U.heap = h0) (fun _ _ _ _ _ => True) (fun _ U oc U' => ∃ v L, oc = .returned v ∧ Q9 Z o ka2 ka3 h0 n0 v U'.heap L ∧ FrameEnd U oc U' L ({ frames := 0, cells := 0, slots := 0, locals := 0 } : Room).cells ({ frames := 0, cells := 0, slots := 0, locals := 0 } : Room).slots) := by
  refine MetFree.of_bodySF (plainFor_of_name own_pn9) hisR ?_
  intro p e s m args below meth c s₁ Bd hml0 hP hK
  obtain ⟨rfl, hZ, hh⟩ := hP
  have hx := Bd.exec
  have hby := Bd.bytes
  have hlk : meth.locks = false := BodyLoose.notSynchronized Bd
  have hml : c.maxLocals = 1 := hml0
  have hown : s.vm.findClass "com/example/fieldloom/fieldloom/Kind" = some m.cls := findClass_of_methodNamed Bd.named
  have hnm := (name_of_methodNamed Bd.named Bd.method).1
  have X0 : Stand p l e ({ frames := 0, cells := 0, slots := 0, locals := 0 } : Room) s m #[(.ref o)] below meth c s₁ [] 0 0 := Stand.of_body Bd
  have e0 : s₁.heap = h0 := by rw [← hh, Bd.state]; rfl
  have N0 := Fr.nil n0
  refine own_enter (own_ef9 m o) ?_
  show own_Go p e below (own_E s (Q9 Z o ka2 ka3 h0 n0) ({ frames := 0, cells := 0, slots := 0, locals := 0 } : Room).cells ({ frames := 0, cells := 0, slots := 0, locals := 0 } : Room).slots) s₁ (mkF m 0 #[.val (.ref o)] [])
  refine own_st (T' := s₁) (F' := (mkF m 1 #[.val (.ref o)] [(.ref o)])) (fun _ k => XS.aloadN X0.here hx rfl (hb hby d9_0) rfl rfl k) ?_
  obtain ⟨T1, X1, e1, st1⟩ := getS2 X0 hx hZ hown (host := "") (Or.inl (hw _ (List.mem_of_getElem? (i := 47) rfl))) Via.refl e0 S_ka2 (g := (mkF m 1 #[.val (.ref o)] [(.ref o)])) rfl (hb hby d9_1)
  refine own_st (T' := T1) (F' := (mkF m 4 #[.val (.ref o)] [(.ref ka2), (.ref o)])) (fun _ k => st1 _ k) ?_
  refine own_acmp X1 hx (pc' := 14) (pc2 := 7) (hb hby d9_4) (by decide) (by decide) rfl (fun (hc4 : o = ka2) => ?_) (fun (hc4 : ¬ (o = ka2)) => ?_)
  ·
    refine own_st (T' := T1) (F' := (mkF m 15 #[.val (.ref o)] [(.int (1 : Int32))])) (fun _ k => XS.iconst X1.here hx rfl (hb hby d9_14) k) ?_
    refine own_st (T' := T1) (F' := (mkF m 19 #[.val (.ref o)] [(.int (1 : Int32))])) (fun _ k => XS.goto X1.here hx rfl (pc0 := 15) (pc' := 19) rfl (hb hby d9_15) (by decide) (by decide) k) ?_
    refine own_retN X1 hx hlk (t := .boolean) Bd.returns (by simp) (hb hby d9_19) ?_ (by decide) (by decide)
    rw [e1]
    refine ⟨⟨_, rfl, ?_⟩, N0, rfl⟩
    exact ⟨fun _ => rfl, fun q1 q2 => absurd hc4 q1⟩
  ·
    refine own_st (T' := T1) (F' := (mkF m 8 #[.val (.ref o)] [(.ref o)])) (fun _ k => XS.aloadN X1.here hx rfl (hb hby d9_7) rfl rfl k) ?_
    obtain ⟨T2, X2, e2, st2⟩ := getS2 X1 hx hZ hown (host := "") (Or.inl (hw _ (List.mem_of_getElem? (i := 49) rfl))) Via.refl e1 S_ka3 (g := (mkF m 8 #[.val (.ref o)] [(.ref o)])) rfl (hb hby d9_8)
    refine own_st (T' := T2) (F' := (mkF m 11 #[.val (.ref o)] [(.ref ka3), (.ref o)])) (fun _ k => st2 _ k) ?_
    refine own_acmp X2 hx (pc' := 18) (pc2 := 14) (hb hby d9_11) (by decide) (by decide) rfl (fun (hc11 : o = ka3) => ?_) (fun (hc11 : ¬ (o = ka3)) => ?_)
    ·
      refine own_st (T' := T2) (F' := (mkF m 15 #[.val (.ref o)] [(.int (1 : Int32))])) (fun _ k => XS.iconst X2.here hx rfl (hb hby d9_14) k) ?_
      refine own_st (T' := T2) (F' := (mkF m 19 #[.val (.ref o)] [(.int (1 : Int32))])) (fun _ k => XS.goto X2.here hx rfl (pc0 := 15) (pc' := 19) rfl (hb hby d9_15) (by decide) (by decide) k) ?_
      refine own_retN X2 hx hlk (t := .boolean) Bd.returns (by simp) (hb hby d9_19) ?_ (by decide) (by decide)
      rw [e2]
      refine ⟨⟨_, rfl, ?_⟩, N0, rfl⟩
      exact ⟨fun _ => rfl, fun q1 q2 => absurd hc11 q2⟩
    ·
      refine own_st (T' := T2) (F' := (mkF m 19 #[.val (.ref o)] [(.int (0 : Int32))])) (fun _ k => XS.iconst X2.here hx rfl (hb hby d9_18) k) ?_
      refine own_retN X2 hx hlk (t := .boolean) Bd.returns (by simp) (hb hby d9_19) ?_ (by decide) (by decide)
      rw [e2]
      refine ⟨⟨_, rfl, ?_⟩, N0, rfl⟩
      exact ⟨fun q => q.elim (fun q => absurd q hc4) (fun q => absurd q hc11), fun _ _ => rfl⟩
theorem own_pd13 : parseMethodDescriptor "(I)Lcom/example/fieldloom/fieldloom/Kind;" = some ⟨[.int], some (.object "com/example/fieldloom/fieldloom/Kind")⟩ := by decide +kernel
theorem own_pd14 : parseMethodDescriptor "(IJ)Ljava/lang/String;" = some ⟨[.int, .long], some (.object "java/lang/String")⟩ := by decide +kernel
theorem own_pd15 : parseMethodDescriptor "(Ljava/lang/CharSequence;)Lcom/example/fieldloom/fieldloom/Flag;" = some ⟨[(.object "java/lang/CharSequence")], some (.object "com/example/fieldloom/fieldloom/Flag")⟩ := by decide +kernel
theorem own_pn0 : plainName "com/example/fieldloom/fieldloom/KindIsFlagPinLaw" = true := by first | (simp [plainName, overriddenIn]; done) | decide +kernel
theorem own_ef0 (m : MethodId) (x0 : Int32) (x1 : Int32) (x2 : Int64) : entryFrame m #[(.int x0), (.int x1), (.long x2)] maxLocals = (mkF m 0 #[.val (.int x0), .val (.int x1), .val (.long x2), .second, .unset, .unset, .unset, .unset, .unset, .unset] []) := by first | (simp [entryFrame, mkF, argsToLocals, Value.category, maxLocals]; done) | rfl
def Q0 (Z : State) (x0 : Int32) (x1 : Int32) (x2 : Int64) (cs : Int32) (fv : Value) (fU : Addr) (fS : Addr) (fL : Addr) (ka0 : Addr) (ka1 : Addr) (ka2 : Addr) (ka3 : Addr) (ka4 : Addr) (ka5 : Addr) (ka6 : Addr) (ka7 : Addr) (ka8 : Addr) (ka9 : Addr) (ka10 : Addr) (ka11 : Addr) (ka12 : Addr) (h0 : Heap) (n0 : Nat) (v : Option Value) (h : Heap) (L : List Loc) : Prop := (∃ z : Int32, v = some (.int z) ∧ (z = 1)) ∧ Fr n0 L
set_option maxRecDepth 65536 in
set_option maxHeartbeats 40000000 in
theorem rm0 (l : Launch) (Z : State) (a0 : Array Value) (hw : ∀ d ∈ tables_1, d.before a0 Z = true) (ws : List Jvm.Cond) (x0 : Int32) (x1 : Int32) (x2 : Int64) (cs : Int32) (fv : Value) (fU : Addr) (fS : Addr) (fL : Addr) (ka0 : Addr) (ka1 : Addr) (ka2 : Addr) (ka3 : Addr) (ka4 : Addr) (ka5 : Addr) (ka6 : Addr) (ka7 : Addr) (ka8 : Addr) (ka9 : Addr) (ka10 : Addr) (ka11 : Addr) (ka12 : Addr) (h0 : Heap) (n0 : Nat) (Z0 : n0 ≤ h0.size) (S_cs : Sta Z h0 "java/lang/String" "COMPACT_STRINGS" "Z" (.int cs)) (hcs : ¬ (cs = 0)) (S_f : Sta Z h0 "jdk/internal/util/Preconditions" "SIOOBE_FORMATTER" "Ljava/util/function/BiFunction;" fv) (hfv : fv.isRef = true) (S_fU : Sta Z h0 "com/example/fieldloom/fieldloom/Flag" "UNKNOWN" "Lcom/example/fieldloom/fieldloom/Flag;" (.ref fU)) (S_fS : Sta Z h0 "com/example/fieldloom/fieldloom/Flag" "SET" "Lcom/example/fieldloom/fieldloom/Flag;" (.ref fS)) (S_fL : Sta Z h0 "com/example/fieldloom/fieldloom/Flag" "CLEAR" "Lcom/example/fieldloom/fieldloom/Flag;" (.ref fL)) (S_ka0 : Sta Z h0 "com/example/fieldloom/fieldloom/Kind" "TEXT" "Lcom/example/fieldloom/fieldloom/Kind;" (.ref ka0)) (S_ka1 : Sta Z h0 "com/example/fieldloom/fieldloom/Kind" "UNIQUE_TEXT" "Lcom/example/fieldloom/fieldloom/Kind;" (.ref ka1)) (S_ka2 : Sta Z h0 "com/example/fieldloom/fieldloom/Kind" "BOOLEAN" "Lcom/example/fieldloom/fieldloom/Kind;" (.ref ka2)) (S_ka3 : Sta Z h0 "com/example/fieldloom/fieldloom/Kind" "RESTRICTION_FLAG" "Lcom/example/fieldloom/fieldloom/Kind;" (.ref ka3)) (S_ka4 : Sta Z h0 "com/example/fieldloom/fieldloom/Kind" "PERSON_CODE" "Lcom/example/fieldloom/fieldloom/Kind;" (.ref ka4)) (S_ka5 : Sta Z h0 "com/example/fieldloom/fieldloom/Kind" "SESSION" "Lcom/example/fieldloom/fieldloom/Kind;" (.ref ka5)) (S_ka6 : Sta Z h0 "com/example/fieldloom/fieldloom/Kind" "EMAIL" "Lcom/example/fieldloom/fieldloom/Kind;" (.ref ka6)) (S_ka7 : Sta Z h0 "com/example/fieldloom/fieldloom/Kind" "DATE" "Lcom/example/fieldloom/fieldloom/Kind;" (.ref ka7)) (S_ka8 : Sta Z h0 "com/example/fieldloom/fieldloom/Kind" "DATE_OR_NA" "Lcom/example/fieldloom/fieldloom/Kind;" (.ref ka8)) (S_ka9 : Sta Z h0 "com/example/fieldloom/fieldloom/Kind" "DATE_PHRASE" "Lcom/example/fieldloom/fieldloom/Kind;" (.ref ka9)) (S_ka10 : Sta Z h0 "com/example/fieldloom/fieldloom/Kind" "CLOSED_LIST" "Lcom/example/fieldloom/fieldloom/Kind;" (.ref ka10)) (S_ka11 : Sta Z h0 "com/example/fieldloom/fieldloom/Kind" "OPEN_LIST" "Lcom/example/fieldloom/fieldloom/Kind;" (.ref ka11)) (S_ka12 : Sta Z h0 "com/example/fieldloom/fieldloom/Kind" "PERSON_REFERENCE" "Lcom/example/fieldloom/fieldloom/Kind;" (.ref ka12)) (E_ka0 : Exa Z h0 ka0 "com/example/fieldloom/fieldloom/Kind$1") (E_ka1 : Exa Z h0 ka1 "com/example/fieldloom/fieldloom/Kind$2") (E_ka2 : Exa Z h0 ka2 "com/example/fieldloom/fieldloom/Kind$3") (E_ka3 : Exa Z h0 ka3 "com/example/fieldloom/fieldloom/Kind$4") (E_ka4 : Exa Z h0 ka4 "com/example/fieldloom/fieldloom/Kind$5") (E_ka5 : Exa Z h0 ka5 "com/example/fieldloom/fieldloom/Kind$6") (E_ka6 : Exa Z h0 ka6 "com/example/fieldloom/fieldloom/Kind$7") (E_ka7 : Exa Z h0 ka7 "com/example/fieldloom/fieldloom/Kind$8") (E_ka8 : Exa Z h0 ka8 "com/example/fieldloom/fieldloom/Kind$9") (E_ka9 : Exa Z h0 ka9 "com/example/fieldloom/fieldloom/Kind$10") (E_ka10 : Exa Z h0 ka10 "com/example/fieldloom/fieldloom/Kind$11") (E_ka11 : Exa Z h0 ka11 "com/example/fieldloom/fieldloom/Kind$12") (E_ka12 : Exa Z h0 ka12 "com/example/fieldloom/fieldloom/Kind$13") (hUS : ¬ fU = fS) (hUL : ¬ fU = fL) :
    MetFree l x (head1 (Jvm.Cond.code x code maxLocals ret :: ws) room_1) (fun a U => a = #[(.int x0), (.int x1), (.long x2)] ∧ Z.Warmed39 U.vm ∧ U.heap = h0 ∧ CHv Z own_EL U.vm h0) (fun _ _ _ _ _ => True) (fun _ U oc U' => ∃ v L, oc = .returned v ∧ Q0 Z x0 x1 x2 cs fv fU fS fL ka0 ka1 ka2 ka3 ka4 ka5 ka6 ka7 ka8 ka9 ka10 ka11 ka12 h0 n0 v U'.heap L ∧ CHr Z own_EL U.vm U.heap U'.vm U'.heap ∧ ReturnedEndW U oc U' L room_1.cells room_1.slots) := by
  refine MetFree.of_bodySF (plainFor_of_name own_pn0) hisR ?_
  intro p e s m args below meth c s₁ Bd hml0 hP hK
  obtain ⟨rfl, hZ, hh, hCH0⟩ := hP
  have hx := Bd.exec
  have hby := Bd.bytes
  have hlk : meth.locks = false := BodyLoose.notSynchronized Bd
  have hml : c.maxLocals = 10 := hml0
  have hown : s.vm.findClass "com/example/fieldloom/fieldloom/KindIsFlagPinLaw" = some m.cls := findClass_of_methodNamed Bd.named
  have hnm := (name_of_methodNamed Bd.named Bd.method).1
  have X0 : Stand p l e room_1 (s.setVm s.vm) m #[(.int x0), (.int x1), (.long x2)] below meth c s₁ [] 0 0 := Stand.of_body Bd
  have e0 : s₁.heap = h0 := by rw [← hh, Bd.state]; rfl
  have N0 := Fr.nil n0
  have hS0 : s.Since s.vm 0 := (State.WarmedH.refl s).since 0
  have hk0 : 0 ≤ h0.size := Nat.zero_le _
  have C0 : CHr Z own_EL s.vm s.heap s.vm h0 := by rw [hh]; exact CHr.refl hCH0
  have hEL : EW Z a0 own_EL := own_hEL hw
  have wS := own_wS hw
  refine own_enter (own_ef0 m x0 x1 x2) ?_
  show own_Go p e below (own_ES s Z own_EL (Q0 Z x0 x1 x2 cs fv fU fS fL ka0 ka1 ka2 ka3 ka4 ka5 ka6 ka7 ka8 ka9 ka10 ka11 ka12 h0 n0) room_1.cells room_1.slots) s₁ (mkF m 0 #[.val (.int x0), .val (.int x1), .val (.long x2), .second, .unset, .unset, .unset, .unset, .unset, .unset] [])
  refine own_st (T' := s₁) (F' := (mkF m 1 #[.val (.int x0), .val (.int x1), .val (.long x2), .second, .unset, .unset, .unset, .unset, .unset, .unset] [(.int x0)])) (fun _ k => XS.iloadN X0.here hx rfl (hb hby at_0) rfl  k) ?_
  refine own_st (T' := s₁) (F' := (mkF m 3 #[.val (.int x0), .val (.int x1), .val (.long x2), .second, .unset, .unset, .unset, .unset, .unset, .unset] [(.int (2147483647 : Int32)), (.int x0)])) (fun _ k => X0.ldcInt hx hown (mvT hZ (hw _ (List.mem_of_getElem? (i := 0) rfl))) (g := (mkF m 1 #[.val (.int x0), .val (.int x1), .val (.long x2), .second, .unset, .unset, .unset, .unset, .unset, .unset] [(.int x0)])) rfl (hb hby at_1) _ k) ?_
  refine own_st (T' := s₁) (F' := (mkF m 4 #[.val (.int x0), .val (.int x1), .val (.long x2), .second, .unset, .unset, .unset, .unset, .unset, .unset] [(.int (x0 &&& (2147483647 : Int32)))])) (fun _ k => XS.iand X0.here hx rfl (hb hby at_3) rfl k) ?_
  refine own_st (T' := s₁) (F' := (mkF m 6 #[.val (.int x0), .val (.int x1), .val (.long x2), .second, .unset, .unset, .unset, .unset, .unset, .unset] [(.int (13 : Int32)), (.int (x0 &&& (2147483647 : Int32)))])) (fun _ k => XS.bipush X0.here hx rfl (hb hby at_4) k) ?_
  refine own_st (T' := s₁) (F' := (mkF m 7 #[.val (.int x0), .val (.int x1), .val (.long x2), .second, .unset, .unset, .unset, .unset, .unset, .unset] [(.int ((x0 &&& (2147483647 : Int32)) % (13 : Int32)))])) (fun _ k => iremM X0 hx rfl (hb hby at_6) rfl (by decide) k) ?_
  obtain ⟨_, _, ⟨T1, L1, k1, n1⟩, -, X1, ⟨Lc1, hQ1, l1, y1, z1⟩, st1⟩ := Jvm.LawKit.callS X0 hx (y := (⟨"com/example/fieldloom/fieldloom/KindIsFlagPinLaw", "pick", "(I)Lcom/example/fieldloom/fieldloom/Kind;"⟩ : MethodName)) hown (mvT hZ (hw _ (List.mem_of_getElem? (i := 1) rfl))) (mvT hZ (hw _ (List.mem_of_getElem? (i := 2) rfl))) (mvT hZ (hw _ (List.mem_of_getElem? (i := 3) rfl))) (mvT hZ (hw _ (List.mem_of_getElem? (i := 4) rfl))) (by decide) (backOf (W := 0) (rm1 l Z a0 hw [] ((x0 &&& (2147483647 : Int32)) % (13 : Int32)) ka0 ka1 ka2 ka3 ka4 ka5 ka6 ka7 ka8 ka9 ka10 ka11 ka12 h0 n0 Z0 S_ka0 S_ka1 S_ka2 S_ka3 S_ka4 S_ka5 S_ka6 S_ka7 S_ka8 S_ka9 S_ka10 S_ka11 S_ka12) hZ (hw _ (List.mem_of_getElem? (i := 4) rfl)) (hw _ (List.mem_of_getElem? (i := 3) rfl)) (by decide) (by decide)) (g := (mkF m 7 #[.val (.int x0), .val (.int x1), .val (.long x2), .second, .unset, .unset, .unset, .unset, .unset, .unset] [(.int ((x0 &&& (2147483647 : Int32)) % (13 : Int32)))])) rfl (by rw [hml]; rfl) (argsL := [(.int ((x0 &&& (2147483647 : Int32)) % (13 : Int32)))]) (rest := []) (lenOf own_pd13 rfl) rfl (by show 2 * 0 + _ ≤ _; exact Nat.le_of_eq rfl) (hb hby at_7) (fun _ _ => ⟨rfl, e0, (by decide : 0 + 0 ≤ _), (by decide : 0 + 0 ≤ _)⟩)
  dsimp only [Pt.U, Pt.locs, Pt.cells, Pt.slots] at X1 l1 y1 z1 st1 hQ1
  subst l1 y1 z1
  obtain ⟨⟨r1, rfl, hr1⟩, Nq1, eq1⟩ := hQ1
  have N1 := Fr.app N0 Nq1
  refine own_st (T' := T1) (F' := (mkF m 10 #[.val (.int x0), .val (.int x1), .val (.long x2), .second, .unset, .unset, .unset, .unset, .unset, .unset] [(.ref r1)])) (fun _ k => st1 _ k) ?_
  have hk3 : (r1 = ka2) ∨ (r1 = ka3) ∨ ∃ CC : String, Exa Z h0 r1 CC ∧ ¬ r1 = ka2 ∧ ¬ r1 = ka3 ∧ (Cond.selects CC (⟨"com/example/fieldloom/fieldloom/Kind", "isFlag", "()Z"⟩ : MethodName) (⟨"com/example/fieldloom/fieldloom/Kind", "isFlag", "()Z"⟩ : MethodName)).before a0 Z = true ∧ (Cond.selects CC (⟨"com/example/fieldloom/fieldloom/Kind", "flag", "(Ljava/lang/CharSequence;)Lcom/example/fieldloom/fieldloom/Flag;"⟩ : MethodName) (⟨"com/example/fieldloom/fieldloom/Kind", "flag", "(Ljava/lang/CharSequence;)Lcom/example/fieldloom/fieldloom/Flag;"⟩ : MethodName)).before a0 Z = true := by
    rcases hr1 with h | h | h | h | h | h | h | h | h | h | h | h | h
    · exact Or.inr (Or.inr ⟨"com/example/fieldloom/fieldloom/Kind$1", by rw [h]; exact E_ka0, by rw [h]; exact ne_exa E_ka0 E_ka2 (by decide), by rw [h]; exact ne_exa E_ka0 E_ka3 (by decide), (hw _ (List.mem_of_getElem? (i := 45) rfl)), (hw _ (List.mem_of_getElem? (i := 57) rfl))⟩)
    · exact Or.inr (Or.inr ⟨"com/example/fieldloom/fieldloom/Kind$2", by rw [h]; exact E_ka1, by rw [h]; exact ne_exa E_ka1 E_ka2 (by decide), by rw [h]; exact ne_exa E_ka1 E_ka3 (by decide), (hw _ (List.mem_of_getElem? (i := 74) rfl)), (hw _ (List.mem_of_getElem? (i := 75) rfl))⟩)
    · exact Or.inl h
    · exact Or.inr (Or.inl h)
    · exact Or.inr (Or.inr ⟨"com/example/fieldloom/fieldloom/Kind$5", by rw [h]; exact E_ka4, by rw [h]; exact ne_exa E_ka4 E_ka2 (by decide), by rw [h]; exact ne_exa E_ka4 E_ka3 (by decide), (hw _ (List.mem_of_getElem? (i := 82) rfl)), (hw _ (List.mem_of_getElem? (i := 83) rfl))⟩)
    · exact Or.inr (Or.inr ⟨"com/example/fieldloom/fieldloom/Kind$6", by rw [h]; exact E_ka5, by rw [h]; exact ne_exa E_ka5 E_ka2 (by decide), by rw [h]; exact ne_exa E_ka5 E_ka3 (by decide), (hw _ (List.mem_of_getElem? (i := 180) rfl)), (hw _ (List.mem_of_getElem? (i := 181) rfl))⟩)
    · exact Or.inr (Or.inr ⟨"com/example/fieldloom/fieldloom/Kind$7", by rw [h]; exact E_ka6, by rw [h]; exact ne_exa E_ka6 E_ka2 (by decide), by rw [h]; exact ne_exa E_ka6 E_ka3 (by decide), (hw _ (List.mem_of_getElem? (i := 95) rfl)), (hw _ (List.mem_of_getElem? (i := 96) rfl))⟩)
    · exact Or.inr (Or.inr ⟨"com/example/fieldloom/fieldloom/Kind$8", by rw [h]; exact E_ka7, by rw [h]; exact ne_exa E_ka7 E_ka2 (by decide), by rw [h]; exact ne_exa E_ka7 E_ka3 (by decide), (hw _ (List.mem_of_getElem? (i := 176) rfl)), (hw _ (List.mem_of_getElem? (i := 177) rfl))⟩)
    · exact Or.inr (Or.inr ⟨"com/example/fieldloom/fieldloom/Kind$9", by rw [h]; exact E_ka8, by rw [h]; exact ne_exa E_ka8 E_ka2 (by decide), by rw [h]; exact ne_exa E_ka8 E_ka3 (by decide), (hw _ (List.mem_of_getElem? (i := 91) rfl)), (hw _ (List.mem_of_getElem? (i := 92) rfl))⟩)
    · exact Or.inr (Or.inr ⟨"com/example/fieldloom/fieldloom/Kind$10", by rw [h]; exact E_ka9, by rw [h]; exact ne_exa E_ka9 E_ka2 (by decide), by rw [h]; exact ne_exa E_ka9 E_ka3 (by decide), (hw _ (List.mem_of_getElem? (i := 160) rfl)), (hw _ (List.mem_of_getElem? (i := 161) rfl))⟩)
    · exact Or.inr (Or.inr ⟨"com/example/fieldloom/fieldloom/Kind$11", by rw [h]; exact E_ka10, by rw [h]; exact ne_exa E_ka10 E_ka2 (by decide), by rw [h]; exact ne_exa E_ka10 E_ka3 (by decide), (hw _ (List.mem_of_getElem? (i := 78) rfl)), (hw _ (List.mem_of_getElem? (i := 79) rfl))⟩)
    · exact Or.inr (Or.inr ⟨"com/example/fieldloom/fieldloom/Kind$12", by rw [h]; exact E_ka11, by rw [h]; exact ne_exa E_ka11 E_ka2 (by decide), by rw [h]; exact ne_exa E_ka11 E_ka3 (by decide), (hw _ (List.mem_of_getElem? (i := 86) rfl)), (hw _ (List.mem_of_getElem? (i := 87) rfl))⟩)
    · exact Or.inr (Or.inr ⟨"com/example/fieldloom/fieldloom/Kind$13", by rw [h]; exact E_ka12, by rw [h]; exact ne_exa E_ka12 E_ka2 (by decide), by rw [h]; exact ne_exa E_ka12 E_ka3 (by decide), (hw _ (List.mem_of_getElem? (i := 70) rfl)), (hw _ (List.mem_of_getElem? (i := 71) rfl))⟩)
  rcases hk3 with hk | hk | ⟨CC, eCC, nB, nR, s1, s2⟩
  ·
    have eK : Exa Z h0 r1 "com/example/fieldloom/fieldloom/Kind$3" := by rw [hk]; exact E_ka2
    refine own_st (T' := T1) (F' := (mkF m 12 #[.val (.int x0), .val (.int x1), .val (.long x2), .second, .val (.ref r1), .unset, .unset, .unset, .unset, .unset] [])) (fun _ k => XS.astore X1.here hx rfl (hb hby at_10) rfl rfl (l' := #[.val (.int x0), .val (.int x1), .val (.long x2), .second, .val (.ref r1), .unset, .unset, .unset, .unset, .unset]) rfl k) ?_
    refine own_st (T' := T1) (F' := (mkF m 13 #[.val (.int x0), .val (.int x1), .val (.long x2), .second, .val (.ref r1), .unset, .unset, .unset, .unset, .unset] [(.int x1)])) (fun _ k => XS.iloadN X1.here hx rfl (hb hby at_12) rfl  k) ?_
    refine own_st (T' := T1) (F' := (mkF m 15 #[.val (.int x0), .val (.int x1), .val (.long x2), .second, .val (.ref r1), .unset, .unset, .unset, .unset, .unset] [(.int (2147483647 : Int32)), (.int x1)])) (fun _ k => X1.ldcInt hx hown (mvT hZ (hw _ (List.mem_of_getElem? (i := 0) rfl))) (g := (mkF m 13 #[.val (.int x0), .val (.int x1), .val (.long x2), .second, .val (.ref r1), .unset, .unset, .unset, .unset, .unset] [(.int x1)])) rfl (hb hby at_13) _ k) ?_
    refine own_st (T' := T1) (F' := (mkF m 16 #[.val (.int x0), .val (.int x1), .val (.long x2), .second, .val (.ref r1), .unset, .unset, .unset, .unset, .unset] [(.int (x1 &&& (2147483647 : Int32)))])) (fun _ k => XS.iand X1.here hx rfl (hb hby at_15) rfl k) ?_
    refine own_st (T' := T1) (F' := (mkF m 17 #[.val (.int x0), .val (.int x1), .val (.long x2), .second, .val (.ref r1), .unset, .unset, .unset, .unset, .unset] [(.int (5 : Int32)), (.int (x1 &&& (2147483647 : Int32)))])) (fun _ k => XS.iconst X1.here hx rfl (hb hby at_16) k) ?_
    refine own_st (T' := T1) (F' := (mkF m 18 #[.val (.int x0), .val (.int x1), .val (.long x2), .second, .val (.ref r1), .unset, .unset, .unset, .unset, .unset] [(.int ((x1 &&& (2147483647 : Int32)) % (5 : Int32)))])) (fun _ k => iremM X1 hx rfl (hb hby at_17) rfl (by decide) k) ?_
    refine own_st (T' := T1) (F' := (mkF m 19 #[.val (.int x0), .val (.int x1), .val (.long x2), .second, .val (.ref r1), .unset, .unset, .unset, .unset, .unset] [(.long x2), (.int ((x1 &&& (2147483647 : Int32)) % (5 : Int32)))])) (fun _ k => XS.lloadN X1.here hx rfl (hb hby at_18) rfl  k) ?_
    obtain ⟨_, _, ⟨T2, L2, k2, n2⟩, -, X2, hSa2, hgr2, ⟨Lc2, hQ2, l2, y2, z2, C2a⟩, st2⟩ := callSS X1 hx (y := (⟨"com/example/fieldloom/fieldloom/KindIsFlagPinLaw", "draw", "(IJ)Ljava/lang/String;"⟩ : MethodName)) hown (mvT hZ (hw _ (List.mem_of_getElem? (i := 8) rfl))) (mvT hZ (hw _ (List.mem_of_getElem? (i := 9) rfl))) (mvT hZ (hw _ (List.mem_of_getElem? (i := 3) rfl))) (mvT hZ (hw _ (List.mem_of_getElem? (i := 10) rfl))) (by decide) (backOfSH (W := 0) (rm2 l Z a0 hw [] ((x1 &&& (2147483647 : Int32)) % (5 : Int32)) x2 cs h0 n0 Z0 S_cs hcs) hZ (hw _ (List.mem_of_getElem? (i := 10) rfl)) (hw _ (List.mem_of_getElem? (i := 3) rfl)) (by decide) (by decide) hEL C0.1) (g := (mkF m 19 #[.val (.int x0), .val (.int x1), .val (.long x2), .second, .val (.ref r1), .unset, .unset, .unset, .unset, .unset] [(.long x2), (.int ((x1 &&& (2147483647 : Int32)) % (5 : Int32)))])) rfl (by rw [hml]; rfl) (argsL := [(.int ((x1 &&& (2147483647 : Int32)) % (5 : Int32))), (.long x2)]) (rest := []) (lenOf own_pd14 rfl) rfl (by show 2 * 0 + _ ≤ _; exact Nat.le_of_eq rfl) (hb hby at_19) (fun _ _ => ⟨rfl, eq1, (by decide : 0 + 6 ≤ _), (by decide : 0 + 12 ≤ _)⟩)
    dsimp only [Pt.U, Pt.locs, Pt.cells, Pt.slots] at X2 l2 y2 z2 st2 hQ2 hSa2 hgr2 C2a
    subst l2 y2 z2
    have X2 := (show Stand p l e room_1 (s.setVm T2.vm) m #[(.int x0), (.int x1), (.long x2)] below meth c T2 _ _ _ from X2)
    have hS2 := foldS hS0 (by rw [eq1]; exact hk0) hSa2 hgr2
    have hk2 : T2.heap.size ≤ T2.heap.size := Nat.le_refl _
    have C2 := C0.trans C2a
    have hown : T2.vm.findClass "com/example/fieldloom/fieldloom/KindIsFlagPinLaw" = some m.cls := by rw [hSa2.1.alike.findClass]; exact hown
    have hZ : Z.Warmed39 (s.setVm T2.vm).vm := State.Warmed39.trans hZ hSa2.1
    obtain ⟨⟨r2, rfl, hr2⟩, Nq2, g2_0⟩ := hQ2
    have N2 := Fr.app N1 Nq2
    have f3 : Sta Z T2.heap "java/lang/String" "COMPACT_STRINGS" "Z" (.int cs) := own_stk S_cs g2_0 all0
    have f4 : Sta Z T2.heap "jdk/internal/util/Preconditions" "SIOOBE_FORMATTER" "Ljava/util/function/BiFunction;" fv := own_stk S_f g2_0 all0
    have f5 : Sta Z T2.heap "com/example/fieldloom/fieldloom/Flag" "UNKNOWN" "Lcom/example/fieldloom/fieldloom/Flag;" (.ref fU) := own_stk S_fU g2_0 all0
    have f6 : Sta Z T2.heap "com/example/fieldloom/fieldloom/Flag" "SET" "Lcom/example/fieldloom/fieldloom/Flag;" (.ref fS) := own_stk S_fS g2_0 all0
    have f7 : Sta Z T2.heap "com/example/fieldloom/fieldloom/Flag" "CLEAR" "Lcom/example/fieldloom/fieldloom/Flag;" (.ref fL) := own_stk S_fL g2_0 all0
    have f8 : Sta Z T2.heap "com/example/fieldloom/fieldloom/Kind" "BOOLEAN" "Lcom/example/fieldloom/fieldloom/Kind;" (.ref ka2) := own_stk S_ka2 g2_0 all0
    have f9 : Sta Z T2.heap "com/example/fieldloom/fieldloom/Kind" "RESTRICTION_FLAG" "Lcom/example/fieldloom/fieldloom/Kind;" (.ref ka3) := own_stk S_ka3 g2_0 all0
    have f10 : Exa Z T2.heap r1 "com/example/fieldloom/fieldloom/Kind$3" := eK.keep g2_0
    have K2 : Keep h0 T2.heap [] := (Keep.refl h0 []).trans g2_0 all0
    have Zs2 : n0 ≤ T2.heap.size := Nat.le_trans Z0 K2.1
    obtain ⟨sE2, sC2, sb2, sk2, sn2, sg2, sV2, sA2⟩ := hr2
    refine own_tr (T' := T2) (F' := (mkF m 22 #[.val (.int x0), .val (.int x1), .val (.long x2), .second, .val (.ref r1), .unset, .unset, .unset, .unset, .unset] [(.ref r2)])) st2 ?_
    refine own_st (T' := T2) (F' := (mkF m 24 #[.val (.int x0), .val (.int x1), .val (.long x2), .second, .val (.ref r1), .val (.ref r2), .unset, .unset, .unset, .unset] [])) (fun _ k => XS.astore X2.here hx rfl (hb hby at_22) rfl rfl (l' := #[.val (.int x0), .val (.int x1), .val (.long x2), .second, .val (.ref r1), .val (.ref r2), .unset, .unset, .unset, .unset]) rfl k) ?_
    refine own_st (T' := T2) (F' := (mkF m 26 #[.val (.int x0), .val (.int x1), .val (.long x2), .second, .val (.ref r1), .val (.ref r2), .unset, .unset, .unset, .unset] [(.ref r1)])) (fun _ k => XS.aload X2.here hx rfl (hb hby at_24) rfl rfl k) ?_
    obtain ⟨cq11, kq11, q11a, q11b, q11c⟩ := isOf hZ rfl f10
    obtain ⟨_, _, ⟨T11, L11, k11, n11⟩, -, X11, ⟨Lc11, hQ11, l11, y11, z11⟩, st11⟩ := X2.virtualBack hx (y := (⟨"com/example/fieldloom/fieldloom/Kind", "isFlag", "()Z"⟩ : MethodName)) (z := (⟨"com/example/fieldloom/fieldloom/Kind", "isFlag", "()Z"⟩ : MethodName)) hown (mvT hZ (hw _ (List.mem_of_getElem? (i := 42) rfl))) (mvT hZ (hw _ (List.mem_of_getElem? (i := 43) rfl))) (notFace_of_selects (args := #[]) (mvT hZ (hw _ (List.mem_of_getElem? (i := 163) rfl)))) (mvT hZ (hw _ (List.mem_of_getElem? (i := 163) rfl))) (mvT hZ (hw _ (List.mem_of_getElem? (i := 44) rfl))) (by decide) (backOf (W := 0) (rm9 l Z a0 hw [] r1 ka2 ka3 T2.heap n0 Zs2 f8 f9) hZ (hw _ (List.mem_of_getElem? (i := 46) rfl)) (hw _ (List.mem_of_getElem? (i := 6) rfl)) (by decide) (by decide)) q11a q11c (g := (mkF m 26 #[.val (.int x0), .val (.int x1), .val (.long x2), .second, .val (.ref r1), .val (.ref r2), .unset, .unset, .unset, .unset] [(.ref r1)])) rfl (by rw [hml]; rfl) (Steps.refl _) (argsL := []) (rest := []) (lenOf own_pd2 rfl) rfl (by show 2 * 0 + _ ≤ _; exact Nat.le_of_eq rfl) (hb hby at_26) (fun _ _ => ⟨rfl, rfl, (by decide : 6 + 0 ≤ _), (by decide : 12 + 0 ≤ _)⟩)
    dsimp only [Pt.U, Pt.locs, Pt.cells, Pt.slots] at X11 l11 y11 z11 st11 hQ11
    subst l11 y11 z11
    obtain ⟨⟨r11, rfl, hr11⟩, Nq11, eq11⟩ := hQ11
    have N11 := Fr.app N2 Nq11
    refine own_tr (T' := T11) (F' := (mkF m 29 #[.val (.int x0), .val (.int x1), .val (.long x2), .second, .val (.ref r1), .val (.ref r2), .unset, .unset, .unset, .unset] [(.int r11)])) st11 ?_
    obtain rfl : r11 = (1 : Int32) := hr11.1 (Or.inl hk)
    refine own_st (T' := T11) (F' := (mkF m 31 #[.val (.int x0), .val (.int x1), .val (.long x2), .second, .val (.ref r1), .val (.ref r2), .val (.int (1 : Int32)), .unset, .unset, .unset] [])) (fun _ k => XS.istore X11.here hx rfl (hb hby at_29) rfl (l' := #[.val (.int x0), .val (.int x1), .val (.long x2), .second, .val (.ref r1), .val (.ref r2), .val (.int (1 : Int32)), .unset, .unset, .unset]) rfl k) ?_
    refine own_st (T' := T11) (F' := (mkF m 33 #[.val (.int x0), .val (.int x1), .val (.long x2), .second, .val (.ref r1), .val (.ref r2), .val (.int (1 : Int32)), .unset, .unset, .unset] [(.ref r1)])) (fun _ k => XS.aload X11.here hx rfl (hb hby at_31) rfl rfl k) ?_
    obtain ⟨a12, T12, h12, k12, b12, kk12, X12, e12, E12, hS12, hk12, hZ, hown, A12, f12a, f12b, V12, lt12a, lt12b, C12a, Lt12, Sf12, st12⟩ := ldcCH X11 hx hZ hown (hw _ (List.mem_of_getElem? (i := 51) rfl)) wS eq11 hS2 hk2 hEL (List.mem_of_getElem? (i := 6) rfl) C2.1 (vs := (own_sT.map Value.int)) (z := (4 : Int32)) (own_lit6) (by decide) (by decide) (g := (mkF m 33 #[.val (.int x0), .val (.int x1), .val (.long x2), .second, .val (.ref r1), .val (.ref r2), .val (.int (1 : Int32)), .unset, .unset, .unset] [(.ref r1)])) rfl (hb hby at_33) (n := 16) (by decide) (by decide) (by decide) (by decide)
    have f13 : Sta Z h12 "java/lang/String" "COMPACT_STRINGS" "Z" (.int cs) := f3.ext E12
    have f14 : Sta Z h12 "jdk/internal/util/Preconditions" "SIOOBE_FORMATTER" "Ljava/util/function/BiFunction;" fv := f4.ext E12
    have f15 : Sta Z h12 "com/example/fieldloom/fieldloom/Flag" "UNKNOWN" "Lcom/example/fieldloom/fieldloom/Flag;" (.ref fU) := f5.ext E12
    have f16 : Sta Z h12 "com/example/fieldloom/fieldloom/Flag" "SET" "Lcom/example/fieldloom/fieldloom/Flag;" (.ref fS) := f6.ext E12
    have f17 : Sta Z h12 "com/example/fieldloom/fieldloom/Flag" "CLEAR" "Lcom/example/fieldloom/fieldloom/Flag;" (.ref fL) := f7.ext E12
    have f18 : Sta Z h12 "com/example/fieldloom/fieldloom/Kind" "BOOLEAN" "Lcom/example/fieldloom/fieldloom/Kind;" (.ref ka2) := f8.ext E12
    have f19 : Sta Z h12 "com/example/fieldloom/fieldloom/Kind" "RESTRICTION_FLAG" "Lcom/example/fieldloom/fieldloom/Kind;" (.ref ka3) := f9.ext E12
    have f20 : Exa Z h12 r1 "com/example/fieldloom/fieldloom/Kind$3" := f10.ext E12
    have f21 : Exa Z h12 r2 "java/lang/String" := sE2.ext E12
    have f22 : Fld Z h12 r2 "java/lang/String" "coder" "B" (.int (0 : Int32)) := sC2.ext E12
    have f23 : Fld Z h12 r2 "java/lang/String" "value" "[B" (.ref sb2) := sV2.ext E12
    have f24 : Arv Z h12 sb2 sk2 .byte sn2 (sg2.map Value.int) (.int (0 : Int32)) := sA2.ext E12
    have K12 : Keep h0 h12 [] := K2.ext E12
    have Zs12 : n0 ≤ h12.size := Nat.le_trans Z0 K12.1
    have C12 := C2.trans C12a
    refine own_st (T' := T12) (F' := (mkF m 35 #[.val (.int x0), .val (.int x1), .val (.long x2), .second, .val (.ref r1), .val (.ref r2), .val (.int (1 : Int32)), .unset, .unset, .unset] [(.ref a12), (.ref r1)])) (fun _ k => st12 _ k) ?_
    obtain ⟨cq25, kq25, q25a, q25b, q25c⟩ := isOf hZ e12 f20
    obtain ⟨_, _, ⟨T25, L25, k25, n25⟩, -, X25, hSa25, hgr25, ⟨Lc25, hQ25, l25, y25, z25, C25a⟩, st25⟩ := X12.virtualBackS hx (y := (⟨"com/example/fieldloom/fieldloom/Kind", "flag", "(Ljava/lang/CharSequence;)Lcom/example/fieldloom/fieldloom/Flag;"⟩ : MethodName)) (z := (⟨"com/example/fieldloom/fieldloom/Kind$3", "flag", "(Ljava/lang/CharSequence;)Lcom/example/fieldloom/fieldloom/Flag;"⟩ : MethodName)) hown (mvT hZ (hw _ (List.mem_of_getElem? (i := 54) rfl))) (mvT hZ (hw _ (List.mem_of_getElem? (i := 55) rfl))) (notFace_of_selects (args := #[]) (mvT hZ (hw _ (List.mem_of_getElem? (i := 57) rfl)))) (mvT hZ (hw _ (List.mem_of_getElem? (i := 164) rfl))) (mvT hZ (hw _ (List.mem_of_getElem? (i := 165) rfl))) (by decide) (backOfSH (W := 0) (rm20tT l Z a0 hw [] r1 a12 cs fv fU fS fL b12 kk12 h12 n0 Zs12 f13 hcs f14 hfv f15 f16 f17 A12 f12a f12b V12) hZ (hw _ (List.mem_of_getElem? (i := 167) rfl)) (hw _ (List.mem_of_getElem? (i := 166) rfl)) (by decide) (by decide) hEL C12.1) q25a q25c (g := (mkF m 35 #[.val (.int x0), .val (.int x1), .val (.long x2), .second, .val (.ref r1), .val (.ref r2), .val (.int (1 : Int32)), .unset, .unset, .unset] [(.ref a12), (.ref r1)])) rfl (by rw [hml]; rfl) (Steps.refl _) (argsL := [(.ref a12)]) (rest := []) (lenOf own_pd15 rfl) rfl (by show 2 * 0 + _ ≤ _; exact Nat.le_of_eq rfl) (hb hby at_35) (fun _ _ => ⟨rfl, e12, (by decide : 8 + 2 ≤ _), (by decide : 32 + 20 ≤ _)⟩)
    dsimp only [Pt.U, Pt.locs, Pt.cells, Pt.slots] at X25 l25 y25 z25 st25 hQ25 hSa25 hgr25 C25a
    subst l25 y25 z25
    have X25 := (show Stand p l e room_1 (s.setVm T25.vm) m #[(.int x0), (.int x1), (.long x2)] below meth c T25 _ _ _ from X25)
    have hS25 := foldS hS12 (by rw [e12]; exact hk12) hSa25 hgr25
    have hk25 : T25.heap.size ≤ T25.heap.size := Nat.le_refl _
    have C25 := C12.trans C25a
    have hown : T25.vm.findClass "com/example/fieldloom/fieldloom/KindIsFlagPinLaw" = some m.cls := by rw [hSa25.1.alike.findClass]; exact hown
    have hZ : Z.Warmed39 (s.setVm T25.vm).vm := State.Warmed39.trans hZ hSa25.1
    obtain ⟨⟨r25, rfl, hr25⟩, Nq25, g25_0⟩ := hQ25
    have N25 := Fr.app N11 Nq25
    have f26 : Sta Z T25.heap "java/lang/String" "COMPACT_STRINGS" "Z" (.int cs) := own_stk f13 g25_0 all0
    have f27 : Sta Z T25.heap "jdk/internal/util/Preconditions" "SIOOBE_FORMATTER" "Ljava/util/function/BiFunction;" fv := own_stk f14 g25_0 all0
    have f28 : Sta Z T25.heap "com/example/fieldloom/fieldloom/Flag" "UNKNOWN" "Lcom/example/fieldloom/fieldloom/Flag;" (.ref fU) := own_stk f15 g25_0 all0
    have f29 : Sta Z T25.heap "com/example/fieldloom/fieldloom/Flag" "SET" "Lcom/example/fieldloom/fieldloom/Flag;" (.ref fS) := own_stk f16 g25_0 all0
    have f30 : Sta Z T25.heap "com/example/fieldloom/fieldloom/Flag" "CLEAR" "Lcom/example/fieldloom/fieldloom/Flag;" (.ref fL) := own_stk f17 g25_0 all0
    have f31 : Sta Z T25.heap "com/example/fieldloom/fieldloom/Kind" "BOOLEAN" "Lcom/example/fieldloom/fieldloom/Kind;" (.ref ka2) := own_stk f18 g25_0 all0
    have f32 : Sta Z T25.heap "com/example/fieldloom/fieldloom/Kind" "RESTRICTION_FLAG" "Lcom/example/fieldloom/fieldloom/Kind;" (.ref ka3) := own_stk f19 g25_0 all0
    have f33 : Exa Z T25.heap r1 "com/example/fieldloom/fieldloom/Kind$3" := f20.keep g25_0
    have f34 : Exa Z T25.heap r2 "java/lang/String" := f21.keep g25_0
    have f35 : Fld Z T25.heap r2 "java/lang/String" "coder" "B" (.int (0 : Int32)) := f22.keep g25_0 nin0
    have f36 : Fld Z T25.heap r2 "java/lang/String" "value" "[B" (.ref sb2) := f23.keep g25_0 nin0
    have f37 : Arv Z T25.heap sb2 sk2 .byte sn2 (sg2.map Value.int) (.int (0 : Int32)) := f24.keep g25_0 nin0
    have f38 : Exa Z T25.heap a12 "java/lang/String" := A12.keep g25_0
    have f39 : Fld Z T25.heap a12 "java/lang/String" "coder" "B" (.int (0 : Int32)) := f12a.keep g25_0 nin0
    have f40 : Fld Z T25.heap a12 "java/lang/String" "value" "[B" (.ref b12) := f12b.keep g25_0 nin0
    have f41 : Arv Z T25.heap b12 kk12 .byte (4 : Int32) (own_sT.map Value.int) (.int (0 : Int32)) := V12.keep g25_0 nin0
    have K25 : Keep h0 T25.heap [] := K12.trans g25_0 all0
    have Zs25 : n0 ≤ T25.heap.size := Nat.le_trans Z0 K25.1
    refine own_tr (T' := T25) (F' := (mkF m 38 #[.val (.int x0), .val (.int x1), .val (.long x2), .second, .val (.ref r1), .val (.ref r2), .val (.int (1 : Int32)), .unset, .unset, .unset] [(.ref r25)])) st25 ?_
    obtain ⟨T42, X42, e42, st42⟩ := getS2 X25 hx hZ hown (host := "") (Or.inl (hw _ (List.mem_of_getElem? (i := 62) rfl))) Via.refl rfl f29 (g := (mkF m 38 #[.val (.int x0), .val (.int x1), .val (.long x2), .second, .val (.ref r1), .val (.ref r2), .val (.int (1 : Int32)), .unset, .unset, .unset] [(.ref r25)])) rfl (hb hby at_38)
    refine own_st (T' := T42) (F' := (mkF m 41 #[.val (.int x0), .val (.int x1), .val (.long x2), .second, .val (.ref r1), .val (.ref r2), .val (.int (1 : Int32)), .unset, .unset, .unset] [(.ref fS), (.ref r25)])) (fun _ k => st42 _ k) ?_
    refine own_acmp X42 hx (pc' := 48) (pc2 := 44) (hb hby at_41) (by decide) (by decide) rfl (fun (hc41 : r25 = fS) => ?_) (fun (hc41 : ¬ (r25 = fS)) => ?_)
    ·
      refine own_st (T' := T42) (F' := (mkF m 45 #[.val (.int x0), .val (.int x1), .val (.long x2), .second, .val (.ref r1), .val (.ref r2), .val (.int (1 : Int32)), .unset, .unset, .unset] [(.int (1 : Int32))])) (fun _ k => XS.iconst X42.here hx rfl (hb hby at_44) k) ?_
      refine own_st (T' := T42) (F' := (mkF m 49 #[.val (.int x0), .val (.int x1), .val (.long x2), .second, .val (.ref r1), .val (.ref r2), .val (.int (1 : Int32)), .unset, .unset, .unset] [(.int (1 : Int32))])) (fun _ k => XS.goto X42.here hx rfl (pc0 := 45) (pc' := 49) rfl (hb hby at_45) (by decide) (by decide) k) ?_
      refine own_st (T' := T42) (F' := (mkF m 51 #[.val (.int x0), .val (.int x1), .val (.long x2), .second, .val (.ref r1), .val (.ref r2), .val (.int (1 : Int32)), .val (.int (1 : Int32)), .unset, .unset] [])) (fun _ k => XS.istore X42.here hx rfl (hb hby at_49) rfl (l' := #[.val (.int x0), .val (.int x1), .val (.long x2), .second, .val (.ref r1), .val (.ref r2), .val (.int (1 : Int32)), .val (.int (1 : Int32)), .unset, .unset]) rfl k) ?_
      refine own_st (T' := T42) (F' := (mkF m 53 #[.val (.int x0), .val (.int x1), .val (.long x2), .second, .val (.ref r1), .val (.ref r2), .val (.int (1 : Int32)), .val (.int (1 : Int32)), .unset, .unset] [(.ref r1)])) (fun _ k => XS.aload X42.here hx rfl (hb hby at_51) rfl rfl k) ?_
      obtain ⟨a43, T43, h43, k43, b43, kk43, X43, e43, E43, hS43, hk43, hZ, hown, A43, f43a, f43b, V43, lt43a, lt43b, C43a, Lt43, Sf43, st43⟩ := ldcCH X42 hx hZ hown (hw _ (List.mem_of_getElem? (i := 64) rfl)) wS e42 hS25 hk25 hEL (List.mem_of_getElem? (i := 7) rfl) C25.1 (vs := (own_sF.map Value.int)) (z := (5 : Int32)) (own_lit7) (by decide) (by decide) (g := (mkF m 53 #[.val (.int x0), .val (.int x1), .val (.long x2), .second, .val (.ref r1), .val (.ref r2), .val (.int (1 : Int32)), .val (.int (1 : Int32)), .unset, .unset] [(.ref r1)])) rfl (hb hby at_53) (n := 20) (by decide) (by decide) (by decide) (by decide)
      have f44 : Sta Z h43 "java/lang/String" "COMPACT_STRINGS" "Z" (.int cs) := f26.ext E43
      have f45 : Sta Z h43 "jdk/internal/util/Preconditions" "SIOOBE_FORMATTER" "Ljava/util/function/BiFunction;" fv := f27.ext E43
      have f46 : Sta Z h43 "com/example/fieldloom/fieldloom/Flag" "UNKNOWN" "Lcom/example/fieldloom/fieldloom/Flag;" (.ref fU) := f28.ext E43
      have f47 : Sta Z h43 "com/example/fieldloom/fieldloom/Flag" "SET" "Lcom/example/fieldloom/fieldloom/Flag;" (.ref fS) := f29.ext E43
      have f48 : Sta Z h43 "com/example/fieldloom/fieldloom/Flag" "CLEAR" "Lcom/example/fieldloom/fieldloom/Flag;" (.ref fL) := f30.ext E43
      have f49 : Sta Z h43 "com/example/fieldloom/fieldloom/Kind" "BOOLEAN" "Lcom/example/fieldloom/fieldloom/Kind;" (.ref ka2) := f31.ext E43
      have f50 : Sta Z h43 "com/example/fieldloom/fieldloom/Kind" "RESTRICTION_FLAG" "Lcom/example/fieldloom/fieldloom/Kind;" (.ref ka3) := f32.ext E43
      have f51 : Exa Z h43 r1 "com/example/fieldloom/fieldloom/Kind$3" := f33.ext E43
      have f52 : Exa Z h43 r2 "java/lang/String" := f34.ext E43
      have f53 : Fld Z h43 r2 "java/lang/String" "coder" "B" (.int (0 : Int32)) := f35.ext E43
      have f54 : Fld Z h43 r2 "java/lang/String" "value" "[B" (.ref sb2) := f36.ext E43
      have f55 : Arv Z h43 sb2 sk2 .byte sn2 (sg2.map Value.int) (.int (0 : Int32)) := f37.ext E43
      have f56 : Exa Z h43 a12 "java/lang/String" := f38.ext E43
      have f57 : Fld Z h43 a12 "java/lang/String" "coder" "B" (.int (0 : Int32)) := f39.ext E43
      have f58 : Fld Z h43 a12 "java/lang/String" "value" "[B" (.ref b12) := f40.ext E43
      have f59 : Arv Z h43 b12 kk12 .byte (4 : Int32) (own_sT.map Value.int) (.int (0 : Int32)) := f41.ext E43
      have K43 : Keep h0 h43 [] := K25.ext E43
      have Zs43 : n0 ≤ h43.size := Nat.le_trans Z0 K43.1
      have C43 := C25.trans C43a
      refine own_st (T' := T43) (F' := (mkF m 55 #[.val (.int x0), .val (.int x1), .val (.long x2), .second, .val (.ref r1), .val (.ref r2), .val (.int (1 : Int32)), .val (.int (1 : Int32)), .unset, .unset] [(.ref a43), (.ref r1)])) (fun _ k => st43 _ k) ?_
      obtain ⟨cq60, kq60, q60a, q60b, q60c⟩ := isOf hZ e43 f51
      obtain ⟨_, _, ⟨T60, L60, k60, n60⟩, -, X60, hSa60, hgr60, ⟨Lc60, hQ60, l60, y60, z60, C60a⟩, st60⟩ := X43.virtualBackS hx (y := (⟨"com/example/fieldloom/fieldloom/Kind", "flag", "(Ljava/lang/CharSequence;)Lcom/example/fieldloom/fieldloom/Flag;"⟩ : MethodName)) (z := (⟨"com/example/fieldloom/fieldloom/Kind$3", "flag", "(Ljava/lang/CharSequence;)Lcom/example/fieldloom/fieldloom/Flag;"⟩ : MethodName)) hown (mvT hZ (hw _ (List.mem_of_getElem? (i := 54) rfl))) (mvT hZ (hw _ (List.mem_of_getElem? (i := 55) rfl))) (notFace_of_selects (args := #[]) (mvT hZ (hw _ (List.mem_of_getElem? (i := 57) rfl)))) (mvT hZ (hw _ (List.mem_of_getElem? (i := 164) rfl))) (mvT hZ (hw _ (List.mem_of_getElem? (i := 165) rfl))) (by decide) (backOfSH (W := 0) (rm20tF l Z a0 hw [] r1 a43 cs fv fU fS fL b43 kk43 h43 n0 Zs43 f44 hcs f45 hfv f46 f47 f48 A43 f43a f43b V43) hZ (hw _ (List.mem_of_getElem? (i := 167) rfl)) (hw _ (List.mem_of_getElem? (i := 166) rfl)) (by decide) (by decide) hEL C43.1) q60a q60c (g := (mkF m 55 #[.val (.int x0), .val (.int x1), .val (.long x2), .second, .val (.ref r1), .val (.ref r2), .val (.int (1 : Int32)), .val (.int (1 : Int32)), .unset, .unset] [(.ref a43), (.ref r1)])) rfl (by rw [hml]; rfl) (Steps.refl _) (argsL := [(.ref a43)]) (rest := []) (lenOf own_pd15 rfl) rfl (by show 2 * 0 + _ ≤ _; exact Nat.le_of_eq rfl) (hb hby at_55) (fun _ _ => ⟨rfl, e43, (by decide : 12 + 4 ≤ _), (by decide : 76 + 44 ≤ _)⟩)
      dsimp only [Pt.U, Pt.locs, Pt.cells, Pt.slots] at X60 l60 y60 z60 st60 hQ60 hSa60 hgr60 C60a
      subst l60 y60 z60
      have X60 := (show Stand p l e room_1 (s.setVm T60.vm) m #[(.int x0), (.int x1), (.long x2)] below meth c T60 _ _ _ from X60)
      have hS60 := foldS hS43 (by rw [e43]; exact hk43) hSa60 hgr60
      have hk60 : T60.heap.size ≤ T60.heap.size := Nat.le_refl _
      have C60 := C43.trans C60a
      have hown : T60.vm.findClass "com/example/fieldloom/fieldloom/KindIsFlagPinLaw" = some m.cls := by rw [hSa60.1.alike.findClass]; exact hown
      have hZ : Z.Warmed39 (s.setVm T60.vm).vm := State.Warmed39.trans hZ hSa60.1
      obtain ⟨⟨r60, rfl, hr60⟩, Nq60, g60_0⟩ := hQ60
      have N60 := Fr.app N25 Nq60
      have f61 : Sta Z T60.heap "java/lang/String" "COMPACT_STRINGS" "Z" (.int cs) := own_stk f44 g60_0 all0
      have f62 : Sta Z T60.heap "jdk/internal/util/Preconditions" "SIOOBE_FORMATTER" "Ljava/util/function/BiFunction;" fv := own_stk f45 g60_0 all0
      have f63 : Sta Z T60.heap "com/example/fieldloom/fieldloom/Flag" "UNKNOWN" "Lcom/example/fieldloom/fieldloom/Flag;" (.ref fU) := own_stk f46 g60_0 all0
      have f64 : Sta Z T60.heap "com/example/fieldloom/fieldloom/Flag" "SET" "Lcom/example/fieldloom/fieldloom/Flag;" (.ref fS) := own_stk f47 g60_0 all0
      have f65 : Sta Z T60.heap "com/example/fieldloom/fieldloom/Flag" "CLEAR" "Lcom/example/fieldloom/fieldloom/Flag;" (.ref fL) := own_stk f48 g60_0 all0
      have f66 : Sta Z T60.heap "com/example/fieldloom/fieldloom/Kind" "BOOLEAN" "Lcom/example/fieldloom/fieldloom/Kind;" (.ref ka2) := own_stk f49 g60_0 all0
      have f67 : Sta Z T60.heap "com/example/fieldloom/fieldloom/Kind" "RESTRICTION_FLAG" "Lcom/example/fieldloom/fieldloom/Kind;" (.ref ka3) := own_stk f50 g60_0 all0
      have f68 : Exa Z T60.heap r1 "com/example/fieldloom/fieldloom/Kind$3" := f51.keep g60_0
      have f69 : Exa Z T60.heap r2 "java/lang/String" := f52.keep g60_0
      have f70 : Fld Z T60.heap r2 "java/lang/String" "coder" "B" (.int (0 : Int32)) := f53.keep g60_0 nin0
      have f71 : Fld Z T60.heap r2 "java/lang/String" "value" "[B" (.ref sb2) := f54.keep g60_0 nin0
      have f72 : Arv Z T60.heap sb2 sk2 .byte sn2 (sg2.map Value.int) (.int (0 : Int32)) := f55.keep g60_0 nin0
      have f73 : Exa Z T60.heap a12 "java/lang/String" := f56.keep g60_0
      have f74 : Fld Z T60.heap a12 "java/lang/String" "coder" "B" (.int (0 : Int32)) := f57.keep g60_0 nin0
      have f75 : Fld Z T60.heap a12 "java/lang/String" "value" "[B" (.ref b12) := f58.keep g60_0 nin0
      have f76 : Arv Z T60.heap b12 kk12 .byte (4 : Int32) (own_sT.map Value.int) (.int (0 : Int32)) := f59.keep g60_0 nin0
      have f77 : Exa Z T60.heap a43 "java/lang/String" := A43.keep g60_0
      have f78 : Fld Z T60.heap a43 "java/lang/String" "coder" "B" (.int (0 : Int32)) := f43a.keep g60_0 nin0
      have f79 : Fld Z T60.heap a43 "java/lang/String" "value" "[B" (.ref b43) := f43b.keep g60_0 nin0
      have f80 : Arv Z T60.heap b43 kk43 .byte (5 : Int32) (own_sF.map Value.int) (.int (0 : Int32)) := V43.keep g60_0 nin0
      have K60 : Keep h0 T60.heap [] := K43.trans g60_0 all0
      have Zs60 : n0 ≤ T60.heap.size := Nat.le_trans Z0 K60.1
      refine own_tr (T' := T60) (F' := (mkF m 58 #[.val (.int x0), .val (.int x1), .val (.long x2), .second, .val (.ref r1), .val (.ref r2), .val (.int (1 : Int32)), .val (.int (1 : Int32)), .unset, .unset] [(.ref r60)])) st60 ?_
      obtain ⟨T81, X81, e81, st81⟩ := getS2 X60 hx hZ hown (host := "") (Or.inl (hw _ (List.mem_of_getElem? (i := 65) rfl))) Via.refl rfl f65 (g := (mkF m 58 #[.val (.int x0), .val (.int x1), .val (.long x2), .second, .val (.ref r1), .val (.ref r2), .val (.int (1 : Int32)), .val (.int (1 : Int32)), .unset, .unset] [(.ref r60)])) rfl (hb hby at_58)
      refine own_st (T' := T81) (F' := (mkF m 61 #[.val (.int x0), .val (.int x1), .val (.long x2), .second, .val (.ref r1), .val (.ref r2), .val (.int (1 : Int32)), .val (.int (1 : Int32)), .unset, .unset] [(.ref fL), (.ref r60)])) (fun _ k => st81 _ k) ?_
      refine own_acmp X81 hx (pc' := 68) (pc2 := 64) (hb hby at_61) (by decide) (by decide) rfl (fun (hc61 : r60 = fL) => ?_) (fun (hc61 : ¬ (r60 = fL)) => ?_)
      ·
        refine own_st (T' := T81) (F' := (mkF m 65 #[.val (.int x0), .val (.int x1), .val (.long x2), .second, .val (.ref r1), .val (.ref r2), .val (.int (1 : Int32)), .val (.int (1 : Int32)), .unset, .unset] [(.int (1 : Int32))])) (fun _ k => XS.iconst X81.here hx rfl (hb hby at_64) k) ?_
        refine own_st (T' := T81) (F' := (mkF m 69 #[.val (.int x0), .val (.int x1), .val (.long x2), .second, .val (.ref r1), .val (.ref r2), .val (.int (1 : Int32)), .val (.int (1 : Int32)), .unset, .unset] [(.int (1 : Int32))])) (fun _ k => XS.goto X81.here hx rfl (pc0 := 65) (pc' := 69) rfl (hb hby at_65) (by decide) (by decide) k) ?_
        refine own_st (T' := T81) (F' := (mkF m 71 #[.val (.int x0), .val (.int x1), .val (.long x2), .second, .val (.ref r1), .val (.ref r2), .val (.int (1 : Int32)), .val (.int (1 : Int32)), .val (.int (1 : Int32)), .unset] [])) (fun _ k => XS.istore X81.here hx rfl (hb hby at_69) rfl (l' := #[.val (.int x0), .val (.int x1), .val (.long x2), .second, .val (.ref r1), .val (.ref r2), .val (.int (1 : Int32)), .val (.int (1 : Int32)), .val (.int (1 : Int32)), .unset]) rfl k) ?_
        refine own_st (T' := T81) (F' := (mkF m 73 #[.val (.int x0), .val (.int x1), .val (.long x2), .second, .val (.ref r1), .val (.ref r2), .val (.int (1 : Int32)), .val (.int (1 : Int32)), .val (.int (1 : Int32)), .unset] [(.ref r1)])) (fun _ k => XS.aload X81.here hx rfl (hb hby at_71) rfl rfl k) ?_
        refine own_st (T' := T81) (F' := (mkF m 75 #[.val (.int x0), .val (.int x1), .val (.long x2), .second, .val (.ref r1), .val (.ref r2), .val (.int (1 : Int32)), .val (.int (1 : Int32)), .val (.int (1 : Int32)), .unset] [(.ref r2), (.ref r1)])) (fun _ k => XS.aload X81.here hx rfl (hb hby at_73) rfl rfl k) ?_
        obtain ⟨cq82, kq82, q82a, q82b, q82c⟩ := isOf hZ e81 f68
        obtain ⟨_, _, ⟨T82, L82, k82, n82⟩, -, X82, hSa82, hgr82, ⟨Lc82, hQ82, l82, y82, z82, C82a⟩, st82⟩ := X81.virtualBackS hx (y := (⟨"com/example/fieldloom/fieldloom/Kind", "flag", "(Ljava/lang/CharSequence;)Lcom/example/fieldloom/fieldloom/Flag;"⟩ : MethodName)) (z := (⟨"com/example/fieldloom/fieldloom/Kind$3", "flag", "(Ljava/lang/CharSequence;)Lcom/example/fieldloom/fieldloom/Flag;"⟩ : MethodName)) hown (mvT hZ (hw _ (List.mem_of_getElem? (i := 54) rfl))) (mvT hZ (hw _ (List.mem_of_getElem? (i := 55) rfl))) (notFace_of_selects (args := #[]) (mvT hZ (hw _ (List.mem_of_getElem? (i := 57) rfl)))) (mvT hZ (hw _ (List.mem_of_getElem? (i := 164) rfl))) (mvT hZ (hw _ (List.mem_of_getElem? (i := 165) rfl))) (by decide) (backOfSH (W := 0) (rm20ts l Z a0 hw [] r1 r2 cs fv fU fS fL sb2 sk2 sn2 sg2 T60.heap n0 Zs60 f61 hcs f62 hfv f63 f64 f65 f69 f70 f71 f72) hZ (hw _ (List.mem_of_getElem? (i := 167) rfl)) (hw _ (List.mem_of_getElem? (i := 166) rfl)) (by decide) (by decide) hEL C60.1) q82a q82c (g := (mkF m 75 #[.val (.int x0), .val (.int x1), .val (.long x2), .second, .val (.ref r1), .val (.ref r2), .val (.int (1 : Int32)), .val (.int (1 : Int32)), .val (.int (1 : Int32)), .unset] [(.ref r2), (.ref r1)])) rfl (by rw [hml]; rfl) (Steps.refl _) (argsL := [(.ref r2)]) (rest := []) (lenOf own_pd15 rfl) rfl (by show 2 * 0 + _ ≤ _; exact Nat.le_of_eq rfl) (hb hby at_75) (fun _ _ => ⟨rfl, e81, (by decide : 16 + 4 ≤ _), (by decide : 120 + 44 ≤ _)⟩)
        dsimp only [Pt.U, Pt.locs, Pt.cells, Pt.slots] at X82 l82 y82 z82 st82 hQ82 hSa82 hgr82 C82a
        subst l82 y82 z82
        have X82 := (show Stand p l e room_1 (s.setVm T82.vm) m #[(.int x0), (.int x1), (.long x2)] below meth c T82 _ _ _ from X82)
        have hS82 := foldS hS60 (by rw [e81]; exact hk60) hSa82 hgr82
        have hk82 : T82.heap.size ≤ T82.heap.size := Nat.le_refl _
        have C82 := C60.trans C82a
        have hown : T82.vm.findClass "com/example/fieldloom/fieldloom/KindIsFlagPinLaw" = some m.cls := by rw [hSa82.1.alike.findClass]; exact hown
        have hZ : Z.Warmed39 (s.setVm T82.vm).vm := State.Warmed39.trans hZ hSa82.1
        obtain ⟨⟨r82, rfl, hr82⟩, Nq82, g82_0⟩ := hQ82
        have N82 := Fr.app N60 Nq82
        have f83 : Sta Z T82.heap "java/lang/String" "COMPACT_STRINGS" "Z" (.int cs) := own_stk f61 g82_0 all0
        have f84 : Sta Z T82.heap "jdk/internal/util/Preconditions" "SIOOBE_FORMATTER" "Ljava/util/function/BiFunction;" fv := own_stk f62 g82_0 all0
        have f85 : Sta Z T82.heap "com/example/fieldloom/fieldloom/Flag" "UNKNOWN" "Lcom/example/fieldloom/fieldloom/Flag;" (.ref fU) := own_stk f63 g82_0 all0
        have f86 : Sta Z T82.heap "com/example/fieldloom/fieldloom/Flag" "SET" "Lcom/example/fieldloom/fieldloom/Flag;" (.ref fS) := own_stk f64 g82_0 all0
        have f87 : Sta Z T82.heap "com/example/fieldloom/fieldloom/Flag" "CLEAR" "Lcom/example/fieldloom/fieldloom/Flag;" (.ref fL) := own_stk f65 g82_0 all0
        have f88 : Sta Z T82.heap "com/example/fieldloom/fieldloom/Kind" "BOOLEAN" "Lcom/example/fieldloom/fieldloom/Kind;" (.ref ka2) := own_stk f66 g82_0 all0
        have f89 : Sta Z T82.heap "com/example/fieldloom/fieldloom/Kind" "RESTRICTION_FLAG" "Lcom/example/fieldloom/fieldloom/Kind;" (.ref ka3) := own_stk f67 g82_0 all0
        have f90 : Exa Z T82.heap r1 "com/example/fieldloom/fieldloom/Kind$3" := f68.keep g82_0
        have f91 : Exa Z T82.heap r2 "java/lang/String" := f69.keep g82_0
        have f92 : Fld Z T82.heap r2 "java/lang/String" "coder" "B" (.int (0 : Int32)) := f70.keep g82_0 nin0
        have f93 : Fld Z T82.heap r2 "java/lang/String" "value" "[B" (.ref sb2) := f71.keep g82_0 nin0
        have f94 : Arv Z T82.heap sb2 sk2 .byte sn2 (sg2.map Value.int) (.int (0 : Int32)) := f72.keep g82_0 nin0
        have f95 : Exa Z T82.heap a12 "java/lang/String" := f73.keep g82_0
        have f96 : Fld Z T82.heap a12 "java/lang/String" "coder" "B" (.int (0 : Int32)) := f74.keep g82_0 nin0
        have f97 : Fld Z T82.heap a12 "java/lang/String" "value" "[B" (.ref b12) := f75.keep g82_0 nin0
        have f98 : Arv Z T82.heap b12 kk12 .byte (4 : Int32) (own_sT.map Value.int) (.int (0 : Int32)) := f76.keep g82_0 nin0
        have f99 : Exa Z T82.heap a43 "java/lang/String" := f77.keep g82_0
        have f100 : Fld Z T82.heap a43 "java/lang/String" "coder" "B" (.int (0 : Int32)) := f78.keep g82_0 nin0
        have f101 : Fld Z T82.heap a43 "java/lang/String" "value" "[B" (.ref b43) := f79.keep g82_0 nin0
        have f102 : Arv Z T82.heap b43 kk43 .byte (5 : Int32) (own_sF.map Value.int) (.int (0 : Int32)) := f80.keep g82_0 nin0
        have K82 : Keep h0 T82.heap [] := K60.trans g82_0 all0
        have Zs82 : n0 ≤ T82.heap.size := Nat.le_trans Z0 K82.1
        refine own_tr (T' := T82) (F' := (mkF m 78 #[.val (.int x0), .val (.int x1), .val (.long x2), .second, .val (.ref r1), .val (.ref r2), .val (.int (1 : Int32)), .val (.int (1 : Int32)), .val (.int (1 : Int32)), .unset] [(.ref r82)])) st82 ?_
        obtain ⟨T103, X103, e103, st103⟩ := getS2 X82 hx hZ hown (host := "") (Or.inl (hw _ (List.mem_of_getElem? (i := 67) rfl))) Via.refl rfl f85 (g := (mkF m 78 #[.val (.int x0), .val (.int x1), .val (.long x2), .second, .val (.ref r1), .val (.ref r2), .val (.int (1 : Int32)), .val (.int (1 : Int32)), .val (.int (1 : Int32)), .unset] [(.ref r82)])) rfl (hb hby at_78)
        refine own_st (T' := T103) (F' := (mkF m 81 #[.val (.int x0), .val (.int x1), .val (.long x2), .second, .val (.ref r1), .val (.ref r2), .val (.int (1 : Int32)), .val (.int (1 : Int32)), .val (.int (1 : Int32)), .unset] [(.ref fU), (.ref r82)])) (fun _ k => st103 _ k) ?_
        refine own_acmp X103 hx (pc' := 88) (pc2 := 84) (hb hby at_81) (by decide) (by decide) rfl (fun (hc81 : r82 = fU) => ?_) (fun (hc81 : ¬ (r82 = fU)) => ?_)
        ·
          refine own_st (T' := T103) (F' := (mkF m 85 #[.val (.int x0), .val (.int x1), .val (.long x2), .second, .val (.ref r1), .val (.ref r2), .val (.int (1 : Int32)), .val (.int (1 : Int32)), .val (.int (1 : Int32)), .unset] [(.int (1 : Int32))])) (fun _ k => XS.iconst X103.here hx rfl (hb hby at_84) k) ?_
          refine own_st (T' := T103) (F' := (mkF m 89 #[.val (.int x0), .val (.int x1), .val (.long x2), .second, .val (.ref r1), .val (.ref r2), .val (.int (1 : Int32)), .val (.int (1 : Int32)), .val (.int (1 : Int32)), .unset] [(.int (1 : Int32))])) (fun _ k => XS.goto X103.here hx rfl (pc0 := 85) (pc' := 89) rfl (hb hby at_85) (by decide) (by decide) k) ?_
          refine own_st (T' := T103) (F' := (mkF m 91 #[.val (.int x0), .val (.int x1), .val (.long x2), .second, .val (.ref r1), .val (.ref r2), .val (.int (1 : Int32)), .val (.int (1 : Int32)), .val (.int (1 : Int32)), .val (.int (1 : Int32))] [])) (fun _ k => XS.istore X103.here hx rfl (hb hby at_89) rfl (l' := #[.val (.int x0), .val (.int x1), .val (.long x2), .second, .val (.ref r1), .val (.ref r2), .val (.int (1 : Int32)), .val (.int (1 : Int32)), .val (.int (1 : Int32)), .val (.int (1 : Int32))]) rfl k) ?_
          refine own_st (T' := T103) (F' := (mkF m 93 #[.val (.int x0), .val (.int x1), .val (.long x2), .second, .val (.ref r1), .val (.ref r2), .val (.int (1 : Int32)), .val (.int (1 : Int32)), .val (.int (1 : Int32)), .val (.int (1 : Int32))] [(.int (1 : Int32))])) (fun _ k => XS.iload X103.here hx rfl (hb hby at_91) rfl  k) ?_
          refine own_st (T' := T103) (F' := (mkF m 95 #[.val (.int x0), .val (.int x1), .val (.long x2), .second, .val (.ref r1), .val (.ref r2), .val (.int (1 : Int32)), .val (.int (1 : Int32)), .val (.int (1 : Int32)), .val (.int (1 : Int32))] [(.int (1 : Int32)), (.int (1 : Int32))])) (fun _ k => XS.iload X103.here hx rfl (hb hby at_93) rfl  k) ?_
          refine own_icmp X103 hx (pc' := 119) (pc2 := 98) (hb hby at_95) (by decide) (by decide) rfl (fun (hc95 : ¬ ((1 : Int32) = (1 : Int32))) => ?_) (fun (hc95 : (1 : Int32) = (1 : Int32)) => ?_)
          · exact absurd hc95 (by decide)
          refine own_st (T' := T103) (F' := (mkF m 100 #[.val (.int x0), .val (.int x1), .val (.long x2), .second, .val (.ref r1), .val (.ref r2), .val (.int (1 : Int32)), .val (.int (1 : Int32)), .val (.int (1 : Int32)), .val (.int (1 : Int32))] [(.int (1 : Int32))])) (fun _ k => XS.iload X103.here hx rfl (hb hby at_98) rfl  k) ?_
          refine own_st (T' := T103) (F' := (mkF m 102 #[.val (.int x0), .val (.int x1), .val (.long x2), .second, .val (.ref r1), .val (.ref r2), .val (.int (1 : Int32)), .val (.int (1 : Int32)), .val (.int (1 : Int32)), .val (.int (1 : Int32))] [(.int (1 : Int32)), (.int (1 : Int32))])) (fun _ k => XS.iload X103.here hx rfl (hb hby at_100) rfl  k) ?_
          refine own_icmp X103 hx (pc' := 119) (pc2 := 105) (hb hby at_102) (by decide) (by decide) rfl (fun (hc102 : ¬ ((1 : Int32) = (1 : Int32))) => ?_) (fun (hc102 : (1 : Int32) = (1 : Int32)) => ?_)
          · exact absurd hc102 (by decide)
          refine own_st (T' := T103) (F' := (mkF m 107 #[.val (.int x0), .val (.int x1), .val (.long x2), .second, .val (.ref r1), .val (.ref r2), .val (.int (1 : Int32)), .val (.int (1 : Int32)), .val (.int (1 : Int32)), .val (.int (1 : Int32))] [(.int (1 : Int32))])) (fun _ k => XS.iload X103.here hx rfl (hb hby at_105) rfl  k) ?_
          refine own_ifc X103 hx (pc' := 115) (pc2 := 110) (hb hby at_107) (by decide) (by decide) rfl (fun (hc107 : ¬ ((1 : Int32) = (0 : Int32))) => ?_) (fun (hc107 : (1 : Int32) = (0 : Int32)) => ?_)
          rotate_left
          · exact absurd hc107 (by decide)
          refine own_st (T' := T103) (F' := (mkF m 116 #[.val (.int x0), .val (.int x1), .val (.long x2), .second, .val (.ref r1), .val (.ref r2), .val (.int (1 : Int32)), .val (.int (1 : Int32)), .val (.int (1 : Int32)), .val (.int (1 : Int32))] [(.int (1 : Int32))])) (fun _ k => XS.iconst X103.here hx rfl (hb hby at_115) k) ?_
          refine own_st (T' := T103) (F' := (mkF m 120 #[.val (.int x0), .val (.int x1), .val (.long x2), .second, .val (.ref r1), .val (.ref r2), .val (.int (1 : Int32)), .val (.int (1 : Int32)), .val (.int (1 : Int32)), .val (.int (1 : Int32))] [(.int (1 : Int32))])) (fun _ k => XS.goto X103.here hx rfl (pc0 := 116) (pc' := 120) rfl (hb hby at_116) (by decide) (by decide) k) ?_
          refine own_sretN X103 hx hS82 (by rw [e103]; exact hk82) hlk (t := .boolean) Bd.returns (by simp) (hb hby at_120) ?_ (by rw [e103]; exact C82.trans (CHv.at X103 hZ hEL C82.1)) (by decide) (by decide)
          rw [e103]
          refine ⟨⟨_, rfl, ?_⟩, N82⟩
          rfl
        ·
          refine own_st (T' := T103) (F' := (mkF m 89 #[.val (.int x0), .val (.int x1), .val (.long x2), .second, .val (.ref r1), .val (.ref r2), .val (.int (1 : Int32)), .val (.int (1 : Int32)), .val (.int (1 : Int32)), .unset] [(.int (0 : Int32))])) (fun _ k => XS.iconst X103.here hx rfl (hb hby at_88) k) ?_
          refine own_st (T' := T103) (F' := (mkF m 91 #[.val (.int x0), .val (.int x1), .val (.long x2), .second, .val (.ref r1), .val (.ref r2), .val (.int (1 : Int32)), .val (.int (1 : Int32)), .val (.int (1 : Int32)), .val (.int (0 : Int32))] [])) (fun _ k => XS.istore X103.here hx rfl (hb hby at_89) rfl (l' := #[.val (.int x0), .val (.int x1), .val (.long x2), .second, .val (.ref r1), .val (.ref r2), .val (.int (1 : Int32)), .val (.int (1 : Int32)), .val (.int (1 : Int32)), .val (.int (0 : Int32))]) rfl k) ?_
          refine own_st (T' := T103) (F' := (mkF m 93 #[.val (.int x0), .val (.int x1), .val (.long x2), .second, .val (.ref r1), .val (.ref r2), .val (.int (1 : Int32)), .val (.int (1 : Int32)), .val (.int (1 : Int32)), .val (.int (0 : Int32))] [(.int (1 : Int32))])) (fun _ k => XS.iload X103.here hx rfl (hb hby at_91) rfl  k) ?_
          refine own_st (T' := T103) (F' := (mkF m 95 #[.val (.int x0), .val (.int x1), .val (.long x2), .second, .val (.ref r1), .val (.ref r2), .val (.int (1 : Int32)), .val (.int (1 : Int32)), .val (.int (1 : Int32)), .val (.int (0 : Int32))] [(.int (1 : Int32)), (.int (1 : Int32))])) (fun _ k => XS.iload X103.here hx rfl (hb hby at_93) rfl  k) ?_
          refine own_icmp X103 hx (pc' := 119) (pc2 := 98) (hb hby at_95) (by decide) (by decide) rfl (fun (hc95 : ¬ ((1 : Int32) = (1 : Int32))) => ?_) (fun (hc95 : (1 : Int32) = (1 : Int32)) => ?_)
          · exact absurd hc95 (by decide)
          refine own_st (T' := T103) (F' := (mkF m 100 #[.val (.int x0), .val (.int x1), .val (.long x2), .second, .val (.ref r1), .val (.ref r2), .val (.int (1 : Int32)), .val (.int (1 : Int32)), .val (.int (1 : Int32)), .val (.int (0 : Int32))] [(.int (1 : Int32))])) (fun _ k => XS.iload X103.here hx rfl (hb hby at_98) rfl  k) ?_
          refine own_st (T' := T103) (F' := (mkF m 102 #[.val (.int x0), .val (.int x1), .val (.long x2), .second, .val (.ref r1), .val (.ref r2), .val (.int (1 : Int32)), .val (.int (1 : Int32)), .val (.int (1 : Int32)), .val (.int (0 : Int32))] [(.int (1 : Int32)), (.int (1 : Int32))])) (fun _ k => XS.iload X103.here hx rfl (hb hby at_100) rfl  k) ?_
          refine own_icmp X103 hx (pc' := 119) (pc2 := 105) (hb hby at_102) (by decide) (by decide) rfl (fun (hc102 : ¬ ((1 : Int32) = (1 : Int32))) => ?_) (fun (hc102 : (1 : Int32) = (1 : Int32)) => ?_)
          · exact absurd hc102 (by decide)
          refine own_st (T' := T103) (F' := (mkF m 107 #[.val (.int x0), .val (.int x1), .val (.long x2), .second, .val (.ref r1), .val (.ref r2), .val (.int (1 : Int32)), .val (.int (1 : Int32)), .val (.int (1 : Int32)), .val (.int (0 : Int32))] [(.int (1 : Int32))])) (fun _ k => XS.iload X103.here hx rfl (hb hby at_105) rfl  k) ?_
          refine own_ifc X103 hx (pc' := 115) (pc2 := 110) (hb hby at_107) (by decide) (by decide) rfl (fun (hc107 : ¬ ((1 : Int32) = (0 : Int32))) => ?_) (fun (hc107 : (1 : Int32) = (0 : Int32)) => ?_)
          rotate_left
          · exact absurd hc107 (by decide)
          refine own_st (T' := T103) (F' := (mkF m 116 #[.val (.int x0), .val (.int x1), .val (.long x2), .second, .val (.ref r1), .val (.ref r2), .val (.int (1 : Int32)), .val (.int (1 : Int32)), .val (.int (1 : Int32)), .val (.int (0 : Int32))] [(.int (1 : Int32))])) (fun _ k => XS.iconst X103.here hx rfl (hb hby at_115) k) ?_
          refine own_st (T' := T103) (F' := (mkF m 120 #[.val (.int x0), .val (.int x1), .val (.long x2), .second, .val (.ref r1), .val (.ref r2), .val (.int (1 : Int32)), .val (.int (1 : Int32)), .val (.int (1 : Int32)), .val (.int (0 : Int32))] [(.int (1 : Int32))])) (fun _ k => XS.goto X103.here hx rfl (pc0 := 116) (pc' := 120) rfl (hb hby at_116) (by decide) (by decide) k) ?_
          refine own_sretN X103 hx hS82 (by rw [e103]; exact hk82) hlk (t := .boolean) Bd.returns (by simp) (hb hby at_120) ?_ (by rw [e103]; exact C82.trans (CHv.at X103 hZ hEL C82.1)) (by decide) (by decide)
          rw [e103]
          refine ⟨⟨_, rfl, ?_⟩, N82⟩
          rfl
      ·
        exact absurd hr60 hc61
    ·
      exact absurd hr25 hc41
  ·
    have eK : Exa Z h0 r1 "com/example/fieldloom/fieldloom/Kind$4" := by rw [hk]; exact E_ka3
    refine own_st (T' := T1) (F' := (mkF m 12 #[.val (.int x0), .val (.int x1), .val (.long x2), .second, .val (.ref r1), .unset, .unset, .unset, .unset, .unset] [])) (fun _ k => XS.astore X1.here hx rfl (hb hby at_10) rfl rfl (l' := #[.val (.int x0), .val (.int x1), .val (.long x2), .second, .val (.ref r1), .unset, .unset, .unset, .unset, .unset]) rfl k) ?_
    refine own_st (T' := T1) (F' := (mkF m 13 #[.val (.int x0), .val (.int x1), .val (.long x2), .second, .val (.ref r1), .unset, .unset, .unset, .unset, .unset] [(.int x1)])) (fun _ k => XS.iloadN X1.here hx rfl (hb hby at_12) rfl  k) ?_
    refine own_st (T' := T1) (F' := (mkF m 15 #[.val (.int x0), .val (.int x1), .val (.long x2), .second, .val (.ref r1), .unset, .unset, .unset, .unset, .unset] [(.int (2147483647 : Int32)), (.int x1)])) (fun _ k => X1.ldcInt hx hown (mvT hZ (hw _ (List.mem_of_getElem? (i := 0) rfl))) (g := (mkF m 13 #[.val (.int x0), .val (.int x1), .val (.long x2), .second, .val (.ref r1), .unset, .unset, .unset, .unset, .unset] [(.int x1)])) rfl (hb hby at_13) _ k) ?_
    refine own_st (T' := T1) (F' := (mkF m 16 #[.val (.int x0), .val (.int x1), .val (.long x2), .second, .val (.ref r1), .unset, .unset, .unset, .unset, .unset] [(.int (x1 &&& (2147483647 : Int32)))])) (fun _ k => XS.iand X1.here hx rfl (hb hby at_15) rfl k) ?_
    refine own_st (T' := T1) (F' := (mkF m 17 #[.val (.int x0), .val (.int x1), .val (.long x2), .second, .val (.ref r1), .unset, .unset, .unset, .unset, .unset] [(.int (5 : Int32)), (.int (x1 &&& (2147483647 : Int32)))])) (fun _ k => XS.iconst X1.here hx rfl (hb hby at_16) k) ?_
    refine own_st (T' := T1) (F' := (mkF m 18 #[.val (.int x0), .val (.int x1), .val (.long x2), .second, .val (.ref r1), .unset, .unset, .unset, .unset, .unset] [(.int ((x1 &&& (2147483647 : Int32)) % (5 : Int32)))])) (fun _ k => iremM X1 hx rfl (hb hby at_17) rfl (by decide) k) ?_
    refine own_st (T' := T1) (F' := (mkF m 19 #[.val (.int x0), .val (.int x1), .val (.long x2), .second, .val (.ref r1), .unset, .unset, .unset, .unset, .unset] [(.long x2), (.int ((x1 &&& (2147483647 : Int32)) % (5 : Int32)))])) (fun _ k => XS.lloadN X1.here hx rfl (hb hby at_18) rfl  k) ?_
    obtain ⟨_, _, ⟨T104, L104, k104, n104⟩, -, X104, hSa104, hgr104, ⟨Lc104, hQ104, l104, y104, z104, C104a⟩, st104⟩ := callSS X1 hx (y := (⟨"com/example/fieldloom/fieldloom/KindIsFlagPinLaw", "draw", "(IJ)Ljava/lang/String;"⟩ : MethodName)) hown (mvT hZ (hw _ (List.mem_of_getElem? (i := 8) rfl))) (mvT hZ (hw _ (List.mem_of_getElem? (i := 9) rfl))) (mvT hZ (hw _ (List.mem_of_getElem? (i := 3) rfl))) (mvT hZ (hw _ (List.mem_of_getElem? (i := 10) rfl))) (by decide) (backOfSH (W := 0) (rm2 l Z a0 hw [] ((x1 &&& (2147483647 : Int32)) % (5 : Int32)) x2 cs h0 n0 Z0 S_cs hcs) hZ (hw _ (List.mem_of_getElem? (i := 10) rfl)) (hw _ (List.mem_of_getElem? (i := 3) rfl)) (by decide) (by decide) hEL C0.1) (g := (mkF m 19 #[.val (.int x0), .val (.int x1), .val (.long x2), .second, .val (.ref r1), .unset, .unset, .unset, .unset, .unset] [(.long x2), (.int ((x1 &&& (2147483647 : Int32)) % (5 : Int32)))])) rfl (by rw [hml]; rfl) (argsL := [(.int ((x1 &&& (2147483647 : Int32)) % (5 : Int32))), (.long x2)]) (rest := []) (lenOf own_pd14 rfl) rfl (by show 2 * 0 + _ ≤ _; exact Nat.le_of_eq rfl) (hb hby at_19) (fun _ _ => ⟨rfl, eq1, (by decide : 0 + 6 ≤ _), (by decide : 0 + 12 ≤ _)⟩)
    dsimp only [Pt.U, Pt.locs, Pt.cells, Pt.slots] at X104 l104 y104 z104 st104 hQ104 hSa104 hgr104 C104a
    subst l104 y104 z104
    have X104 := (show Stand p l e room_1 (s.setVm T104.vm) m #[(.int x0), (.int x1), (.long x2)] below meth c T104 _ _ _ from X104)
    have hS104 := foldS hS0 (by rw [eq1]; exact hk0) hSa104 hgr104
    have hk104 : T104.heap.size ≤ T104.heap.size := Nat.le_refl _
    have C104 := C0.trans C104a
    have hown : T104.vm.findClass "com/example/fieldloom/fieldloom/KindIsFlagPinLaw" = some m.cls := by rw [hSa104.1.alike.findClass]; exact hown
    have hZ : Z.Warmed39 (s.setVm T104.vm).vm := State.Warmed39.trans hZ hSa104.1
    obtain ⟨⟨r104, rfl, hr104⟩, Nq104, g104_0⟩ := hQ104
    have N104 := Fr.app N1 Nq104
    have f105 : Sta Z T104.heap "java/lang/String" "COMPACT_STRINGS" "Z" (.int cs) := own_stk S_cs g104_0 all0
    have f106 : Sta Z T104.heap "jdk/internal/util/Preconditions" "SIOOBE_FORMATTER" "Ljava/util/function/BiFunction;" fv := own_stk S_f g104_0 all0
    have f107 : Sta Z T104.heap "com/example/fieldloom/fieldloom/Flag" "UNKNOWN" "Lcom/example/fieldloom/fieldloom/Flag;" (.ref fU) := own_stk S_fU g104_0 all0
    have f108 : Sta Z T104.heap "com/example/fieldloom/fieldloom/Flag" "SET" "Lcom/example/fieldloom/fieldloom/Flag;" (.ref fS) := own_stk S_fS g104_0 all0
    have f109 : Sta Z T104.heap "com/example/fieldloom/fieldloom/Flag" "CLEAR" "Lcom/example/fieldloom/fieldloom/Flag;" (.ref fL) := own_stk S_fL g104_0 all0
    have f110 : Sta Z T104.heap "com/example/fieldloom/fieldloom/Kind" "BOOLEAN" "Lcom/example/fieldloom/fieldloom/Kind;" (.ref ka2) := own_stk S_ka2 g104_0 all0
    have f111 : Sta Z T104.heap "com/example/fieldloom/fieldloom/Kind" "RESTRICTION_FLAG" "Lcom/example/fieldloom/fieldloom/Kind;" (.ref ka3) := own_stk S_ka3 g104_0 all0
    have f112 : Exa Z T104.heap r1 "com/example/fieldloom/fieldloom/Kind$4" := eK.keep g104_0
    have K104 : Keep h0 T104.heap [] := (Keep.refl h0 []).trans g104_0 all0
    have Zs104 : n0 ≤ T104.heap.size := Nat.le_trans Z0 K104.1
    obtain ⟨sE104, sC104, sb104, sk104, sn104, sg104, sV104, sA104⟩ := hr104
    refine own_tr (T' := T104) (F' := (mkF m 22 #[.val (.int x0), .val (.int x1), .val (.long x2), .second, .val (.ref r1), .unset, .unset, .unset, .unset, .unset] [(.ref r104)])) st104 ?_
    refine own_st (T' := T104) (F' := (mkF m 24 #[.val (.int x0), .val (.int x1), .val (.long x2), .second, .val (.ref r1), .val (.ref r104), .unset, .unset, .unset, .unset] [])) (fun _ k => XS.astore X104.here hx rfl (hb hby at_22) rfl rfl (l' := #[.val (.int x0), .val (.int x1), .val (.long x2), .second, .val (.ref r1), .val (.ref r104), .unset, .unset, .unset, .unset]) rfl k) ?_
    refine own_st (T' := T104) (F' := (mkF m 26 #[.val (.int x0), .val (.int x1), .val (.long x2), .second, .val (.ref r1), .val (.ref r104), .unset, .unset, .unset, .unset] [(.ref r1)])) (fun _ k => XS.aload X104.here hx rfl (hb hby at_24) rfl rfl k) ?_
    obtain ⟨cq113, kq113, q113a, q113b, q113c⟩ := isOf hZ rfl f112
    obtain ⟨_, _, ⟨T113, L113, k113, n113⟩, -, X113, ⟨Lc113, hQ113, l113, y113, z113⟩, st113⟩ := X104.virtualBack hx (y := (⟨"com/example/fieldloom/fieldloom/Kind", "isFlag", "()Z"⟩ : MethodName)) (z := (⟨"com/example/fieldloom/fieldloom/Kind", "isFlag", "()Z"⟩ : MethodName)) hown (mvT hZ (hw _ (List.mem_of_getElem? (i := 42) rfl))) (mvT hZ (hw _ (List.mem_of_getElem? (i := 43) rfl))) (notFace_of_selects (args := #[]) (mvT hZ (hw _ (List.mem_of_getElem? (i := 98) rfl)))) (mvT hZ (hw _ (List.mem_of_getElem? (i := 98) rfl))) (mvT hZ (hw _ (List.mem_of_getElem? (i := 44) rfl))) (by decide) (backOf (W := 0) (rm9 l Z a0 hw [] r1 ka2 ka3 T104.heap n0 Zs104 f110 f111) hZ (hw _ (List.mem_of_getElem? (i := 46) rfl)) (hw _ (List.mem_of_getElem? (i := 6) rfl)) (by decide) (by decide)) q113a q113c (g := (mkF m 26 #[.val (.int x0), .val (.int x1), .val (.long x2), .second, .val (.ref r1), .val (.ref r104), .unset, .unset, .unset, .unset] [(.ref r1)])) rfl (by rw [hml]; rfl) (Steps.refl _) (argsL := []) (rest := []) (lenOf own_pd2 rfl) rfl (by show 2 * 0 + _ ≤ _; exact Nat.le_of_eq rfl) (hb hby at_26) (fun _ _ => ⟨rfl, rfl, (by decide : 6 + 0 ≤ _), (by decide : 12 + 0 ≤ _)⟩)
    dsimp only [Pt.U, Pt.locs, Pt.cells, Pt.slots] at X113 l113 y113 z113 st113 hQ113
    subst l113 y113 z113
    obtain ⟨⟨r113, rfl, hr113⟩, Nq113, eq113⟩ := hQ113
    have N113 := Fr.app N104 Nq113
    refine own_tr (T' := T113) (F' := (mkF m 29 #[.val (.int x0), .val (.int x1), .val (.long x2), .second, .val (.ref r1), .val (.ref r104), .unset, .unset, .unset, .unset] [(.int r113)])) st113 ?_
    obtain rfl : r113 = (1 : Int32) := hr113.1 (Or.inr hk)
    refine own_st (T' := T113) (F' := (mkF m 31 #[.val (.int x0), .val (.int x1), .val (.long x2), .second, .val (.ref r1), .val (.ref r104), .val (.int (1 : Int32)), .unset, .unset, .unset] [])) (fun _ k => XS.istore X113.here hx rfl (hb hby at_29) rfl (l' := #[.val (.int x0), .val (.int x1), .val (.long x2), .second, .val (.ref r1), .val (.ref r104), .val (.int (1 : Int32)), .unset, .unset, .unset]) rfl k) ?_
    refine own_st (T' := T113) (F' := (mkF m 33 #[.val (.int x0), .val (.int x1), .val (.long x2), .second, .val (.ref r1), .val (.ref r104), .val (.int (1 : Int32)), .unset, .unset, .unset] [(.ref r1)])) (fun _ k => XS.aload X113.here hx rfl (hb hby at_31) rfl rfl k) ?_
    obtain ⟨a114, T114, h114, k114, b114, kk114, X114, e114, E114, hS114, hk114, hZ, hown, A114, f114a, f114b, V114, lt114a, lt114b, C114a, Lt114, Sf114, st114⟩ := ldcCH X113 hx hZ hown (hw _ (List.mem_of_getElem? (i := 51) rfl)) wS eq113 hS104 hk104 hEL (List.mem_of_getElem? (i := 6) rfl) C104.1 (vs := (own_sT.map Value.int)) (z := (4 : Int32)) (own_lit6) (by decide) (by decide) (g := (mkF m 33 #[.val (.int x0), .val (.int x1), .val (.long x2), .second, .val (.ref r1), .val (.ref r104), .val (.int (1 : Int32)), .unset, .unset, .unset] [(.ref r1)])) rfl (hb hby at_33) (n := 16) (by decide) (by decide) (by decide) (by decide)
    have f115 : Sta Z h114 "java/lang/String" "COMPACT_STRINGS" "Z" (.int cs) := f105.ext E114
    have f116 : Sta Z h114 "jdk/internal/util/Preconditions" "SIOOBE_FORMATTER" "Ljava/util/function/BiFunction;" fv := f106.ext E114
    have f117 : Sta Z h114 "com/example/fieldloom/fieldloom/Flag" "UNKNOWN" "Lcom/example/fieldloom/fieldloom/Flag;" (.ref fU) := f107.ext E114
    have f118 : Sta Z h114 "com/example/fieldloom/fieldloom/Flag" "SET" "Lcom/example/fieldloom/fieldloom/Flag;" (.ref fS) := f108.ext E114
    have f119 : Sta Z h114 "com/example/fieldloom/fieldloom/Flag" "CLEAR" "Lcom/example/fieldloom/fieldloom/Flag;" (.ref fL) := f109.ext E114
    have f120 : Sta Z h114 "com/example/fieldloom/fieldloom/Kind" "BOOLEAN" "Lcom/example/fieldloom/fieldloom/Kind;" (.ref ka2) := f110.ext E114
    have f121 : Sta Z h114 "com/example/fieldloom/fieldloom/Kind" "RESTRICTION_FLAG" "Lcom/example/fieldloom/fieldloom/Kind;" (.ref ka3) := f111.ext E114
    have f122 : Exa Z h114 r1 "com/example/fieldloom/fieldloom/Kind$4" := f112.ext E114
    have f123 : Exa Z h114 r104 "java/lang/String" := sE104.ext E114
    have f124 : Fld Z h114 r104 "java/lang/String" "coder" "B" (.int (0 : Int32)) := sC104.ext E114
    have f125 : Fld Z h114 r104 "java/lang/String" "value" "[B" (.ref sb104) := sV104.ext E114
    have f126 : Arv Z h114 sb104 sk104 .byte sn104 (sg104.map Value.int) (.int (0 : Int32)) := sA104.ext E114
    have K114 : Keep h0 h114 [] := K104.ext E114
    have Zs114 : n0 ≤ h114.size := Nat.le_trans Z0 K114.1
    have C114 := C104.trans C114a
    refine own_st (T' := T114) (F' := (mkF m 35 #[.val (.int x0), .val (.int x1), .val (.long x2), .second, .val (.ref r1), .val (.ref r104), .val (.int (1 : Int32)), .unset, .unset, .unset] [(.ref a114), (.ref r1)])) (fun _ k => st114 _ k) ?_
    obtain ⟨cq127, kq127, q127a, q127b, q127c⟩ := isOf hZ e114 f122
    obtain ⟨_, _, ⟨T127, L127, k127, n127⟩, -, X127, hSa127, hgr127, ⟨Lc127, hQ127, l127, y127, z127, C127a⟩, st127⟩ := X114.virtualBackS hx (y := (⟨"com/example/fieldloom/fieldloom/Kind", "flag", "(Ljava/lang/CharSequence;)Lcom/example/fieldloom/fieldloom/Flag;"⟩ : MethodName)) (z := (⟨"com/example/fieldloom/fieldloom/Kind$4", "flag", "(Ljava/lang/CharSequence;)Lcom/example/fieldloom/fieldloom/Flag;"⟩ : MethodName)) hown (mvT hZ (hw _ (List.mem_of_getElem? (i := 54) rfl))) (mvT hZ (hw _ (List.mem_of_getElem? (i := 55) rfl))) (notFace_of_selects (args := #[]) (mvT hZ (hw _ (List.mem_of_getElem? (i := 57) rfl)))) (mvT hZ (hw _ (List.mem_of_getElem? (i := 99) rfl))) (mvT hZ (hw _ (List.mem_of_getElem? (i := 100) rfl))) (by decide) (backOfSH (W := 0) (rm11tT l Z a0 hw [] r1 a114 cs fv fU fS fL b114 kk114 h114 n0 Zs114 f115 hcs f116 hfv f117 f118 f119 A114 f114a f114b V114) hZ (hw _ (List.mem_of_getElem? (i := 102) rfl)) (hw _ (List.mem_of_getElem? (i := 101) rfl)) (by decide) (by decide) hEL C114.1) q127a q127c (g := (mkF m 35 #[.val (.int x0), .val (.int x1), .val (.long x2), .second, .val (.ref r1), .val (.ref r104), .val (.int (1 : Int32)), .unset, .unset, .unset] [(.ref a114), (.ref r1)])) rfl (by rw [hml]; rfl) (Steps.refl _) (argsL := [(.ref a114)]) (rest := []) (lenOf own_pd15 rfl) rfl (by show 2 * 0 + _ ≤ _; exact Nat.le_of_eq rfl) (hb hby at_35) (fun _ _ => ⟨rfl, e114, (by decide : 8 + 2 ≤ _), (by decide : 32 + 20 ≤ _)⟩)
    dsimp only [Pt.U, Pt.locs, Pt.cells, Pt.slots] at X127 l127 y127 z127 st127 hQ127 hSa127 hgr127 C127a
    subst l127 y127 z127
    have X127 := (show Stand p l e room_1 (s.setVm T127.vm) m #[(.int x0), (.int x1), (.long x2)] below meth c T127 _ _ _ from X127)
    have hS127 := foldS hS114 (by rw [e114]; exact hk114) hSa127 hgr127
    have hk127 : T127.heap.size ≤ T127.heap.size := Nat.le_refl _
    have C127 := C114.trans C127a
    have hown : T127.vm.findClass "com/example/fieldloom/fieldloom/KindIsFlagPinLaw" = some m.cls := by rw [hSa127.1.alike.findClass]; exact hown
    have hZ : Z.Warmed39 (s.setVm T127.vm).vm := State.Warmed39.trans hZ hSa127.1
    obtain ⟨⟨r127, rfl, hr127⟩, Nq127, g127_0⟩ := hQ127
    have N127 := Fr.app N113 Nq127
    have f128 : Sta Z T127.heap "java/lang/String" "COMPACT_STRINGS" "Z" (.int cs) := own_stk f115 g127_0 all0
    have f129 : Sta Z T127.heap "jdk/internal/util/Preconditions" "SIOOBE_FORMATTER" "Ljava/util/function/BiFunction;" fv := own_stk f116 g127_0 all0
    have f130 : Sta Z T127.heap "com/example/fieldloom/fieldloom/Flag" "UNKNOWN" "Lcom/example/fieldloom/fieldloom/Flag;" (.ref fU) := own_stk f117 g127_0 all0
    have f131 : Sta Z T127.heap "com/example/fieldloom/fieldloom/Flag" "SET" "Lcom/example/fieldloom/fieldloom/Flag;" (.ref fS) := own_stk f118 g127_0 all0
    have f132 : Sta Z T127.heap "com/example/fieldloom/fieldloom/Flag" "CLEAR" "Lcom/example/fieldloom/fieldloom/Flag;" (.ref fL) := own_stk f119 g127_0 all0
    have f133 : Sta Z T127.heap "com/example/fieldloom/fieldloom/Kind" "BOOLEAN" "Lcom/example/fieldloom/fieldloom/Kind;" (.ref ka2) := own_stk f120 g127_0 all0
    have f134 : Sta Z T127.heap "com/example/fieldloom/fieldloom/Kind" "RESTRICTION_FLAG" "Lcom/example/fieldloom/fieldloom/Kind;" (.ref ka3) := own_stk f121 g127_0 all0
    have f135 : Exa Z T127.heap r1 "com/example/fieldloom/fieldloom/Kind$4" := f122.keep g127_0
    have f136 : Exa Z T127.heap r104 "java/lang/String" := f123.keep g127_0
    have f137 : Fld Z T127.heap r104 "java/lang/String" "coder" "B" (.int (0 : Int32)) := f124.keep g127_0 nin0
    have f138 : Fld Z T127.heap r104 "java/lang/String" "value" "[B" (.ref sb104) := f125.keep g127_0 nin0
    have f139 : Arv Z T127.heap sb104 sk104 .byte sn104 (sg104.map Value.int) (.int (0 : Int32)) := f126.keep g127_0 nin0
    have f140 : Exa Z T127.heap a114 "java/lang/String" := A114.keep g127_0
    have f141 : Fld Z T127.heap a114 "java/lang/String" "coder" "B" (.int (0 : Int32)) := f114a.keep g127_0 nin0
    have f142 : Fld Z T127.heap a114 "java/lang/String" "value" "[B" (.ref b114) := f114b.keep g127_0 nin0
    have f143 : Arv Z T127.heap b114 kk114 .byte (4 : Int32) (own_sT.map Value.int) (.int (0 : Int32)) := V114.keep g127_0 nin0
    have K127 : Keep h0 T127.heap [] := K114.trans g127_0 all0
    have Zs127 : n0 ≤ T127.heap.size := Nat.le_trans Z0 K127.1
    refine own_tr (T' := T127) (F' := (mkF m 38 #[.val (.int x0), .val (.int x1), .val (.long x2), .second, .val (.ref r1), .val (.ref r104), .val (.int (1 : Int32)), .unset, .unset, .unset] [(.ref r127)])) st127 ?_
    obtain ⟨T144, X144, e144, st144⟩ := getS2 X127 hx hZ hown (host := "") (Or.inl (hw _ (List.mem_of_getElem? (i := 62) rfl))) Via.refl rfl f131 (g := (mkF m 38 #[.val (.int x0), .val (.int x1), .val (.long x2), .second, .val (.ref r1), .val (.ref r104), .val (.int (1 : Int32)), .unset, .unset, .unset] [(.ref r127)])) rfl (hb hby at_38)
    refine own_st (T' := T144) (F' := (mkF m 41 #[.val (.int x0), .val (.int x1), .val (.long x2), .second, .val (.ref r1), .val (.ref r104), .val (.int (1 : Int32)), .unset, .unset, .unset] [(.ref fS), (.ref r127)])) (fun _ k => st144 _ k) ?_
    refine own_acmp X144 hx (pc' := 48) (pc2 := 44) (hb hby at_41) (by decide) (by decide) rfl (fun (hc41 : r127 = fS) => ?_) (fun (hc41 : ¬ (r127 = fS)) => ?_)
    ·
      refine own_st (T' := T144) (F' := (mkF m 45 #[.val (.int x0), .val (.int x1), .val (.long x2), .second, .val (.ref r1), .val (.ref r104), .val (.int (1 : Int32)), .unset, .unset, .unset] [(.int (1 : Int32))])) (fun _ k => XS.iconst X144.here hx rfl (hb hby at_44) k) ?_
      refine own_st (T' := T144) (F' := (mkF m 49 #[.val (.int x0), .val (.int x1), .val (.long x2), .second, .val (.ref r1), .val (.ref r104), .val (.int (1 : Int32)), .unset, .unset, .unset] [(.int (1 : Int32))])) (fun _ k => XS.goto X144.here hx rfl (pc0 := 45) (pc' := 49) rfl (hb hby at_45) (by decide) (by decide) k) ?_
      refine own_st (T' := T144) (F' := (mkF m 51 #[.val (.int x0), .val (.int x1), .val (.long x2), .second, .val (.ref r1), .val (.ref r104), .val (.int (1 : Int32)), .val (.int (1 : Int32)), .unset, .unset] [])) (fun _ k => XS.istore X144.here hx rfl (hb hby at_49) rfl (l' := #[.val (.int x0), .val (.int x1), .val (.long x2), .second, .val (.ref r1), .val (.ref r104), .val (.int (1 : Int32)), .val (.int (1 : Int32)), .unset, .unset]) rfl k) ?_
      refine own_st (T' := T144) (F' := (mkF m 53 #[.val (.int x0), .val (.int x1), .val (.long x2), .second, .val (.ref r1), .val (.ref r104), .val (.int (1 : Int32)), .val (.int (1 : Int32)), .unset, .unset] [(.ref r1)])) (fun _ k => XS.aload X144.here hx rfl (hb hby at_51) rfl rfl k) ?_
      obtain ⟨a145, T145, h145, k145, b145, kk145, X145, e145, E145, hS145, hk145, hZ, hown, A145, f145a, f145b, V145, lt145a, lt145b, C145a, Lt145, Sf145, st145⟩ := ldcCH X144 hx hZ hown (hw _ (List.mem_of_getElem? (i := 64) rfl)) wS e144 hS127 hk127 hEL (List.mem_of_getElem? (i := 7) rfl) C127.1 (vs := (own_sF.map Value.int)) (z := (5 : Int32)) (own_lit7) (by decide) (by decide) (g := (mkF m 53 #[.val (.int x0), .val (.int x1), .val (.long x2), .second, .val (.ref r1), .val (.ref r104), .val (.int (1 : Int32)), .val (.int (1 : Int32)), .unset, .unset] [(.ref r1)])) rfl (hb hby at_53) (n := 20) (by decide) (by decide) (by decide) (by decide)
      have f146 : Sta Z h145 "java/lang/String" "COMPACT_STRINGS" "Z" (.int cs) := f128.ext E145
      have f147 : Sta Z h145 "jdk/internal/util/Preconditions" "SIOOBE_FORMATTER" "Ljava/util/function/BiFunction;" fv := f129.ext E145
      have f148 : Sta Z h145 "com/example/fieldloom/fieldloom/Flag" "UNKNOWN" "Lcom/example/fieldloom/fieldloom/Flag;" (.ref fU) := f130.ext E145
      have f149 : Sta Z h145 "com/example/fieldloom/fieldloom/Flag" "SET" "Lcom/example/fieldloom/fieldloom/Flag;" (.ref fS) := f131.ext E145
      have f150 : Sta Z h145 "com/example/fieldloom/fieldloom/Flag" "CLEAR" "Lcom/example/fieldloom/fieldloom/Flag;" (.ref fL) := f132.ext E145
      have f151 : Sta Z h145 "com/example/fieldloom/fieldloom/Kind" "BOOLEAN" "Lcom/example/fieldloom/fieldloom/Kind;" (.ref ka2) := f133.ext E145
      have f152 : Sta Z h145 "com/example/fieldloom/fieldloom/Kind" "RESTRICTION_FLAG" "Lcom/example/fieldloom/fieldloom/Kind;" (.ref ka3) := f134.ext E145
      have f153 : Exa Z h145 r1 "com/example/fieldloom/fieldloom/Kind$4" := f135.ext E145
      have f154 : Exa Z h145 r104 "java/lang/String" := f136.ext E145
      have f155 : Fld Z h145 r104 "java/lang/String" "coder" "B" (.int (0 : Int32)) := f137.ext E145
      have f156 : Fld Z h145 r104 "java/lang/String" "value" "[B" (.ref sb104) := f138.ext E145
      have f157 : Arv Z h145 sb104 sk104 .byte sn104 (sg104.map Value.int) (.int (0 : Int32)) := f139.ext E145
      have f158 : Exa Z h145 a114 "java/lang/String" := f140.ext E145
      have f159 : Fld Z h145 a114 "java/lang/String" "coder" "B" (.int (0 : Int32)) := f141.ext E145
      have f160 : Fld Z h145 a114 "java/lang/String" "value" "[B" (.ref b114) := f142.ext E145
      have f161 : Arv Z h145 b114 kk114 .byte (4 : Int32) (own_sT.map Value.int) (.int (0 : Int32)) := f143.ext E145
      have K145 : Keep h0 h145 [] := K127.ext E145
      have Zs145 : n0 ≤ h145.size := Nat.le_trans Z0 K145.1
      have C145 := C127.trans C145a
      refine own_st (T' := T145) (F' := (mkF m 55 #[.val (.int x0), .val (.int x1), .val (.long x2), .second, .val (.ref r1), .val (.ref r104), .val (.int (1 : Int32)), .val (.int (1 : Int32)), .unset, .unset] [(.ref a145), (.ref r1)])) (fun _ k => st145 _ k) ?_
      obtain ⟨cq162, kq162, q162a, q162b, q162c⟩ := isOf hZ e145 f153
      obtain ⟨_, _, ⟨T162, L162, k162, n162⟩, -, X162, hSa162, hgr162, ⟨Lc162, hQ162, l162, y162, z162, C162a⟩, st162⟩ := X145.virtualBackS hx (y := (⟨"com/example/fieldloom/fieldloom/Kind", "flag", "(Ljava/lang/CharSequence;)Lcom/example/fieldloom/fieldloom/Flag;"⟩ : MethodName)) (z := (⟨"com/example/fieldloom/fieldloom/Kind$4", "flag", "(Ljava/lang/CharSequence;)Lcom/example/fieldloom/fieldloom/Flag;"⟩ : MethodName)) hown (mvT hZ (hw _ (List.mem_of_getElem? (i := 54) rfl))) (mvT hZ (hw _ (List.mem_of_getElem? (i := 55) rfl))) (notFace_of_selects (args := #[]) (mvT hZ (hw _ (List.mem_of_getElem? (i := 57) rfl)))) (mvT hZ (hw _ (List.mem_of_getElem? (i := 99) rfl))) (mvT hZ (hw _ (List.mem_of_getElem? (i := 100) rfl))) (by decide) (backOfSH (W := 0) (rm11tF l Z a0 hw [] r1 a145 cs fv fU fS fL b145 kk145 h145 n0 Zs145 f146 hcs f147 hfv f148 f149 f150 A145 f145a f145b V145) hZ (hw _ (List.mem_of_getElem? (i := 102) rfl)) (hw _ (List.mem_of_getElem? (i := 101) rfl)) (by decide) (by decide) hEL C145.1) q162a q162c (g := (mkF m 55 #[.val (.int x0), .val (.int x1), .val (.long x2), .second, .val (.ref r1), .val (.ref r104), .val (.int (1 : Int32)), .val (.int (1 : Int32)), .unset, .unset] [(.ref a145), (.ref r1)])) rfl (by rw [hml]; rfl) (Steps.refl _) (argsL := [(.ref a145)]) (rest := []) (lenOf own_pd15 rfl) rfl (by show 2 * 0 + _ ≤ _; exact Nat.le_of_eq rfl) (hb hby at_55) (fun _ _ => ⟨rfl, e145, (by decide : 12 + 6 ≤ _), (by decide : 76 + 60 ≤ _)⟩)
      dsimp only [Pt.U, Pt.locs, Pt.cells, Pt.slots] at X162 l162 y162 z162 st162 hQ162 hSa162 hgr162 C162a
      subst l162 y162 z162
      have X162 := (show Stand p l e room_1 (s.setVm T162.vm) m #[(.int x0), (.int x1), (.long x2)] below meth c T162 _ _ _ from X162)
      have hS162 := foldS hS145 (by rw [e145]; exact hk145) hSa162 hgr162
      have hk162 : T162.heap.size ≤ T162.heap.size := Nat.le_refl _
      have C162 := C145.trans C162a
      have hown : T162.vm.findClass "com/example/fieldloom/fieldloom/KindIsFlagPinLaw" = some m.cls := by rw [hSa162.1.alike.findClass]; exact hown
      have hZ : Z.Warmed39 (s.setVm T162.vm).vm := State.Warmed39.trans hZ hSa162.1
      obtain ⟨⟨r162, rfl, hr162⟩, Nq162, g162_0⟩ := hQ162
      have N162 := Fr.app N127 Nq162
      have f163 : Sta Z T162.heap "java/lang/String" "COMPACT_STRINGS" "Z" (.int cs) := own_stk f146 g162_0 all0
      have f164 : Sta Z T162.heap "jdk/internal/util/Preconditions" "SIOOBE_FORMATTER" "Ljava/util/function/BiFunction;" fv := own_stk f147 g162_0 all0
      have f165 : Sta Z T162.heap "com/example/fieldloom/fieldloom/Flag" "UNKNOWN" "Lcom/example/fieldloom/fieldloom/Flag;" (.ref fU) := own_stk f148 g162_0 all0
      have f166 : Sta Z T162.heap "com/example/fieldloom/fieldloom/Flag" "SET" "Lcom/example/fieldloom/fieldloom/Flag;" (.ref fS) := own_stk f149 g162_0 all0
      have f167 : Sta Z T162.heap "com/example/fieldloom/fieldloom/Flag" "CLEAR" "Lcom/example/fieldloom/fieldloom/Flag;" (.ref fL) := own_stk f150 g162_0 all0
      have f168 : Sta Z T162.heap "com/example/fieldloom/fieldloom/Kind" "BOOLEAN" "Lcom/example/fieldloom/fieldloom/Kind;" (.ref ka2) := own_stk f151 g162_0 all0
      have f169 : Sta Z T162.heap "com/example/fieldloom/fieldloom/Kind" "RESTRICTION_FLAG" "Lcom/example/fieldloom/fieldloom/Kind;" (.ref ka3) := own_stk f152 g162_0 all0
      have f170 : Exa Z T162.heap r1 "com/example/fieldloom/fieldloom/Kind$4" := f153.keep g162_0
      have f171 : Exa Z T162.heap r104 "java/lang/String" := f154.keep g162_0
      have f172 : Fld Z T162.heap r104 "java/lang/String" "coder" "B" (.int (0 : Int32)) := f155.keep g162_0 nin0
      have f173 : Fld Z T162.heap r104 "java/lang/String" "value" "[B" (.ref sb104) := f156.keep g162_0 nin0
      have f174 : Arv Z T162.heap sb104 sk104 .byte sn104 (sg104.map Value.int) (.int (0 : Int32)) := f157.keep g162_0 nin0
      have f175 : Exa Z T162.heap a114 "java/lang/String" := f158.keep g162_0
      have f176 : Fld Z T162.heap a114 "java/lang/String" "coder" "B" (.int (0 : Int32)) := f159.keep g162_0 nin0
      have f177 : Fld Z T162.heap a114 "java/lang/String" "value" "[B" (.ref b114) := f160.keep g162_0 nin0
      have f178 : Arv Z T162.heap b114 kk114 .byte (4 : Int32) (own_sT.map Value.int) (.int (0 : Int32)) := f161.keep g162_0 nin0
      have f179 : Exa Z T162.heap a145 "java/lang/String" := A145.keep g162_0
      have f180 : Fld Z T162.heap a145 "java/lang/String" "coder" "B" (.int (0 : Int32)) := f145a.keep g162_0 nin0
      have f181 : Fld Z T162.heap a145 "java/lang/String" "value" "[B" (.ref b145) := f145b.keep g162_0 nin0
      have f182 : Arv Z T162.heap b145 kk145 .byte (5 : Int32) (own_sF.map Value.int) (.int (0 : Int32)) := V145.keep g162_0 nin0
      have K162 : Keep h0 T162.heap [] := K145.trans g162_0 all0
      have Zs162 : n0 ≤ T162.heap.size := Nat.le_trans Z0 K162.1
      refine own_tr (T' := T162) (F' := (mkF m 58 #[.val (.int x0), .val (.int x1), .val (.long x2), .second, .val (.ref r1), .val (.ref r104), .val (.int (1 : Int32)), .val (.int (1 : Int32)), .unset, .unset] [(.ref r162)])) st162 ?_
      obtain ⟨T183, X183, e183, st183⟩ := getS2 X162 hx hZ hown (host := "") (Or.inl (hw _ (List.mem_of_getElem? (i := 65) rfl))) Via.refl rfl f167 (g := (mkF m 58 #[.val (.int x0), .val (.int x1), .val (.long x2), .second, .val (.ref r1), .val (.ref r104), .val (.int (1 : Int32)), .val (.int (1 : Int32)), .unset, .unset] [(.ref r162)])) rfl (hb hby at_58)
      refine own_st (T' := T183) (F' := (mkF m 61 #[.val (.int x0), .val (.int x1), .val (.long x2), .second, .val (.ref r1), .val (.ref r104), .val (.int (1 : Int32)), .val (.int (1 : Int32)), .unset, .unset] [(.ref fL), (.ref r162)])) (fun _ k => st183 _ k) ?_
      refine own_acmp X183 hx (pc' := 68) (pc2 := 64) (hb hby at_61) (by decide) (by decide) rfl (fun (hc61 : r162 = fL) => ?_) (fun (hc61 : ¬ (r162 = fL)) => ?_)
      ·
        refine own_st (T' := T183) (F' := (mkF m 65 #[.val (.int x0), .val (.int x1), .val (.long x2), .second, .val (.ref r1), .val (.ref r104), .val (.int (1 : Int32)), .val (.int (1 : Int32)), .unset, .unset] [(.int (1 : Int32))])) (fun _ k => XS.iconst X183.here hx rfl (hb hby at_64) k) ?_
        refine own_st (T' := T183) (F' := (mkF m 69 #[.val (.int x0), .val (.int x1), .val (.long x2), .second, .val (.ref r1), .val (.ref r104), .val (.int (1 : Int32)), .val (.int (1 : Int32)), .unset, .unset] [(.int (1 : Int32))])) (fun _ k => XS.goto X183.here hx rfl (pc0 := 65) (pc' := 69) rfl (hb hby at_65) (by decide) (by decide) k) ?_
        refine own_st (T' := T183) (F' := (mkF m 71 #[.val (.int x0), .val (.int x1), .val (.long x2), .second, .val (.ref r1), .val (.ref r104), .val (.int (1 : Int32)), .val (.int (1 : Int32)), .val (.int (1 : Int32)), .unset] [])) (fun _ k => XS.istore X183.here hx rfl (hb hby at_69) rfl (l' := #[.val (.int x0), .val (.int x1), .val (.long x2), .second, .val (.ref r1), .val (.ref r104), .val (.int (1 : Int32)), .val (.int (1 : Int32)), .val (.int (1 : Int32)), .unset]) rfl k) ?_
        refine own_st (T' := T183) (F' := (mkF m 73 #[.val (.int x0), .val (.int x1), .val (.long x2), .second, .val (.ref r1), .val (.ref r104), .val (.int (1 : Int32)), .val (.int (1 : Int32)), .val (.int (1 : Int32)), .unset] [(.ref r1)])) (fun _ k => XS.aload X183.here hx rfl (hb hby at_71) rfl rfl k) ?_
        refine own_st (T' := T183) (F' := (mkF m 75 #[.val (.int x0), .val (.int x1), .val (.long x2), .second, .val (.ref r1), .val (.ref r104), .val (.int (1 : Int32)), .val (.int (1 : Int32)), .val (.int (1 : Int32)), .unset] [(.ref r104), (.ref r1)])) (fun _ k => XS.aload X183.here hx rfl (hb hby at_73) rfl rfl k) ?_
        obtain ⟨cq184, kq184, q184a, q184b, q184c⟩ := isOf hZ e183 f170
        obtain ⟨_, _, ⟨T184, L184, k184, n184⟩, -, X184, hSa184, hgr184, ⟨Lc184, hQ184, l184, y184, z184, C184a⟩, st184⟩ := X183.virtualBackS hx (y := (⟨"com/example/fieldloom/fieldloom/Kind", "flag", "(Ljava/lang/CharSequence;)Lcom/example/fieldloom/fieldloom/Flag;"⟩ : MethodName)) (z := (⟨"com/example/fieldloom/fieldloom/Kind$4", "flag", "(Ljava/lang/CharSequence;)Lcom/example/fieldloom/fieldloom/Flag;"⟩ : MethodName)) hown (mvT hZ (hw _ (List.mem_of_getElem? (i := 54) rfl))) (mvT hZ (hw _ (List.mem_of_getElem? (i := 55) rfl))) (notFace_of_selects (args := #[]) (mvT hZ (hw _ (List.mem_of_getElem? (i := 57) rfl)))) (mvT hZ (hw _ (List.mem_of_getElem? (i := 99) rfl))) (mvT hZ (hw _ (List.mem_of_getElem? (i := 100) rfl))) (by decide) (backOfSH (W := 0) (rm11ts l Z a0 hw [] r1 r104 cs fv fU fS fL sb104 sk104 sn104 sg104 T162.heap n0 Zs162 f163 hcs f164 hfv f165 f166 f167 f171 f172 f173 f174) hZ (hw _ (List.mem_of_getElem? (i := 102) rfl)) (hw _ (List.mem_of_getElem? (i := 101) rfl)) (by decide) (by decide) hEL C162.1) q184a q184c (g := (mkF m 75 #[.val (.int x0), .val (.int x1), .val (.long x2), .second, .val (.ref r1), .val (.ref r104), .val (.int (1 : Int32)), .val (.int (1 : Int32)), .val (.int (1 : Int32)), .unset] [(.ref r104), (.ref r1)])) rfl (by rw [hml]; rfl) (Steps.refl _) (argsL := [(.ref r104)]) (rest := []) (lenOf own_pd15 rfl) rfl (by show 2 * 0 + _ ≤ _; exact Nat.le_of_eq rfl) (hb hby at_75) (fun _ _ => ⟨rfl, e183, (by decide : 18 + 8 ≤ _), (by decide : 136 + 72 ≤ _)⟩)
        dsimp only [Pt.U, Pt.locs, Pt.cells, Pt.slots] at X184 l184 y184 z184 st184 hQ184 hSa184 hgr184 C184a
        subst l184 y184 z184
        have X184 := (show Stand p l e room_1 (s.setVm T184.vm) m #[(.int x0), (.int x1), (.long x2)] below meth c T184 _ _ _ from X184)
        have hS184 := foldS hS162 (by rw [e183]; exact hk162) hSa184 hgr184
        have hk184 : T184.heap.size ≤ T184.heap.size := Nat.le_refl _
        have C184 := C162.trans C184a
        have hown : T184.vm.findClass "com/example/fieldloom/fieldloom/KindIsFlagPinLaw" = some m.cls := by rw [hSa184.1.alike.findClass]; exact hown
        have hZ : Z.Warmed39 (s.setVm T184.vm).vm := State.Warmed39.trans hZ hSa184.1
        obtain ⟨⟨r184, rfl, hr184⟩, Nq184, g184_0⟩ := hQ184
        have N184 := Fr.app N162 Nq184
        have f185 : Sta Z T184.heap "java/lang/String" "COMPACT_STRINGS" "Z" (.int cs) := own_stk f163 g184_0 all0
        have f186 : Sta Z T184.heap "jdk/internal/util/Preconditions" "SIOOBE_FORMATTER" "Ljava/util/function/BiFunction;" fv := own_stk f164 g184_0 all0
        have f187 : Sta Z T184.heap "com/example/fieldloom/fieldloom/Flag" "UNKNOWN" "Lcom/example/fieldloom/fieldloom/Flag;" (.ref fU) := own_stk f165 g184_0 all0
        have f188 : Sta Z T184.heap "com/example/fieldloom/fieldloom/Flag" "SET" "Lcom/example/fieldloom/fieldloom/Flag;" (.ref fS) := own_stk f166 g184_0 all0
        have f189 : Sta Z T184.heap "com/example/fieldloom/fieldloom/Flag" "CLEAR" "Lcom/example/fieldloom/fieldloom/Flag;" (.ref fL) := own_stk f167 g184_0 all0
        have f190 : Sta Z T184.heap "com/example/fieldloom/fieldloom/Kind" "BOOLEAN" "Lcom/example/fieldloom/fieldloom/Kind;" (.ref ka2) := own_stk f168 g184_0 all0
        have f191 : Sta Z T184.heap "com/example/fieldloom/fieldloom/Kind" "RESTRICTION_FLAG" "Lcom/example/fieldloom/fieldloom/Kind;" (.ref ka3) := own_stk f169 g184_0 all0
        have f192 : Exa Z T184.heap r1 "com/example/fieldloom/fieldloom/Kind$4" := f170.keep g184_0
        have f193 : Exa Z T184.heap r104 "java/lang/String" := f171.keep g184_0
        have f194 : Fld Z T184.heap r104 "java/lang/String" "coder" "B" (.int (0 : Int32)) := f172.keep g184_0 nin0
        have f195 : Fld Z T184.heap r104 "java/lang/String" "value" "[B" (.ref sb104) := f173.keep g184_0 nin0
        have f196 : Arv Z T184.heap sb104 sk104 .byte sn104 (sg104.map Value.int) (.int (0 : Int32)) := f174.keep g184_0 nin0
        have f197 : Exa Z T184.heap a114 "java/lang/String" := f175.keep g184_0
        have f198 : Fld Z T184.heap a114 "java/lang/String" "coder" "B" (.int (0 : Int32)) := f176.keep g184_0 nin0
        have f199 : Fld Z T184.heap a114 "java/lang/String" "value" "[B" (.ref b114) := f177.keep g184_0 nin0
        have f200 : Arv Z T184.heap b114 kk114 .byte (4 : Int32) (own_sT.map Value.int) (.int (0 : Int32)) := f178.keep g184_0 nin0
        have f201 : Exa Z T184.heap a145 "java/lang/String" := f179.keep g184_0
        have f202 : Fld Z T184.heap a145 "java/lang/String" "coder" "B" (.int (0 : Int32)) := f180.keep g184_0 nin0
        have f203 : Fld Z T184.heap a145 "java/lang/String" "value" "[B" (.ref b145) := f181.keep g184_0 nin0
        have f204 : Arv Z T184.heap b145 kk145 .byte (5 : Int32) (own_sF.map Value.int) (.int (0 : Int32)) := f182.keep g184_0 nin0
        have K184 : Keep h0 T184.heap [] := K162.trans g184_0 all0
        have Zs184 : n0 ≤ T184.heap.size := Nat.le_trans Z0 K184.1
        refine own_tr (T' := T184) (F' := (mkF m 78 #[.val (.int x0), .val (.int x1), .val (.long x2), .second, .val (.ref r1), .val (.ref r104), .val (.int (1 : Int32)), .val (.int (1 : Int32)), .val (.int (1 : Int32)), .unset] [(.ref r184)])) st184 ?_
        obtain ⟨T205, X205, e205, st205⟩ := getS2 X184 hx hZ hown (host := "") (Or.inl (hw _ (List.mem_of_getElem? (i := 67) rfl))) Via.refl rfl f187 (g := (mkF m 78 #[.val (.int x0), .val (.int x1), .val (.long x2), .second, .val (.ref r1), .val (.ref r104), .val (.int (1 : Int32)), .val (.int (1 : Int32)), .val (.int (1 : Int32)), .unset] [(.ref r184)])) rfl (hb hby at_78)
        refine own_st (T' := T205) (F' := (mkF m 81 #[.val (.int x0), .val (.int x1), .val (.long x2), .second, .val (.ref r1), .val (.ref r104), .val (.int (1 : Int32)), .val (.int (1 : Int32)), .val (.int (1 : Int32)), .unset] [(.ref fU), (.ref r184)])) (fun _ k => st205 _ k) ?_
        refine own_acmp X205 hx (pc' := 88) (pc2 := 84) (hb hby at_81) (by decide) (by decide) rfl (fun (hc81 : r184 = fU) => ?_) (fun (hc81 : ¬ (r184 = fU)) => ?_)
        ·
          refine own_st (T' := T205) (F' := (mkF m 85 #[.val (.int x0), .val (.int x1), .val (.long x2), .second, .val (.ref r1), .val (.ref r104), .val (.int (1 : Int32)), .val (.int (1 : Int32)), .val (.int (1 : Int32)), .unset] [(.int (1 : Int32))])) (fun _ k => XS.iconst X205.here hx rfl (hb hby at_84) k) ?_
          refine own_st (T' := T205) (F' := (mkF m 89 #[.val (.int x0), .val (.int x1), .val (.long x2), .second, .val (.ref r1), .val (.ref r104), .val (.int (1 : Int32)), .val (.int (1 : Int32)), .val (.int (1 : Int32)), .unset] [(.int (1 : Int32))])) (fun _ k => XS.goto X205.here hx rfl (pc0 := 85) (pc' := 89) rfl (hb hby at_85) (by decide) (by decide) k) ?_
          refine own_st (T' := T205) (F' := (mkF m 91 #[.val (.int x0), .val (.int x1), .val (.long x2), .second, .val (.ref r1), .val (.ref r104), .val (.int (1 : Int32)), .val (.int (1 : Int32)), .val (.int (1 : Int32)), .val (.int (1 : Int32))] [])) (fun _ k => XS.istore X205.here hx rfl (hb hby at_89) rfl (l' := #[.val (.int x0), .val (.int x1), .val (.long x2), .second, .val (.ref r1), .val (.ref r104), .val (.int (1 : Int32)), .val (.int (1 : Int32)), .val (.int (1 : Int32)), .val (.int (1 : Int32))]) rfl k) ?_
          refine own_st (T' := T205) (F' := (mkF m 93 #[.val (.int x0), .val (.int x1), .val (.long x2), .second, .val (.ref r1), .val (.ref r104), .val (.int (1 : Int32)), .val (.int (1 : Int32)), .val (.int (1 : Int32)), .val (.int (1 : Int32))] [(.int (1 : Int32))])) (fun _ k => XS.iload X205.here hx rfl (hb hby at_91) rfl  k) ?_
          refine own_st (T' := T205) (F' := (mkF m 95 #[.val (.int x0), .val (.int x1), .val (.long x2), .second, .val (.ref r1), .val (.ref r104), .val (.int (1 : Int32)), .val (.int (1 : Int32)), .val (.int (1 : Int32)), .val (.int (1 : Int32))] [(.int (1 : Int32)), (.int (1 : Int32))])) (fun _ k => XS.iload X205.here hx rfl (hb hby at_93) rfl  k) ?_
          refine own_icmp X205 hx (pc' := 119) (pc2 := 98) (hb hby at_95) (by decide) (by decide) rfl (fun (hc95 : ¬ ((1 : Int32) = (1 : Int32))) => ?_) (fun (hc95 : (1 : Int32) = (1 : Int32)) => ?_)
          · exact absurd hc95 (by decide)
          refine own_st (T' := T205) (F' := (mkF m 100 #[.val (.int x0), .val (.int x1), .val (.long x2), .second, .val (.ref r1), .val (.ref r104), .val (.int (1 : Int32)), .val (.int (1 : Int32)), .val (.int (1 : Int32)), .val (.int (1 : Int32))] [(.int (1 : Int32))])) (fun _ k => XS.iload X205.here hx rfl (hb hby at_98) rfl  k) ?_
          refine own_st (T' := T205) (F' := (mkF m 102 #[.val (.int x0), .val (.int x1), .val (.long x2), .second, .val (.ref r1), .val (.ref r104), .val (.int (1 : Int32)), .val (.int (1 : Int32)), .val (.int (1 : Int32)), .val (.int (1 : Int32))] [(.int (1 : Int32)), (.int (1 : Int32))])) (fun _ k => XS.iload X205.here hx rfl (hb hby at_100) rfl  k) ?_
          refine own_icmp X205 hx (pc' := 119) (pc2 := 105) (hb hby at_102) (by decide) (by decide) rfl (fun (hc102 : ¬ ((1 : Int32) = (1 : Int32))) => ?_) (fun (hc102 : (1 : Int32) = (1 : Int32)) => ?_)
          · exact absurd hc102 (by decide)
          refine own_st (T' := T205) (F' := (mkF m 107 #[.val (.int x0), .val (.int x1), .val (.long x2), .second, .val (.ref r1), .val (.ref r104), .val (.int (1 : Int32)), .val (.int (1 : Int32)), .val (.int (1 : Int32)), .val (.int (1 : Int32))] [(.int (1 : Int32))])) (fun _ k => XS.iload X205.here hx rfl (hb hby at_105) rfl  k) ?_
          refine own_ifc X205 hx (pc' := 115) (pc2 := 110) (hb hby at_107) (by decide) (by decide) rfl (fun (hc107 : ¬ ((1 : Int32) = (0 : Int32))) => ?_) (fun (hc107 : (1 : Int32) = (0 : Int32)) => ?_)
          rotate_left
          · exact absurd hc107 (by decide)
          refine own_st (T' := T205) (F' := (mkF m 116 #[.val (.int x0), .val (.int x1), .val (.long x2), .second, .val (.ref r1), .val (.ref r104), .val (.int (1 : Int32)), .val (.int (1 : Int32)), .val (.int (1 : Int32)), .val (.int (1 : Int32))] [(.int (1 : Int32))])) (fun _ k => XS.iconst X205.here hx rfl (hb hby at_115) k) ?_
          refine own_st (T' := T205) (F' := (mkF m 120 #[.val (.int x0), .val (.int x1), .val (.long x2), .second, .val (.ref r1), .val (.ref r104), .val (.int (1 : Int32)), .val (.int (1 : Int32)), .val (.int (1 : Int32)), .val (.int (1 : Int32))] [(.int (1 : Int32))])) (fun _ k => XS.goto X205.here hx rfl (pc0 := 116) (pc' := 120) rfl (hb hby at_116) (by decide) (by decide) k) ?_
          refine own_sretN X205 hx hS184 (by rw [e205]; exact hk184) hlk (t := .boolean) Bd.returns (by simp) (hb hby at_120) ?_ (by rw [e205]; exact C184.trans (CHv.at X205 hZ hEL C184.1)) (by decide) (by decide)
          rw [e205]
          refine ⟨⟨_, rfl, ?_⟩, N184⟩
          rfl
        ·
          refine own_st (T' := T205) (F' := (mkF m 89 #[.val (.int x0), .val (.int x1), .val (.long x2), .second, .val (.ref r1), .val (.ref r104), .val (.int (1 : Int32)), .val (.int (1 : Int32)), .val (.int (1 : Int32)), .unset] [(.int (0 : Int32))])) (fun _ k => XS.iconst X205.here hx rfl (hb hby at_88) k) ?_
          refine own_st (T' := T205) (F' := (mkF m 91 #[.val (.int x0), .val (.int x1), .val (.long x2), .second, .val (.ref r1), .val (.ref r104), .val (.int (1 : Int32)), .val (.int (1 : Int32)), .val (.int (1 : Int32)), .val (.int (0 : Int32))] [])) (fun _ k => XS.istore X205.here hx rfl (hb hby at_89) rfl (l' := #[.val (.int x0), .val (.int x1), .val (.long x2), .second, .val (.ref r1), .val (.ref r104), .val (.int (1 : Int32)), .val (.int (1 : Int32)), .val (.int (1 : Int32)), .val (.int (0 : Int32))]) rfl k) ?_
          refine own_st (T' := T205) (F' := (mkF m 93 #[.val (.int x0), .val (.int x1), .val (.long x2), .second, .val (.ref r1), .val (.ref r104), .val (.int (1 : Int32)), .val (.int (1 : Int32)), .val (.int (1 : Int32)), .val (.int (0 : Int32))] [(.int (1 : Int32))])) (fun _ k => XS.iload X205.here hx rfl (hb hby at_91) rfl  k) ?_
          refine own_st (T' := T205) (F' := (mkF m 95 #[.val (.int x0), .val (.int x1), .val (.long x2), .second, .val (.ref r1), .val (.ref r104), .val (.int (1 : Int32)), .val (.int (1 : Int32)), .val (.int (1 : Int32)), .val (.int (0 : Int32))] [(.int (1 : Int32)), (.int (1 : Int32))])) (fun _ k => XS.iload X205.here hx rfl (hb hby at_93) rfl  k) ?_
          refine own_icmp X205 hx (pc' := 119) (pc2 := 98) (hb hby at_95) (by decide) (by decide) rfl (fun (hc95 : ¬ ((1 : Int32) = (1 : Int32))) => ?_) (fun (hc95 : (1 : Int32) = (1 : Int32)) => ?_)
          · exact absurd hc95 (by decide)
          refine own_st (T' := T205) (F' := (mkF m 100 #[.val (.int x0), .val (.int x1), .val (.long x2), .second, .val (.ref r1), .val (.ref r104), .val (.int (1 : Int32)), .val (.int (1 : Int32)), .val (.int (1 : Int32)), .val (.int (0 : Int32))] [(.int (1 : Int32))])) (fun _ k => XS.iload X205.here hx rfl (hb hby at_98) rfl  k) ?_
          refine own_st (T' := T205) (F' := (mkF m 102 #[.val (.int x0), .val (.int x1), .val (.long x2), .second, .val (.ref r1), .val (.ref r104), .val (.int (1 : Int32)), .val (.int (1 : Int32)), .val (.int (1 : Int32)), .val (.int (0 : Int32))] [(.int (1 : Int32)), (.int (1 : Int32))])) (fun _ k => XS.iload X205.here hx rfl (hb hby at_100) rfl  k) ?_
          refine own_icmp X205 hx (pc' := 119) (pc2 := 105) (hb hby at_102) (by decide) (by decide) rfl (fun (hc102 : ¬ ((1 : Int32) = (1 : Int32))) => ?_) (fun (hc102 : (1 : Int32) = (1 : Int32)) => ?_)
          · exact absurd hc102 (by decide)
          refine own_st (T' := T205) (F' := (mkF m 107 #[.val (.int x0), .val (.int x1), .val (.long x2), .second, .val (.ref r1), .val (.ref r104), .val (.int (1 : Int32)), .val (.int (1 : Int32)), .val (.int (1 : Int32)), .val (.int (0 : Int32))] [(.int (1 : Int32))])) (fun _ k => XS.iload X205.here hx rfl (hb hby at_105) rfl  k) ?_
          refine own_ifc X205 hx (pc' := 115) (pc2 := 110) (hb hby at_107) (by decide) (by decide) rfl (fun (hc107 : ¬ ((1 : Int32) = (0 : Int32))) => ?_) (fun (hc107 : (1 : Int32) = (0 : Int32)) => ?_)
          rotate_left
          · exact absurd hc107 (by decide)
          refine own_st (T' := T205) (F' := (mkF m 116 #[.val (.int x0), .val (.int x1), .val (.long x2), .second, .val (.ref r1), .val (.ref r104), .val (.int (1 : Int32)), .val (.int (1 : Int32)), .val (.int (1 : Int32)), .val (.int (0 : Int32))] [(.int (1 : Int32))])) (fun _ k => XS.iconst X205.here hx rfl (hb hby at_115) k) ?_
          refine own_st (T' := T205) (F' := (mkF m 120 #[.val (.int x0), .val (.int x1), .val (.long x2), .second, .val (.ref r1), .val (.ref r104), .val (.int (1 : Int32)), .val (.int (1 : Int32)), .val (.int (1 : Int32)), .val (.int (0 : Int32))] [(.int (1 : Int32))])) (fun _ k => XS.goto X205.here hx rfl (pc0 := 116) (pc' := 120) rfl (hb hby at_116) (by decide) (by decide) k) ?_
          refine own_sretN X205 hx hS184 (by rw [e205]; exact hk184) hlk (t := .boolean) Bd.returns (by simp) (hb hby at_120) ?_ (by rw [e205]; exact C184.trans (CHv.at X205 hZ hEL C184.1)) (by decide) (by decide)
          rw [e205]
          refine ⟨⟨_, rfl, ?_⟩, N184⟩
          rfl
      ·
        exact absurd hr162 hc61
    ·
      exact absurd hr127 hc41
  ·
    refine own_st (T' := T1) (F' := (mkF m 12 #[.val (.int x0), .val (.int x1), .val (.long x2), .second, .val (.ref r1), .unset, .unset, .unset, .unset, .unset] [])) (fun _ k => XS.astore X1.here hx rfl (hb hby at_10) rfl rfl (l' := #[.val (.int x0), .val (.int x1), .val (.long x2), .second, .val (.ref r1), .unset, .unset, .unset, .unset, .unset]) rfl k) ?_
    refine own_st (T' := T1) (F' := (mkF m 13 #[.val (.int x0), .val (.int x1), .val (.long x2), .second, .val (.ref r1), .unset, .unset, .unset, .unset, .unset] [(.int x1)])) (fun _ k => XS.iloadN X1.here hx rfl (hb hby at_12) rfl  k) ?_
    refine own_st (T' := T1) (F' := (mkF m 15 #[.val (.int x0), .val (.int x1), .val (.long x2), .second, .val (.ref r1), .unset, .unset, .unset, .unset, .unset] [(.int (2147483647 : Int32)), (.int x1)])) (fun _ k => X1.ldcInt hx hown (mvT hZ (hw _ (List.mem_of_getElem? (i := 0) rfl))) (g := (mkF m 13 #[.val (.int x0), .val (.int x1), .val (.long x2), .second, .val (.ref r1), .unset, .unset, .unset, .unset, .unset] [(.int x1)])) rfl (hb hby at_13) _ k) ?_
    refine own_st (T' := T1) (F' := (mkF m 16 #[.val (.int x0), .val (.int x1), .val (.long x2), .second, .val (.ref r1), .unset, .unset, .unset, .unset, .unset] [(.int (x1 &&& (2147483647 : Int32)))])) (fun _ k => XS.iand X1.here hx rfl (hb hby at_15) rfl k) ?_
    refine own_st (T' := T1) (F' := (mkF m 17 #[.val (.int x0), .val (.int x1), .val (.long x2), .second, .val (.ref r1), .unset, .unset, .unset, .unset, .unset] [(.int (5 : Int32)), (.int (x1 &&& (2147483647 : Int32)))])) (fun _ k => XS.iconst X1.here hx rfl (hb hby at_16) k) ?_
    refine own_st (T' := T1) (F' := (mkF m 18 #[.val (.int x0), .val (.int x1), .val (.long x2), .second, .val (.ref r1), .unset, .unset, .unset, .unset, .unset] [(.int ((x1 &&& (2147483647 : Int32)) % (5 : Int32)))])) (fun _ k => iremM X1 hx rfl (hb hby at_17) rfl (by decide) k) ?_
    refine own_st (T' := T1) (F' := (mkF m 19 #[.val (.int x0), .val (.int x1), .val (.long x2), .second, .val (.ref r1), .unset, .unset, .unset, .unset, .unset] [(.long x2), (.int ((x1 &&& (2147483647 : Int32)) % (5 : Int32)))])) (fun _ k => XS.lloadN X1.here hx rfl (hb hby at_18) rfl  k) ?_
    obtain ⟨_, _, ⟨T206, L206, k206, n206⟩, -, X206, hSa206, hgr206, ⟨Lc206, hQ206, l206, y206, z206, C206a⟩, st206⟩ := callSS X1 hx (y := (⟨"com/example/fieldloom/fieldloom/KindIsFlagPinLaw", "draw", "(IJ)Ljava/lang/String;"⟩ : MethodName)) hown (mvT hZ (hw _ (List.mem_of_getElem? (i := 8) rfl))) (mvT hZ (hw _ (List.mem_of_getElem? (i := 9) rfl))) (mvT hZ (hw _ (List.mem_of_getElem? (i := 3) rfl))) (mvT hZ (hw _ (List.mem_of_getElem? (i := 10) rfl))) (by decide) (backOfSH (W := 0) (rm2 l Z a0 hw [] ((x1 &&& (2147483647 : Int32)) % (5 : Int32)) x2 cs h0 n0 Z0 S_cs hcs) hZ (hw _ (List.mem_of_getElem? (i := 10) rfl)) (hw _ (List.mem_of_getElem? (i := 3) rfl)) (by decide) (by decide) hEL C0.1) (g := (mkF m 19 #[.val (.int x0), .val (.int x1), .val (.long x2), .second, .val (.ref r1), .unset, .unset, .unset, .unset, .unset] [(.long x2), (.int ((x1 &&& (2147483647 : Int32)) % (5 : Int32)))])) rfl (by rw [hml]; rfl) (argsL := [(.int ((x1 &&& (2147483647 : Int32)) % (5 : Int32))), (.long x2)]) (rest := []) (lenOf own_pd14 rfl) rfl (by show 2 * 0 + _ ≤ _; exact Nat.le_of_eq rfl) (hb hby at_19) (fun _ _ => ⟨rfl, eq1, (by decide : 0 + 6 ≤ _), (by decide : 0 + 12 ≤ _)⟩)
    dsimp only [Pt.U, Pt.locs, Pt.cells, Pt.slots] at X206 l206 y206 z206 st206 hQ206 hSa206 hgr206 C206a
    subst l206 y206 z206
    have X206 := (show Stand p l e room_1 (s.setVm T206.vm) m #[(.int x0), (.int x1), (.long x2)] below meth c T206 _ _ _ from X206)
    have hS206 := foldS hS0 (by rw [eq1]; exact hk0) hSa206 hgr206
    have hk206 : T206.heap.size ≤ T206.heap.size := Nat.le_refl _
    have C206 := C0.trans C206a
    have hown : T206.vm.findClass "com/example/fieldloom/fieldloom/KindIsFlagPinLaw" = some m.cls := by rw [hSa206.1.alike.findClass]; exact hown
    have hZ : Z.Warmed39 (s.setVm T206.vm).vm := State.Warmed39.trans hZ hSa206.1
    obtain ⟨⟨r206, rfl, hr206⟩, Nq206, g206_0⟩ := hQ206
    have N206 := Fr.app N1 Nq206
    have f207 : Sta Z T206.heap "java/lang/String" "COMPACT_STRINGS" "Z" (.int cs) := own_stk S_cs g206_0 all0
    have f208 : Sta Z T206.heap "jdk/internal/util/Preconditions" "SIOOBE_FORMATTER" "Ljava/util/function/BiFunction;" fv := own_stk S_f g206_0 all0
    have f209 : Sta Z T206.heap "com/example/fieldloom/fieldloom/Flag" "UNKNOWN" "Lcom/example/fieldloom/fieldloom/Flag;" (.ref fU) := own_stk S_fU g206_0 all0
    have f210 : Sta Z T206.heap "com/example/fieldloom/fieldloom/Flag" "SET" "Lcom/example/fieldloom/fieldloom/Flag;" (.ref fS) := own_stk S_fS g206_0 all0
    have f211 : Sta Z T206.heap "com/example/fieldloom/fieldloom/Flag" "CLEAR" "Lcom/example/fieldloom/fieldloom/Flag;" (.ref fL) := own_stk S_fL g206_0 all0
    have f212 : Sta Z T206.heap "com/example/fieldloom/fieldloom/Kind" "BOOLEAN" "Lcom/example/fieldloom/fieldloom/Kind;" (.ref ka2) := own_stk S_ka2 g206_0 all0
    have f213 : Sta Z T206.heap "com/example/fieldloom/fieldloom/Kind" "RESTRICTION_FLAG" "Lcom/example/fieldloom/fieldloom/Kind;" (.ref ka3) := own_stk S_ka3 g206_0 all0
    have f214 : Exa Z T206.heap r1 CC := eCC.keep g206_0
    have K206 : Keep h0 T206.heap [] := (Keep.refl h0 []).trans g206_0 all0
    have Zs206 : n0 ≤ T206.heap.size := Nat.le_trans Z0 K206.1
    obtain ⟨sE206, sC206, sb206, sk206, sn206, sg206, sV206, sA206⟩ := hr206
    refine own_tr (T' := T206) (F' := (mkF m 22 #[.val (.int x0), .val (.int x1), .val (.long x2), .second, .val (.ref r1), .unset, .unset, .unset, .unset, .unset] [(.ref r206)])) st206 ?_
    refine own_st (T' := T206) (F' := (mkF m 24 #[.val (.int x0), .val (.int x1), .val (.long x2), .second, .val (.ref r1), .val (.ref r206), .unset, .unset, .unset, .unset] [])) (fun _ k => XS.astore X206.here hx rfl (hb hby at_22) rfl rfl (l' := #[.val (.int x0), .val (.int x1), .val (.long x2), .second, .val (.ref r1), .val (.ref r206), .unset, .unset, .unset, .unset]) rfl k) ?_
    refine own_st (T' := T206) (F' := (mkF m 26 #[.val (.int x0), .val (.int x1), .val (.long x2), .second, .val (.ref r1), .val (.ref r206), .unset, .unset, .unset, .unset] [(.ref r1)])) (fun _ k => XS.aload X206.here hx rfl (hb hby at_24) rfl rfl k) ?_
    obtain ⟨cq215, kq215, q215a, q215b, q215c⟩ := isOf hZ rfl f214
    obtain ⟨_, _, ⟨T215, L215, k215, n215⟩, -, X215, ⟨Lc215, hQ215, l215, y215, z215⟩, st215⟩ := X206.virtualBack hx (y := (⟨"com/example/fieldloom/fieldloom/Kind", "isFlag", "()Z"⟩ : MethodName)) (z := (⟨"com/example/fieldloom/fieldloom/Kind", "isFlag", "()Z"⟩ : MethodName)) hown (mvT hZ (hw _ (List.mem_of_getElem? (i := 42) rfl))) (mvT hZ (hw _ (List.mem_of_getElem? (i := 43) rfl))) (notFace_of_selects (args := #[]) (mvT hZ s1)) (mvT hZ s1) (mvT hZ (hw _ (List.mem_of_getElem? (i := 44) rfl))) (by decide) (backOf (W := 0) (rm9 l Z a0 hw [] r1 ka2 ka3 T206.heap n0 Zs206 f212 f213) hZ (hw _ (List.mem_of_getElem? (i := 46) rfl)) (hw _ (List.mem_of_getElem? (i := 6) rfl)) (by decide) (by decide)) q215a q215c (g := (mkF m 26 #[.val (.int x0), .val (.int x1), .val (.long x2), .second, .val (.ref r1), .val (.ref r206), .unset, .unset, .unset, .unset] [(.ref r1)])) rfl (by rw [hml]; rfl) (Steps.refl _) (argsL := []) (rest := []) (lenOf own_pd2 rfl) rfl (by show 2 * 0 + _ ≤ _; exact Nat.le_of_eq rfl) (hb hby at_26) (fun _ _ => ⟨rfl, rfl, (by decide : 6 + 0 ≤ _), (by decide : 12 + 0 ≤ _)⟩)
    dsimp only [Pt.U, Pt.locs, Pt.cells, Pt.slots] at X215 l215 y215 z215 st215 hQ215
    subst l215 y215 z215
    obtain ⟨⟨r215, rfl, hr215⟩, Nq215, eq215⟩ := hQ215
    have N215 := Fr.app N206 Nq215
    refine own_tr (T' := T215) (F' := (mkF m 29 #[.val (.int x0), .val (.int x1), .val (.long x2), .second, .val (.ref r1), .val (.ref r206), .unset, .unset, .unset, .unset] [(.int r215)])) st215 ?_
    obtain rfl : r215 = (0 : Int32) := hr215.2 nB nR
    refine own_st (T' := T215) (F' := (mkF m 31 #[.val (.int x0), .val (.int x1), .val (.long x2), .second, .val (.ref r1), .val (.ref r206), .val (.int (0 : Int32)), .unset, .unset, .unset] [])) (fun _ k => XS.istore X215.here hx rfl (hb hby at_29) rfl (l' := #[.val (.int x0), .val (.int x1), .val (.long x2), .second, .val (.ref r1), .val (.ref r206), .val (.int (0 : Int32)), .unset, .unset, .unset]) rfl k) ?_
    refine own_st (T' := T215) (F' := (mkF m 33 #[.val (.int x0), .val (.int x1), .val (.long x2), .second, .val (.ref r1), .val (.ref r206), .val (.int (0 : Int32)), .unset, .unset, .unset] [(.ref r1)])) (fun _ k => XS.aload X215.here hx rfl (hb hby at_31) rfl rfl k) ?_
    obtain ⟨a216, T216, h216, k216, b216, kk216, X216, e216, E216, hS216, hk216, hZ, hown, A216, f216a, f216b, V216, lt216a, lt216b, C216a, Lt216, Sf216, st216⟩ := ldcCH X215 hx hZ hown (hw _ (List.mem_of_getElem? (i := 51) rfl)) wS eq215 hS206 hk206 hEL (List.mem_of_getElem? (i := 6) rfl) C206.1 (vs := (own_sT.map Value.int)) (z := (4 : Int32)) (own_lit6) (by decide) (by decide) (g := (mkF m 33 #[.val (.int x0), .val (.int x1), .val (.long x2), .second, .val (.ref r1), .val (.ref r206), .val (.int (0 : Int32)), .unset, .unset, .unset] [(.ref r1)])) rfl (hb hby at_33) (n := 16) (by decide) (by decide) (by decide) (by decide)
    have f217 : Sta Z h216 "java/lang/String" "COMPACT_STRINGS" "Z" (.int cs) := f207.ext E216
    have f218 : Sta Z h216 "jdk/internal/util/Preconditions" "SIOOBE_FORMATTER" "Ljava/util/function/BiFunction;" fv := f208.ext E216
    have f219 : Sta Z h216 "com/example/fieldloom/fieldloom/Flag" "UNKNOWN" "Lcom/example/fieldloom/fieldloom/Flag;" (.ref fU) := f209.ext E216
    have f220 : Sta Z h216 "com/example/fieldloom/fieldloom/Flag" "SET" "Lcom/example/fieldloom/fieldloom/Flag;" (.ref fS) := f210.ext E216
    have f221 : Sta Z h216 "com/example/fieldloom/fieldloom/Flag" "CLEAR" "Lcom/example/fieldloom/fieldloom/Flag;" (.ref fL) := f211.ext E216
    have f222 : Sta Z h216 "com/example/fieldloom/fieldloom/Kind" "BOOLEAN" "Lcom/example/fieldloom/fieldloom/Kind;" (.ref ka2) := f212.ext E216
    have f223 : Sta Z h216 "com/example/fieldloom/fieldloom/Kind" "RESTRICTION_FLAG" "Lcom/example/fieldloom/fieldloom/Kind;" (.ref ka3) := f213.ext E216
    have f224 : Exa Z h216 r1 CC := f214.ext E216
    have f225 : Exa Z h216 r206 "java/lang/String" := sE206.ext E216
    have f226 : Fld Z h216 r206 "java/lang/String" "coder" "B" (.int (0 : Int32)) := sC206.ext E216
    have f227 : Fld Z h216 r206 "java/lang/String" "value" "[B" (.ref sb206) := sV206.ext E216
    have f228 : Arv Z h216 sb206 sk206 .byte sn206 (sg206.map Value.int) (.int (0 : Int32)) := sA206.ext E216
    have K216 : Keep h0 h216 [] := K206.ext E216
    have Zs216 : n0 ≤ h216.size := Nat.le_trans Z0 K216.1
    have C216 := C206.trans C216a
    refine own_st (T' := T216) (F' := (mkF m 35 #[.val (.int x0), .val (.int x1), .val (.long x2), .second, .val (.ref r1), .val (.ref r206), .val (.int (0 : Int32)), .unset, .unset, .unset] [(.ref a216), (.ref r1)])) (fun _ k => st216 _ k) ?_
    obtain ⟨cq229, kq229, q229a, q229b, q229c⟩ := isOf hZ e216 f224
    obtain ⟨_, _, ⟨T229, L229, k229, n229⟩, -, X229, ⟨Lc229, hQ229, l229, y229, z229⟩, st229⟩ := X216.virtualBack hx (y := (⟨"com/example/fieldloom/fieldloom/Kind", "flag", "(Ljava/lang/CharSequence;)Lcom/example/fieldloom/fieldloom/Flag;"⟩ : MethodName)) (z := (⟨"com/example/fieldloom/fieldloom/Kind", "flag", "(Ljava/lang/CharSequence;)Lcom/example/fieldloom/fieldloom/Flag;"⟩ : MethodName)) hown (mvT hZ (hw _ (List.mem_of_getElem? (i := 54) rfl))) (mvT hZ (hw _ (List.mem_of_getElem? (i := 55) rfl))) (notFace_of_selects (args := #[]) (mvT hZ s2)) (mvT hZ s2) (mvT hZ (hw _ (List.mem_of_getElem? (i := 56) rfl))) (by decide) (backOf (W := 0) (rm10 l Z a0 hw [] r1 a216 fU h216 n0 Zs216 f219) hZ (hw _ (List.mem_of_getElem? (i := 58) rfl)) (hw _ (List.mem_of_getElem? (i := 6) rfl)) (by decide) (by decide)) q229a q229c (g := (mkF m 35 #[.val (.int x0), .val (.int x1), .val (.long x2), .second, .val (.ref r1), .val (.ref r206), .val (.int (0 : Int32)), .unset, .unset, .unset] [(.ref a216), (.ref r1)])) rfl (by rw [hml]; rfl) (Steps.refl _) (argsL := [(.ref a216)]) (rest := []) (lenOf own_pd15 rfl) rfl (by show 2 * 0 + _ ≤ _; exact Nat.le_of_eq rfl) (hb hby at_35) (fun _ _ => ⟨rfl, e216, (by decide : 8 + 0 ≤ _), (by decide : 32 + 0 ≤ _)⟩)
    dsimp only [Pt.U, Pt.locs, Pt.cells, Pt.slots] at X229 l229 y229 z229 st229 hQ229
    subst l229 y229 z229
    obtain ⟨rfl, Nq229, eq229⟩ := hQ229
    have N229 := Fr.app N215 Nq229
    refine own_tr (T' := T229) (F' := (mkF m 38 #[.val (.int x0), .val (.int x1), .val (.long x2), .second, .val (.ref r1), .val (.ref r206), .val (.int (0 : Int32)), .unset, .unset, .unset] [(.ref fU)])) st229 ?_
    obtain ⟨T230, X230, e230, st230⟩ := getS2 X229 hx hZ hown (host := "") (Or.inl (hw _ (List.mem_of_getElem? (i := 62) rfl))) Via.refl eq229 f220 (g := (mkF m 38 #[.val (.int x0), .val (.int x1), .val (.long x2), .second, .val (.ref r1), .val (.ref r206), .val (.int (0 : Int32)), .unset, .unset, .unset] [(.ref fU)])) rfl (hb hby at_38)
    refine own_st (T' := T230) (F' := (mkF m 41 #[.val (.int x0), .val (.int x1), .val (.long x2), .second, .val (.ref r1), .val (.ref r206), .val (.int (0 : Int32)), .unset, .unset, .unset] [(.ref fS), (.ref fU)])) (fun _ k => st230 _ k) ?_
    refine own_acmp X230 hx (pc' := 48) (pc2 := 44) (hb hby at_41) (by decide) (by decide) rfl (fun (hc41 : fU = fS) => ?_) (fun (hc41 : ¬ (fU = fS)) => ?_)
    ·
      exact absurd hc41 hUS
    ·
      refine own_st (T' := T230) (F' := (mkF m 49 #[.val (.int x0), .val (.int x1), .val (.long x2), .second, .val (.ref r1), .val (.ref r206), .val (.int (0 : Int32)), .unset, .unset, .unset] [(.int (0 : Int32))])) (fun _ k => XS.iconst X230.here hx rfl (hb hby at_48) k) ?_
      refine own_st (T' := T230) (F' := (mkF m 51 #[.val (.int x0), .val (.int x1), .val (.long x2), .second, .val (.ref r1), .val (.ref r206), .val (.int (0 : Int32)), .val (.int (0 : Int32)), .unset, .unset] [])) (fun _ k => XS.istore X230.here hx rfl (hb hby at_49) rfl (l' := #[.val (.int x0), .val (.int x1), .val (.long x2), .second, .val (.ref r1), .val (.ref r206), .val (.int (0 : Int32)), .val (.int (0 : Int32)), .unset, .unset]) rfl k) ?_
      refine own_st (T' := T230) (F' := (mkF m 53 #[.val (.int x0), .val (.int x1), .val (.long x2), .second, .val (.ref r1), .val (.ref r206), .val (.int (0 : Int32)), .val (.int (0 : Int32)), .unset, .unset] [(.ref r1)])) (fun _ k => XS.aload X230.here hx rfl (hb hby at_51) rfl rfl k) ?_
      obtain ⟨a231, T231, h231, k231, b231, kk231, X231, e231, E231, hS231, hk231, hZ, hown, A231, f231a, f231b, V231, lt231a, lt231b, C231a, Lt231, Sf231, st231⟩ := ldcCH X230 hx hZ hown (hw _ (List.mem_of_getElem? (i := 64) rfl)) wS e230 hS216 hk216 hEL (List.mem_of_getElem? (i := 7) rfl) C216.1 (vs := (own_sF.map Value.int)) (z := (5 : Int32)) (own_lit7) (by decide) (by decide) (g := (mkF m 53 #[.val (.int x0), .val (.int x1), .val (.long x2), .second, .val (.ref r1), .val (.ref r206), .val (.int (0 : Int32)), .val (.int (0 : Int32)), .unset, .unset] [(.ref r1)])) rfl (hb hby at_53) (n := 20) (by decide) (by decide) (by decide) (by decide)
      have f232 : Sta Z h231 "java/lang/String" "COMPACT_STRINGS" "Z" (.int cs) := f217.ext E231
      have f233 : Sta Z h231 "jdk/internal/util/Preconditions" "SIOOBE_FORMATTER" "Ljava/util/function/BiFunction;" fv := f218.ext E231
      have f234 : Sta Z h231 "com/example/fieldloom/fieldloom/Flag" "UNKNOWN" "Lcom/example/fieldloom/fieldloom/Flag;" (.ref fU) := f219.ext E231
      have f235 : Sta Z h231 "com/example/fieldloom/fieldloom/Flag" "SET" "Lcom/example/fieldloom/fieldloom/Flag;" (.ref fS) := f220.ext E231
      have f236 : Sta Z h231 "com/example/fieldloom/fieldloom/Flag" "CLEAR" "Lcom/example/fieldloom/fieldloom/Flag;" (.ref fL) := f221.ext E231
      have f237 : Sta Z h231 "com/example/fieldloom/fieldloom/Kind" "BOOLEAN" "Lcom/example/fieldloom/fieldloom/Kind;" (.ref ka2) := f222.ext E231
      have f238 : Sta Z h231 "com/example/fieldloom/fieldloom/Kind" "RESTRICTION_FLAG" "Lcom/example/fieldloom/fieldloom/Kind;" (.ref ka3) := f223.ext E231
      have f239 : Exa Z h231 r1 CC := f224.ext E231
      have f240 : Exa Z h231 r206 "java/lang/String" := f225.ext E231
      have f241 : Fld Z h231 r206 "java/lang/String" "coder" "B" (.int (0 : Int32)) := f226.ext E231
      have f242 : Fld Z h231 r206 "java/lang/String" "value" "[B" (.ref sb206) := f227.ext E231
      have f243 : Arv Z h231 sb206 sk206 .byte sn206 (sg206.map Value.int) (.int (0 : Int32)) := f228.ext E231
      have f244 : Exa Z h231 a216 "java/lang/String" := A216.ext E231
      have f245 : Fld Z h231 a216 "java/lang/String" "coder" "B" (.int (0 : Int32)) := f216a.ext E231
      have f246 : Fld Z h231 a216 "java/lang/String" "value" "[B" (.ref b216) := f216b.ext E231
      have f247 : Arv Z h231 b216 kk216 .byte (4 : Int32) (own_sT.map Value.int) (.int (0 : Int32)) := V216.ext E231
      have K231 : Keep h0 h231 [] := K216.ext E231
      have Zs231 : n0 ≤ h231.size := Nat.le_trans Z0 K231.1
      have C231 := C216.trans C231a
      refine own_st (T' := T231) (F' := (mkF m 55 #[.val (.int x0), .val (.int x1), .val (.long x2), .second, .val (.ref r1), .val (.ref r206), .val (.int (0 : Int32)), .val (.int (0 : Int32)), .unset, .unset] [(.ref a231), (.ref r1)])) (fun _ k => st231 _ k) ?_
      obtain ⟨cq248, kq248, q248a, q248b, q248c⟩ := isOf hZ e231 f239
      obtain ⟨_, _, ⟨T248, L248, k248, n248⟩, -, X248, ⟨Lc248, hQ248, l248, y248, z248⟩, st248⟩ := X231.virtualBack hx (y := (⟨"com/example/fieldloom/fieldloom/Kind", "flag", "(Ljava/lang/CharSequence;)Lcom/example/fieldloom/fieldloom/Flag;"⟩ : MethodName)) (z := (⟨"com/example/fieldloom/fieldloom/Kind", "flag", "(Ljava/lang/CharSequence;)Lcom/example/fieldloom/fieldloom/Flag;"⟩ : MethodName)) hown (mvT hZ (hw _ (List.mem_of_getElem? (i := 54) rfl))) (mvT hZ (hw _ (List.mem_of_getElem? (i := 55) rfl))) (notFace_of_selects (args := #[]) (mvT hZ s2)) (mvT hZ s2) (mvT hZ (hw _ (List.mem_of_getElem? (i := 56) rfl))) (by decide) (backOf (W := 0) (rm10 l Z a0 hw [] r1 a231 fU h231 n0 Zs231 f234) hZ (hw _ (List.mem_of_getElem? (i := 58) rfl)) (hw _ (List.mem_of_getElem? (i := 6) rfl)) (by decide) (by decide)) q248a q248c (g := (mkF m 55 #[.val (.int x0), .val (.int x1), .val (.long x2), .second, .val (.ref r1), .val (.ref r206), .val (.int (0 : Int32)), .val (.int (0 : Int32)), .unset, .unset] [(.ref a231), (.ref r1)])) rfl (by rw [hml]; rfl) (Steps.refl _) (argsL := [(.ref a231)]) (rest := []) (lenOf own_pd15 rfl) rfl (by show 2 * 0 + _ ≤ _; exact Nat.le_of_eq rfl) (hb hby at_55) (fun _ _ => ⟨rfl, e231, (by decide : 10 + 0 ≤ _), (by decide : 56 + 0 ≤ _)⟩)
      dsimp only [Pt.U, Pt.locs, Pt.cells, Pt.slots] at X248 l248 y248 z248 st248 hQ248
      subst l248 y248 z248
      obtain ⟨rfl, Nq248, eq248⟩ := hQ248
      have N248 := Fr.app N229 Nq248
      refine own_tr (T' := T248) (F' := (mkF m 58 #[.val (.int x0), .val (.int x1), .val (.long x2), .second, .val (.ref r1), .val (.ref r206), .val (.int (0 : Int32)), .val (.int (0 : Int32)), .unset, .unset] [(.ref fU)])) st248 ?_
      obtain ⟨T249, X249, e249, st249⟩ := getS2 X248 hx hZ hown (host := "") (Or.inl (hw _ (List.mem_of_getElem? (i := 65) rfl))) Via.refl eq248 f236 (g := (mkF m 58 #[.val (.int x0), .val (.int x1), .val (.long x2), .second, .val (.ref r1), .val (.ref r206), .val (.int (0 : Int32)), .val (.int (0 : Int32)), .unset, .unset] [(.ref fU)])) rfl (hb hby at_58)
      refine own_st (T' := T249) (F' := (mkF m 61 #[.val (.int x0), .val (.int x1), .val (.long x2), .second, .val (.ref r1), .val (.ref r206), .val (.int (0 : Int32)), .val (.int (0 : Int32)), .unset, .unset] [(.ref fL), (.ref fU)])) (fun _ k => st249 _ k) ?_
      refine own_acmp X249 hx (pc' := 68) (pc2 := 64) (hb hby at_61) (by decide) (by decide) rfl (fun (hc61 : fU = fL) => ?_) (fun (hc61 : ¬ (fU = fL)) => ?_)
      ·
        exact absurd hc61 hUL
      ·
        refine own_st (T' := T249) (F' := (mkF m 69 #[.val (.int x0), .val (.int x1), .val (.long x2), .second, .val (.ref r1), .val (.ref r206), .val (.int (0 : Int32)), .val (.int (0 : Int32)), .unset, .unset] [(.int (0 : Int32))])) (fun _ k => XS.iconst X249.here hx rfl (hb hby at_68) k) ?_
        refine own_st (T' := T249) (F' := (mkF m 71 #[.val (.int x0), .val (.int x1), .val (.long x2), .second, .val (.ref r1), .val (.ref r206), .val (.int (0 : Int32)), .val (.int (0 : Int32)), .val (.int (0 : Int32)), .unset] [])) (fun _ k => XS.istore X249.here hx rfl (hb hby at_69) rfl (l' := #[.val (.int x0), .val (.int x1), .val (.long x2), .second, .val (.ref r1), .val (.ref r206), .val (.int (0 : Int32)), .val (.int (0 : Int32)), .val (.int (0 : Int32)), .unset]) rfl k) ?_
        refine own_st (T' := T249) (F' := (mkF m 73 #[.val (.int x0), .val (.int x1), .val (.long x2), .second, .val (.ref r1), .val (.ref r206), .val (.int (0 : Int32)), .val (.int (0 : Int32)), .val (.int (0 : Int32)), .unset] [(.ref r1)])) (fun _ k => XS.aload X249.here hx rfl (hb hby at_71) rfl rfl k) ?_
        refine own_st (T' := T249) (F' := (mkF m 75 #[.val (.int x0), .val (.int x1), .val (.long x2), .second, .val (.ref r1), .val (.ref r206), .val (.int (0 : Int32)), .val (.int (0 : Int32)), .val (.int (0 : Int32)), .unset] [(.ref r206), (.ref r1)])) (fun _ k => XS.aload X249.here hx rfl (hb hby at_73) rfl rfl k) ?_
        obtain ⟨cq250, kq250, q250a, q250b, q250c⟩ := isOf hZ e249 f239
        obtain ⟨_, _, ⟨T250, L250, k250, n250⟩, -, X250, ⟨Lc250, hQ250, l250, y250, z250⟩, st250⟩ := X249.virtualBack hx (y := (⟨"com/example/fieldloom/fieldloom/Kind", "flag", "(Ljava/lang/CharSequence;)Lcom/example/fieldloom/fieldloom/Flag;"⟩ : MethodName)) (z := (⟨"com/example/fieldloom/fieldloom/Kind", "flag", "(Ljava/lang/CharSequence;)Lcom/example/fieldloom/fieldloom/Flag;"⟩ : MethodName)) hown (mvT hZ (hw _ (List.mem_of_getElem? (i := 54) rfl))) (mvT hZ (hw _ (List.mem_of_getElem? (i := 55) rfl))) (notFace_of_selects (args := #[]) (mvT hZ s2)) (mvT hZ s2) (mvT hZ (hw _ (List.mem_of_getElem? (i := 56) rfl))) (by decide) (backOf (W := 0) (rm10 l Z a0 hw [] r1 r206 fU h231 n0 Zs231 f234) hZ (hw _ (List.mem_of_getElem? (i := 58) rfl)) (hw _ (List.mem_of_getElem? (i := 6) rfl)) (by decide) (by decide)) q250a q250c (g := (mkF m 75 #[.val (.int x0), .val (.int x1), .val (.long x2), .second, .val (.ref r1), .val (.ref r206), .val (.int (0 : Int32)), .val (.int (0 : Int32)), .val (.int (0 : Int32)), .unset] [(.ref r206), (.ref r1)])) rfl (by rw [hml]; rfl) (Steps.refl _) (argsL := [(.ref r206)]) (rest := []) (lenOf own_pd15 rfl) rfl (by show 2 * 0 + _ ≤ _; exact Nat.le_of_eq rfl) (hb hby at_75) (fun _ _ => ⟨rfl, e249, (by decide : 10 + 0 ≤ _), (by decide : 56 + 0 ≤ _)⟩)
        dsimp only [Pt.U, Pt.locs, Pt.cells, Pt.slots] at X250 l250 y250 z250 st250 hQ250
        subst l250 y250 z250
        obtain ⟨rfl, Nq250, eq250⟩ := hQ250
        have N250 := Fr.app N248 Nq250
        refine own_tr (T' := T250) (F' := (mkF m 78 #[.val (.int x0), .val (.int x1), .val (.long x2), .second, .val (.ref r1), .val (.ref r206), .val (.int (0 : Int32)), .val (.int (0 : Int32)), .val (.int (0 : Int32)), .unset] [(.ref fU)])) st250 ?_
        obtain ⟨T251, X251, e251, st251⟩ := getS2 X250 hx hZ hown (host := "") (Or.inl (hw _ (List.mem_of_getElem? (i := 67) rfl))) Via.refl eq250 f234 (g := (mkF m 78 #[.val (.int x0), .val (.int x1), .val (.long x2), .second, .val (.ref r1), .val (.ref r206), .val (.int (0 : Int32)), .val (.int (0 : Int32)), .val (.int (0 : Int32)), .unset] [(.ref fU)])) rfl (hb hby at_78)
        refine own_st (T' := T251) (F' := (mkF m 81 #[.val (.int x0), .val (.int x1), .val (.long x2), .second, .val (.ref r1), .val (.ref r206), .val (.int (0 : Int32)), .val (.int (0 : Int32)), .val (.int (0 : Int32)), .unset] [(.ref fU), (.ref fU)])) (fun _ k => st251 _ k) ?_
        refine own_acmp X251 hx (pc' := 88) (pc2 := 84) (hb hby at_81) (by decide) (by decide) rfl (fun (hc81 : fU = fU) => ?_) (fun (hc81 : ¬ (fU = fU)) => ?_)
        ·
          refine own_st (T' := T251) (F' := (mkF m 85 #[.val (.int x0), .val (.int x1), .val (.long x2), .second, .val (.ref r1), .val (.ref r206), .val (.int (0 : Int32)), .val (.int (0 : Int32)), .val (.int (0 : Int32)), .unset] [(.int (1 : Int32))])) (fun _ k => XS.iconst X251.here hx rfl (hb hby at_84) k) ?_
          refine own_st (T' := T251) (F' := (mkF m 89 #[.val (.int x0), .val (.int x1), .val (.long x2), .second, .val (.ref r1), .val (.ref r206), .val (.int (0 : Int32)), .val (.int (0 : Int32)), .val (.int (0 : Int32)), .unset] [(.int (1 : Int32))])) (fun _ k => XS.goto X251.here hx rfl (pc0 := 85) (pc' := 89) rfl (hb hby at_85) (by decide) (by decide) k) ?_
          refine own_st (T' := T251) (F' := (mkF m 91 #[.val (.int x0), .val (.int x1), .val (.long x2), .second, .val (.ref r1), .val (.ref r206), .val (.int (0 : Int32)), .val (.int (0 : Int32)), .val (.int (0 : Int32)), .val (.int (1 : Int32))] [])) (fun _ k => XS.istore X251.here hx rfl (hb hby at_89) rfl (l' := #[.val (.int x0), .val (.int x1), .val (.long x2), .second, .val (.ref r1), .val (.ref r206), .val (.int (0 : Int32)), .val (.int (0 : Int32)), .val (.int (0 : Int32)), .val (.int (1 : Int32))]) rfl k) ?_
          refine own_st (T' := T251) (F' := (mkF m 93 #[.val (.int x0), .val (.int x1), .val (.long x2), .second, .val (.ref r1), .val (.ref r206), .val (.int (0 : Int32)), .val (.int (0 : Int32)), .val (.int (0 : Int32)), .val (.int (1 : Int32))] [(.int (0 : Int32))])) (fun _ k => XS.iload X251.here hx rfl (hb hby at_91) rfl  k) ?_
          refine own_st (T' := T251) (F' := (mkF m 95 #[.val (.int x0), .val (.int x1), .val (.long x2), .second, .val (.ref r1), .val (.ref r206), .val (.int (0 : Int32)), .val (.int (0 : Int32)), .val (.int (0 : Int32)), .val (.int (1 : Int32))] [(.int (0 : Int32)), (.int (0 : Int32))])) (fun _ k => XS.iload X251.here hx rfl (hb hby at_93) rfl  k) ?_
          refine own_icmp X251 hx (pc' := 119) (pc2 := 98) (hb hby at_95) (by decide) (by decide) rfl (fun (hc95 : ¬ ((0 : Int32) = (0 : Int32))) => ?_) (fun (hc95 : (0 : Int32) = (0 : Int32)) => ?_)
          · exact absurd hc95 (by decide)
          refine own_st (T' := T251) (F' := (mkF m 100 #[.val (.int x0), .val (.int x1), .val (.long x2), .second, .val (.ref r1), .val (.ref r206), .val (.int (0 : Int32)), .val (.int (0 : Int32)), .val (.int (0 : Int32)), .val (.int (1 : Int32))] [(.int (0 : Int32))])) (fun _ k => XS.iload X251.here hx rfl (hb hby at_98) rfl  k) ?_
          refine own_st (T' := T251) (F' := (mkF m 102 #[.val (.int x0), .val (.int x1), .val (.long x2), .second, .val (.ref r1), .val (.ref r206), .val (.int (0 : Int32)), .val (.int (0 : Int32)), .val (.int (0 : Int32)), .val (.int (1 : Int32))] [(.int (0 : Int32)), (.int (0 : Int32))])) (fun _ k => XS.iload X251.here hx rfl (hb hby at_100) rfl  k) ?_
          refine own_icmp X251 hx (pc' := 119) (pc2 := 105) (hb hby at_102) (by decide) (by decide) rfl (fun (hc102 : ¬ ((0 : Int32) = (0 : Int32))) => ?_) (fun (hc102 : (0 : Int32) = (0 : Int32)) => ?_)
          · exact absurd hc102 (by decide)
          refine own_st (T' := T251) (F' := (mkF m 107 #[.val (.int x0), .val (.int x1), .val (.long x2), .second, .val (.ref r1), .val (.ref r206), .val (.int (0 : Int32)), .val (.int (0 : Int32)), .val (.int (0 : Int32)), .val (.int (1 : Int32))] [(.int (0 : Int32))])) (fun _ k => XS.iload X251.here hx rfl (hb hby at_105) rfl  k) ?_
          refine own_ifc X251 hx (pc' := 115) (pc2 := 110) (hb hby at_107) (by decide) (by decide) rfl (fun (hc107 : ¬ ((0 : Int32) = (0 : Int32))) => ?_) (fun (hc107 : (0 : Int32) = (0 : Int32)) => ?_)
          · exact absurd hc107 (by decide)
          refine own_st (T' := T251) (F' := (mkF m 112 #[.val (.int x0), .val (.int x1), .val (.long x2), .second, .val (.ref r1), .val (.ref r206), .val (.int (0 : Int32)), .val (.int (0 : Int32)), .val (.int (0 : Int32)), .val (.int (1 : Int32))] [(.int (1 : Int32))])) (fun _ k => XS.iload X251.here hx rfl (hb hby at_110) rfl  k) ?_
          refine own_ifc X251 hx (pc' := 119) (pc2 := 115) (hb hby at_112) (by decide) (by decide) rfl (fun (hc112 : (1 : Int32) = (0 : Int32)) => ?_) (fun (hc112 : ¬ ((1 : Int32) = (0 : Int32))) => ?_)
          · exact absurd hc112 (by decide)
          refine own_st (T' := T251) (F' := (mkF m 116 #[.val (.int x0), .val (.int x1), .val (.long x2), .second, .val (.ref r1), .val (.ref r206), .val (.int (0 : Int32)), .val (.int (0 : Int32)), .val (.int (0 : Int32)), .val (.int (1 : Int32))] [(.int (1 : Int32))])) (fun _ k => XS.iconst X251.here hx rfl (hb hby at_115) k) ?_
          refine own_st (T' := T251) (F' := (mkF m 120 #[.val (.int x0), .val (.int x1), .val (.long x2), .second, .val (.ref r1), .val (.ref r206), .val (.int (0 : Int32)), .val (.int (0 : Int32)), .val (.int (0 : Int32)), .val (.int (1 : Int32))] [(.int (1 : Int32))])) (fun _ k => XS.goto X251.here hx rfl (pc0 := 116) (pc' := 120) rfl (hb hby at_116) (by decide) (by decide) k) ?_
          refine own_sretN X251 hx hS231 (by rw [e251]; exact hk231) hlk (t := .boolean) Bd.returns (by simp) (hb hby at_120) ?_ (by rw [e251]; exact C231.trans (CHv.at X251 hZ hEL C231.1)) (by decide) (by decide)
          rw [e251]
          refine ⟨⟨_, rfl, ?_⟩, N250⟩
          rfl
        ·
          exact absurd rfl hc81
set_option maxRecDepth 65536 in
set_option maxHeartbeats 40000000 in
theorem comes_1 {Post : Tables → Env → Array Value → State → Outcome → State → Prop} (hpost : ∀ tb e args s v u, (limb_1_1.after args s (.returned v) u = true ∧ limb_1_2.after args s (.returned v) u = true ∧ True) → ReturnedEndW s (.returned v) u (Jvm.fieldLocs frame_1_writes args s ++ Jvm.arrayLocs frame_1_arrays args s ++ Jvm.staticLocs frame_1_statics s) 32 9344 → Post tb e args s (.returned v) u) :
    ArmFor flags0 classFile x code maxLocals ret World_1 tables_1 room_1 Calls_1 rest_1 Pre_1 Post := by
  intro l hfl _ _ p e ha hc hk s m args below hf hA hF happ hP
  obtain ⟨hcalls, hrest, hpre⟩ := hP
  obtain ⟨-, -, -, hnamed, -, -, -, hat⟩ := (Spec.applies_iff hf).mp happ
  obtain ⟨hg, hn⟩ := and_e (Cond.before_iff.mp (show (Jvm.Cond.and given_1 narrow_1).before args s = true from hpre))
  obtain ⟨g0, hg0⟩ := and_e hg
  obtain ⟨g1, hg1⟩ := and_e hg0
  obtain ⟨g2, hg2⟩ := and_e hg1
  obtain ⟨w0, w1, w2, rfl⟩ : ∃ w0 w1 w2 : Value, args = #[w0, w1, w2] := by
    have hs : args.size = 3 := by simpa [Cond.value, given_1] using g0
    obtain ⟨L⟩ := args
    match L, hs with
    | [w0, w1, w2], _ => exact ⟨w0, w1, w2, rfl⟩
  have hw := fun d (hd : d ∈ tables_1) => atoms_spec (ws := Jvm.Cond.code x code maxLocals ret :: tables_1) hat d (List.mem_cons_of_mem _ hd)
  have hfit : Fit s := fun {y c} hc i hi => by
    obtain ⟨ha, rfl⟩ := Array.getElem?_eq_some_iff.mp hc
    have q := List.all_eq_true.mp ((Array.all_eq_true_iff_forall_mem.mp hF) _ (Array.getElem_mem ha)) i (List.mem_range.mpr hi)
    simpa [Array.getElem?_eq_getElem hi] using q
  obtain ⟨i0, ei0⟩ := is_v g1
  obtain rfl : w0 = (.int i0) := Option.some.inj ei0
  obtain ⟨i1, ei1⟩ := is_v g2
  obtain rfl : w1 = (.int i1) := Option.some.inj ei1
  obtain ⟨i2, ei2⟩ := isL_v hg2
  obtain rfl : w2 = (.long i2) := Option.some.inj ei2
  obtain ⟨nn0, hn0⟩ := and_e hn
  obtain ⟨nn1, hn1⟩ := and_e hn0
  obtain ⟨nn2, hn2⟩ := and_e hn1
  obtain ⟨nn3, hn3⟩ := and_e hn2
  obtain ⟨nn4, hn4⟩ := and_e hn3
  obtain ⟨nn5, hn5⟩ := and_e hn4
  obtain ⟨nn6, hn6⟩ := and_e hn5
  obtain ⟨nn7, hn7⟩ := and_e hn6
  obtain ⟨nn8, hn8⟩ := and_e hn7
  obtain ⟨nn9, hn9⟩ := and_e hn8
  obtain ⟨nn10, hn10⟩ := and_e hn9
  obtain ⟨nn11, hn11⟩ := and_e hn10
  obtain ⟨nn12, hn12⟩ := and_e hn11
  obtain ⟨nn13, hn13⟩ := and_e hn12
  obtain ⟨nn14, hn14⟩ := and_e hn13
  obtain ⟨nn15, hn15⟩ := and_e hn14
  obtain ⟨nn16, hn16⟩ := and_e hn15
  obtain ⟨nn17, hn17⟩ := and_e hn16
  have nn18 := hn17
  obtain ⟨ae0, ev0⟩ := exa_v nn0
  have SE0 := Sta.start ev0 (Or.inr ⟨(hw _ (List.mem_of_getElem? (i := 6) rfl)), (hw _ (List.mem_of_getElem? (i := 7) rfl))⟩)
  have EE0 := Exa.start ev0 nn0
  obtain ⟨ae1, ev1⟩ := exa_v nn1
  have SE1 := Sta.start ev1 (Or.inr ⟨(hw _ (List.mem_of_getElem? (i := 6) rfl)), (hw _ (List.mem_of_getElem? (i := 48) rfl))⟩)
  have EE1 := Exa.start ev1 nn1
  obtain ⟨ae2, ev2⟩ := exa_v nn2
  have SE2 := Sta.start ev2 (Or.inr ⟨(hw _ (List.mem_of_getElem? (i := 6) rfl)), (hw _ (List.mem_of_getElem? (i := 50) rfl))⟩)
  have EE2 := Exa.start ev2 nn2
  obtain ⟨ae3, ev3⟩ := exa_v nn3
  have SE3 := Sta.start ev3 (Or.inr ⟨(hw _ (List.mem_of_getElem? (i := 60) rfl)), (hw _ (List.mem_of_getElem? (i := 61) rfl))⟩)
  have EE3 := Exa.start ev3 nn3
  obtain ⟨ae4, ev4⟩ := exa_v nn4
  have SE4 := Sta.start ev4 (Or.inr ⟨(hw _ (List.mem_of_getElem? (i := 60) rfl)), (hw _ (List.mem_of_getElem? (i := 63) rfl))⟩)
  have EE4 := Exa.start ev4 nn4
  obtain ⟨ae5, ev5⟩ := exa_v nn7
  have SE5 := Sta.start ev5 (Or.inr ⟨(hw _ (List.mem_of_getElem? (i := 60) rfl)), (hw _ (List.mem_of_getElem? (i := 66) rfl))⟩)
  have EE5 := Exa.start ev5 nn7
  obtain ⟨ae6, ev6⟩ := exa_v nn9
  have SE6 := Sta.start ev6 (Or.inr ⟨(hw _ (List.mem_of_getElem? (i := 6) rfl)), (hw _ (List.mem_of_getElem? (i := 69) rfl))⟩)
  have EE6 := Exa.start ev6 nn9
  obtain ⟨ae7, ev7⟩ := exa_v nn10
  have SE7 := Sta.start ev7 (Or.inr ⟨(hw _ (List.mem_of_getElem? (i := 6) rfl)), (hw _ (List.mem_of_getElem? (i := 73) rfl))⟩)
  have EE7 := Exa.start ev7 nn10
  obtain ⟨ae8, ev8⟩ := exa_v nn11
  have SE8 := Sta.start ev8 (Or.inr ⟨(hw _ (List.mem_of_getElem? (i := 6) rfl)), (hw _ (List.mem_of_getElem? (i := 77) rfl))⟩)
  have EE8 := Exa.start ev8 nn11
  obtain ⟨ae9, ev9⟩ := exa_v nn12
  have SE9 := Sta.start ev9 (Or.inr ⟨(hw _ (List.mem_of_getElem? (i := 6) rfl)), (hw _ (List.mem_of_getElem? (i := 81) rfl))⟩)
  have EE9 := Exa.start ev9 nn12
  obtain ⟨ae10, ev10⟩ := exa_v nn13
  have SE10 := Sta.start ev10 (Or.inr ⟨(hw _ (List.mem_of_getElem? (i := 6) rfl)), (hw _ (List.mem_of_getElem? (i := 85) rfl))⟩)
  have EE10 := Exa.start ev10 nn13
  obtain ⟨ae11, ev11⟩ := exa_v nn14
  have SE11 := Sta.start ev11 (Or.inr ⟨(hw _ (List.mem_of_getElem? (i := 6) rfl)), (hw _ (List.mem_of_getElem? (i := 90) rfl))⟩)
  have EE11 := Exa.start ev11 nn14
  obtain ⟨ae12, ev12⟩ := exa_v nn15
  have SE12 := Sta.start ev12 (Or.inr ⟨(hw _ (List.mem_of_getElem? (i := 6) rfl)), (hw _ (List.mem_of_getElem? (i := 94) rfl))⟩)
  have EE12 := Exa.start ev12 nn15
  obtain ⟨ae13, ev13⟩ := exa_v nn16
  have SE13 := Sta.start ev13 (Or.inr ⟨(hw _ (List.mem_of_getElem? (i := 6) rfl)), (hw _ (List.mem_of_getElem? (i := 159) rfl))⟩)
  have EE13 := Exa.start ev13 nn16
  obtain ⟨ae14, ev14⟩ := exa_v nn17
  have SE14 := Sta.start ev14 (Or.inr ⟨(hw _ (List.mem_of_getElem? (i := 6) rfl)), (hw _ (List.mem_of_getElem? (i := 175) rfl))⟩)
  have EE14 := Exa.start ev14 nn17
  obtain ⟨ae15, ev15⟩ := exa_v nn18
  have SE15 := Sta.start ev15 (Or.inr ⟨(hw _ (List.mem_of_getElem? (i := 6) rfl)), (hw _ (List.mem_of_getElem? (i := 179) rfl))⟩)
  have EE15 := Exa.start ev15 nn18
  have OE3 := own_ord ev3 nn5
  have OE4 := own_ord ev4 nn6
  have OE5 := own_ord ev5 nn8
  obtain ⟨hsets, hown0⟩ := atoms_of _ (rest_1_c_eq ▸ (show rest_1_c.before _ s = true from hrest))
  obtain ⟨cs, ecs⟩ := is_v (Cond.before_iff.mp (hsets _ (List.mem_of_getElem? (i := 1) rfl)))
  have Scs : Sta s s.heap "java/lang/String" "COMPACT_STRINGS" "Z" (.int cs) := Sta.start ecs (Or.inl (hsets _ (List.mem_of_getElem? (i := 0) rfl)))
  have hcs : ¬ (cs = 0) := gotF (Cond.eq_ints ecs (Term.int_eval (0))) (not_v (Cond.before_iff.mp (hsets _ (List.mem_of_getElem? (i := 2) rfl))))
  obtain ⟨fv, efv, hfv⟩ := isR_v (Cond.before_iff.mp (hsets _ (List.mem_of_getElem? (i := 8) rfl)))
  have Sfv := Sta.start efv (Or.inl (hsets _ (List.mem_of_getElem? (i := 7) rfl)))
  obtain ⟨n, o, h1, h2, h3, _, L, rfl, ⟨⟨_, rfl, rfl⟩, N⟩, _, hq⟩ := rm0 l s _ hw tables_1 i0 i1 i2 cs fv ae3 ae4 ae5 ae0 ae7 ae1 ae2 ae9 ae15 ae12 ae14 ae11 ae13 ae8 ae10 ae6 s.heap s.heap.size (Nat.le_refl _) Scs hcs Sfv hfv SE3 SE4 SE5 SE0 SE7 SE1 SE2 SE9 SE15 SE12 SE14 SE11 SE13 SE8 SE10 SE6 EE0 EE7 EE1 EE2 EE9 EE15 EE12 EE14 EE11 EE13 EE8 EE10 EE6 (Fld.ne OE3 OE4 (by decide)) (Fld.ne OE3 OE5 (by decide)) p e ha hc hk s m _ below hf ((Spec.applies_iff_loose hf).mp happ).1 ⟨rfl, State.Warmed39.refl s, rfl, CHv.start (own_hEL hw) (fun p hp => hcalls.1 p hp) (hsets _ (List.mem_of_getElem? (i := 2) rfl)) (hw _ (List.mem_of_getElem? (i := 31) rfl)) (hw _ (List.mem_of_getElem? (i := 13) rfl))⟩ trivial
  refine ⟨n, _, h1, h2, h3, hpost _ _ _ _ _ _ ⟨Cond.after_iff.mpr rfl, Cond.after_iff.mpr (eq_i res_at (Term.int_eval (1)) rfl), trivial⟩ ⟨hq.1, hq.2.1, hq.2.2.1, (hq.2.2.2.sift fun y hy => Or.inr (N y hy)).mono (by decide) (by decide)⟩⟩
theorem main_1_1 : Claimed_1_1 := comes_1 fun _ _ _ _ _ _ h hF => ⟨h.1, hF⟩
theorem main_1_2 : Claimed_1_2 := comes_1 fun _ _ _ _ _ _ h hF => ⟨h.2.1, hF⟩
end Jvm.Pilot.@@N@@
namespace Jvm.Pilot.@@N@@
open Jvm Jvm.ClassFile Sem Op Lib Jvm.Free Jvm.Stand Jvm.Pilot.@@N@@.Jvm.D
/-! MADE BY PROGRAM (witnessworld.py) out of the Statement's table words and the real class files: 35 classes; the members and pool entries that the words name. The judged class is class 1, her method 1. -/
namespace start1
open Jvm.ClassFile
def u (s : String) : CpInfo := .utf8 (stringToUtf16 s)
/-- a pool by its gaps: so many unusable entries, then the entry; so many at the end -/
def gap : Nat → List CpInfo → List CpInfo
  | 0, r => r
  | n + 1, r => .unusable :: gap n r
def poolList (es : List (Nat × CpInfo)) (last : Nat) : List CpInfo := es.foldr (fun e r => gap e.1 (e.2 :: r)) (gap last [])
def pool (es : List (Nat × CpInfo)) (last : Nat) : Array CpInfo := ⟨poolList es last⟩
def fileOf (pool : Array CpInfo) (this : Nat) (attrs : Array Attribute := #[]) (ms : Array MethodInfo := #[]) (fl : Nat := 33) (sup : Nat := 0) (ifs : Array Nat := #[]) (fds : Array FieldInfo := #[]) : ClassFile where
  minorVersion := 0
  majorVersion := 65
  constantPool := pool
  accessFlags := fl
  thisClass := this
  superClass := sup
  interfaces := ifs
  fields := fds
  methods := ms
  attributes := attrs
def plain (name : String) (sup : Option ClassId) : Class where
  name := name
  kind := .ordinary
  loader := none
  accessFlags := 33
  super := sup
  interfaces := #[]
  cf := none
  fields := #[]
  methods := #[]
  instanceTypes := #[]
  staticTypes := #[]
  resolved := #[]
  callSites := []
  init := .initialized
  statics := none
  mirror := none

def pool0 : Array CpInfo := pool [(5, u "<init>"), (0, u "()V"), (1, .class_ 10), (1, u "java/lang/Object")] 113

def k0c0 : Code := { maxStack := 0, maxLocals := 1, code := object_method_1_code, exceptionTable := #[], attributes := #[] }
def k0m0 : Method := { name := "<init>", desc := "()V", sig := { parameters := [], returnType := none }, accessFlags := 1, code := some k0c0 }
/-- java/lang/Object -/
def k0 : Class := { plain "java/lang/Object" none with
  accessFlags := 33
  interfaces := #[]
  cf := some (fileOf pool0 8 #[] #[{ accessFlags := 1, nameIndex := 5, descriptorIndex := 6, attributes := #[] }] 33 0 #[] #[])
  fields := #[]
  methods := #[k0m0]
  instanceTypes := #[]
  staticTypes := #[]
  resolved := Array.replicate 124 none
  statics := none }

def pool1 : Array CpInfo := pool [(2, .class_ 4), (1, u "java/lang/Object"), (0, u "<init>"), (0, u "()V"), (0, .integer 2147483647), (0, .methodref 9 10), (0, .class_ 11), (0, .nameAndType 12 13), (0, u "com/example/fieldloom/fieldloom/KindIsFlagPinLaw"), (0, u "pick"), (0, u "(I)Lcom/example/fieldloom/fieldloom/Kind;"), (0, .methodref 9 15), (0, .nameAndType 16 17), (0, u "draw"), (0, u "(IJ)Ljava/lang/String;"), (0, .methodref 19 20), (0, .class_ 21), (0, .nameAndType 22 23), (0, u "com/example/fieldloom/fieldloom/Kind"), (0, u "isFlag"), (0, u "()Z"), (0, .string 25), (0, u "TRUE"), (0, .methodref 19 27), (0, .nameAndType 28 29), (0, u "flag"), (0, u "(Ljava/lang/CharSequence;)Lcom/example/fieldloom/fieldloom/Flag;"), (0, .fieldref 31 32), (0, .class_ 33), (0, .nameAndType 34 35), (0, u "com/example/fieldloom/fieldloom/Flag"), (0, u "SET"), (0, u "Lcom/example/fieldloom/fieldloom/Flag;"), (0, .string 37), (0, u "FALSE"), (0, .fieldref 31 39), (0, .nameAndType 40 35), (0, u "CLEAR"), (0, .fieldref 31 42), (0, .nameAndType 43 35), (0, u "UNKNOWN"), (0, .fieldref 19 45), (0, .nameAndType 46 47), (0, u "TEXT"), (0, u "Lcom/example/fieldloom/fieldloom/Kind;"), (0, .fieldref 19 49), (0, .nameAndType 50 47), (0, u "UNIQUE_TEXT"), (0, .fieldref 19 52), (0, .nameAndType 53 47), (0, u "BOOLEAN"), (0, .fieldref 19 55), (0, .nameAndType 56 47), (0, u "RESTRICTION_FLAG"), (0, .fieldref 19 58), (0, .nameAndType 59 47), (0, u "PERSON_CODE"), (0, .fieldref 19 61), (0, .nameAndType 62 47), (0, u "SESSION"), (0, .fieldref 19 64), (0, .nameAndType 65 47), (0, u "EMAIL"), (0, .fieldref 19 67), (0, .nameAndType 68 47), (0, u "DATE"), (0, .fieldref 19 70), (0, .nameAndType 71 47), (0, u "DATE_OR_NA"), (0, .fieldref 19 73), (0, .nameAndType 74 47), (0, u "DATE_PHRASE"), (0, .fieldref 19 76), (0, .nameAndType 77 47), (0, u "CLOSED_LIST"), (0, .fieldref 19 79), (0, .nameAndType 80 47), (0, u "OPEN_LIST"), (0, .fieldref 19 82), (0, .nameAndType 83 47), (0, u "PERSON_REFERENCE"), (0, .long 255), (1, .class_ 87), (0, u "java/lang/String"), (0, .methodref 86 89), (0, .nameAndType 5 90), (0, u "([C)V"), (2, u "law"), (0, u "(IIJ)Z")] 3

def k1m0 : Method := { name := "<init>", desc := "()V", sig := { parameters := [], returnType := none }, accessFlags := 1, code := none }
def k1c1 : Code := { maxStack := 3, maxLocals := 10, code := code, exceptionTable := #[], attributes := #[] }
def k1m1 : Method := { name := "law", desc := "(IIJ)Z", sig := { parameters := [.int, .int, .long], returnType := some .boolean }, accessFlags := 9, code := some k1c1 }
def k1c2 : Code := { maxStack := 2, maxLocals := 1, code := method_3_code, exceptionTable := #[], attributes := #[] }
def k1m2 : Method := { name := "pick", desc := "(I)Lcom/example/fieldloom/fieldloom/Kind;", sig := { parameters := [.int], returnType := some (.object "com/example/fieldloom/fieldloom/Kind") }, accessFlags := 10, code := some k1c2 }
def k1c3 : Code := { maxStack := 6, maxLocals := 7, code := method_4_code, exceptionTable := #[], attributes := #[] }
def k1m3 : Method := { name := "draw", desc := "(IJ)Ljava/lang/String;", sig := { parameters := [.int, .long], returnType := some (.object "java/lang/String") }, accessFlags := 10, code := some k1c3 }
/-- com/example/fieldloom/fieldloom/KindIsFlagPinLaw -/
def k1 : Class := { plain "com/example/fieldloom/fieldloom/KindIsFlagPinLaw" (some 0) with
  accessFlags := 49
  interfaces := #[]
  cf := some (fileOf pool1 9 #[] #[{ accessFlags := 1, nameIndex := 5, descriptorIndex := 6, attributes := #[] }, { accessFlags := 9, nameIndex := 93, descriptorIndex := 94, attributes := #[] }, { accessFlags := 10, nameIndex := 12, descriptorIndex := 13, attributes := #[] }, { accessFlags := 10, nameIndex := 16, descriptorIndex := 17, attributes := #[] }] 49 2 #[] #[])
  fields := #[]
  methods := #[k1m0, k1m1, k1m2, k1m3]
  instanceTypes := #[]
  staticTypes := #[]
  resolved := Array.replicate 98 none
  statics := none }

def pool2 : Array CpInfo := pool [(1, .class_ 2), (0, u "java/lang/constant/Constable"), (0, .class_ 4), (0, u "java/lang/Object")] 6

/-- java/lang/constant/Constable -/
def k2 : Class := { plain "java/lang/constant/Constable" (some 0) with
  accessFlags := 1537
  interfaces := #[]
  cf := some (fileOf pool2 1 #[] #[] 1537 3 #[] #[])
  fields := #[]
  methods := #[]
  instanceTypes := #[]
  staticTypes := #[]
  resolved := Array.replicate 11 none
  statics := none }

def pool3 : Array CpInfo := pool [(1, .class_ 2), (0, u "java/lang/Comparable"), (0, .class_ 4), (0, u "java/lang/Object")] 7

/-- java/lang/Comparable -/
def k3 : Class := { plain "java/lang/Comparable" (some 0) with
  accessFlags := 1537
  interfaces := #[]
  cf := some (fileOf pool3 1 #[] #[] 1537 3 #[] #[])
  fields := #[]
  methods := #[]
  instanceTypes := #[]
  staticTypes := #[]
  resolved := Array.replicate 12 none
  statics := none }

def pool4 : Array CpInfo := pool [(1, .class_ 2), (0, u "java/io/Serializable"), (0, .class_ 4), (0, u "java/lang/Object")] 2

/-- java/io/Serializable -/
def k4 : Class := { plain "java/io/Serializable" (some 0) with
  accessFlags := 1537
  interfaces := #[]
  cf := some (fileOf pool4 1 #[] #[] 1537 3 #[] #[])
  fields := #[]
  methods := #[]
  instanceTypes := #[]
  staticTypes := #[]
  resolved := Array.replicate 7 none
  statics := none }

def pool5 : Array CpInfo := pool [(2, .class_ 4), (1, u "java/lang/Enum"), (0, u "name"), (0, u "Ljava/lang/String;"), (2, u "ordinal"), (0, u "I"), (1, .class_ 14), (1, u "java/lang/Object"), (4, u "hash"), (86, .class_ 108), (1, u "java/lang/Enum$EnumDesc"), (2, .class_ 112), (0, u "java/lang/constant/Constable"), (0, .class_ 114), (0, u "java/lang/Comparable"), (0, .class_ 116), (0, u "java/io/Serializable")] 87

/-- java/lang/Enum -/
def k5 : Class := { plain "java/lang/Enum" (some 0) with
  accessFlags := 1057
  interfaces := #[2, 3, 4]
  cf := some (fileOf pool5 2 #[.nestMembers #[106]] #[] 1057 12 #[111, 113, 115] #[{ accessFlags := 18, nameIndex := 5, descriptorIndex := 6, attributes := #[] }, { accessFlags := 18, nameIndex := 9, descriptorIndex := 10, attributes := #[] }, { accessFlags := 2, nameIndex := 19, descriptorIndex := 10, attributes := #[] }])
  fields := #[{ name := "name", type := (.object "java/lang/String"), accessFlags := 18, slot := 0, constantValue := 0 }, { name := "ordinal", type := .int, accessFlags := 18, slot := 1, constantValue := 0 }, { name := "hash", type := .int, accessFlags := 2, slot := 2, constantValue := 0 }]
  methods := #[]
  instanceTypes := #[(.object "java/lang/String"), .int, .int]
  staticTypes := #[]
  resolved := Array.replicate 204 none
  statics := none }

def pool6 : Array CpInfo := pool [(1, .class_ 2), (0, u "com/example/fieldloom/fieldloom/Kind"), (2, u "TEXT"), (0, u "Lcom/example/fieldloom/fieldloom/Kind;"), (2, u "UNIQUE_TEXT"), (0, .fieldref 1 11), (0, .nameAndType 12 6), (0, u "BOOLEAN"), (0, .fieldref 1 14), (0, .nameAndType 15 6), (0, u "RESTRICTION_FLAG"), (2, u "PERSON_CODE"), (2, u "SESSION"), (2, u "EMAIL"), (2, u "DATE"), (2, u "DATE_OR_NA"), (2, u "DATE_PHRASE"), (2, u "CLOSED_LIST"), (2, u "OPEN_LIST"), (2, u "PERSON_REFERENCE"), (2, u "$VALUES"), (0, u "[Lcom/example/fieldloom/fieldloom/Kind;"), (6, .class_ 55), (1, u "java/lang/Enum"), (8, u "token"), (0, u "Ljava/lang/String;"), (2, u "rule"), (2, u "severity"), (0, u "Lcom/example/fieldloom/fieldloom/Finding$Severity;"), (0, .fieldref 74 75), (0, .class_ 76), (0, .nameAndType 77 78), (0, u "com/example/fieldloom/fieldloom/Flag"), (0, u "UNKNOWN"), (0, u "Lcom/example/fieldloom/fieldloom/Flag;"), (0, .interfaceMethodref 80 81), (0, .class_ 82), (0, .nameAndType 83 84), (0, u "java/lang/CharSequence"), (0, u "length"), (0, u "()I"), (0, .methodref 86 81), (0, .class_ 87), (0, u "java/lang/String"), (0, .interfaceMethodref 80 89), (0, .nameAndType 90 91), (0, u "charAt"), (0, u "(I)C"), (0, .methodref 86 89), (0, .class_ 94), (0, u "com/example/fieldloom/fieldloom/Kind$1"), (6, .class_ 102), (0, u "com/example/fieldloom/fieldloom/Kind$2"), (4, .class_ 108), (0, u "com/example/fieldloom/fieldloom/Kind$3"), (11, .class_ 121), (0, u "com/example/fieldloom/fieldloom/Kind$4"), (4, .class_ 127), (0, u "com/example/fieldloom/fieldloom/Kind$5"), (6, .class_ 135), (0, u "com/example/fieldloom/fieldloom/Kind$6"), (4, .class_ 141), (0, u "com/example/fieldloom/fieldloom/Kind$7"), (4, .class_ 147), (0, u "com/example/fieldloom/fieldloom/Kind$8"), (6, .class_ 155), (0, u "com/example/fieldloom/fieldloom/Kind$9"), (4, .class_ 161), (0, u "com/example/fieldloom/fieldloom/Kind$10"), (9, .class_ 172), (0, u "com/example/fieldloom/fieldloom/Kind$11"), (6, .class_ 180), (0, u "com/example/fieldloom/fieldloom/Kind$12"), (6, .class_ 188), (0, u "com/example/fieldloom/fieldloom/Kind$13"), (17, u "isFlag"), (0, u "()Z"), (5, u "flag"), (0, u "(Ljava/lang/CharSequence;)Lcom/example/fieldloom/fieldloom/Flag;"), (0, u "equalsIgnoringAsciiCase"), (0, u "(Ljava/lang/CharSequence;Ljava/lang/String;)Z")] 16

def k6c0 : Code := { maxStack := 2, maxLocals := 1, code := prog_37_method_4_code, exceptionTable := #[], attributes := #[] }
def k6m0 : Method := { name := "isFlag", desc := "()Z", sig := { parameters := [], returnType := some .boolean }, accessFlags := 0, code := some k6c0 }
def k6c1 : Code := { maxStack := 1, maxLocals := 2, code := prog_37_method_8_code, exceptionTable := #[], attributes := #[] }
def k6m1 : Method := { name := "flag", desc := "(Ljava/lang/CharSequence;)Lcom/example/fieldloom/fieldloom/Flag;", sig := { parameters := [(.object "java/lang/CharSequence")], returnType := some (.object "com/example/fieldloom/fieldloom/Flag") }, accessFlags := 0, code := some k6c1 }
def k6c2 : Code := { maxStack := 3, maxLocals := 5, code := prog_37_method_9_code, exceptionTable := #[], attributes := #[] }
def k6m2 : Method := { name := "equalsIgnoringAsciiCase", desc := "(Ljava/lang/CharSequence;Ljava/lang/String;)Z", sig := { parameters := [(.object "java/lang/CharSequence"), (.object "java/lang/String")], returnType := some .boolean }, accessFlags := 10, code := some k6c2 }
/-- com/example/fieldloom/fieldloom/Kind -/
def k6 : Class := { plain "com/example/fieldloom/fieldloom/Kind" (some 5) with
  accessFlags := 17440
  interfaces := #[]
  cf := some (fileOf pool6 1 #[.nestMembers #[187, 179, 171, 160, 154, 146, 140, 134, 126, 120, 107, 101, 93]] #[{ accessFlags := 0, nameIndex := 206, descriptorIndex := 207, attributes := #[] }, { accessFlags := 0, nameIndex := 213, descriptorIndex := 214, attributes := #[] }, { accessFlags := 10, nameIndex := 215, descriptorIndex := 216, attributes := #[] }] 17440 53 #[] #[{ accessFlags := 16409, nameIndex := 5, descriptorIndex := 6, attributes := #[] }, { accessFlags := 16409, nameIndex := 9, descriptorIndex := 6, attributes := #[] }, { accessFlags := 16409, nameIndex := 12, descriptorIndex := 6, attributes := #[] }, { accessFlags := 16409, nameIndex := 15, descriptorIndex := 6, attributes := #[] }, { accessFlags := 16409, nameIndex := 18, descriptorIndex := 6, attributes := #[] }, { accessFlags := 16409, nameIndex := 21, descriptorIndex := 6, attributes := #[] }, { accessFlags := 16409, nameIndex := 24, descriptorIndex := 6, attributes := #[] }, { accessFlags := 16409, nameIndex := 27, descriptorIndex := 6, attributes := #[] }, { accessFlags := 16409, nameIndex := 30, descriptorIndex := 6, attributes := #[] }, { accessFlags := 16409, nameIndex := 33, descriptorIndex := 6, attributes := #[] }, { accessFlags := 16409, nameIndex := 36, descriptorIndex := 6, attributes := #[] }, { accessFlags := 16409, nameIndex := 39, descriptorIndex := 6, attributes := #[] }, { accessFlags := 16409, nameIndex := 42, descriptorIndex := 6, attributes := #[] }, { accessFlags := 16, nameIndex := 64, descriptorIndex := 65, attributes := #[] }, { accessFlags := 16, nameIndex := 68, descriptorIndex := 65, attributes := #[] }, { accessFlags := 16, nameIndex := 71, descriptorIndex := 72, attributes := #[] }, { accessFlags := 4122, nameIndex := 45, descriptorIndex := 46, attributes := #[] }])
  fields := #[{ name := "TEXT", type := (.object "com/example/fieldloom/fieldloom/Kind"), accessFlags := 16409, slot := 0, constantValue := 0 }, { name := "UNIQUE_TEXT", type := (.object "com/example/fieldloom/fieldloom/Kind"), accessFlags := 16409, slot := 1, constantValue := 0 }, { name := "BOOLEAN", type := (.object "com/example/fieldloom/fieldloom/Kind"), accessFlags := 16409, slot := 2, constantValue := 0 }, { name := "RESTRICTION_FLAG", type := (.object "com/example/fieldloom/fieldloom/Kind"), accessFlags := 16409, slot := 3, constantValue := 0 }, { name := "PERSON_CODE", type := (.object "com/example/fieldloom/fieldloom/Kind"), accessFlags := 16409, slot := 4, constantValue := 0 }, { name := "SESSION", type := (.object "com/example/fieldloom/fieldloom/Kind"), accessFlags := 16409, slot := 5, constantValue := 0 }, { name := "EMAIL", type := (.object "com/example/fieldloom/fieldloom/Kind"), accessFlags := 16409, slot := 6, constantValue := 0 }, { name := "DATE", type := (.object "com/example/fieldloom/fieldloom/Kind"), accessFlags := 16409, slot := 7, constantValue := 0 }, { name := "DATE_OR_NA", type := (.object "com/example/fieldloom/fieldloom/Kind"), accessFlags := 16409, slot := 8, constantValue := 0 }, { name := "DATE_PHRASE", type := (.object "com/example/fieldloom/fieldloom/Kind"), accessFlags := 16409, slot := 9, constantValue := 0 }, { name := "CLOSED_LIST", type := (.object "com/example/fieldloom/fieldloom/Kind"), accessFlags := 16409, slot := 10, constantValue := 0 }, { name := "OPEN_LIST", type := (.object "com/example/fieldloom/fieldloom/Kind"), accessFlags := 16409, slot := 11, constantValue := 0 }, { name := "PERSON_REFERENCE", type := (.object "com/example/fieldloom/fieldloom/Kind"), accessFlags := 16409, slot := 12, constantValue := 0 }, { name := "token", type := (.object "java/lang/String"), accessFlags := 16, slot := 3, constantValue := 0 }, { name := "rule", type := (.object "java/lang/String"), accessFlags := 16, slot := 4, constantValue := 0 }, { name := "severity", type := (.object "com/example/fieldloom/fieldloom/Finding$Severity"), accessFlags := 16, slot := 5, constantValue := 0 }, { name := "$VALUES", type := (.array (.object "com/example/fieldloom/fieldloom/Kind")), accessFlags := 4122, slot := 13, constantValue := 0 }]
  methods := #[k6m0, k6m1, k6m2]
  instanceTypes := #[(.object "java/lang/String"), .int, .int, (.object "java/lang/String"), (.object "java/lang/String"), (.object "com/example/fieldloom/fieldloom/Finding$Severity")]
  staticTypes := #[(.object "com/example/fieldloom/fieldloom/Kind"), (.object "com/example/fieldloom/fieldloom/Kind"), (.object "com/example/fieldloom/fieldloom/Kind"), (.object "com/example/fieldloom/fieldloom/Kind"), (.object "com/example/fieldloom/fieldloom/Kind"), (.object "com/example/fieldloom/fieldloom/Kind"), (.object "com/example/fieldloom/fieldloom/Kind"), (.object "com/example/fieldloom/fieldloom/Kind"), (.object "com/example/fieldloom/fieldloom/Kind"), (.object "com/example/fieldloom/fieldloom/Kind"), (.object "com/example/fieldloom/fieldloom/Kind"), (.object "com/example/fieldloom/fieldloom/Kind"), (.object "com/example/fieldloom/fieldloom/Kind"), (.array (.object "com/example/fieldloom/fieldloom/Kind"))]
  resolved := Array.replicate 233 none
  statics := some 0 }

def pool7 : Array CpInfo := pool [(2, .class_ 4), (1, u "java/lang/CharSequence"), (0, u "length"), (0, u "()I"), (38, u "charAt"), (0, u "(I)C"), (0, .class_ 48), (0, u "java/lang/CharSequence$1CodePointIterator"), (10, .class_ 60), (0, u "java/lang/CharSequence$1CharIterator"), (5, .class_ 67), (0, u "java/lang/Object")] 63

def k7m0 : Method := { name := "length", desc := "()I", sig := { parameters := [], returnType := some .int }, accessFlags := 1025, code := none }
def k7m1 : Method := { name := "charAt", desc := "(I)C", sig := { parameters := [.int], returnType := some .char }, accessFlags := 1025, code := none }
/-- java/lang/CharSequence -/
def k7 : Class := { plain "java/lang/CharSequence" (some 0) with
  accessFlags := 1537
  interfaces := #[]
  cf := some (fileOf pool7 2 #[.nestMembers #[47, 59]] #[{ accessFlags := 1025, nameIndex := 5, descriptorIndex := 6, attributes := #[] }, { accessFlags := 1025, nameIndex := 45, descriptorIndex := 46, attributes := #[] }] 1537 66 #[] #[])
  fields := #[]
  methods := #[k7m0, k7m1]
  instanceTypes := #[]
  staticTypes := #[]
  resolved := Array.replicate 131 none
  statics := none }

def pool8 : Array CpInfo := pool [(1, .class_ 2), (0, u "java/lang/constant/ConstantDesc"), (0, .class_ 4), (0, u "java/lang/Object")] 32

/-- java/lang/constant/ConstantDesc -/
def k8 : Class := { plain "java/lang/constant/ConstantDesc" (some 0) with
  accessFlags := 1537
  interfaces := #[]
  cf := some (fileOf pool8 1 #[] #[] 1537 3 #[] #[])
  fields := #[]
  methods := #[]
  instanceTypes := #[]
  staticTypes := #[]
  resolved := Array.replicate 37 none
  statics := none }

def pool9 : Array CpInfo := pool [(1, .methodref 2 3), (0, .class_ 4), (0, .nameAndType 5 6), (0, u "java/lang/Object"), (0, u "<init>"), (0, u "()V"), (0, .string 8), (0, u ""), (0, .fieldref 10 11), (0, .class_ 12), (0, .nameAndType 13 14), (0, u "java/lang/String"), (0, u "value"), (0, u "[B"), (0, .fieldref 10 16), (0, .nameAndType 17 18), (0, u "coder"), (0, u "B"), (2, u "hash"), (0, u "I"), (2, u "hashIsZero"), (0, u "Z"), (0, .methodref 10 28), (0, .nameAndType 5 29), (0, u "([CIILjava/lang/Void;)V"), (8, .fieldref 10 39), (0, .nameAndType 40 26), (0, u "COMPACT_STRINGS"), (1, .class_ 44), (1, u "java/lang/StringUTF16"), (0, u "compress"), (1, .methodref 42 48), (0, .nameAndType 49 50), (0, u "coderFromArrayLen"), (0, u "([BI)B"), (56, .class_ 109), (1, u "java/lang/StringLatin1"), (32, u "()Z"), (34, .methodref 42 178), (0, .nameAndType 45 179), (0, u "([CII)[B"), (154, u "()I"), (0, .methodref 10 336), (0, .nameAndType 17 337), (0, u "()B"), (25, u "([BI)C"), (27, u "(II)V"), (35, u "(I)C"), (64, .methodref 10 493), (0, .nameAndType 494 142), (0, u "isLatin1"), (0, .methodref 107 496), (0, .nameAndType 497 363), (0, u "charAt"), (3, u "checkIndex"), (5, u "length"), (67, .class_ 576), (0, u "java/lang/CharSequence"), (22, u "CASE_INSENSITIVE_ORDER"), (0, u "Ljava/util/Comparator;"), (409, u "([C)V"), (42, .fieldref 1054 1055), (0, .class_ 1056), (0, .nameAndType 1057 1058), (0, u "jdk/internal/util/Preconditions"), (0, u "SIOOBE_FORMATTER"), (0, u "Ljava/util/function/BiFunction;"), (0, .methodref 1054 1060), (0, .nameAndType 501 1061), (0, u "(IILjava/util/function/BiFunction;)I"), (39, u "serialPersistentFields"), (0, u "[Ljava/io/ObjectStreamField;"), (0, .class_ 1104), (0, u "java/lang/String$CaseInsensitiveComparator"), (1, .class_ 1107), (0, u "java/io/Serializable"), (0, .class_ 1109), (0, u "java/lang/Comparable"), (0, .class_ 1111), (0, u "java/lang/constant/Constable"), (0, .class_ 1113), (0, u "java/lang/constant/ConstantDesc"), (2, u "serialVersionUID"), (0, u "J"), (3, u "REPL"), (0, u "C"), (2, u "LATIN1"), (1, u "UTF16")] 323

def k9m0 : Method := { name := "<init>", desc := "()V", sig := { parameters := [], returnType := none }, accessFlags := 1, code := none }
def k9c1 : Code := { maxStack := 5, maxLocals := 2, code := jdk_42_method_3_code, exceptionTable := #[], attributes := #[] }
def k9m1 : Method := { name := "<init>", desc := "([C)V", sig := { parameters := [(.array .char)], returnType := none }, accessFlags := 1, code := some k9c1 }
def k9c2 : Code := { maxStack := 2, maxLocals := 1, code := jdk_42_method_54_code, exceptionTable := #[], attributes := #[] }
def k9m2 : Method := { name := "length", desc := "()I", sig := { parameters := [], returnType := some .int }, accessFlags := 1, code := some k9c2 }
def k9c3 : Code := { maxStack := 2, maxLocals := 2, code := jdk_42_method_56_code, exceptionTable := #[], attributes := #[] }
def k9m3 : Method := { name := "charAt", desc := "(I)C", sig := { parameters := [.int], returnType := some .char }, accessFlags := 1, code := some k9c3 }
def k9c4 : Code := { maxStack := 4, maxLocals := 6, code := jdk_42_method_149_code, exceptionTable := #[], attributes := #[] }
def k9m4 : Method := { name := "<init>", desc := "([CIILjava/lang/Void;)V", sig := { parameters := [(.array .char), .int, .int, (.object "java/lang/Void")], returnType := none }, accessFlags := 2, code := some k9c4 }
def k9c5 : Code := { maxStack := 1, maxLocals := 1, code := jdk_42_method_152_code, exceptionTable := #[], attributes := #[] }
def k9m5 : Method := { name := "coder", desc := "()B", sig := { parameters := [], returnType := some .byte }, accessFlags := 0, code := some k9c5 }
def k9c6 : Code := { maxStack := 1, maxLocals := 1, code := jdk_42_method_154_code, exceptionTable := #[], attributes := #[] }
def k9m6 : Method := { name := "isLatin1", desc := "()Z", sig := { parameters := [], returnType := some .boolean }, accessFlags := 0, code := some k9c6 }
def k9c7 : Code := { maxStack := 3, maxLocals := 2, code := jdk_42_method_155_code, exceptionTable := #[], attributes := #[] }
def k9m7 : Method := { name := "checkIndex", desc := "(II)V", sig := { parameters := [.int, .int], returnType := none }, accessFlags := 8, code := some k9c7 }
/-- java/lang/String -/
def k9 : Class := { plain "java/lang/String" (some 0) with
  accessFlags := 49
  interfaces := #[4, 3, 7, 2, 8]
  cf := some (fileOf pool9 10 #[.nestMembers #[1103]] #[{ accessFlags := 1, nameIndex := 5, descriptorIndex := 6, attributes := #[] }, { accessFlags := 1, nameIndex := 5, descriptorIndex := 1010, attributes := #[] }, { accessFlags := 1, nameIndex := 507, descriptorIndex := 334, attributes := #[] }, { accessFlags := 1, nameIndex := 497, descriptorIndex := 427, attributes := #[] }, { accessFlags := 2, nameIndex := 5, descriptorIndex := 29, attributes := #[] }, { accessFlags := 0, nameIndex := 17, descriptorIndex := 337, attributes := #[] }, { accessFlags := 0, nameIndex := 494, descriptorIndex := 142, attributes := #[] }, { accessFlags := 8, nameIndex := 501, descriptorIndex := 391, attributes := #[] }] 49 2 #[1106, 1108, 575, 1110, 1112] #[{ accessFlags := 18, nameIndex := 13, descriptorIndex := 14, attributes := #[] }, { accessFlags := 18, nameIndex := 17, descriptorIndex := 18, attributes := #[] }, { accessFlags := 2, nameIndex := 21, descriptorIndex := 22, attributes := #[] }, { accessFlags := 2, nameIndex := 25, descriptorIndex := 26, attributes := #[] }, { accessFlags := 26, nameIndex := 1116, descriptorIndex := 1117, attributes := #[] }, { accessFlags := 24, nameIndex := 40, descriptorIndex := 26, attributes := #[] }, { accessFlags := 26, nameIndex := 1101, descriptorIndex := 1102, attributes := #[] }, { accessFlags := 26, nameIndex := 1121, descriptorIndex := 1122, attributes := #[] }, { accessFlags := 25, nameIndex := 599, descriptorIndex := 600, attributes := #[] }, { accessFlags := 24, nameIndex := 1125, descriptorIndex := 18, attributes := #[] }, { accessFlags := 24, nameIndex := 1127, descriptorIndex := 18, attributes := #[] }])
  fields := #[{ name := "value", type := (.array .byte), accessFlags := 18, slot := 0, constantValue := 0 }, { name := "coder", type := .byte, accessFlags := 18, slot := 1, constantValue := 0 }, { name := "hash", type := .int, accessFlags := 2, slot := 2, constantValue := 0 }, { name := "hashIsZero", type := .boolean, accessFlags := 2, slot := 3, constantValue := 0 }, { name := "serialVersionUID", type := .long, accessFlags := 26, slot := 0, constantValue := 0 }, { name := "COMPACT_STRINGS", type := .boolean, accessFlags := 24, slot := 1, constantValue := 0 }, { name := "serialPersistentFields", type := (.array (.object "java/io/ObjectStreamField")), accessFlags := 26, slot := 2, constantValue := 0 }, { name := "REPL", type := .char, accessFlags := 26, slot := 3, constantValue := 0 }, { name := "CASE_INSENSITIVE_ORDER", type := (.object "java/util/Comparator"), accessFlags := 25, slot := 4, constantValue := 0 }, { name := "LATIN1", type := .byte, accessFlags := 24, slot := 5, constantValue := 0 }, { name := "UTF16", type := .byte, accessFlags := 24, slot := 6, constantValue := 0 }]
  methods := #[k9m0, k9m1, k9m2, k9m3, k9m4, k9m5, k9m6, k9m7]
  instanceTypes := #[(.array .byte), .byte, .int, .boolean]
  staticTypes := #[.long, .boolean, (.array (.object "java/io/ObjectStreamField")), .char, (.object "java/util/Comparator"), .byte, .byte]
  resolved := Array.replicate 1451 none
  statics := some 1 }

def pool10 : Array CpInfo := pool [(6, .class_ 8), (1, u "java/lang/Object"), (0, u "<init>"), (0, u "()V"), (1, .class_ 14), (1, u "java/lang/StringUTF16"), (31, u "$assertionsDisabled"), (0, u "Z"), (13, u "HI_BYTE_SHIFT"), (0, u "I"), (2, u "LO_BYTE_SHIFT"), (49, .methodref 12 116), (0, .nameAndType 117 118), (0, u "compress"), (0, u "([CI[BII)I"), (3, u "([CII)[B"), (138, u "coderFromArrayLen"), (0, u "([BI)B"), (106, .class_ 371), (1, u "java/lang/StringUTF16$LinesSpliterator"), (58, u "MAX_LENGTH"), (196, .class_ 628), (0, u "java/lang/StringUTF16$CodePointsSpliterator"), (0, .class_ 630), (0, u "java/lang/StringUTF16$CharsSpliterator")] 4

def k10m0 : Method := { name := "<init>", desc := "()V", sig := { parameters := [], returnType := none }, accessFlags := 0, code := none }
def k10c1 : Code := { maxStack := 2, maxLocals := 2, code := jdk_52_method_15_code, exceptionTable := #[], attributes := #[] }
def k10m1 : Method := { name := "coderFromArrayLen", desc := "([BI)B", sig := { parameters := [(.array .byte), .int], returnType := some .byte }, accessFlags := 8, code := some k10c1 }
def k10c2 : Code := { maxStack := 5, maxLocals := 6, code := jdk_52_method_16_code, exceptionTable := #[], attributes := #[] }
def k10m2 : Method := { name := "compress", desc := "([CII)[B", sig := { parameters := [(.array .char), .int, .int], returnType := some (.array .byte) }, accessFlags := 9, code := some k10c2 }
def k10c3 : Code := { maxStack := 3, maxLocals := 7, code := jdk_52_method_21_code, exceptionTable := #[], attributes := #[] }
def k10m3 : Method := { name := "compress", desc := "([CI[BII)I", sig := { parameters := [(.array .char), .int, (.array .byte), .int, .int], returnType := some .int }, accessFlags := 9, code := some k10c3 }
/-- java/lang/StringUTF16 -/
def k10 : Class := { plain "java/lang/StringUTF16" (some 0) with
  accessFlags := 48
  interfaces := #[]
  cf := some (fileOf pool10 12 #[.nestMembers #[627, 629, 369]] #[{ accessFlags := 0, nameIndex := 9, descriptorIndex := 10, attributes := #[] }, { accessFlags := 8, nameIndex := 261, descriptorIndex := 262, attributes := #[] }, { accessFlags := 9, nameIndex := 117, descriptorIndex := 122, attributes := #[] }, { accessFlags := 9, nameIndex := 117, descriptorIndex := 118, attributes := #[] }] 48 6 #[] #[{ accessFlags := 26, nameIndex := 61, descriptorIndex := 62, attributes := #[] }, { accessFlags := 26, nameIndex := 65, descriptorIndex := 62, attributes := #[] }, { accessFlags := 24, nameIndex := 430, descriptorIndex := 62, attributes := #[] }, { accessFlags := 4120, nameIndex := 46, descriptorIndex := 47, attributes := #[] }])
  fields := #[{ name := "HI_BYTE_SHIFT", type := .int, accessFlags := 26, slot := 0, constantValue := 0 }, { name := "LO_BYTE_SHIFT", type := .int, accessFlags := 26, slot := 1, constantValue := 0 }, { name := "MAX_LENGTH", type := .int, accessFlags := 24, slot := 2, constantValue := 0 }, { name := "$assertionsDisabled", type := .boolean, accessFlags := 4120, slot := 3, constantValue := 0 }]
  methods := #[k10m0, k10m1, k10m2, k10m3]
  instanceTypes := #[]
  staticTypes := #[.int, .int, .int, .boolean]
  resolved := Array.replicate 635 none
  statics := none }

def pool11 : Array CpInfo := pool [(2, .class_ 4), (1, u "com/example/fieldloom/fieldloom/Kind"), (2, .class_ 8), (0, u "com/example/fieldloom/fieldloom/Kind$1")] 15

/-- com/example/fieldloom/fieldloom/Kind$1 -/
def k11 : Class := { plain "com/example/fieldloom/fieldloom/Kind$1" (some 6) with
  accessFlags := 16432
  interfaces := #[]
  cf := some (fileOf pool11 7 #[.nestHost 2] #[] 16432 2 #[] #[])
  fields := #[]
  methods := #[]
  instanceTypes := #[(.object "java/lang/String"), .int, .int, (.object "java/lang/String"), (.object "java/lang/String"), (.object "com/example/fieldloom/fieldloom/Finding$Severity")]
  staticTypes := #[]
  resolved := Array.replicate 24 none
  statics := none }

def pool12 : Array CpInfo := pool [(1, .class_ 2), (0, u "com/example/fieldloom/fieldloom/Flag"), (2, u "SET"), (0, u "Lcom/example/fieldloom/fieldloom/Flag;"), (2, u "CLEAR"), (2, u "UNKNOWN"), (2, u "$VALUES"), (0, u "[Lcom/example/fieldloom/fieldloom/Flag;"), (6, .class_ 25), (1, u "java/lang/Enum")] 25

/-- com/example/fieldloom/fieldloom/Flag -/
def k12 : Class := { plain "com/example/fieldloom/fieldloom/Flag" (some 5) with
  accessFlags := 16432
  interfaces := #[]
  cf := some (fileOf pool12 1 #[] #[] 16432 23 #[] #[{ accessFlags := 16409, nameIndex := 5, descriptorIndex := 6, attributes := #[] }, { accessFlags := 16409, nameIndex := 9, descriptorIndex := 6, attributes := #[] }, { accessFlags := 16409, nameIndex := 12, descriptorIndex := 6, attributes := #[] }, { accessFlags := 4122, nameIndex := 15, descriptorIndex := 16, attributes := #[] }])
  fields := #[{ name := "SET", type := (.object "com/example/fieldloom/fieldloom/Flag"), accessFlags := 16409, slot := 0, constantValue := 0 }, { name := "CLEAR", type := (.object "com/example/fieldloom/fieldloom/Flag"), accessFlags := 16409, slot := 1, constantValue := 0 }, { name := "UNKNOWN", type := (.object "com/example/fieldloom/fieldloom/Flag"), accessFlags := 16409, slot := 2, constantValue := 0 }, { name := "$VALUES", type := (.array (.object "com/example/fieldloom/fieldloom/Flag")), accessFlags := 4122, slot := 3, constantValue := 0 }]
  methods := #[]
  instanceTypes := #[(.object "java/lang/String"), .int, .int]
  staticTypes := #[(.object "com/example/fieldloom/fieldloom/Flag"), (.object "com/example/fieldloom/fieldloom/Flag"), (.object "com/example/fieldloom/fieldloom/Flag"), (.array (.object "com/example/fieldloom/fieldloom/Flag"))]
  resolved := Array.replicate 51 none
  statics := some 2 }

def pool13 : Array CpInfo := pool [(2, .class_ 4), (1, u "com/example/fieldloom/fieldloom/Kind"), (34, .class_ 40), (0, u "com/example/fieldloom/fieldloom/Kind$13")] 30

/-- com/example/fieldloom/fieldloom/Kind$13 -/
def k13 : Class := { plain "com/example/fieldloom/fieldloom/Kind$13" (some 6) with
  accessFlags := 16432
  interfaces := #[]
  cf := some (fileOf pool13 39 #[.nestHost 2] #[] 16432 2 #[] #[])
  fields := #[]
  methods := #[]
  instanceTypes := #[(.object "java/lang/String"), .int, .int, (.object "java/lang/String"), (.object "java/lang/String"), (.object "com/example/fieldloom/fieldloom/Finding$Severity")]
  staticTypes := #[]
  resolved := Array.replicate 71 none
  statics := none }

def pool14 : Array CpInfo := pool [(2, .class_ 4), (1, u "com/example/fieldloom/fieldloom/Kind"), (2, .class_ 8), (0, u "com/example/fieldloom/fieldloom/Kind$2")] 15

/-- com/example/fieldloom/fieldloom/Kind$2 -/
def k14 : Class := { plain "com/example/fieldloom/fieldloom/Kind$2" (some 6) with
  accessFlags := 16432
  interfaces := #[]
  cf := some (fileOf pool14 7 #[.nestHost 2] #[] 16432 2 #[] #[])
  fields := #[]
  methods := #[]
  instanceTypes := #[(.object "java/lang/String"), .int, .int, (.object "java/lang/String"), (.object "java/lang/String"), (.object "com/example/fieldloom/fieldloom/Finding$Severity")]
  staticTypes := #[]
  resolved := Array.replicate 24 none
  statics := none }

def pool15 : Array CpInfo := pool [(2, .class_ 4), (1, u "com/example/fieldloom/fieldloom/Kind"), (22, .class_ 28), (0, u "com/example/fieldloom/fieldloom/Kind$11")] 30

/-- com/example/fieldloom/fieldloom/Kind$11 -/
def k15 : Class := { plain "com/example/fieldloom/fieldloom/Kind$11" (some 6) with
  accessFlags := 16432
  interfaces := #[]
  cf := some (fileOf pool15 27 #[.nestHost 2] #[] 16432 2 #[] #[])
  fields := #[]
  methods := #[]
  instanceTypes := #[(.object "java/lang/String"), .int, .int, (.object "java/lang/String"), (.object "java/lang/String"), (.object "com/example/fieldloom/fieldloom/Finding$Severity")]
  staticTypes := #[]
  resolved := Array.replicate 59 none
  statics := none }

def pool16 : Array CpInfo := pool [(2, .class_ 4), (1, u "com/example/fieldloom/fieldloom/Kind"), (26, .class_ 32), (0, u "com/example/fieldloom/fieldloom/Kind$5")] 30

/-- com/example/fieldloom/fieldloom/Kind$5 -/
def k16 : Class := { plain "com/example/fieldloom/fieldloom/Kind$5" (some 6) with
  accessFlags := 16432
  interfaces := #[]
  cf := some (fileOf pool16 31 #[.nestHost 2] #[] 16432 2 #[] #[])
  fields := #[]
  methods := #[]
  instanceTypes := #[(.object "java/lang/String"), .int, .int, (.object "java/lang/String"), (.object "java/lang/String"), (.object "com/example/fieldloom/fieldloom/Finding$Severity")]
  staticTypes := #[]
  resolved := Array.replicate 63 none
  statics := none }

def pool17 : Array CpInfo := pool [(2, .class_ 4), (1, u "com/example/fieldloom/fieldloom/Kind"), (22, .class_ 28), (0, u "com/example/fieldloom/fieldloom/Kind$12")] 30

/-- com/example/fieldloom/fieldloom/Kind$12 -/
def k17 : Class := { plain "com/example/fieldloom/fieldloom/Kind$12" (some 6) with
  accessFlags := 16432
  interfaces := #[]
  cf := some (fileOf pool17 27 #[.nestHost 2] #[] 16432 2 #[] #[])
  fields := #[]
  methods := #[]
  instanceTypes := #[(.object "java/lang/String"), .int, .int, (.object "java/lang/String"), (.object "java/lang/String"), (.object "com/example/fieldloom/fieldloom/Finding$Severity")]
  staticTypes := #[]
  resolved := Array.replicate 59 none
  statics := none }

def pool18 : Array CpInfo := pool [(2, .class_ 4), (1, u "com/example/fieldloom/fieldloom/Kind"), (27, .class_ 33), (0, u "com/example/fieldloom/fieldloom/Kind$9")] 30

/-- com/example/fieldloom/fieldloom/Kind$9 -/
def k18 : Class := { plain "com/example/fieldloom/fieldloom/Kind$9" (some 6) with
  accessFlags := 16432
  interfaces := #[]
  cf := some (fileOf pool18 32 #[.nestHost 2] #[] 16432 2 #[] #[])
  fields := #[]
  methods := #[]
  instanceTypes := #[(.object "java/lang/String"), .int, .int, (.object "java/lang/String"), (.object "java/lang/String"), (.object "com/example/fieldloom/fieldloom/Finding$Severity")]
  staticTypes := #[]
  resolved := Array.replicate 64 none
  statics := none }

def pool19 : Array CpInfo := pool [(2, .class_ 4), (1, u "com/example/fieldloom/fieldloom/Kind"), (31, .class_ 37), (0, u "com/example/fieldloom/fieldloom/Kind$7")] 30

/-- com/example/fieldloom/fieldloom/Kind$7 -/
def k19 : Class := { plain "com/example/fieldloom/fieldloom/Kind$7" (some 6) with
  accessFlags := 16432
  interfaces := #[]
  cf := some (fileOf pool19 36 #[.nestHost 2] #[] 16432 2 #[] #[])
  fields := #[]
  methods := #[]
  instanceTypes := #[(.object "java/lang/String"), .int, .int, (.object "java/lang/String"), (.object "java/lang/String"), (.object "com/example/fieldloom/fieldloom/Finding$Severity")]
  staticTypes := #[]
  resolved := Array.replicate 68 none
  statics := none }

def pool20 : Array CpInfo := pool [(2, .class_ 4), (1, u "com/example/fieldloom/fieldloom/Kind"), (3, .class_ 10), (1, u "com/example/fieldloom/fieldloom/Kind$4"), (0, u "flag"), (0, u "(Ljava/lang/CharSequence;)Lcom/example/fieldloom/fieldloom/Flag;"), (0, .fieldref 14 15), (0, .class_ 16), (0, .nameAndType 17 18), (0, u "com/example/fieldloom/fieldloom/Flag"), (0, u "UNKNOWN"), (0, u "Lcom/example/fieldloom/fieldloom/Flag;"), (10, .string 30), (0, u "TRUE"), (0, .methodref 2 32), (0, .nameAndType 33 34), (0, u "equalsIgnoringAsciiCase"), (0, u "(Ljava/lang/CharSequence;Ljava/lang/String;)Z"), (0, .string 36), (0, u "YES"), (0, .fieldref 14 38), (0, .nameAndType 39 18), (0, u "SET"), (0, .string 41), (0, u "FALSE"), (0, .string 43), (0, u "NO"), (0, .fieldref 14 45), (0, .nameAndType 46 18), (0, u "CLEAR")] 30

def k20c0 : Code := { maxStack := 2, maxLocals := 2, code := prog_45_method_3_code, exceptionTable := #[], attributes := #[] }
def k20m0 : Method := { name := "flag", desc := "(Ljava/lang/CharSequence;)Lcom/example/fieldloom/fieldloom/Flag;", sig := { parameters := [(.object "java/lang/CharSequence")], returnType := some (.object "com/example/fieldloom/fieldloom/Flag") }, accessFlags := 0, code := some k20c0 }
/-- com/example/fieldloom/fieldloom/Kind$4 -/
def k20 : Class := { plain "com/example/fieldloom/fieldloom/Kind$4" (some 6) with
  accessFlags := 16432
  interfaces := #[]
  cf := some (fileOf pool20 8 #[.nestHost 2] #[{ accessFlags := 0, nameIndex := 11, descriptorIndex := 12, attributes := #[] }] 16432 2 #[] #[])
  fields := #[]
  methods := #[k20m0]
  instanceTypes := #[(.object "java/lang/String"), .int, .int, (.object "java/lang/String"), (.object "java/lang/String"), (.object "com/example/fieldloom/fieldloom/Finding$Severity")]
  staticTypes := #[]
  resolved := Array.replicate 77 none
  statics := none }

def pool21 : Array CpInfo := pool [(1, .class_ 2), (0, u "java/lang/String"), (1, .class_ 6), (1, u "java/lang/Object"), (0, u "<init>"), (0, u "()V"), (0, .methodref 1 10), (0, .nameAndType 11 12), (0, u "checkIndex"), (0, u "(II)V"), (1, .class_ 16), (1, u "java/lang/StringLatin1"), (36, u "([BI)C"), (67, u "$assertionsDisabled"), (0, u "Z"), (98, .class_ 223), (1, u "java/lang/StringLatin1$LinesSpliterator"), (28, u "charAt"), (137, .class_ 391), (0, u "java/lang/StringLatin1$CharsSpliterator")] 3

def k21m0 : Method := { name := "<init>", desc := "()V", sig := { parameters := [], returnType := none }, accessFlags := 0, code := none }
def k21c1 : Code := { maxStack := 2, maxLocals := 2, code := jdk_43_method_2_code, exceptionTable := #[], attributes := #[] }
def k21m1 : Method := { name := "charAt", desc := "([BI)C", sig := { parameters := [(.array .byte), .int], returnType := some .char }, accessFlags := 9, code := some k21c1 }
/-- java/lang/StringLatin1 -/
def k21 : Class := { plain "java/lang/StringLatin1" (some 0) with
  accessFlags := 48
  interfaces := #[]
  cf := some (fileOf pool21 14 #[.nestMembers #[390, 221]] #[{ accessFlags := 0, nameIndex := 7, descriptorIndex := 8, attributes := #[] }, { accessFlags := 9, nameIndex := 252, descriptorIndex := 53, attributes := #[] }] 48 4 #[] #[{ accessFlags := 4120, nameIndex := 121, descriptorIndex := 122, attributes := #[] }])
  fields := #[{ name := "$assertionsDisabled", type := .boolean, accessFlags := 4120, slot := 0, constantValue := 0 }]
  methods := #[k21m0, k21m1]
  instanceTypes := #[]
  staticTypes := #[.boolean]
  resolved := Array.replicate 395 none
  statics := none }

def pool22 : Array CpInfo := pool [(2, .class_ 4), (1, u "java/lang/Object"), (0, u "<init>"), (0, u "()V"), (17, .class_ 26), (1, u "jdk/internal/util/Preconditions"), (6, u "checkIndex"), (21, .class_ 56), (0, u "jdk/internal/util/Preconditions$4"), (57, .class_ 115), (0, u "jdk/internal/util/Preconditions$1"), (7, u "SIOOBE_FORMATTER"), (0, u "Ljava/util/function/BiFunction;"), (0, .class_ 126), (0, u "jdk/internal/util/Preconditions$2"), (3, u "AIOOBE_FORMATTER"), (0, .class_ 132), (0, u "jdk/internal/util/Preconditions$3"), (3, u "IOOBE_FORMATTER"), (41, u "(IILjava/util/function/BiFunction;)I")] 15

def k22m0 : Method := { name := "<init>", desc := "()V", sig := { parameters := [], returnType := none }, accessFlags := 1, code := none }
def k22c1 : Code := { maxStack := 3, maxLocals := 3, code := jdk_41_method_11_code, exceptionTable := #[], attributes := #[] }
def k22m1 : Method := { name := "checkIndex", desc := "(IILjava/util/function/BiFunction;)I", sig := { parameters := [.int, .int, (.object "java/util/function/BiFunction")], returnType := some .int }, accessFlags := 9, code := some k22c1 }
/-- jdk/internal/util/Preconditions -/
def k22 : Class := { plain "jdk/internal/util/Preconditions" (some 0) with
  accessFlags := 33
  interfaces := #[]
  cf := some (fileOf pool22 24 #[.nestMembers #[55, 131, 125, 114]] #[{ accessFlags := 1, nameIndex := 5, descriptorIndex := 6, attributes := #[] }, { accessFlags := 9, nameIndex := 33, descriptorIndex := 178, attributes := #[] }] 33 2 #[] #[{ accessFlags := 25, nameIndex := 123, descriptorIndex := 124, attributes := #[] }, { accessFlags := 25, nameIndex := 130, descriptorIndex := 124, attributes := #[] }, { accessFlags := 25, nameIndex := 136, descriptorIndex := 124, attributes := #[] }])
  fields := #[{ name := "SIOOBE_FORMATTER", type := (.object "java/util/function/BiFunction"), accessFlags := 25, slot := 0, constantValue := 0 }, { name := "AIOOBE_FORMATTER", type := (.object "java/util/function/BiFunction"), accessFlags := 25, slot := 1, constantValue := 0 }, { name := "IOOBE_FORMATTER", type := (.object "java/util/function/BiFunction"), accessFlags := 25, slot := 2, constantValue := 0 }]
  methods := #[k22m0, k22m1]
  instanceTypes := #[]
  staticTypes := #[(.object "java/util/function/BiFunction"), (.object "java/util/function/BiFunction"), (.object "java/util/function/BiFunction")]
  resolved := Array.replicate 194 none
  statics := some 3 }

def pool23 : Array CpInfo := pool [(2, .class_ 4), (1, u "com/example/fieldloom/fieldloom/Kind"), (30, .class_ 36), (0, u "com/example/fieldloom/fieldloom/Kind$10")] 30

/-- com/example/fieldloom/fieldloom/Kind$10 -/
def k23 : Class := { plain "com/example/fieldloom/fieldloom/Kind$10" (some 6) with
  accessFlags := 16432
  interfaces := #[]
  cf := some (fileOf pool23 35 #[.nestHost 2] #[] 16432 2 #[] #[])
  fields := #[]
  methods := #[]
  instanceTypes := #[(.object "java/lang/String"), .int, .int, (.object "java/lang/String"), (.object "java/lang/String"), (.object "com/example/fieldloom/fieldloom/Finding$Severity")]
  staticTypes := #[]
  resolved := Array.replicate 67 none
  statics := none }

def pool24 : Array CpInfo := pool [(2, .class_ 4), (1, u "com/example/fieldloom/fieldloom/Kind"), (3, .class_ 10), (1, u "com/example/fieldloom/fieldloom/Kind$3"), (0, u "flag"), (0, u "(Ljava/lang/CharSequence;)Lcom/example/fieldloom/fieldloom/Flag;"), (0, .fieldref 14 15), (0, .class_ 16), (0, .nameAndType 17 18), (0, u "com/example/fieldloom/fieldloom/Flag"), (0, u "UNKNOWN"), (0, u "Lcom/example/fieldloom/fieldloom/Flag;"), (10, .string 30), (0, u "TRUE"), (0, .methodref 2 32), (0, .nameAndType 33 34), (0, u "equalsIgnoringAsciiCase"), (0, u "(Ljava/lang/CharSequence;Ljava/lang/String;)Z"), (0, .fieldref 14 36), (0, .nameAndType 37 18), (0, u "SET"), (0, .string 39), (0, u "FALSE"), (0, .fieldref 14 41), (0, .nameAndType 42 18), (0, u "CLEAR")] 30

def k24c0 : Code := { maxStack := 2, maxLocals := 2, code := prog_44_method_3_code, exceptionTable := #[], attributes := #[] }
def k24m0 : Method := { name := "flag", desc := "(Ljava/lang/CharSequence;)Lcom/example/fieldloom/fieldloom/Flag;", sig := { parameters := [(.object "java/lang/CharSequence")], returnType := some (.object "com/example/fieldloom/fieldloom/Flag") }, accessFlags := 0, code := some k24c0 }
/-- com/example/fieldloom/fieldloom/Kind$3 -/
def k24 : Class := { plain "com/example/fieldloom/fieldloom/Kind$3" (some 6) with
  accessFlags := 16432
  interfaces := #[]
  cf := some (fileOf pool24 8 #[.nestHost 2] #[{ accessFlags := 0, nameIndex := 11, descriptorIndex := 12, attributes := #[] }] 16432 2 #[] #[])
  fields := #[]
  methods := #[k24m0]
  instanceTypes := #[(.object "java/lang/String"), .int, .int, (.object "java/lang/String"), (.object "java/lang/String"), (.object "com/example/fieldloom/fieldloom/Finding$Severity")]
  staticTypes := #[]
  resolved := Array.replicate 73 none
  statics := none }

def pool25 : Array CpInfo := pool [(2, .class_ 4), (1, u "com/example/fieldloom/fieldloom/Kind"), (18, .class_ 24), (0, u "com/example/fieldloom/fieldloom/Kind$8")] 30

/-- com/example/fieldloom/fieldloom/Kind$8 -/
def k25 : Class := { plain "com/example/fieldloom/fieldloom/Kind$8" (some 6) with
  accessFlags := 16432
  interfaces := #[]
  cf := some (fileOf pool25 23 #[.nestHost 2] #[] 16432 2 #[] #[])
  fields := #[]
  methods := #[]
  instanceTypes := #[(.object "java/lang/String"), .int, .int, (.object "java/lang/String"), (.object "java/lang/String"), (.object "com/example/fieldloom/fieldloom/Finding$Severity")]
  staticTypes := #[]
  resolved := Array.replicate 55 none
  statics := none }

def pool26 : Array CpInfo := pool [(2, .class_ 4), (1, u "com/example/fieldloom/fieldloom/Kind"), (29, .class_ 35), (0, u "com/example/fieldloom/fieldloom/Kind$6")] 30

/-- com/example/fieldloom/fieldloom/Kind$6 -/
def k26 : Class := { plain "com/example/fieldloom/fieldloom/Kind$6" (some 6) with
  accessFlags := 16432
  interfaces := #[]
  cf := some (fileOf pool26 34 #[.nestHost 2] #[] 16432 2 #[] #[])
  fields := #[]
  methods := #[]
  instanceTypes := #[(.object "java/lang/String"), .int, .int, (.object "java/lang/String"), (.object "java/lang/String"), (.object "com/example/fieldloom/fieldloom/Finding$Severity")]
  staticTypes := #[]
  resolved := Array.replicate 66 none
  statics := none }

def pool27 : Array CpInfo := pool [(9, u "<init>"), (6, .class_ 18), (1, u "java/lang/Object"), (0, u "()V"), (1, .class_ 23), (1, u "jdk/internal/util/ArraysSupport"), (0, u "LOG2_ARRAY_LONG_INDEX_SCALE"), (0, u "I"), (2, u "U"), (0, u "Ljdk/internal/misc/Unsafe;"), (8, u "BIG_ENDIAN"), (0, u "Z"), (8, u "LOG2_BYTE_BIT_SIZE"), (4, u "LOG2_ARRAY_INT_INDEX_SCALE"), (54, u "JLA"), (0, u "Ljdk/internal/access/JavaLangAccess;"), (11, u "LOG2_ARRAY_BOOLEAN_INDEX_SCALE"), (9, u "LOG2_ARRAY_BYTE_INDEX_SCALE"), (5, u "LOG2_ARRAY_CHAR_INDEX_SCALE"), (5, u "LOG2_ARRAY_SHORT_INDEX_SCALE"), (18, u "LOG2_ARRAY_FLOAT_INDEX_SCALE"), (24, u "LOG2_ARRAY_DOUBLE_INDEX_SCALE"), (89, u "T_BOOLEAN"), (2, u "T_CHAR"), (1, u "T_FLOAT"), (1, u "T_DOUBLE"), (1, u "T_BYTE"), (1, u "T_SHORT"), (1, u "T_INT"), (1, u "T_LONG"), (1, u "SOFT_MAX_ARRAY_LENGTH")] 83

def k27m0 : Method := { name := "<init>", desc := "()V", sig := { parameters := [], returnType := none }, accessFlags := 2, code := none }
/-- jdk/internal/util/ArraysSupport -/
def k27 : Class := { plain "jdk/internal/util/ArraysSupport" (some 0) with
  accessFlags := 33
  interfaces := #[]
  cf := some (fileOf pool27 21 #[] #[{ accessFlags := 2, nameIndex := 9, descriptorIndex := 19, attributes := #[] }] 33 16 #[] #[{ accessFlags := 24, nameIndex := 28, descriptorIndex := 29, attributes := #[] }, { accessFlags := 26, nameIndex := 38, descriptorIndex := 39, attributes := #[] }, { accessFlags := 25, nameIndex := 121, descriptorIndex := 25, attributes := #[] }, { accessFlags := 25, nameIndex := 131, descriptorIndex := 25, attributes := #[] }, { accessFlags := 25, nameIndex := 137, descriptorIndex := 25, attributes := #[] }, { accessFlags := 25, nameIndex := 143, descriptorIndex := 25, attributes := #[] }, { accessFlags := 25, nameIndex := 53, descriptorIndex := 25, attributes := #[] }, { accessFlags := 25, nameIndex := 24, descriptorIndex := 25, attributes := #[] }, { accessFlags := 25, nameIndex := 162, descriptorIndex := 25, attributes := #[] }, { accessFlags := 25, nameIndex := 187, descriptorIndex := 25, attributes := #[] }, { accessFlags := 26, nameIndex := 48, descriptorIndex := 25, attributes := #[] }, { accessFlags := 25, nameIndex := 277, descriptorIndex := 25, attributes := #[] }, { accessFlags := 25, nameIndex := 280, descriptorIndex := 25, attributes := #[] }, { accessFlags := 25, nameIndex := 282, descriptorIndex := 25, attributes := #[] }, { accessFlags := 25, nameIndex := 284, descriptorIndex := 25, attributes := #[] }, { accessFlags := 25, nameIndex := 286, descriptorIndex := 25, attributes := #[] }, { accessFlags := 25, nameIndex := 288, descriptorIndex := 25, attributes := #[] }, { accessFlags := 25, nameIndex := 290, descriptorIndex := 25, attributes := #[] }, { accessFlags := 25, nameIndex := 292, descriptorIndex := 25, attributes := #[] }, { accessFlags := 26, nameIndex := 108, descriptorIndex := 109, attributes := #[] }, { accessFlags := 25, nameIndex := 294, descriptorIndex := 25, attributes := #[] }])
  fields := #[{ name := "U", type := (.object "jdk/internal/misc/Unsafe"), accessFlags := 24, slot := 0, constantValue := 0 }, { name := "BIG_ENDIAN", type := .boolean, accessFlags := 26, slot := 1, constantValue := 0 }, { name := "LOG2_ARRAY_BOOLEAN_INDEX_SCALE", type := .int, accessFlags := 25, slot := 2, constantValue := 0 }, { name := "LOG2_ARRAY_BYTE_INDEX_SCALE", type := .int, accessFlags := 25, slot := 3, constantValue := 0 }, { name := "LOG2_ARRAY_CHAR_INDEX_SCALE", type := .int, accessFlags := 25, slot := 4, constantValue := 0 }, { name := "LOG2_ARRAY_SHORT_INDEX_SCALE", type := .int, accessFlags := 25, slot := 5, constantValue := 0 }, { name := "LOG2_ARRAY_INT_INDEX_SCALE", type := .int, accessFlags := 25, slot := 6, constantValue := 0 }, { name := "LOG2_ARRAY_LONG_INDEX_SCALE", type := .int, accessFlags := 25, slot := 7, constantValue := 0 }, { name := "LOG2_ARRAY_FLOAT_INDEX_SCALE", type := .int, accessFlags := 25, slot := 8, constantValue := 0 }, { name := "LOG2_ARRAY_DOUBLE_INDEX_SCALE", type := .int, accessFlags := 25, slot := 9, constantValue := 0 }, { name := "LOG2_BYTE_BIT_SIZE", type := .int, accessFlags := 26, slot := 10, constantValue := 0 }, { name := "T_BOOLEAN", type := .int, accessFlags := 25, slot := 11, constantValue := 0 }, { name := "T_CHAR", type := .int, accessFlags := 25, slot := 12, constantValue := 0 }, { name := "T_FLOAT", type := .int, accessFlags := 25, slot := 13, constantValue := 0 }, { name := "T_DOUBLE", type := .int, accessFlags := 25, slot := 14, constantValue := 0 }, { name := "T_BYTE", type := .int, accessFlags := 25, slot := 15, constantValue := 0 }, { name := "T_SHORT", type := .int, accessFlags := 25, slot := 16, constantValue := 0 }, { name := "T_INT", type := .int, accessFlags := 25, slot := 17, constantValue := 0 }, { name := "T_LONG", type := .int, accessFlags := 25, slot := 18, constantValue := 0 }, { name := "JLA", type := (.object "jdk/internal/access/JavaLangAccess"), accessFlags := 26, slot := 19, constantValue := 0 }, { name := "SOFT_MAX_ARRAY_LENGTH", type := .int, accessFlags := 25, slot := 20, constantValue := 0 }]
  methods := #[k27m0]
  instanceTypes := #[]
  staticTypes := #[(.object "jdk/internal/misc/Unsafe"), .boolean, .int, .int, .int, .int, .int, .int, .int, .int, .int, .int, .int, .int, .int, .int, .int, .int, .int, (.object "jdk/internal/access/JavaLangAccess"), .int]
  resolved := Array.replicate 378 none
  statics := none }

def pool28 : Array CpInfo := pool [(1, u "java/lang/Cloneable"), (0, .class_ 1), (0, u "java/lang/Object"), (0, .class_ 3)] 3

/-- java/lang/Cloneable -/
def k28 : Class := { plain "java/lang/Cloneable" (some 0) with
  accessFlags := 1537
  interfaces := #[]
  cf := some (fileOf pool28 2 #[] #[] 1537 4 #[] #[])
  fields := #[]
  methods := #[]
  instanceTypes := #[]
  staticTypes := #[]
  resolved := Array.replicate 8 none
  statics := none }

/-- the primitive byte -/
def k29 : Class := { plain "byte" none with kind := .primitive 'B', accessFlags := 0x411 }
/-- [B -/
def k30 : Class := { plain "[B" (some 0) with kind := .array 29 .byte, interfaces := #[28, 4], accessFlags := 1041 }

/-- the primitive char -/
def k31 : Class := { plain "char" none with kind := .primitive 'C', accessFlags := 0x411 }
/-- [C -/
def k32 : Class := { plain "[C" (some 0) with kind := .array 31 .char, interfaces := #[28, 4], accessFlags := 1041 }

/-- the primitive int -/
def k33 : Class := { plain "int" none with kind := .primitive 'I', accessFlags := 0x411 }
/-- [I -/
def k34 : Class := { plain "[I" (some 0) with kind := .array 33 .int, interfaces := #[28, 4], accessFlags := 1041 }

def heap : Heap := #[{ cls := 6, slots := #[.ref 7, .ref 8, .ref 9, .ref 10, .ref 11, .ref 12, .ref 13, .ref 14, .ref 15, .ref 16, .ref 17, .ref 18, .ref 19, .null], vm := .statics 6 },
  { cls := 9, slots := #[.long 0, .int 1, .null, .int 0, .null, .int 0, .int 0], vm := .statics 9 },
  { cls := 12, slots := #[.ref 4, .ref 5, .ref 6, .null], vm := .statics 12 },
  { cls := 22, slots := #[.null, .null, .null], vm := .statics 22 },
  { cls := 12, slots := #[.null, .int 0, .int 0], vm := .none },
  { cls := 12, slots := #[.null, .int 1, .int 0], vm := .none },
  { cls := 12, slots := #[.null, .int 2, .int 0], vm := .none },
  { cls := 11, slots := #[.null, .int 0, .int 0, .null, .null, .null], vm := .none },
  { cls := 14, slots := #[.null, .int 1, .int 0, .null, .null, .null], vm := .none },
  { cls := 24, slots := #[.null, .int 2, .int 0, .null, .null, .null], vm := .none },
  { cls := 20, slots := #[.null, .int 3, .int 0, .null, .null, .null], vm := .none },
  { cls := 16, slots := #[.null, .int 4, .int 0, .null, .null, .null], vm := .none },
  { cls := 26, slots := #[.null, .int 5, .int 0, .null, .null, .null], vm := .none },
  { cls := 19, slots := #[.null, .int 6, .int 0, .null, .null, .null], vm := .none },
  { cls := 25, slots := #[.null, .int 7, .int 0, .null, .null, .null], vm := .none },
  { cls := 18, slots := #[.null, .int 8, .int 0, .null, .null, .null], vm := .none },
  { cls := 23, slots := #[.null, .int 9, .int 0, .null, .null, .null], vm := .none },
  { cls := 15, slots := #[.null, .int 10, .int 0, .null, .null, .null], vm := .none },
  { cls := 17, slots := #[.null, .int 11, .int 0, .null, .null, .null], vm := .none },
  { cls := 13, slots := #[.null, .int 12, .int 0, .null, .null, .null], vm := .none }]
def classes : Array Class := #[k0, k1, k2, k3, k4, k5, k6, k7, k8, k9, k10, k11, k12, k13, k14, k15, k16, k17, k18, k19, k20, k21, k22, k23, k24, k25, k26, k27, k28, k29, k30, k31, k32, k33, k34]
def interned : List (Array UInt16 × Addr) := []
def slotsUsed : Nat := 115
def theMethod : MethodId := ⟨1, 1⟩
def args0 : Array Value := #[.int 2, .int 3, .long 0x455559]
def aboutOver (below : List Frame) : State where
  vm := { classes := classes, interned := interned.toArray }
  heap := heap
  slotsUsed := slotsUsed
  threads := #[{ frames := .invoking theMethod args0 :: below }]
def below0 : List Frame := [.native { method := ⟨0, 0⟩, args := #[] }]
def about1 : State := aboutOver below0
def p0 : Program := .bare "" "" ""
def e0 : Env := launch0.env 0 0 0
theorem w_frames : about1.frames = Frame.invoking theMethod args0 :: below0 := rfl
set_option maxRecDepth 65536 in
theorem w_args : argsFit about1.vm theMethod args0 = true := by decide +kernel
set_option maxRecDepth 65536 in
theorem w_heap : heapFits about1 = true := by decide +kernel
set_option maxRecDepth 65536 in
theorem w_runnable : about1.curStatus? = some .runnable := by decide +kernel
set_option maxRecDepth 65536 in
theorem w_alone : about1.alone = true := by decide +kernel
set_option maxRecDepth 65536 in
theorem w_named : about1.methodNamed? x = some theMethod := by decide +kernel
set_option maxRecDepth 65536 in
theorem w_hears : about1.hears theMethod below0 = true := by decide +kernel
set_option maxRecDepth 65536 in
theorem w_ripe : about1.ripe theMethod args0 below0 = true := by decide +kernel
theorem w_running : about1.status = .running := rfl
set_option maxRecDepth 65536 in
theorem w_room : about1.hasRoom e0.platform room_1 = true :=
  launch0.hasRoom_least _ room_1 (by decide +kernel) (by decide +kernel) (by decide +kernel) (by decide +kernel) (by decide +kernel) (by decide +kernel)
theorem allAtoms_all (ts : List Jvm.Cond) (a : Array Jvm.Value) (st : Jvm.State) : (allAtoms ts).before a st = ts.all (fun c => c.before a st) := by
  induction ts with
  | nil => rfl
  | cons c t ih =>
    show (Jvm.Cond.and c (allAtoms t)).before a st = _
    rw [Jvm.Cond.before_and, ih, List.all_cons]
def words1 : List Jvm.Cond := Jvm.Cond.code x code maxLocals ret :: tables_1
/-- a 'code' word, met by the world's own term for the bytes: nothing is compared byte by byte -/
theorem code_word {y : MethodName} {bytes : ByteArray} {mx : Nat} {rt : Option FieldType} {a : Array Value} {s : State} {m : MethodId} {meth : Method} {c : Code} (h1 : s.methodNamed? y = some m) (h2 : s.vm.method? m = some meth) (h3 : meth.code = some c) (h4 : c.code = bytes)
    (h5 : (c.maxLocals == mx && c.exceptionTable.isEmpty && decide (c.maxStack ≤ mostOperands) && decide (meth.sig.returnType = rt) && !meth.locks && decide (parseMethodDescriptor y.desc = some meth.sig)) = true) : (Jvm.Cond.code y bytes mx rt).before a s = true := by
  simp only [Bool.and_eq_true, beq_iff_eq, Bool.not_eq_true', decide_eq_true_eq] at h5
  obtain ⟨⟨⟨⟨⟨g1, g2⟩, g3⟩, g4⟩, g5⟩, g6⟩ := h5
  simp [Cond.before, Cond.holds, Cond.value, h1, h2, h3, h4, g1, g2, g3, g4, g5, g6]
def isCode : Jvm.Cond → Bool
  | .code _ _ _ _ => true
  | _ => false
theorem all_split {L : List Jvm.Cond} {P : Jvm.Cond → Bool} (h1 : L.all (fun c => isCode c || P c) = true) (h2 : ∀ c ∈ L.filter isCode, P c = true) : L.all P = true := by
  refine List.all_eq_true.mpr fun c hc => ?_
  have h := List.all_eq_true.mp h1 c hc
  rcases Bool.eq_false_or_eq_true (isCode c) with hi | hi
  · exact h2 c (List.mem_filter.mpr ⟨hc, hi⟩)
  · simpa [hi] using h
set_option maxRecDepth 65536 in
theorem w_c0 : (Jvm.Cond.code x code maxLocals ret).before args0 about1 = true := code_word (m := ⟨1, 1⟩) (meth := k1m1) (c := k1c1) (by decide +kernel) rfl rfl rfl (by decide +kernel)
set_option maxRecDepth 65536 in
theorem w_c1 : (Jvm.Cond.code ({ cls := "com/example/fieldloom/fieldloom/KindIsFlagPinLaw", name := "pick", desc := "(I)Lcom/example/fieldloom/fieldloom/Kind;" } : Jvm.MethodName) method_3_code (1 : Nat) (Option.some (Jvm.ClassFile.FieldType.object "com/example/fieldloom/fieldloom/Kind"))).before args0 about1 = true := code_word (m := ⟨1, 2⟩) (meth := k1m2) (c := k1c2) (by decide +kernel) rfl rfl rfl (by decide +kernel)
set_option maxRecDepth 65536 in
theorem w_c2 : (Jvm.Cond.code ({ cls := "com/example/fieldloom/fieldloom/KindIsFlagPinLaw", name := "draw", desc := "(IJ)Ljava/lang/String;" } : Jvm.MethodName) method_4_code (7 : Nat) (Option.some (Jvm.ClassFile.FieldType.object "java/lang/String"))).before args0 about1 = true := code_word (m := ⟨1, 3⟩) (meth := k1m3) (c := k1c3) (by decide +kernel) rfl rfl rfl (by decide +kernel)
set_option maxRecDepth 65536 in
theorem w_c3 : (Jvm.Cond.code ({ cls := "java/lang/String", name := "<init>", desc := "([C)V" } : Jvm.MethodName) jdk_42_method_3_code (2 : Nat) (Option.none : Option Jvm.ClassFile.FieldType)).before args0 about1 = true := code_word (m := ⟨9, 1⟩) (meth := k9m1) (c := k9c1) (by decide +kernel) rfl rfl rfl (by decide +kernel)
set_option maxRecDepth 65536 in
theorem w_c4 : (Jvm.Cond.code ({ cls := "java/lang/String", name := "<init>", desc := "([CIILjava/lang/Void;)V" } : Jvm.MethodName) jdk_42_method_149_code (6 : Nat) (Option.none : Option Jvm.ClassFile.FieldType)).before args0 about1 = true := code_word (m := ⟨9, 4⟩) (meth := k9m4) (c := k9c4) (by decide +kernel) rfl rfl rfl (by decide +kernel)
set_option maxRecDepth 65536 in
theorem w_c5 : (Jvm.Cond.code ({ cls := "java/lang/Object", name := "<init>", desc := "()V" } : Jvm.MethodName) object_method_1_code (1 : Nat) (Option.none : Option Jvm.ClassFile.FieldType)).before args0 about1 = true := code_word (m := ⟨0, 0⟩) (meth := k0m0) (c := k0c0) (by decide +kernel) rfl rfl rfl (by decide +kernel)
set_option maxRecDepth 65536 in
theorem w_c6 : (Jvm.Cond.code ({ cls := "java/lang/StringUTF16", name := "compress", desc := "([CII)[B" } : Jvm.MethodName) jdk_52_method_16_code (6 : Nat) (Option.some (Jvm.ClassFile.FieldType.array Jvm.ClassFile.FieldType.byte))).before args0 about1 = true := code_word (m := ⟨10, 2⟩) (meth := k10m2) (c := k10c2) (by decide +kernel) rfl rfl rfl (by decide +kernel)
set_option maxRecDepth 65536 in
theorem w_c7 : (Jvm.Cond.code ({ cls := "java/lang/StringUTF16", name := "compress", desc := "([CI[BII)I" } : Jvm.MethodName) jdk_52_method_21_code (7 : Nat) (Option.some Jvm.ClassFile.FieldType.int)).before args0 about1 = true := code_word (m := ⟨10, 3⟩) (meth := k10m3) (c := k10c3) (by decide +kernel) rfl rfl rfl (by decide +kernel)
set_option maxRecDepth 65536 in
theorem w_c8 : (Jvm.Cond.code ({ cls := "java/lang/StringUTF16", name := "coderFromArrayLen", desc := "([BI)B" } : Jvm.MethodName) jdk_52_method_15_code (2 : Nat) (Option.some Jvm.ClassFile.FieldType.byte)).before args0 about1 = true := code_word (m := ⟨10, 1⟩) (meth := k10m1) (c := k10c1) (by decide +kernel) rfl rfl rfl (by decide +kernel)
set_option maxRecDepth 65536 in
theorem w_c9 : (Jvm.Cond.code ({ cls := "com/example/fieldloom/fieldloom/Kind", name := "isFlag", desc := "()Z" } : Jvm.MethodName) prog_37_method_4_code (1 : Nat) (Option.some Jvm.ClassFile.FieldType.boolean)).before args0 about1 = true := code_word (m := ⟨6, 0⟩) (meth := k6m0) (c := k6c0) (by decide +kernel) rfl rfl rfl (by decide +kernel)
set_option maxRecDepth 65536 in
theorem w_c10 : (Jvm.Cond.code ({ cls := "com/example/fieldloom/fieldloom/Kind", name := "flag", desc := "(Ljava/lang/CharSequence;)Lcom/example/fieldloom/fieldloom/Flag;" } : Jvm.MethodName) prog_37_method_8_code (2 : Nat) (Option.some (Jvm.ClassFile.FieldType.object "com/example/fieldloom/fieldloom/Flag"))).before args0 about1 = true := code_word (m := ⟨6, 1⟩) (meth := k6m1) (c := k6c1) (by decide +kernel) rfl rfl rfl (by decide +kernel)
set_option maxRecDepth 65536 in
theorem w_c11 : (Jvm.Cond.code ({ cls := "com/example/fieldloom/fieldloom/Kind$4", name := "flag", desc := "(Ljava/lang/CharSequence;)Lcom/example/fieldloom/fieldloom/Flag;" } : Jvm.MethodName) prog_45_method_3_code (2 : Nat) (Option.some (Jvm.ClassFile.FieldType.object "com/example/fieldloom/fieldloom/Flag"))).before args0 about1 = true := code_word (m := ⟨20, 0⟩) (meth := k20m0) (c := k20c0) (by decide +kernel) rfl rfl rfl (by decide +kernel)
set_option maxRecDepth 65536 in
theorem w_c12 : (Jvm.Cond.code ({ cls := "com/example/fieldloom/fieldloom/Kind", name := "equalsIgnoringAsciiCase", desc := "(Ljava/lang/CharSequence;Ljava/lang/String;)Z" } : Jvm.MethodName) prog_37_method_9_code (5 : Nat) (Option.some Jvm.ClassFile.FieldType.boolean)).before args0 about1 = true := code_word (m := ⟨6, 2⟩) (meth := k6m2) (c := k6c2) (by decide +kernel) rfl rfl rfl (by decide +kernel)
set_option maxRecDepth 65536 in
theorem w_c13 : (Jvm.Cond.code ({ cls := "java/lang/String", name := "length", desc := "()I" } : Jvm.MethodName) jdk_42_method_54_code (1 : Nat) (Option.some Jvm.ClassFile.FieldType.int)).before args0 about1 = true := code_word (m := ⟨9, 2⟩) (meth := k9m2) (c := k9c2) (by decide +kernel) rfl rfl rfl (by decide +kernel)
set_option maxRecDepth 65536 in
theorem w_c14 : (Jvm.Cond.code ({ cls := "java/lang/String", name := "coder", desc := "()B" } : Jvm.MethodName) jdk_42_method_152_code (1 : Nat) (Option.some Jvm.ClassFile.FieldType.byte)).before args0 about1 = true := code_word (m := ⟨9, 5⟩) (meth := k9m5) (c := k9c5) (by decide +kernel) rfl rfl rfl (by decide +kernel)
set_option maxRecDepth 65536 in
theorem w_c15 : (Jvm.Cond.code ({ cls := "java/lang/String", name := "charAt", desc := "(I)C" } : Jvm.MethodName) jdk_42_method_56_code (2 : Nat) (Option.some Jvm.ClassFile.FieldType.char)).before args0 about1 = true := code_word (m := ⟨9, 3⟩) (meth := k9m3) (c := k9c3) (by decide +kernel) rfl rfl rfl (by decide +kernel)
set_option maxRecDepth 65536 in
theorem w_c16 : (Jvm.Cond.code ({ cls := "java/lang/String", name := "isLatin1", desc := "()Z" } : Jvm.MethodName) jdk_42_method_154_code (1 : Nat) (Option.some Jvm.ClassFile.FieldType.boolean)).before args0 about1 = true := code_word (m := ⟨9, 6⟩) (meth := k9m6) (c := k9c6) (by decide +kernel) rfl rfl rfl (by decide +kernel)
set_option maxRecDepth 65536 in
theorem w_c17 : (Jvm.Cond.code ({ cls := "java/lang/StringLatin1", name := "charAt", desc := "([BI)C" } : Jvm.MethodName) jdk_43_method_2_code (2 : Nat) (Option.some Jvm.ClassFile.FieldType.char)).before args0 about1 = true := code_word (m := ⟨21, 1⟩) (meth := k21m1) (c := k21c1) (by decide +kernel) rfl rfl rfl (by decide +kernel)
set_option maxRecDepth 65536 in
theorem w_c18 : (Jvm.Cond.code ({ cls := "java/lang/String", name := "checkIndex", desc := "(II)V" } : Jvm.MethodName) jdk_42_method_155_code (2 : Nat) (Option.none : Option Jvm.ClassFile.FieldType)).before args0 about1 = true := code_word (m := ⟨9, 7⟩) (meth := k9m7) (c := k9c7) (by decide +kernel) rfl rfl rfl (by decide +kernel)
set_option maxRecDepth 65536 in
theorem w_c19 : (Jvm.Cond.code ({ cls := "jdk/internal/util/Preconditions", name := "checkIndex", desc := "(IILjava/util/function/BiFunction;)I" } : Jvm.MethodName) jdk_41_method_11_code (3 : Nat) (Option.some Jvm.ClassFile.FieldType.int)).before args0 about1 = true := code_word (m := ⟨22, 1⟩) (meth := k22m1) (c := k22c1) (by decide +kernel) rfl rfl rfl (by decide +kernel)
set_option maxRecDepth 65536 in
theorem w_c20 : (Jvm.Cond.code ({ cls := "com/example/fieldloom/fieldloom/Kind$3", name := "flag", desc := "(Ljava/lang/CharSequence;)Lcom/example/fieldloom/fieldloom/Flag;" } : Jvm.MethodName) prog_44_method_3_code (2 : Nat) (Option.some (Jvm.ClassFile.FieldType.object "com/example/fieldloom/fieldloom/Flag"))).before args0 about1 = true := code_word (m := ⟨24, 0⟩) (meth := k24m0) (c := k24c0) (by decide +kernel) rfl rfl rfl (by decide +kernel)
def codes1 : List Jvm.Cond := [Jvm.Cond.code x code maxLocals ret, Jvm.Cond.code ({ cls := "com/example/fieldloom/fieldloom/KindIsFlagPinLaw", name := "pick", desc := "(I)Lcom/example/fieldloom/fieldloom/Kind;" } : Jvm.MethodName) method_3_code (1 : Nat) (Option.some (Jvm.ClassFile.FieldType.object "com/example/fieldloom/fieldloom/Kind")), Jvm.Cond.code ({ cls := "com/example/fieldloom/fieldloom/KindIsFlagPinLaw", name := "draw", desc := "(IJ)Ljava/lang/String;" } : Jvm.MethodName) method_4_code (7 : Nat) (Option.some (Jvm.ClassFile.FieldType.object "java/lang/String")), Jvm.Cond.code ({ cls := "java/lang/String", name := "<init>", desc := "([C)V" } : Jvm.MethodName) jdk_42_method_3_code (2 : Nat) (Option.none : Option Jvm.ClassFile.FieldType), Jvm.Cond.code ({ cls := "java/lang/String", name := "<init>", desc := "([CIILjava/lang/Void;)V" } : Jvm.MethodName) jdk_42_method_149_code (6 : Nat) (Option.none : Option Jvm.ClassFile.FieldType), Jvm.Cond.code ({ cls := "java/lang/Object", name := "<init>", desc := "()V" } : Jvm.MethodName) object_method_1_code (1 : Nat) (Option.none : Option Jvm.ClassFile.FieldType), Jvm.Cond.code ({ cls := "java/lang/StringUTF16", name := "compress", desc := "([CII)[B" } : Jvm.MethodName) jdk_52_method_16_code (6 : Nat) (Option.some (Jvm.ClassFile.FieldType.array Jvm.ClassFile.FieldType.byte)), Jvm.Cond.code ({ cls := "java/lang/StringUTF16", name := "compress", desc := "([CI[BII)I" } : Jvm.MethodName) jdk_52_method_21_code (7 : Nat) (Option.some Jvm.ClassFile.FieldType.int), Jvm.Cond.code ({ cls := "java/lang/StringUTF16", name := "coderFromArrayLen", desc := "([BI)B" } : Jvm.MethodName) jdk_52_method_15_code (2 : Nat) (Option.some Jvm.ClassFile.FieldType.byte), Jvm.Cond.code ({ cls := "com/example/fieldloom/fieldloom/Kind", name := "isFlag", desc := "()Z" } : Jvm.MethodName) prog_37_method_4_code (1 : Nat) (Option.some Jvm.ClassFile.FieldType.boolean), Jvm.Cond.code ({ cls := "com/example/fieldloom/fieldloom/Kind", name := "flag", desc := "(Ljava/lang/CharSequence;)Lcom/example/fieldloom/fieldloom/Flag;" } : Jvm.MethodName) prog_37_method_8_code (2 : Nat) (Option.some (Jvm.ClassFile.FieldType.object "com/example/fieldloom/fieldloom/Flag")), Jvm.Cond.code ({ cls := "com/example/fieldloom/fieldloom/Kind$4", name := "flag", desc := "(Ljava/lang/CharSequence;)Lcom/example/fieldloom/fieldloom/Flag;" } : Jvm.MethodName) prog_45_method_3_code (2 : Nat) (Option.some (Jvm.ClassFile.FieldType.object "com/example/fieldloom/fieldloom/Flag")), Jvm.Cond.code ({ cls := "com/example/fieldloom/fieldloom/Kind", name := "equalsIgnoringAsciiCase", desc := "(Ljava/lang/CharSequence;Ljava/lang/String;)Z" } : Jvm.MethodName) prog_37_method_9_code (5 : Nat) (Option.some Jvm.ClassFile.FieldType.boolean), Jvm.Cond.code ({ cls := "java/lang/String", name := "length", desc := "()I" } : Jvm.MethodName) jdk_42_method_54_code (1 : Nat) (Option.some Jvm.ClassFile.FieldType.int), Jvm.Cond.code ({ cls := "java/lang/String", name := "coder", desc := "()B" } : Jvm.MethodName) jdk_42_method_152_code (1 : Nat) (Option.some Jvm.ClassFile.FieldType.byte), Jvm.Cond.code ({ cls := "java/lang/String", name := "charAt", desc := "(I)C" } : Jvm.MethodName) jdk_42_method_56_code (2 : Nat) (Option.some Jvm.ClassFile.FieldType.char), Jvm.Cond.code ({ cls := "java/lang/String", name := "isLatin1", desc := "()Z" } : Jvm.MethodName) jdk_42_method_154_code (1 : Nat) (Option.some Jvm.ClassFile.FieldType.boolean), Jvm.Cond.code ({ cls := "java/lang/StringLatin1", name := "charAt", desc := "([BI)C" } : Jvm.MethodName) jdk_43_method_2_code (2 : Nat) (Option.some Jvm.ClassFile.FieldType.char), Jvm.Cond.code ({ cls := "java/lang/String", name := "checkIndex", desc := "(II)V" } : Jvm.MethodName) jdk_42_method_155_code (2 : Nat) (Option.none : Option Jvm.ClassFile.FieldType), Jvm.Cond.code ({ cls := "jdk/internal/util/Preconditions", name := "checkIndex", desc := "(IILjava/util/function/BiFunction;)I" } : Jvm.MethodName) jdk_41_method_11_code (3 : Nat) (Option.some Jvm.ClassFile.FieldType.int), Jvm.Cond.code ({ cls := "com/example/fieldloom/fieldloom/Kind$3", name := "flag", desc := "(Ljava/lang/CharSequence;)Lcom/example/fieldloom/fieldloom/Flag;" } : Jvm.MethodName) prog_44_method_3_code (2 : Nat) (Option.some (Jvm.ClassFile.FieldType.object "com/example/fieldloom/fieldloom/Flag"))]
set_option maxRecDepth 65536 in
theorem codes_eq : words1.filter isCode = codes1 := rfl
theorem w_codes : ∀ c ∈ words1.filter isCode, c.before args0 about1 = true := by
  rw [codes_eq]
  intro c hc
  simp only [codes1, List.mem_cons, List.not_mem_nil, or_false] at hc
  rcases hc with rfl | rfl | rfl | rfl | rfl | rfl | rfl | rfl | rfl | rfl | rfl | rfl | rfl | rfl | rfl | rfl | rfl | rfl | rfl | rfl | rfl
  · exact w_c0
  · exact w_c1
  · exact w_c2
  · exact w_c3
  · exact w_c4
  · exact w_c5
  · exact w_c6
  · exact w_c7
  · exact w_c8
  · exact w_c9
  · exact w_c10
  · exact w_c11
  · exact w_c12
  · exact w_c13
  · exact w_c14
  · exact w_c15
  · exact w_c16
  · exact w_c17
  · exact w_c18
  · exact w_c19
  · exact w_c20
set_option maxRecDepth 65536 in
theorem w_t1 : (words1.take 24).all (fun c => isCode c || c.before args0 about1) = true := by decide +kernel
set_option maxRecDepth 65536 in
theorem w_t2 : ((words1.drop 24).take 24).all (fun c => isCode c || c.before args0 about1) = true := by decide +kernel
set_option maxRecDepth 65536 in
theorem w_t3 : (((words1.drop 24).drop 24).take 24).all (fun c => isCode c || c.before args0 about1) = true := by decide +kernel
set_option maxRecDepth 65536 in
theorem w_t4 : ((((words1.drop 24).drop 24).drop 24).take 24).all (fun c => isCode c || c.before args0 about1) = true := by decide +kernel
set_option maxRecDepth 65536 in
theorem w_t5 : (((((words1.drop 24).drop 24).drop 24).drop 24).take 24).all (fun c => isCode c || c.before args0 about1) = true := by decide +kernel
set_option maxRecDepth 65536 in
theorem w_t6 : ((((((words1.drop 24).drop 24).drop 24).drop 24).drop 24).take 24).all (fun c => isCode c || c.before args0 about1) = true := by decide +kernel
set_option maxRecDepth 65536 in
theorem w_t7 : (((((((words1.drop 24).drop 24).drop 24).drop 24).drop 24).drop 24).take 24).all (fun c => isCode c || c.before args0 about1) = true := by decide +kernel
set_option maxRecDepth 65536 in
theorem w_t8 : (((((((words1.drop 24).drop 24).drop 24).drop 24).drop 24).drop 24).drop 24).all (fun c => isCode c || c.before args0 about1) = true := by decide +kernel
theorem w_tables : (allAtoms (Jvm.Cond.code x code maxLocals ret :: tables_1)).before args0 about1 = true := by
  rw [allAtoms_all]
  show words1.all (fun c => c.before args0 about1) = true
  refine all_split ?_ w_codes
  rw [← List.take_append_drop 24 words1, List.all_append, w_t1, ← List.take_append_drop 24 (words1.drop 24), List.all_append, w_t2, ← List.take_append_drop 24 ((words1.drop 24).drop 24), List.all_append, w_t3, ← List.take_append_drop 24 (((words1.drop 24).drop 24).drop 24), List.all_append, w_t4, ← List.take_append_drop 24 ((((words1.drop 24).drop 24).drop 24).drop 24), List.all_append, w_t5, ← List.take_append_drop 24 (((((words1.drop 24).drop 24).drop 24).drop 24).drop 24), List.all_append, w_t6, ← List.take_append_drop 24 ((((((words1.drop 24).drop 24).drop 24).drop 24).drop 24).drop 24), List.all_append, w_t7, w_t8]
  rfl
set_option maxRecDepth 65536 in
theorem w_rest : rest_1_c.before args0 about1 = true := by decide +kernel
set_option maxRecDepth 65536 in
theorem w_case : (Jvm.Cond.and given_1 narrow_1).before args0 about1 = true := by decide +kernel
set_option maxRecDepth 65536 in
theorem w_consts : constsHeld consts_1 about1 := Jvm.Lit.constsHeldB_iff.mp (by decide +kernel)
theorem w_applies : (headSpec (Jvm.Cond.code x code maxLocals ret :: tables_1) room_1).applies x e0.platform about1 = true :=
  (Spec.applies_iff w_frames).mpr ⟨w_running, w_runnable, w_alone, w_named, w_hears, w_ripe, w_room, w_tables⟩
theorem atStart : AtStart classFile x code maxLocals ret World_1 tables_1 room_1 Calls_1 rest_1 Pre_1 launch0 p0 e0 about1 theMethod args0 below0 :=
  ⟨lists_1, trivial, launch0.admits_env _ _ _, launch0.least_env, fairChoices_fair.cas, fairChoices_fair.clock, w_frames, w_args, w_heap, w_applies, ⟨w_consts, trivial⟩, w_rest, w_case⟩
end start1
theorem witness_1 : WitnessClaimed_1 := ⟨start1.p0, start1.e0, start1.about1, start1.theMethod, start1.args0, start1.below0, start1.atStart⟩
end Jvm.Pilot.@@N@@
