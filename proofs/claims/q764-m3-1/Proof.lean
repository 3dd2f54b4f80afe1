import JvmDerived
import JvmDerived.Pilot.@@N@@Statement
import JvmDerived.Pilot.@@N@@Code
set_option linter.unusedVariables false
set_option linter.unusedSimpArgs false
namespace Jvm.Pilot.@@N@@
open Jvm Jvm.ClassFile Sem Op Lib Jvm.Free Jvm.Stand Jvm.LawKit Jvm.RoadKit Bundle Jvm.Pilot.@@N@@.Jvm.D
section Own
variable {p : Program} {l : Launch} {e : Env} {R : Room} {s : State} {m : MethodId} {args : Array Value} {below : List Frame} {meth : Method} {c : Code} {T : State} {locs : List Loc} {cells slots : Nat}
/-- from U the run comes to an end of which Q holds -/
def OwnEnds (tb : Tables) (e : Env) (below : List Frame) (Q : Outcome → State → Prop) (U : State) : Prop :=
  ∃ s₂ o, Steps tb e below U s₂ ∧ s₂.status = .running ∧ Ended s₂ below o ∧ Q o s₂
abbrev OwnQ (s : State) (K N : Nat) (Q : Option Value → Heap → List Loc → Prop) : Outcome → State → Prop :=
  fun o U => ∃ v L, o = .returned v ∧ Q v U.heap L ∧ FrameEnd s o U L K N
theorem own_via {tb : Tables} {Q : Outcome → State → Prop} {U U' : State} (h : ∀ t, Steps tb e below U' t → Steps tb e below U t) (k : OwnEnds tb e below Q U') : OwnEnds tb e below Q U := by
  obtain ⟨s₂, o, h1, h2⟩ := k
  exact ⟨s₂, o, h _ h1, h2⟩
theorem own_of {tb : Tables} {Q : Outcome → State → Prop} {U U' : State} (h : Steps tb e below U U') (k : OwnEnds tb e below Q U') : OwnEnds tb e below Q U :=
  own_via (fun _ q => h.trans q) k
theorem own_wide {K N : Nat} (X : Stand p l e R s m args below meth c T locs cells slots) (h1 : cells ≤ K) (h2 : slots ≤ N) : Stand p l e R s m args below meth c T locs K N :=
  { X with same := X.same.mono h1 h2 }
theorem own_ret (X : Stand p l e R s m args below meth c T locs cells slots) {Q : Option Value → Heap → List Loc → Prop} {K N : Nat} {v : Option Value} (hv : meth.sig.returnType = none → v = none) (hlk : meth.locks = false) {f : JFrame}
    (st : ∀ fs, (∀ (f : JFrame) (acts : List Action), f.method = m → f.locked = none → f.entered = [] → (doReturn e (T.setTop f) acts v).1 = T.setFrames fs) → Steps p.tables e below (T.setTop f) (T.setFrames fs))
    (hQ : Q v T.heap locs) (hK : cells ≤ K) (hN : slots ≤ N) : OwnEnds p.tables e below (OwnQ s K N Q) (T.setTop f) := by
  obtain ⟨fs, hr, hrun, hended, hW, hsame⟩ := X.leave (v := v) hv hlk
  exact ⟨_, _, st fs hr, hrun, hended, _, _, rfl, hQ, ⟨_, rfl⟩, hW, hsame.mono hK hN⟩
theorem own_retI (X : Stand p l e R s m args below meth c T locs cells slots) (hx : p.tables.exec = Jvm.exec) {Q : Option Value → Heap → List Loc → Prop} {K N pc : Nat} {Ls : Array Slot} {z : Int32} {rest : List Value} (hret : meth.sig.returnType = some .int) (hlk : meth.locks = false) (hd : decode c.code pc = .ok (.ireturn, 1))
    (hQ : Q (some (.int z)) T.heap locs) (hK : cells ≤ K) (hN : slots ≤ N) : OwnEnds p.tables e below (OwnQ s K N Q) (T.setTop (mkF m pc Ls (.int z :: rest))) :=
  own_ret X (fun h => by rw [hret] at h; cases h) hlk (fun fs hl => retOut X hx hret rfl (Or.inl ⟨rfl, Or.inl rfl, z, rfl⟩) hd hl) hQ hK hN
theorem own_retN (X : Stand p l e R s m args below meth c T locs cells slots) (hx : p.tables.exec = Jvm.exec) {Q : Option Value → Heap → List Loc → Prop} {K N pc : Nat} {Ls : Array Slot} {z : Int32} {t : FieldType} {rest : List Value} (hret : meth.sig.returnType = some t) (ht : t = .boolean ∨ t = .byte ∨ t = .char ∨ t = .short) (hlk : meth.locks = false) (hd : decode c.code pc = .ok (.ireturn, 1))
    (hQ : Q (some (.int (nar t z))) T.heap locs) (hK : cells ≤ K) (hN : slots ≤ N) : OwnEnds p.tables e below (OwnQ s K N Q) (T.setTop (mkF m pc Ls (.int z :: rest))) :=
  own_ret X (fun h => by rw [hret] at h; cases h) hlk (fun fs hl => retN X hx hret ht hd hl) hQ hK hN
theorem own_retJ (X : Stand p l e R s m args below meth c T locs cells slots) (hx : p.tables.exec = Jvm.exec) {Q : Option Value → Heap → List Loc → Prop} {K N pc : Nat} {Ls : Array Slot} {z : Int64} {rest : List Value} (hret : meth.sig.returnType = some .long) (hlk : meth.locks = false) (hd : decode c.code pc = .ok (.lreturn, 1))
    (hQ : Q (some (.long z)) T.heap locs) (hK : cells ≤ K) (hN : slots ≤ N) : OwnEnds p.tables e below (OwnQ s K N Q) (T.setTop (mkF m pc Ls (.long z :: rest))) :=
  own_ret X (fun h => by rw [hret] at h; cases h) hlk (fun fs hl => retOut X hx hret rfl (Or.inr (Or.inl ⟨rfl, rfl, z, rfl⟩)) hd hl) hQ hK hN
theorem own_retA (X : Stand p l e R s m args below meth c T locs cells slots) (hx : p.tables.exec = Jvm.exec) {Q : Option Value → Heap → List Loc → Prop} {K N pc : Nat} {Ls : Array Slot} {w : Value} {t : FieldType} {rest : List Value} (hret : meth.sig.returnType = some t) (ht : t.isReference = true) (hw : w.isRef = true) (hlk : meth.locks = false) (hd : decode c.code pc = .ok (.areturn, 1))
    (hQ : Q (some w) T.heap locs) (hK : cells ≤ K) (hN : slots ≤ N) : OwnEnds p.tables e below (OwnQ s K N Q) (T.setTop (mkF m pc Ls (w :: rest))) :=
  own_ret X (fun h => by rw [hret] at h; cases h) hlk (fun fs hl => retOut X hx hret (by cases t <;> first | (cases ht; done) | (cases w <;> first | rfl | (cases hw; done))) (Or.inr (Or.inr (Or.inr (Or.inr ⟨rfl, ht, hw⟩)))) hd hl) hQ hK hN
theorem own_retV (X : Stand p l e R s m args below meth c T locs cells slots) (hx : p.tables.exec = Jvm.exec) {Q : Option Value → Heap → List Loc → Prop} {K N pc : Nat} {Ls : Array Slot} (hret : meth.sig.returnType = none) (hlk : meth.locks = false) (hd : decode c.code pc = .ok (.return_, 1))
    (hQ : Q none T.heap locs) (hK : cells ≤ K) (hN : slots ≤ N) : OwnEnds p.tables e below (OwnQ s K N Q) (T.setTop (mkF m pc Ls [])) :=
  own_ret X (fun _ => rfl) hlk (fun fs hl => X.returnOut hx hret hd hl) hQ hK hN
theorem own_lc_lt_t {x y : Int64} (h : x < y) : ifCond.holds .lt (lcmpW x y) = true ∧ ifCond.holds .ge (lcmpW x y) = false := by
  have q : lcmpW x y < 0 := by rw [lcW, lc_lt]; exact h
  exact ⟨(if0 _ _).trans (tlt q).1, (if0 _ _).trans (tlt q).2.1⟩
theorem own_lc_lt_f {x y : Int64} (h : ¬ (x < y)) : ifCond.holds .lt (lcmpW x y) = false ∧ ifCond.holds .ge (lcmpW x y) = true := by
  have q : ¬ lcmpW x y < 0 := by rw [lcW, lc_lt]; exact h
  exact ⟨(if0 _ _).trans (flt q).1, (if0 _ _).trans (flt q).2.1⟩
theorem own_lc_gt_t {x y : Int64} (h : y < x) : ifCond.holds .gt (lcmpW x y) = true ∧ ifCond.holds .le (lcmpW x y) = false := by
  have q : 0 < lcmpW x y := by rw [lcW, lc_gt]; exact h
  exact ⟨(if0 _ _).trans (tlt q).2.2.1, (if0 _ _).trans (tlt q).2.2.2⟩
theorem own_lc_gt_f {x y : Int64} (h : ¬ (y < x)) : ifCond.holds .gt (lcmpW x y) = false ∧ ifCond.holds .le (lcmpW x y) = true := by
  have q : ¬ 0 < lcmpW x y := by rw [lcW, lc_gt]; exact h
  exact ⟨(if0 _ _).trans (flt q).2.2.1, (if0 _ _).trans (flt q).2.2.2⟩
theorem own_lc_eq_t {x y : Int64} (h : x = y) : ifCond.holds .eq (lcmpW x y) = true ∧ ifCond.holds .ne (lcmpW x y) = false := by
  have q : lcmpW x y = 0 := by rw [lcW, lc_eq]; exact h
  exact ⟨(if0 _ _).trans (teq q).1, (if0 _ _).trans (teq q).2⟩
theorem own_lc_eq_f {x y : Int64} (h : ¬ (x = y)) : ifCond.holds .eq (lcmpW x y) = false ∧ ifCond.holds .ne (lcmpW x y) = true := by
  have q : ¬ lcmpW x y = 0 := by rw [lcW, lc_eq]; exact h
  exact ⟨(if0 _ _).trans (feq q).1, (if0 _ _).trans (feq q).2⟩
theorem own_lrem {g : JFrame} {target : State} (X : Stand p l e R s m args below meth c T locs cells slots) (hx : p.tables.exec = Jvm.exec) (hg : g.method = m) {x y : Int64} {rest : List Value} (hd : decode c.code g.pc = .ok (.lrem, 1)) (hs : g.stack = .long y :: .long x :: rest) (hy : y ≠ 0)
    (hr : Steps p.tables e below (T.setTop { g with pc := g.pc + 1, stack := .long (x % y) :: rest }) target) : Steps p.tables e below (T.setTop g) target := by
  have q : x - x / y * y = x % y := lrem_mod x y
  exact XS.lrem X.here hx hg hd hs hy (by rw [q]; exact hr)
theorem own_cat {w : Value} (h : w.isRef = true) : w.category = 1 := by rcases ref_cases h with rfl | ⟨a, rfl⟩ <;> rfl
theorem own_narR {w : Value} {t : FieldType} (ht : t.isReference = true) (h : w.isRef = true) : narrow t w = w := by
  cases t <;> first | (cases ht; done) | (rcases ref_cases h with rfl | ⟨a, rfl⟩ <;> rfl)
theorem own_fitR {w : Value} {t : FieldType} (ht : t.isReference = true) (h : w.isRef = true) : fits t w = true := by
  cases t <;> first | (cases ht; done) | (rcases ref_cases h with rfl | ⟨a, rfl⟩ <;> rfl)
theorem own_narb {c : Prop} [Decidable c] {r : Int32} (h : r = if c then 0 else 1) : nar .boolean r = r := by
  by_cases q : c
  · rw [if_pos q] at h; rw [h]; rfl
  · rw [if_neg q] at h; rw [h]; rfl
/-! arrays as lists of values -/
def AL (Z : State) (h : Heap) (a : Addr) (ty : FieldType) (xs : List Value) : Prop := ∃ c : Cell, Arr Z h a c ty ∧ c.slots.toList = xs ∧ xs.length < 2147483648
variable {Z : State} {h h' : Heap} {a b : Addr} {ty : FieldType} {xs : List Value} {sl : Nat} {v : Value} {ws : List Addr} {C n d : String}
theorem AL.lt (F : AL Z h a ty xs) : a < h.size := by obtain ⟨c, A, -⟩ := F; exact A.lt
theorem AL.ext (F : AL Z h a ty xs) (E : Ext h h') : AL Z h' a ty xs := by obtain ⟨c, A, r⟩ := F; exact ⟨c, A.ext E, r⟩
theorem AL.other (F : AL Z h a ty xs) (W : Wr h h' b sl v) (q : a ≠ b) : AL Z h' a ty xs := by obtain ⟨c, A, r⟩ := F; exact ⟨c, A.other W q, r⟩
theorem AL.keep (F : AL Z h a ty xs) (K : Keep h h' ws) (q : a ∉ ws) : AL Z h' a ty xs := by obtain ⟨c, A, r⟩ := F; exact ⟨c, ⟨K.2.1 a c A.1 q, A.2⟩, r⟩
theorem AL.new {k : ClassId} {z : Int32} (A : Arr Z h a (newA k ty z) ty) (q : ¬ z < 0) {i : Nat} (hi : z.toNatClampNeg = i) : AL Z h a ty (List.replicate i (defaultValue ty)) := by
  refine ⟨_, A, ?_, ?_⟩
  · simp [newA, hi]
  · rw [List.length_replicate, ← hi]; exact (back32 q).2
theorem AL.ne {C : String} (F : AL Z h a ty xs) (G : Exa Z h b C) {a0 : Array Value} {k : Nat} (wi : (Cond.instantiable C k).before a0 Z = true) : b ≠ a := by
  obtain ⟨c, A, -⟩ := F; exact ne_arr G wi A
theorem own_idx {cl : Cell} (hc : cl.slots.toList = xs) {j : Int32} {i : Nat} (hj : j.toInt = i) (hi : i < xs.length) : ¬ (j < 0 ∨ cl.slots.size ≤ j.toNatClampNeg) ∧ j.toNatClampNeg = i := by
  have h1 : j.toNatClampNeg = i := by simp only [Int32.toNatClampNeg, hj]; rfl
  have h2 : cl.slots.size = xs.length := by rw [← hc]; simp
  refine ⟨fun q => ?_, h1⟩
  rcases q with q | q
  · rw [Int32.lt_iff_toInt_lt, hj] at q; have e0 : (0 : Int32).toInt = 0 := rfl; omega
  · omega
theorem own_at {cl : Cell} (hc : cl.slots.toList = xs) {i : Nat} : cl.slots[i]? = xs[i]? := by rw [← hc]; simp
theorem AL.set {cl : Cell} (A : Arr Z h a cl ty) (hc : cl.slots.toList = xs) (hl : xs.length < 2147483648) {i : Nat} (W : Wr h h' a i v) : AL Z h' a ty (xs.set i v) := by
  refine ⟨_, A.same W, ?_, by simpa using hl⟩
  simp [Cell.setSlot, hc]
theorem own_stI (X : Stand p l e R s m args below meth c T locs cells slots) (hx : p.tables.exec = Jvm.exec) (hZ : Z.Warmed39 s.vm) (eT : T.heap = h) (A : AL Z h a .int xs) {j x : Int32} (i : Nat) (hj : j.toInt = i) (hi : i < xs.length) {g : JFrame} (hg : g.method = m) {rest : List Value} (hs : g.stack = .int x :: .int j :: .ref a :: rest) (hd : decode c.code g.pc = .ok (.iastore, 1)) :
    ∃ T' h', Stand p l e R s m args below meth c T' (locs ++ [⟨a, i⟩]) cells slots ∧ T'.heap = h' ∧ Wr h h' a i (.int x) ∧ AL Z h' a .int (xs.set i (.int x)) ∧ ∀ target, Steps p.tables e below (T'.setTop { g with pc := g.pc + 1, stack := rest }) target → Steps p.tables e below (T.setTop g) target := by
  obtain ⟨cl, A1, A2, A3⟩ := A
  obtain ⟨q1, q2⟩ := own_idx A2 hj hi
  obtain ⟨T', h', X', e', W, st⟩ := stI X hx hZ eT A1 q1 hg hs hd
  rw [q2] at X' W
  exact ⟨T', h', X', e', W, AL.set A1 A2 A3 W, st⟩
theorem own_stJ (X : Stand p l e R s m args below meth c T locs cells slots) (hx : p.tables.exec = Jvm.exec) (hZ : Z.Warmed39 s.vm) (eT : T.heap = h) (A : AL Z h a .long xs) {j : Int32} {x : Int64} (i : Nat) (hj : j.toInt = i) (hi : i < xs.length) {g : JFrame} (hg : g.method = m) {rest : List Value} (hs : g.stack = .long x :: .int j :: .ref a :: rest) (hd : decode c.code g.pc = .ok (.lastore, 1)) :
    ∃ T' h', Stand p l e R s m args below meth c T' (locs ++ [⟨a, i⟩]) cells slots ∧ T'.heap = h' ∧ Wr h h' a i (.long x) ∧ AL Z h' a .long (xs.set i (.long x)) ∧ ∀ target, Steps p.tables e below (T'.setTop { g with pc := g.pc + 1, stack := rest }) target → Steps p.tables e below (T.setTop g) target := by
  obtain ⟨cl, A1, A2, A3⟩ := A
  obtain ⟨q1, q2⟩ := own_idx A2 hj hi
  obtain ⟨T', h', X', e', W, st⟩ := stJ X hx hZ eT A1 q1 hg hs hd
  rw [q2] at X' W
  exact ⟨T', h', X', e', W, AL.set A1 A2 A3 W, st⟩
theorem own_stB (X : Stand p l e R s m args below meth c T locs cells slots) (hx : p.tables.exec = Jvm.exec) (hZ : Z.Warmed39 s.vm) (eT : T.heap = h) (A : AL Z h a .byte xs) {j x : Int32} (i : Nat) (hj : j.toInt = i) (hi : i < xs.length) {g : JFrame} (hg : g.method = m) {rest : List Value} (hs : g.stack = .int x :: .int j :: .ref a :: rest) (hd : decode c.code g.pc = .ok (.bastore, 1)) :
    ∃ T' h', Stand p l e R s m args below meth c T' (locs ++ [⟨a, i⟩]) cells slots ∧ T'.heap = h' ∧ Wr h h' a i (.int (nar .byte x)) ∧ AL Z h' a .byte (xs.set i (.int (nar .byte x))) ∧ ∀ target, Steps p.tables e below (T'.setTop { g with pc := g.pc + 1, stack := rest }) target → Steps p.tables e below (T.setTop g) target := by
  obtain ⟨cl, A1, A2, A3⟩ := A
  obtain ⟨q1, q2⟩ := own_idx A2 hj hi
  obtain ⟨T', h', X', e', W, st⟩ := stB X hx hZ eT A1 q1 hg hs hd
  rw [q2] at X' W
  exact ⟨T', h', X', e', W, AL.set A1 A2 A3 W, st⟩
theorem own_stZ (X : Stand p l e R s m args below meth c T locs cells slots) (hx : p.tables.exec = Jvm.exec) (hZ : Z.Warmed39 s.vm) (eT : T.heap = h) (A : AL Z h a .boolean xs) {j x : Int32} (i : Nat) (hj : j.toInt = i) (hi : i < xs.length) {g : JFrame} (hg : g.method = m) {rest : List Value} (hs : g.stack = .int x :: .int j :: .ref a :: rest) (hd : decode c.code g.pc = .ok (.bastore, 1)) :
    ∃ T' h', Stand p l e R s m args below meth c T' (locs ++ [⟨a, i⟩]) cells slots ∧ T'.heap = h' ∧ Wr h h' a i (.int (nar .boolean x)) ∧ AL Z h' a .boolean (xs.set i (.int (nar .boolean x))) ∧ ∀ target, Steps p.tables e below (T'.setTop { g with pc := g.pc + 1, stack := rest }) target → Steps p.tables e below (T.setTop g) target := by
  obtain ⟨cl, A1, A2, A3⟩ := A
  obtain ⟨q1, q2⟩ := own_idx A2 hj hi
  obtain ⟨T', h', X', e', W, st⟩ := stZ X hx hZ eT A1 q1 hg hs hd
  rw [q2] at X' W
  exact ⟨T', h', X', e', W, AL.set A1 A2 A3 W, st⟩
theorem own_stC (X : Stand p l e R s m args below meth c T locs cells slots) (hx : p.tables.exec = Jvm.exec) (hZ : Z.Warmed39 s.vm) (eT : T.heap = h) (A : AL Z h a .char xs) {j x : Int32} (i : Nat) (hj : j.toInt = i) (hi : i < xs.length) {g : JFrame} (hg : g.method = m) {rest : List Value} (hs : g.stack = .int x :: .int j :: .ref a :: rest) (hd : decode c.code g.pc = .ok (.castore, 1)) :
    ∃ T' h', Stand p l e R s m args below meth c T' (locs ++ [⟨a, i⟩]) cells slots ∧ T'.heap = h' ∧ Wr h h' a i (.int (nar .char x)) ∧ AL Z h' a .char (xs.set i (.int (nar .char x))) ∧ ∀ target, Steps p.tables e below (T'.setTop { g with pc := g.pc + 1, stack := rest }) target → Steps p.tables e below (T.setTop g) target := by
  obtain ⟨cl, A1, A2, A3⟩ := A
  obtain ⟨q1, q2⟩ := own_idx A2 hj hi
  obtain ⟨T', h', X', e', W, st⟩ := stC X hx hZ eT A1 q1 hg hs hd
  rw [q2] at X' W
  exact ⟨T', h', X', e', W, AL.set A1 A2 A3 W, st⟩
theorem own_lt_len {i : Nat} (hv : xs[i]? = some v) : i < xs.length := (List.getElem?_eq_some_iff.mp hv).1
theorem own_ldI (X : Stand p l e R s m args below meth c T locs cells slots) (hx : p.tables.exec = Jvm.exec) (hZ : Z.Warmed39 s.vm) (eT : T.heap = h) (A : AL Z h a .int xs) {j : Int32} (i : Nat) (hj : j.toInt = i) (hv : xs[i]? = some v) {g : JFrame} (hg : g.method = m) {rest : List Value} (hs : g.stack = .int j :: .ref a :: rest) (hd : decode c.code g.pc = .ok (.iaload, 1)) :
    ∀ target, Steps p.tables e below (T.setTop { g with pc := g.pc + 1, stack := v :: rest }) target → Steps p.tables e below (T.setTop g) target := by
  obtain ⟨cl, A1, A2, A3⟩ := A
  obtain ⟨q1, q2⟩ := own_idx A2 hj (own_lt_len hv)
  exact X.iaload hx (by rw [eT]; exact A1.1) (State.isArrayOf_alike hZ.alike A1.2.1) A1.2.2 q1 (by rw [q2, own_at A2]; exact hv) hg hs hd
theorem own_ldJ (X : Stand p l e R s m args below meth c T locs cells slots) (hx : p.tables.exec = Jvm.exec) (hZ : Z.Warmed39 s.vm) (eT : T.heap = h) (A : AL Z h a .long xs) {j : Int32} (i : Nat) (hj : j.toInt = i) (hv : xs[i]? = some v) {g : JFrame} (hg : g.method = m) {rest : List Value} (hs : g.stack = .int j :: .ref a :: rest) (hd : decode c.code g.pc = .ok (.laload, 1)) :
    ∀ target, Steps p.tables e below (T.setTop { g with pc := g.pc + 1, stack := v :: rest }) target → Steps p.tables e below (T.setTop g) target := by
  obtain ⟨cl, A1, A2, A3⟩ := A
  obtain ⟨q1, q2⟩ := own_idx A2 hj (own_lt_len hv)
  exact X.laload hx (by rw [eT]; exact A1.1) (State.isArrayOf_alike hZ.alike A1.2.1) A1.2.2 q1 (by rw [q2, own_at A2]; exact hv) hg hs hd
theorem own_ldB (X : Stand p l e R s m args below meth c T locs cells slots) (hx : p.tables.exec = Jvm.exec) (hZ : Z.Warmed39 s.vm) (eT : T.heap = h) (A : AL Z h a .byte xs) {j : Int32} (i : Nat) (hj : j.toInt = i) (hv : xs[i]? = some v) {g : JFrame} (hg : g.method = m) {rest : List Value} (hs : g.stack = .int j :: .ref a :: rest) (hd : decode c.code g.pc = .ok (.baload, 1)) :
    ∀ target, Steps p.tables e below (T.setTop { g with pc := g.pc + 1, stack := v :: rest }) target → Steps p.tables e below (T.setTop g) target := by
  obtain ⟨cl, A1, A2, A3⟩ := A
  obtain ⟨q1, q2⟩ := own_idx A2 hj (own_lt_len hv)
  exact X.baloadBytes hx (by rw [eT]; exact A1.1) (State.isArrayOf_alike hZ.alike A1.2.1) A1.2.2 q1 (by rw [q2, own_at A2]; exact hv) hg hs hd
theorem own_ldZ (X : Stand p l e R s m args below meth c T locs cells slots) (hx : p.tables.exec = Jvm.exec) (hZ : Z.Warmed39 s.vm) (eT : T.heap = h) (A : AL Z h a .boolean xs) {j : Int32} (i : Nat) (hj : j.toInt = i) (hv : xs[i]? = some v) {g : JFrame} (hg : g.method = m) {rest : List Value} (hs : g.stack = .int j :: .ref a :: rest) (hd : decode c.code g.pc = .ok (.baload, 1)) :
    ∀ target, Steps p.tables e below (T.setTop { g with pc := g.pc + 1, stack := v :: rest }) target → Steps p.tables e below (T.setTop g) target := by
  obtain ⟨cl, A1, A2, A3⟩ := A
  obtain ⟨q1, q2⟩ := own_idx A2 hj (own_lt_len hv)
  exact X.baloadBooleans hx (by rw [eT]; exact A1.1) (State.isArrayOf_alike hZ.alike A1.2.1) A1.2.2 q1 (by rw [q2, own_at A2]; exact hv) hg hs hd
theorem own_ldC (X : Stand p l e R s m args below meth c T locs cells slots) (hx : p.tables.exec = Jvm.exec) (hZ : Z.Warmed39 s.vm) (eT : T.heap = h) (A : AL Z h a .char xs) {j : Int32} (i : Nat) (hj : j.toInt = i) (hv : xs[i]? = some v) {g : JFrame} (hg : g.method = m) {rest : List Value} (hs : g.stack = .int j :: .ref a :: rest) (hd : decode c.code g.pc = .ok (.caload, 1)) :
    ∀ target, Steps p.tables e below (T.setTop { g with pc := g.pc + 1, stack := v :: rest }) target → Steps p.tables e below (T.setTop g) target := by
  obtain ⟨cl, A1, A2, A3⟩ := A
  obtain ⟨q1, q2⟩ := own_idx A2 hj (own_lt_len hv)
  exact X.caload hx (by rw [eT]; exact A1.1) (State.isArrayOf_alike hZ.alike A1.2.1) A1.2.2 q1 (by rw [q2, own_at A2]; exact hv) hg hs hd
theorem own_ldA (X : Stand p l e R s m args below meth c T locs cells slots) (hx : p.tables.exec = Jvm.exec) (hZ : Z.Warmed39 s.vm) (eT : T.heap = h) (A : AL Z h a ty xs) (hty : ty.isReference = true) {j : Int32} (i : Nat) (hj : j.toInt = i) (hv : xs[i]? = some v) {g : JFrame} (hg : g.method = m) {rest : List Value} (hs : g.stack = .int j :: .ref a :: rest) (hd : decode c.code g.pc = .ok (.aaload, 1)) :
    ∀ target, Steps p.tables e below (T.setTop { g with pc := g.pc + 1, stack := v :: rest }) target → Steps p.tables e below (T.setTop g) target := by
  obtain ⟨cl, A1, A2, A3⟩ := A
  obtain ⟨q1, q2⟩ := own_idx A2 hj (own_lt_len hv)
  exact X.aaload hx (by rw [eT]; exact A1.1) (State.isArrayOf_alike hZ.alike A1.2.1) hty A1.2.2 q1 (by rw [q2, own_at A2]; exact hv) hg hs hd
theorem own_len (X : Stand p l e R s m args below meth c T locs cells slots) (hx : p.tables.exec = Jvm.exec) (hZ : Z.Warmed39 s.vm) (eT : T.heap = h) (A : AL Z h a ty xs) {z : Int32} (hz : z.toInt = xs.length) {g : JFrame} (hg : g.method = m) {rest : List Value} (hs : g.stack = .ref a :: rest) (hd : decode c.code g.pc = .ok (.arraylength, 1)) :
    ∀ target, Steps p.tables e below (T.setTop { g with pc := g.pc + 1, stack := .int z :: rest }) target → Steps p.tables e below (T.setTop g) target := by
  obtain ⟨cl, A1, A2, A3⟩ := A
  have h2 : cl.slots.size = xs.length := by rw [← A2]; simp
  have e1 : cl.slots.size.toInt32 = z := Int32.toInt_inj.mp (by rw [len_toInt (by omega), hz, h2])
  intro target k
  exact X.arraylength hx (by rw [eT]; exact A1.1) (State.isArrayOf_alike hZ.alike A1.2.1) hg hs hd target (by rw [e1]; exact k)
end Own

theorem own_nar1 : nar .boolean (1 : Int32) = 1 := rfl
theorem own_nar0 : nar .boolean (0 : Int32) = 0 := rfl
def own_m (i e r x : Int32) : Int32 := if i = e then r else x
def own_is (x r : Int32) : Int32 := if x = r then 1 else 0
def own_t29 (e ea mA c1 c2 : Int32) : Int32 := if mA = 0 then 0 else if c1 = 0 then if c2 = 0 then if e = ea then 1 else 0 else 0 else 0
def own_t12 (e ea eb mA c1 mB c2 : Int32) : Int32 := if mB = 0 then own_t29 e ea mA c1 c2 else if c2 = 0 then if e = eb then 1 else own_t29 e ea mA c1 c2 else own_t29 e ea mA c1 c2
def own_exp (e ea eb ec mA c1 mB c2 mC : Int32) : Int32 := if mC = 0 then own_t12 e ea eb mA c1 mB c2 else if e = ec then 1 else own_t12 e ea eb mA c1 mB c2
theorem own_3 (x : Int32) : x &&& 3 = 0 ∨ x &&& 3 = 1 ∨ x &&& 3 = 2 ∨ x &&& 3 = 3 := by
  have h := c_and x 3 (by decide)
  have e3 : (3 : Int32).toInt = 3 := rfl
  rw [e3] at h
  simp only [← Int32.toInt_inj, Int32.reduceToInt]
  omega
theorem own_r1 {r1 c1 : Int32} (h : r1 = if c1 = 0 then 1 else 1 + 1) : r1 ≠ 2147483647 := by
  by_cases q : c1 = 0
  · rw [h, if_pos q]; decide
  · rw [h, if_neg q]; decide
theorem own_finP {PA P1 PB P2 PC Ka Kb Kc : Prop} [Decidable PA] [Decidable P1] [Decidable PB] [Decidable P2] [Decidable PC] [Decidable Ka] [Decidable Kb] [Decidable Kc] {x1 x2 x3 r1 r2 : Int32}
    (h1 : x1 = if PA then 0 else if Ka then 1 else 0) (h2 : r1 = if P1 then 1 else 2) (h3 : x2 = if PB then x1 else if Kb then r1 else x1) (h4 : r2 = if P2 then r1 else r1 + 1) (h5 : x3 = if PC then x2 else if Kc then r2 else x2) :
    (if x3 = r2 then (1 : Int32) else 0) = if PC then (if PB then (if PA then 0 else if P1 then if P2 then if Ka then 1 else 0 else 0 else 0) else if P2 then if Kb then 1 else (if PA then 0 else if P1 then if P2 then if Ka then 1 else 0 else 0 else 0) else (if PA then 0 else if P1 then if P2 then if Ka then 1 else 0 else 0 else 0))
      else if Kc then 1 else (if PB then (if PA then 0 else if P1 then if P2 then if Ka then 1 else 0 else 0 else 0) else if P2 then if Kb then 1 else (if PA then 0 else if P1 then if P2 then if Ka then 1 else 0 else 0 else 0) else (if PA then 0 else if P1 then if P2 then if Ka then 1 else 0 else 0 else 0)) := by
  have n1 : ((1 : Int32) + 1) = 2 := rfl
  have n2 : ((2 : Int32) + 1) = 3 := rfl
  have d1 : ((0 : Int32) = 1) = False := eq_false (by decide)
  have d2 : ((0 : Int32) = 2) = False := eq_false (by decide)
  have d3 : ((0 : Int32) = 3) = False := eq_false (by decide)
  have d4 : ((1 : Int32) = 2) = False := eq_false (by decide)
  have d5 : ((1 : Int32) = 3) = False := eq_false (by decide)
  have d6 : ((2 : Int32) = 3) = False := eq_false (by decide)
  subst h1 h2 h3 h4 h5
  by_cases qA : PA <;> by_cases q1 : P1 <;> by_cases qB : PB <;> by_cases q2 : P2 <;> by_cases qC : PC <;> by_cases ka : Ka <;> by_cases kb : Kb <;> by_cases kc : Kc <;>
  simp only [qA, q1, qB, q2, qC, ka, kb, kc, if_true, if_false, n1, n2, d1, d2, d3, d4, d5, d6]
theorem own_fin {i ea eb ec mA c1 mB c2 mC x1 x2 x3 r1 r2 : Int32} (h1 : x1 = if mA = 0 then 0 else own_m i ea 1 0) (h2 : r1 = if c1 = 0 then 1 else 1 + 1) (h3 : x2 = if mB = 0 then x1 else own_m i eb r1 x1) (h4 : r2 = if c2 = 0 then r1 else r1 + 1) (h5 : x3 = if mC = 0 then x2 else own_m i ec r2 x2) :
    own_is x3 r2 = own_exp i ea eb ec mA c1 mB c2 mC := own_finP h1 h2 h3 h4 h5
theorem d1_0 : decode prog_59_method_1_code 0 = .ok (.aload_n 0, 1) := by decide +kernel
theorem d1_1 : decode prog_59_method_1_code 1 = .ok (.invokespecial 1, 3) := by decide +kernel
theorem d1_4 : decode prog_59_method_1_code 4 = .ok (.aload_n 0, 1) := by decide +kernel
theorem d1_5 : decode prog_59_method_1_code 5 = .ok (.iconst 1, 1) := by decide +kernel
theorem d1_6 : decode prog_59_method_1_code 6 = .ok (.putfield 7, 3) := by decide +kernel
theorem d1_9 : decode prog_59_method_1_code 9 = .ok (.aload_n 0, 1) := by decide +kernel
theorem d1_10 : decode prog_59_method_1_code 10 = .ok (.iload_n 1, 1) := by decide +kernel
theorem d1_11 : decode prog_59_method_1_code 11 = .ok (.newarray .int, 2) := by decide +kernel
theorem d1_13 : decode prog_59_method_1_code 13 = .ok (.putfield 13, 3) := by decide +kernel
theorem d1_16 : decode prog_59_method_1_code 16 = .ok (.return_, 1) := by decide +kernel
theorem pn_0 : plainName "com/example/libhorn/libhorn/measures/FoundMarks" = true := by first | (simp [plainName, overriddenIn]; done) | decide +kernel
theorem ef_1 (m : MethodId) (a0 : Addr) : entryFrame m #[(.ref a0), (.int (4 : Int32))] 2 = mkF m 0 #[.val (.ref a0), .val (.int (4 : Int32))] [] := by first | (simp [entryFrame, mkF, argsToLocals, Value.category]; done) | rfl
def Q1 (Z : State) (a0 : Addr) (h0 : Heap) (n0 : Nat) (v : Option Value) (h : Heap) (L : List Loc) : Prop := ∃ b : Addr, v = none ∧ Fr n0 L ∧ Keep h0 h [a0] ∧ h0.size ≤ b ∧ Exa Z h a0 "com/example/libhorn/libhorn/measures/FoundMarks" ∧ Fld Z h a0 "com/example/libhorn/libhorn/measures/FoundMarks" "round" "I" (.int (1 : Int32)) ∧ Fld Z h a0 "com/example/libhorn/libhorn/measures/FoundMarks" "rounds" "[I" (.ref b) ∧ AL Z h b .int [(.int (0 : Int32)), (.int (0 : Int32)), (.int (0 : Int32)), (.int (0 : Int32))]
set_option maxRecDepth 65536 in
set_option maxHeartbeats 40000000 in
theorem rm1 (l : Launch) (Z : State) (aw : Array Value) (hw : ∀ d ∈ tables_1, d.before aw Z = true) (ws : List Jvm.Cond) (a0 : Addr) (h0 : Heap) (n0 : Nat) (Z0 : n0 ≤ h0.size) (E_a0 : Exa Z h0 a0 "com/example/libhorn/libhorn/measures/FoundMarks") (F_round_a0 : Fld Z h0 a0 "com/example/libhorn/libhorn/measures/FoundMarks" "round" "I" (.int (0 : Int32))) (F_rounds_a0 : Fld Z h0 a0 "com/example/libhorn/libhorn/measures/FoundMarks" "rounds" "[I" .null) (g_a0 : n0 ≤ a0) :
    MetFree l (⟨"com/example/libhorn/libhorn/measures/FoundMarks", "<init>", "(I)V"⟩ : MethodName) (head1 (Jvm.Cond.code (⟨"com/example/libhorn/libhorn/measures/FoundMarks", "<init>", "(I)V"⟩ : MethodName) prog_59_method_1_code 2 none :: ws) ({ frames := 1, cells := 1, slots := 4, locals := 12 } : Room)) (fun a U => a = #[(.ref a0), (.int (4 : Int32))] ∧ Z.Warmed39 U.vm ∧ U.heap = h0) (fun _ _ _ _ _ => True) (fun _ U o U' => ∃ v L, o = .returned v ∧ Q1 Z a0 h0 n0 v U'.heap L ∧ FrameEnd U o U' L ({ frames := 1, cells := 1, slots := 4, locals := 12 } : Room).cells ({ frames := 1, cells := 1, slots := 4, locals := 12 } : Room).slots) := by
  refine MetFree.of_bodySF (plainFor_of_name pn_0) hisR ?_
  intro p e s m args below meth c s₁ Bd hml0 hP hK
  obtain ⟨rfl, hZ, hh⟩ := hP
  have hx := Bd.exec
  have hby := Bd.bytes
  have hml : c.maxLocals = 2 := hml0
  have hown : s.vm.findClass "com/example/libhorn/libhorn/measures/FoundMarks" = some m.cls := findClass_of_methodNamed Bd.named
  have hnm := (name_of_methodNamed Bd.named Bd.method).1
  have hlk : meth.locks = false := Bd.notSynchronized
  have X0 : Stand p l e ({ frames := 1, cells := 1, slots := 4, locals := 12 } : Room) s m #[(.ref a0), (.int (4 : Int32))] below meth c s₁ [] 0 0 := Stand.of_body Bd
  have e0 : s₁.heap = h0 := by rw [← hh, Bd.state]; rfl
  have N0 := Fr.nil n0
  show OwnEnds p.tables e below (OwnQ s ({ frames := 1, cells := 1, slots := 4, locals := 12 } : Room).cells ({ frames := 1, cells := 1, slots := 4, locals := 12 } : Room).slots (Q1 Z a0 h0 n0)) (s₁.setTop (entryFrame m #[(.ref a0), (.int (4 : Int32))] 2))
  refine own_via (fun t k => castTop (ef_1 m a0) k) ?_
  show OwnEnds p.tables e below _ (s₁.setTop (mkF m 0 #[.val (.ref a0), .val (.int (4 : Int32))] []))
  have K0 : Keep h0 h0 [a0] := Keep.refl _ _
  refine own_via (fun t k => XS.aloadN X0.here hx rfl (hb hby d1_0) rfl rfl k) ?_
  show OwnEnds p.tables e below _ (s₁.setTop (mkF m 1 #[.val (.ref a0), .val (.int (4 : Int32))] [(.ref a0)]))
  obtain ⟨T1, X1, e1, st1⟩ := initO X0 hx hZ hown (hw _ (List.mem_of_getElem? (i := 6) rfl)) (hw _ (List.mem_of_getElem? (i := 7) rfl)) (hw _ (List.mem_of_getElem? (i := 8) rfl)) e0 (g := (mkF m 1 #[.val (.ref a0), .val (.int (4 : Int32))] [(.ref a0)])) rfl (by rw [hml]; rfl) rfl (hb hby d1_1) (by decide) (W := 0) (by show 2 * 0 + _ ≤ _; exact Nat.le_of_eq rfl) (by decide)
  refine own_via st1 ?_
  show OwnEnds p.tables e below _ (T1.setTop (mkF m 4 #[.val (.ref a0), .val (.int (4 : Int32))] []))
  refine own_via (fun t k => XS.aloadN X1.here hx rfl (hb hby d1_4) rfl rfl k) ?_
  show OwnEnds p.tables e below _ (T1.setTop (mkF m 5 #[.val (.ref a0), .val (.int (4 : Int32))] [(.ref a0)]))
  refine own_via (fun t k => XS.iconst X1.here hx rfl (hb hby d1_5) k) ?_
  show OwnEnds p.tables e below _ (T1.setTop (mkF m 6 #[.val (.ref a0), .val (.int (4 : Int32))] [(.int (1 : Int32)), (.ref a0)]))
  obtain ⟨T2, h2, X2, e2, W2, st2⟩ := putF X1 hx hZ hown (host := "") (Or.inl (hw _ (List.mem_of_getElem? (i := 9) rfl))) Via.refl e1 F_round_a0 E_a0 (Or.inl (hw _ (List.mem_of_getElem? (i := 10) rfl))) (hw _ (List.mem_of_getElem? (i := 1) rfl)) (ty := .int) (by decide) rfl rfl (g := (mkF m 6 #[.val (.ref a0), .val (.int (4 : Int32))] [(.int (1 : Int32)), (.ref a0)])) rfl rfl (hb hby d1_6)
  replace E_a0 := E_a0.wr W2
  replace F_round_a0 := F_round_a0.same W2
  replace F_rounds_a0 := F_rounds_a0.other W2 (Or.inr (slot_ne (Or.inr (hw _ (List.mem_of_getElem? (i := 13) rfl))) (Or.inl (hw _ (List.mem_of_getElem? (i := 10) rfl))) (by decide) (t := (.array .int)) (t' := .int) (by decide) (by decide)))
  replace K0 := K0.wr W2 (Or.inl (List.mem_of_getElem? (i := 0) rfl))
  have Zs_W2 : n0 ≤ _ := Nat.le_trans Z0 (Keep.of_wr W2).1
  have N2 := Fr.snoc X2 N0 g_a0
  refine own_via st2 ?_
  show OwnEnds p.tables e below _ (T2.setTop (mkF m 9 #[.val (.ref a0), .val (.int (4 : Int32))] []))
  refine own_via (fun t k => XS.aloadN X2.here hx rfl (hb hby d1_9) rfl rfl k) ?_
  show OwnEnds p.tables e below _ (T2.setTop (mkF m 10 #[.val (.ref a0), .val (.int (4 : Int32))] [(.ref a0)]))
  refine own_via (fun t k => XS.iloadN X2.here hx rfl (hb hby d1_10) rfl k) ?_
  show OwnEnds p.tables e below _ (T2.setTop (mkF m 11 #[.val (.ref a0), .val (.int (4 : Int32))] [(.int (4 : Int32)), (.ref a0)]))
  obtain ⟨T3, h3, k3, X3, e3, E3, A3, st3⟩ := newP X2 hx hZ (hw _ (List.mem_of_getElem? (i := 11) rfl)) e2 (g := (mkF m 11 #[.val (.ref a0), .val (.int (4 : Int32))] [(.int (4 : Int32)), (.ref a0)])) rfl (hb hby d1_11) rfl (by decide) (cap := 4) (by decide) (by decide) (by decide) (by decide)
  obtain ⟨b3, g3⟩ : ∃ z, z = h2.size := ⟨_, rfl⟩
  rw [← g3] at A3 st3
  have ne_a0_b3 : a0 ≠ b3 := Nat.ne_of_lt (Nat.lt_of_lt_of_le E_a0.lt (Nat.le_of_eq g3.symm))
  have g_b3 : n0 ≤ b3 := Nat.le_trans Zs_W2 (Nat.le_of_eq g3.symm)
  have sz_b3 : h0.size ≤ b3 := Nat.le_trans K0.1 (Nat.le_of_eq g3.symm)
  have Zs_3 : n0 ≤ _ := Nat.le_trans Zs_W2 E3.1
  replace E_a0 := E_a0.ext E3
  replace F_round_a0 := F_round_a0.ext E3
  replace F_rounds_a0 := F_rounds_a0.ext E3
  replace K0 := K0.ext E3
  have A_b3 : AL Z h3 b3 .int [(.int (0 : Int32)), (.int (0 : Int32)), (.int (0 : Int32)), (.int (0 : Int32))] := AL.new A3 (by decide) (i := 4) rfl
  refine own_via st3 ?_
  show OwnEnds p.tables e below _ (T3.setTop (mkF m 13 #[.val (.ref a0), .val (.int (4 : Int32))] [(.ref b3), (.ref a0)]))
  obtain ⟨T4, h4, X4, e4, W4, st4⟩ := putF X3 hx hZ hown (host := "") (Or.inl (hw _ (List.mem_of_getElem? (i := 12) rfl))) Via.refl e3 F_rounds_a0 E_a0 (Or.inr ⟨(hw _ (List.mem_of_getElem? (i := 13) rfl)), rfl, hnm⟩) (hw _ (List.mem_of_getElem? (i := 1) rfl)) (ty := (.array .int)) (by decide) rfl rfl (g := (mkF m 13 #[.val (.ref a0), .val (.int (4 : Int32))] [(.ref b3), (.ref a0)])) rfl rfl (hb hby d1_13)
  replace E_a0 := E_a0.wr W4
  replace F_round_a0 := F_round_a0.other W4 (Or.inr (slot_ne (Or.inl (hw _ (List.mem_of_getElem? (i := 10) rfl))) (Or.inr (hw _ (List.mem_of_getElem? (i := 13) rfl))) (by decide) (t := .int) (t' := (.array .int)) (by decide) (by decide)))
  replace F_rounds_a0 := F_rounds_a0.same W4
  replace A_b3 := A_b3.other W4 (Ne.symm ne_a0_b3)
  replace K0 := K0.wr W4 (Or.inl (List.mem_of_getElem? (i := 0) rfl))
  have Zs_W4 : n0 ≤ _ := Nat.le_trans Zs_3 (Keep.of_wr W4).1
  have N4 := Fr.snoc X4 N2 g_a0
  refine own_via st4 ?_
  show OwnEnds p.tables e below _ (T4.setTop (mkF m 16 #[.val (.ref a0), .val (.int (4 : Int32))] []))
  refine own_retV X4 hx Bd.returns hlk (hb hby d1_16) ?_ (by decide) (by decide)
  rw [e4]
  exact ⟨b3, rfl, N4, K0, sz_b3, E_a0, F_round_a0, F_rounds_a0, A_b3⟩
theorem d3_0 : decode prog_59_method_3_code 0 = .ok (.aload_n 0, 1) := by decide +kernel
theorem d3_1 : decode prog_59_method_3_code 1 = .ok (.getfield 13, 3) := by decide +kernel
theorem d3_4 : decode prog_59_method_3_code 4 = .ok (.iload_n 1, 1) := by decide +kernel
theorem d3_5 : decode prog_59_method_3_code 5 = .ok (.aload_n 0, 1) := by decide +kernel
theorem d3_6 : decode prog_59_method_3_code 6 = .ok (.getfield 7, 3) := by decide +kernel
theorem d3_9 : decode prog_59_method_3_code 9 = .ok (.iastore, 1) := by decide +kernel
theorem d3_10 : decode prog_59_method_3_code 10 = .ok (.return_, 1) := by decide +kernel
theorem ef_3 (m : MethodId) (a0 : Addr) (p1 : Int32) : entryFrame m #[(.ref a0), (.int p1)] 2 = mkF m 0 #[.val (.ref a0), .val (.int p1)] [] := by first | (simp [entryFrame, mkF, argsToLocals, Value.category]; done) | rfl
def Q3 (Z : State) (a0 : Addr) (p1 : Int32) (b : Addr) (r : Int32) (x0 : Int32) (x1 : Int32) (x2 : Int32) (x3 : Int32) (h0 : Heap) (n0 : Nat) (v : Option Value) (h : Heap) (L : List Loc) : Prop := v = none ∧ Fr n0 L ∧ Keep h0 h [b] ∧ AL Z h b .int [(.int (own_m (0 : Int32) p1 r x0)), (.int (own_m (1 : Int32) p1 r x1)), (.int (own_m (2 : Int32) p1 r x2)), (.int (own_m (3 : Int32) p1 r x3))]
set_option maxRecDepth 65536 in
set_option maxHeartbeats 40000000 in
theorem rm3 (l : Launch) (Z : State) (aw : Array Value) (hw : ∀ d ∈ tables_1, d.before aw Z = true) (ws : List Jvm.Cond) (a0 : Addr) (p1 : Int32) (b : Addr) (r : Int32) (x0 : Int32) (x1 : Int32) (x2 : Int32) (x3 : Int32) (h0 : Heap) (n0 : Nat) (Z0 : n0 ≤ h0.size) (E_a0 : Exa Z h0 a0 "com/example/libhorn/libhorn/measures/FoundMarks") (F_round_a0 : Fld Z h0 a0 "com/example/libhorn/libhorn/measures/FoundMarks" "round" "I" (.int r)) (F_rounds_a0 : Fld Z h0 a0 "com/example/libhorn/libhorn/measures/FoundMarks" "rounds" "[I" (.ref b)) (A_b : AL Z h0 b .int [(.int x0), (.int x1), (.int x2), (.int x3)]) (he : p1 = 0 ∨ p1 = 1 ∨ p1 = 2 ∨ p1 = 3) (g_b : n0 ≤ b) (ne_b : a0 ≠ b) :
    MetFree l (⟨"com/example/libhorn/libhorn/measures/FoundMarks", "mark", "(I)V"⟩ : MethodName) (head1 (Jvm.Cond.code (⟨"com/example/libhorn/libhorn/measures/FoundMarks", "mark", "(I)V"⟩ : MethodName) prog_59_method_3_code 2 none :: ws) ({ frames := 0, cells := 0, slots := 0, locals := 0 } : Room)) (fun a U => a = #[(.ref a0), (.int p1)] ∧ Z.Warmed39 U.vm ∧ U.heap = h0) (fun _ _ _ _ _ => True) (fun _ U o U' => ∃ v L, o = .returned v ∧ Q3 Z a0 p1 b r x0 x1 x2 x3 h0 n0 v U'.heap L ∧ FrameEnd U o U' L ({ frames := 0, cells := 0, slots := 0, locals := 0 } : Room).cells ({ frames := 0, cells := 0, slots := 0, locals := 0 } : Room).slots) := by
  refine MetFree.of_bodySF (plainFor_of_name pn_0) hisR ?_
  intro p e s m args below meth c s₁ Bd hml0 hP hK
  obtain ⟨rfl, hZ, hh⟩ := hP
  have hx := Bd.exec
  have hby := Bd.bytes
  have hml : c.maxLocals = 2 := hml0
  have hown : s.vm.findClass "com/example/libhorn/libhorn/measures/FoundMarks" = some m.cls := findClass_of_methodNamed Bd.named
  have hnm := (name_of_methodNamed Bd.named Bd.method).1
  have hlk : meth.locks = false := Bd.notSynchronized
  have X0 : Stand p l e ({ frames := 0, cells := 0, slots := 0, locals := 0 } : Room) s m #[(.ref a0), (.int p1)] below meth c s₁ [] 0 0 := Stand.of_body Bd
  have e0 : s₁.heap = h0 := by rw [← hh, Bd.state]; rfl
  have N0 := Fr.nil n0
  show OwnEnds p.tables e below (OwnQ s ({ frames := 0, cells := 0, slots := 0, locals := 0 } : Room).cells ({ frames := 0, cells := 0, slots := 0, locals := 0 } : Room).slots (Q3 Z a0 p1 b r x0 x1 x2 x3 h0 n0)) (s₁.setTop (entryFrame m #[(.ref a0), (.int p1)] 2))
  refine own_via (fun t k => castTop (ef_3 m a0 p1) k) ?_
  show OwnEnds p.tables e below _ (s₁.setTop (mkF m 0 #[.val (.ref a0), .val (.int p1)] []))
  have K0 : Keep h0 h0 [b] := Keep.refl _ _
  rcases he with rfl | rfl | rfl | rfl
  · skip
    show OwnEnds p.tables e below _ (s₁.setTop (mkF m 0 #[.val (.ref a0), .val (.int (0 : Int32))] []))
    refine own_via (fun t k => XS.aloadN X0.here hx rfl (hb hby d3_0) rfl rfl k) ?_
    show OwnEnds p.tables e below _ (s₁.setTop (mkF m 1 #[.val (.ref a0), .val (.int (0 : Int32))] [(.ref a0)]))
    obtain ⟨T1, X1, e1, st1⟩ := getF X0 hx hZ hown (host := "") (Or.inl (hw _ (List.mem_of_getElem? (i := 12) rfl))) Via.refl e0 F_rounds_a0 (g := (mkF m 1 #[.val (.ref a0), .val (.int (0 : Int32))] [(.ref a0)])) rfl rfl (hb hby d3_1)
    refine own_via st1 ?_
    show OwnEnds p.tables e below _ (T1.setTop (mkF m 4 #[.val (.ref a0), .val (.int (0 : Int32))] [(.ref b)]))
    refine own_via (fun t k => XS.iloadN X1.here hx rfl (hb hby d3_4) rfl k) ?_
    show OwnEnds p.tables e below _ (T1.setTop (mkF m 5 #[.val (.ref a0), .val (.int (0 : Int32))] [(.int (0 : Int32)), (.ref b)]))
    refine own_via (fun t k => XS.aloadN X1.here hx rfl (hb hby d3_5) rfl rfl k) ?_
    show OwnEnds p.tables e below _ (T1.setTop (mkF m 6 #[.val (.ref a0), .val (.int (0 : Int32))] [(.ref a0), (.int (0 : Int32)), (.ref b)]))
    obtain ⟨T2, X2, e2, st2⟩ := getF X1 hx hZ hown (host := "") (Or.inl (hw _ (List.mem_of_getElem? (i := 9) rfl))) Via.refl e1 F_round_a0 (g := (mkF m 6 #[.val (.ref a0), .val (.int (0 : Int32))] [(.ref a0), (.int (0 : Int32)), (.ref b)])) rfl rfl (hb hby d3_6)
    refine own_via st2 ?_
    show OwnEnds p.tables e below _ (T2.setTop (mkF m 9 #[.val (.ref a0), .val (.int (0 : Int32))] [(.int r), (.int (0 : Int32)), (.ref b)]))
    obtain ⟨T3, h3, X3, e3, W3, AA3, st3⟩ := own_stI X2 hx hZ e2 A_b 0 rfl (Nat.le_of_ble_eq_true rfl) (g := (mkF m 9 #[.val (.ref a0), .val (.int (0 : Int32))] [(.int r), (.int (0 : Int32)), (.ref b)])) rfl rfl (hb hby d3_9)
    replace E_a0 := E_a0.wr W3
    replace F_round_a0 := F_round_a0.other W3 (Or.inl ne_b)
    replace F_rounds_a0 := F_rounds_a0.other W3 (Or.inl ne_b)
    replace K0 := K0.wr W3 (Or.inl (List.mem_of_getElem? (i := 0) rfl))
    have Zs_W3 : n0 ≤ _ := Nat.le_trans Z0 (Keep.of_wr W3).1
    replace A_b : AL Z h3 b .int [(.int r), (.int x1), (.int x2), (.int x3)] := AA3
    have N3 := Fr.snoc X3 N0 g_b
    refine own_via st3 ?_
    show OwnEnds p.tables e below _ (T3.setTop (mkF m 10 #[.val (.ref a0), .val (.int (0 : Int32))] []))
    refine own_retV X3 hx Bd.returns hlk (hb hby d3_10) ?_ (by decide) (by decide)
    rw [e3]
    exact ⟨rfl, N3, K0, A_b⟩
  · skip
    show OwnEnds p.tables e below _ (s₁.setTop (mkF m 0 #[.val (.ref a0), .val (.int (1 : Int32))] []))
    refine own_via (fun t k => XS.aloadN X0.here hx rfl (hb hby d3_0) rfl rfl k) ?_
    show OwnEnds p.tables e below _ (s₁.setTop (mkF m 1 #[.val (.ref a0), .val (.int (1 : Int32))] [(.ref a0)]))
    obtain ⟨T4, X4, e4, st4⟩ := getF X0 hx hZ hown (host := "") (Or.inl (hw _ (List.mem_of_getElem? (i := 12) rfl))) Via.refl e0 F_rounds_a0 (g := (mkF m 1 #[.val (.ref a0), .val (.int (1 : Int32))] [(.ref a0)])) rfl rfl (hb hby d3_1)
    refine own_via st4 ?_
    show OwnEnds p.tables e below _ (T4.setTop (mkF m 4 #[.val (.ref a0), .val (.int (1 : Int32))] [(.ref b)]))
    refine own_via (fun t k => XS.iloadN X4.here hx rfl (hb hby d3_4) rfl k) ?_
    show OwnEnds p.tables e below _ (T4.setTop (mkF m 5 #[.val (.ref a0), .val (.int (1 : Int32))] [(.int (1 : Int32)), (.ref b)]))
    refine own_via (fun t k => XS.aloadN X4.here hx rfl (hb hby d3_5) rfl rfl k) ?_
    show OwnEnds p.tables e below _ (T4.setTop (mkF m 6 #[.val (.ref a0), .val (.int (1 : Int32))] [(.ref a0), (.int (1 : Int32)), (.ref b)]))
    obtain ⟨T5, X5, e5, st5⟩ := getF X4 hx hZ hown (host := "") (Or.inl (hw _ (List.mem_of_getElem? (i := 9) rfl))) Via.refl e4 F_round_a0 (g := (mkF m 6 #[.val (.ref a0), .val (.int (1 : Int32))] [(.ref a0), (.int (1 : Int32)), (.ref b)])) rfl rfl (hb hby d3_6)
    refine own_via st5 ?_
    show OwnEnds p.tables e below _ (T5.setTop (mkF m 9 #[.val (.ref a0), .val (.int (1 : Int32))] [(.int r), (.int (1 : Int32)), (.ref b)]))
    obtain ⟨T6, h6, X6, e6, W6, AA6, st6⟩ := own_stI X5 hx hZ e5 A_b 1 rfl (Nat.le_of_ble_eq_true rfl) (g := (mkF m 9 #[.val (.ref a0), .val (.int (1 : Int32))] [(.int r), (.int (1 : Int32)), (.ref b)])) rfl rfl (hb hby d3_9)
    replace E_a0 := E_a0.wr W6
    replace F_round_a0 := F_round_a0.other W6 (Or.inl ne_b)
    replace F_rounds_a0 := F_rounds_a0.other W6 (Or.inl ne_b)
    replace K0 := K0.wr W6 (Or.inl (List.mem_of_getElem? (i := 0) rfl))
    have Zs_W6 : n0 ≤ _ := Nat.le_trans Z0 (Keep.of_wr W6).1
    replace A_b : AL Z h6 b .int [(.int x0), (.int r), (.int x2), (.int x3)] := AA6
    have N6 := Fr.snoc X6 N0 g_b
    refine own_via st6 ?_
    show OwnEnds p.tables e below _ (T6.setTop (mkF m 10 #[.val (.ref a0), .val (.int (1 : Int32))] []))
    refine own_retV X6 hx Bd.returns hlk (hb hby d3_10) ?_ (by decide) (by decide)
    rw [e6]
    exact ⟨rfl, N6, K0, A_b⟩
  · skip
    show OwnEnds p.tables e below _ (s₁.setTop (mkF m 0 #[.val (.ref a0), .val (.int (2 : Int32))] []))
    refine own_via (fun t k => XS.aloadN X0.here hx rfl (hb hby d3_0) rfl rfl k) ?_
    show OwnEnds p.tables e below _ (s₁.setTop (mkF m 1 #[.val (.ref a0), .val (.int (2 : Int32))] [(.ref a0)]))
    obtain ⟨T7, X7, e7, st7⟩ := getF X0 hx hZ hown (host := "") (Or.inl (hw _ (List.mem_of_getElem? (i := 12) rfl))) Via.refl e0 F_rounds_a0 (g := (mkF m 1 #[.val (.ref a0), .val (.int (2 : Int32))] [(.ref a0)])) rfl rfl (hb hby d3_1)
    refine own_via st7 ?_
    show OwnEnds p.tables e below _ (T7.setTop (mkF m 4 #[.val (.ref a0), .val (.int (2 : Int32))] [(.ref b)]))
    refine own_via (fun t k => XS.iloadN X7.here hx rfl (hb hby d3_4) rfl k) ?_
    show OwnEnds p.tables e below _ (T7.setTop (mkF m 5 #[.val (.ref a0), .val (.int (2 : Int32))] [(.int (2 : Int32)), (.ref b)]))
    refine own_via (fun t k => XS.aloadN X7.here hx rfl (hb hby d3_5) rfl rfl k) ?_
    show OwnEnds p.tables e below _ (T7.setTop (mkF m 6 #[.val (.ref a0), .val (.int (2 : Int32))] [(.ref a0), (.int (2 : Int32)), (.ref b)]))
    obtain ⟨T8, X8, e8, st8⟩ := getF X7 hx hZ hown (host := "") (Or.inl (hw _ (List.mem_of_getElem? (i := 9) rfl))) Via.refl e7 F_round_a0 (g := (mkF m 6 #[.val (.ref a0), .val (.int (2 : Int32))] [(.ref a0), (.int (2 : Int32)), (.ref b)])) rfl rfl (hb hby d3_6)
    refine own_via st8 ?_
    show OwnEnds p.tables e below _ (T8.setTop (mkF m 9 #[.val (.ref a0), .val (.int (2 : Int32))] [(.int r), (.int (2 : Int32)), (.ref b)]))
    obtain ⟨T9, h9, X9, e9, W9, AA9, st9⟩ := own_stI X8 hx hZ e8 A_b 2 rfl (Nat.le_of_ble_eq_true rfl) (g := (mkF m 9 #[.val (.ref a0), .val (.int (2 : Int32))] [(.int r), (.int (2 : Int32)), (.ref b)])) rfl rfl (hb hby d3_9)
    replace E_a0 := E_a0.wr W9
    replace F_round_a0 := F_round_a0.other W9 (Or.inl ne_b)
    replace F_rounds_a0 := F_rounds_a0.other W9 (Or.inl ne_b)
    replace K0 := K0.wr W9 (Or.inl (List.mem_of_getElem? (i := 0) rfl))
    have Zs_W9 : n0 ≤ _ := Nat.le_trans Z0 (Keep.of_wr W9).1
    replace A_b : AL Z h9 b .int [(.int x0), (.int x1), (.int r), (.int x3)] := AA9
    have N9 := Fr.snoc X9 N0 g_b
    refine own_via st9 ?_
    show OwnEnds p.tables e below _ (T9.setTop (mkF m 10 #[.val (.ref a0), .val (.int (2 : Int32))] []))
    refine own_retV X9 hx Bd.returns hlk (hb hby d3_10) ?_ (by decide) (by decide)
    rw [e9]
    exact ⟨rfl, N9, K0, A_b⟩
  · skip
    show OwnEnds p.tables e below _ (s₁.setTop (mkF m 0 #[.val (.ref a0), .val (.int (3 : Int32))] []))
    refine own_via (fun t k => XS.aloadN X0.here hx rfl (hb hby d3_0) rfl rfl k) ?_
    show OwnEnds p.tables e below _ (s₁.setTop (mkF m 1 #[.val (.ref a0), .val (.int (3 : Int32))] [(.ref a0)]))
    obtain ⟨T10, X10, e10, st10⟩ := getF X0 hx hZ hown (host := "") (Or.inl (hw _ (List.mem_of_getElem? (i := 12) rfl))) Via.refl e0 F_rounds_a0 (g := (mkF m 1 #[.val (.ref a0), .val (.int (3 : Int32))] [(.ref a0)])) rfl rfl (hb hby d3_1)
    refine own_via st10 ?_
    show OwnEnds p.tables e below _ (T10.setTop (mkF m 4 #[.val (.ref a0), .val (.int (3 : Int32))] [(.ref b)]))
    refine own_via (fun t k => XS.iloadN X10.here hx rfl (hb hby d3_4) rfl k) ?_
    show OwnEnds p.tables e below _ (T10.setTop (mkF m 5 #[.val (.ref a0), .val (.int (3 : Int32))] [(.int (3 : Int32)), (.ref b)]))
    refine own_via (fun t k => XS.aloadN X10.here hx rfl (hb hby d3_5) rfl rfl k) ?_
    show OwnEnds p.tables e below _ (T10.setTop (mkF m 6 #[.val (.ref a0), .val (.int (3 : Int32))] [(.ref a0), (.int (3 : Int32)), (.ref b)]))
    obtain ⟨T11, X11, e11, st11⟩ := getF X10 hx hZ hown (host := "") (Or.inl (hw _ (List.mem_of_getElem? (i := 9) rfl))) Via.refl e10 F_round_a0 (g := (mkF m 6 #[.val (.ref a0), .val (.int (3 : Int32))] [(.ref a0), (.int (3 : Int32)), (.ref b)])) rfl rfl (hb hby d3_6)
    refine own_via st11 ?_
    show OwnEnds p.tables e below _ (T11.setTop (mkF m 9 #[.val (.ref a0), .val (.int (3 : Int32))] [(.int r), (.int (3 : Int32)), (.ref b)]))
    obtain ⟨T12, h12, X12, e12, W12, AA12, st12⟩ := own_stI X11 hx hZ e11 A_b 3 rfl (Nat.le_of_ble_eq_true rfl) (g := (mkF m 9 #[.val (.ref a0), .val (.int (3 : Int32))] [(.int r), (.int (3 : Int32)), (.ref b)])) rfl rfl (hb hby d3_9)
    replace E_a0 := E_a0.wr W12
    replace F_round_a0 := F_round_a0.other W12 (Or.inl ne_b)
    replace F_rounds_a0 := F_rounds_a0.other W12 (Or.inl ne_b)
    replace K0 := K0.wr W12 (Or.inl (List.mem_of_getElem? (i := 0) rfl))
    have Zs_W12 : n0 ≤ _ := Nat.le_trans Z0 (Keep.of_wr W12).1
    replace A_b : AL Z h12 b .int [(.int x0), (.int x1), (.int x2), (.int r)] := AA12
    have N12 := Fr.snoc X12 N0 g_b
    refine own_via st12 ?_
    show OwnEnds p.tables e below _ (T12.setTop (mkF m 10 #[.val (.ref a0), .val (.int (3 : Int32))] []))
    refine own_retV X12 hx Bd.returns hlk (hb hby d3_10) ?_ (by decide) (by decide)
    rw [e12]
    exact ⟨rfl, N12, K0, A_b⟩
theorem d4_0 : decode prog_59_method_4_code 0 = .ok (.aload_n 0, 1) := by decide +kernel
theorem d4_1 : decode prog_59_method_4_code 1 = .ok (.getfield 13, 3) := by decide +kernel
theorem d4_4 : decode prog_59_method_4_code 4 = .ok (.iload_n 1, 1) := by decide +kernel
theorem d4_5 : decode prog_59_method_4_code 5 = .ok (.iaload, 1) := by decide +kernel
theorem d4_6 : decode prog_59_method_4_code 6 = .ok (.aload_n 0, 1) := by decide +kernel
theorem d4_7 : decode prog_59_method_4_code 7 = .ok (.getfield 7, 3) := by decide +kernel
theorem d4_10 : decode prog_59_method_4_code 10 = .ok (.if_icmp .ne 7, 3) := by decide +kernel
theorem d4_13 : decode prog_59_method_4_code 13 = .ok (.iconst 1, 1) := by decide +kernel
theorem d4_14 : decode prog_59_method_4_code 14 = .ok (.goto 4, 3) := by decide +kernel
theorem d4_17 : decode prog_59_method_4_code 17 = .ok (.iconst 0, 1) := by decide +kernel
theorem d4_18 : decode prog_59_method_4_code 18 = .ok (.ireturn, 1) := by decide +kernel
theorem ef_40 (m : MethodId) (a0 : Addr) : entryFrame m #[(.ref a0), (.int (0 : Int32))] 2 = mkF m 0 #[.val (.ref a0), .val (.int (0 : Int32))] [] := by first | (simp [entryFrame, mkF, argsToLocals, Value.category]; done) | rfl
def Q40 (Z : State) (a0 : Addr) (b : Addr) (r : Int32) (x0 : Int32) (x1 : Int32) (x2 : Int32) (x3 : Int32) (h0 : Heap) (n0 : Nat) (v : Option Value) (h : Heap) (L : List Loc) : Prop := v = some (.int (own_is x0 r)) ∧ Fr n0 L ∧ h = h0
set_option maxRecDepth 65536 in
set_option maxHeartbeats 40000000 in
theorem rm40 (l : Launch) (Z : State) (aw : Array Value) (hw : ∀ d ∈ tables_1, d.before aw Z = true) (ws : List Jvm.Cond) (a0 : Addr) (b : Addr) (r : Int32) (x0 : Int32) (x1 : Int32) (x2 : Int32) (x3 : Int32) (h0 : Heap) (n0 : Nat) (Z0 : n0 ≤ h0.size) (E_a0 : Exa Z h0 a0 "com/example/libhorn/libhorn/measures/FoundMarks") (F_round_a0 : Fld Z h0 a0 "com/example/libhorn/libhorn/measures/FoundMarks" "round" "I" (.int r)) (F_rounds_a0 : Fld Z h0 a0 "com/example/libhorn/libhorn/measures/FoundMarks" "rounds" "[I" (.ref b)) (A_b : AL Z h0 b .int [(.int x0), (.int x1), (.int x2), (.int x3)]) :
    MetFree l (⟨"com/example/libhorn/libhorn/measures/FoundMarks", "isMarked", "(I)Z"⟩ : MethodName) (head1 (Jvm.Cond.code (⟨"com/example/libhorn/libhorn/measures/FoundMarks", "isMarked", "(I)Z"⟩ : MethodName) prog_59_method_4_code 2 (some .boolean) :: ws) ({ frames := 0, cells := 0, slots := 0, locals := 0 } : Room)) (fun a U => a = #[(.ref a0), (.int (0 : Int32))] ∧ Z.Warmed39 U.vm ∧ U.heap = h0) (fun _ _ _ _ _ => True) (fun _ U o U' => ∃ v L, o = .returned v ∧ Q40 Z a0 b r x0 x1 x2 x3 h0 n0 v U'.heap L ∧ FrameEnd U o U' L ({ frames := 0, cells := 0, slots := 0, locals := 0 } : Room).cells ({ frames := 0, cells := 0, slots := 0, locals := 0 } : Room).slots) := by
  refine MetFree.of_bodySF (plainFor_of_name pn_0) hisR ?_
  intro p e s m args below meth c s₁ Bd hml0 hP hK
  obtain ⟨rfl, hZ, hh⟩ := hP
  have hx := Bd.exec
  have hby := Bd.bytes
  have hml : c.maxLocals = 2 := hml0
  have hown : s.vm.findClass "com/example/libhorn/libhorn/measures/FoundMarks" = some m.cls := findClass_of_methodNamed Bd.named
  have hnm := (name_of_methodNamed Bd.named Bd.method).1
  have hlk : meth.locks = false := Bd.notSynchronized
  have X0 : Stand p l e ({ frames := 0, cells := 0, slots := 0, locals := 0 } : Room) s m #[(.ref a0), (.int (0 : Int32))] below meth c s₁ [] 0 0 := Stand.of_body Bd
  have e0 : s₁.heap = h0 := by rw [← hh, Bd.state]; rfl
  have N0 := Fr.nil n0
  show OwnEnds p.tables e below (OwnQ s ({ frames := 0, cells := 0, slots := 0, locals := 0 } : Room).cells ({ frames := 0, cells := 0, slots := 0, locals := 0 } : Room).slots (Q40 Z a0 b r x0 x1 x2 x3 h0 n0)) (s₁.setTop (entryFrame m #[(.ref a0), (.int (0 : Int32))] 2))
  refine own_via (fun t k => castTop (ef_40 m a0) k) ?_
  show OwnEnds p.tables e below _ (s₁.setTop (mkF m 0 #[.val (.ref a0), .val (.int (0 : Int32))] []))
  refine own_via (fun t k => XS.aloadN X0.here hx rfl (hb hby d4_0) rfl rfl k) ?_
  show OwnEnds p.tables e below _ (s₁.setTop (mkF m 1 #[.val (.ref a0), .val (.int (0 : Int32))] [(.ref a0)]))
  obtain ⟨T1, X1, e1, st1⟩ := getF X0 hx hZ hown (host := "") (Or.inl (hw _ (List.mem_of_getElem? (i := 12) rfl))) Via.refl e0 F_rounds_a0 (g := (mkF m 1 #[.val (.ref a0), .val (.int (0 : Int32))] [(.ref a0)])) rfl rfl (hb hby d4_1)
  refine own_via st1 ?_
  show OwnEnds p.tables e below _ (T1.setTop (mkF m 4 #[.val (.ref a0), .val (.int (0 : Int32))] [(.ref b)]))
  refine own_via (fun t k => XS.iloadN X1.here hx rfl (hb hby d4_4) rfl k) ?_
  show OwnEnds p.tables e below _ (T1.setTop (mkF m 5 #[.val (.ref a0), .val (.int (0 : Int32))] [(.int (0 : Int32)), (.ref b)]))
  refine own_via (own_ldI X1 hx hZ e1 A_b (v := (.int x0)) 0 rfl rfl (g := (mkF m 5 #[.val (.ref a0), .val (.int (0 : Int32))] [(.int (0 : Int32)), (.ref b)])) rfl rfl (hb hby d4_5)) ?_
  show OwnEnds p.tables e below _ (T1.setTop (mkF m 6 #[.val (.ref a0), .val (.int (0 : Int32))] [(.int x0)]))
  refine own_via (fun t k => XS.aloadN X1.here hx rfl (hb hby d4_6) rfl rfl k) ?_
  show OwnEnds p.tables e below _ (T1.setTop (mkF m 7 #[.val (.ref a0), .val (.int (0 : Int32))] [(.ref a0), (.int x0)]))
  obtain ⟨T2, X2, e2, st2⟩ := getF X1 hx hZ hown (host := "") (Or.inl (hw _ (List.mem_of_getElem? (i := 9) rfl))) Via.refl e1 F_round_a0 (g := (mkF m 7 #[.val (.ref a0), .val (.int (0 : Int32))] [(.ref a0), (.int x0)])) rfl rfl (hb hby d4_7)
  refine own_via st2 ?_
  show OwnEnds p.tables e below _ (T2.setTop (mkF m 10 #[.val (.ref a0), .val (.int (0 : Int32))] [(.int r), (.int x0)]))
  by_cases hc10_3 : x0 = r
  · skip
    refine own_via (fun t k => XS.icmpNo X2.here hx rfl (hb hby d4_10) rfl (teq hc10_3).2 k) ?_
    show OwnEnds p.tables e below _ (T2.setTop (mkF m 13 #[.val (.ref a0), .val (.int (0 : Int32))] []))
    refine own_via (fun t k => XS.iconst X2.here hx rfl (hb hby d4_13) k) ?_
    show OwnEnds p.tables e below _ (T2.setTop (mkF m 14 #[.val (.ref a0), .val (.int (0 : Int32))] [(.int (1 : Int32))]))
    refine own_via (fun t k => XS.goto X2.here hx rfl (pc0 := 14) (pc' := 18) rfl (hb hby d4_14) (by decide) (by decide) k) ?_
    show OwnEnds p.tables e below _ (T2.setTop (mkF m 18 #[.val (.ref a0), .val (.int (0 : Int32))] [(.int (1 : Int32))]))
    refine own_retN (t := .boolean) X2 hx Bd.returns (by simp) hlk (hb hby d4_18) ?_ (by decide) (by decide)
    rw [e2]
    exact ⟨congrArg (fun z => some (Value.int z)) (show nar .boolean (1 : Int32) = own_is x0 r by simp only [own_is, if_pos hc10_3, own_nar1, own_nar0]), N0, rfl⟩
  · skip
    refine own_via (fun t k => XS.icmpYes X2.here hx rfl (pc0 := 10) (pc' := 17) rfl (hb hby d4_10) rfl (feq hc10_3).2 (by decide) (by decide) k) ?_
    show OwnEnds p.tables e below _ (T2.setTop (mkF m 17 #[.val (.ref a0), .val (.int (0 : Int32))] []))
    refine own_via (fun t k => XS.iconst X2.here hx rfl (hb hby d4_17) k) ?_
    show OwnEnds p.tables e below _ (T2.setTop (mkF m 18 #[.val (.ref a0), .val (.int (0 : Int32))] [(.int (0 : Int32))]))
    refine own_retN (t := .boolean) X2 hx Bd.returns (by simp) hlk (hb hby d4_18) ?_ (by decide) (by decide)
    rw [e2]
    exact ⟨congrArg (fun z => some (Value.int z)) (show nar .boolean (0 : Int32) = own_is x0 r by simp only [own_is, if_neg hc10_3, own_nar1, own_nar0]), N0, rfl⟩
theorem ef_41 (m : MethodId) (a0 : Addr) : entryFrame m #[(.ref a0), (.int (1 : Int32))] 2 = mkF m 0 #[.val (.ref a0), .val (.int (1 : Int32))] [] := by first | (simp [entryFrame, mkF, argsToLocals, Value.category]; done) | rfl
def Q41 (Z : State) (a0 : Addr) (b : Addr) (r : Int32) (x0 : Int32) (x1 : Int32) (x2 : Int32) (x3 : Int32) (h0 : Heap) (n0 : Nat) (v : Option Value) (h : Heap) (L : List Loc) : Prop := v = some (.int (own_is x1 r)) ∧ Fr n0 L ∧ h = h0
set_option maxRecDepth 65536 in
set_option maxHeartbeats 40000000 in
theorem rm41 (l : Launch) (Z : State) (aw : Array Value) (hw : ∀ d ∈ tables_1, d.before aw Z = true) (ws : List Jvm.Cond) (a0 : Addr) (b : Addr) (r : Int32) (x0 : Int32) (x1 : Int32) (x2 : Int32) (x3 : Int32) (h0 : Heap) (n0 : Nat) (Z0 : n0 ≤ h0.size) (E_a0 : Exa Z h0 a0 "com/example/libhorn/libhorn/measures/FoundMarks") (F_round_a0 : Fld Z h0 a0 "com/example/libhorn/libhorn/measures/FoundMarks" "round" "I" (.int r)) (F_rounds_a0 : Fld Z h0 a0 "com/example/libhorn/libhorn/measures/FoundMarks" "rounds" "[I" (.ref b)) (A_b : AL Z h0 b .int [(.int x0), (.int x1), (.int x2), (.int x3)]) :
    MetFree l (⟨"com/example/libhorn/libhorn/measures/FoundMarks", "isMarked", "(I)Z"⟩ : MethodName) (head1 (Jvm.Cond.code (⟨"com/example/libhorn/libhorn/measures/FoundMarks", "isMarked", "(I)Z"⟩ : MethodName) prog_59_method_4_code 2 (some .boolean) :: ws) ({ frames := 0, cells := 0, slots := 0, locals := 0 } : Room)) (fun a U => a = #[(.ref a0), (.int (1 : Int32))] ∧ Z.Warmed39 U.vm ∧ U.heap = h0) (fun _ _ _ _ _ => True) (fun _ U o U' => ∃ v L, o = .returned v ∧ Q41 Z a0 b r x0 x1 x2 x3 h0 n0 v U'.heap L ∧ FrameEnd U o U' L ({ frames := 0, cells := 0, slots := 0, locals := 0 } : Room).cells ({ frames := 0, cells := 0, slots := 0, locals := 0 } : Room).slots) := by
  refine MetFree.of_bodySF (plainFor_of_name pn_0) hisR ?_
  intro p e s m args below meth c s₁ Bd hml0 hP hK
  obtain ⟨rfl, hZ, hh⟩ := hP
  have hx := Bd.exec
  have hby := Bd.bytes
  have hml : c.maxLocals = 2 := hml0
  have hown : s.vm.findClass "com/example/libhorn/libhorn/measures/FoundMarks" = some m.cls := findClass_of_methodNamed Bd.named
  have hnm := (name_of_methodNamed Bd.named Bd.method).1
  have hlk : meth.locks = false := Bd.notSynchronized
  have X0 : Stand p l e ({ frames := 0, cells := 0, slots := 0, locals := 0 } : Room) s m #[(.ref a0), (.int (1 : Int32))] below meth c s₁ [] 0 0 := Stand.of_body Bd
  have e0 : s₁.heap = h0 := by rw [← hh, Bd.state]; rfl
  have N0 := Fr.nil n0
  show OwnEnds p.tables e below (OwnQ s ({ frames := 0, cells := 0, slots := 0, locals := 0 } : Room).cells ({ frames := 0, cells := 0, slots := 0, locals := 0 } : Room).slots (Q41 Z a0 b r x0 x1 x2 x3 h0 n0)) (s₁.setTop (entryFrame m #[(.ref a0), (.int (1 : Int32))] 2))
  refine own_via (fun t k => castTop (ef_41 m a0) k) ?_
  show OwnEnds p.tables e below _ (s₁.setTop (mkF m 0 #[.val (.ref a0), .val (.int (1 : Int32))] []))
  refine own_via (fun t k => XS.aloadN X0.here hx rfl (hb hby d4_0) rfl rfl k) ?_
  show OwnEnds p.tables e below _ (s₁.setTop (mkF m 1 #[.val (.ref a0), .val (.int (1 : Int32))] [(.ref a0)]))
  obtain ⟨T1, X1, e1, st1⟩ := getF X0 hx hZ hown (host := "") (Or.inl (hw _ (List.mem_of_getElem? (i := 12) rfl))) Via.refl e0 F_rounds_a0 (g := (mkF m 1 #[.val (.ref a0), .val (.int (1 : Int32))] [(.ref a0)])) rfl rfl (hb hby d4_1)
  refine own_via st1 ?_
  show OwnEnds p.tables e below _ (T1.setTop (mkF m 4 #[.val (.ref a0), .val (.int (1 : Int32))] [(.ref b)]))
  refine own_via (fun t k => XS.iloadN X1.here hx rfl (hb hby d4_4) rfl k) ?_
  show OwnEnds p.tables e below _ (T1.setTop (mkF m 5 #[.val (.ref a0), .val (.int (1 : Int32))] [(.int (1 : Int32)), (.ref b)]))
  refine own_via (own_ldI X1 hx hZ e1 A_b (v := (.int x1)) 1 rfl rfl (g := (mkF m 5 #[.val (.ref a0), .val (.int (1 : Int32))] [(.int (1 : Int32)), (.ref b)])) rfl rfl (hb hby d4_5)) ?_
  show OwnEnds p.tables e below _ (T1.setTop (mkF m 6 #[.val (.ref a0), .val (.int (1 : Int32))] [(.int x1)]))
  refine own_via (fun t k => XS.aloadN X1.here hx rfl (hb hby d4_6) rfl rfl k) ?_
  show OwnEnds p.tables e below _ (T1.setTop (mkF m 7 #[.val (.ref a0), .val (.int (1 : Int32))] [(.ref a0), (.int x1)]))
  obtain ⟨T2, X2, e2, st2⟩ := getF X1 hx hZ hown (host := "") (Or.inl (hw _ (List.mem_of_getElem? (i := 9) rfl))) Via.refl e1 F_round_a0 (g := (mkF m 7 #[.val (.ref a0), .val (.int (1 : Int32))] [(.ref a0), (.int x1)])) rfl rfl (hb hby d4_7)
  refine own_via st2 ?_
  show OwnEnds p.tables e below _ (T2.setTop (mkF m 10 #[.val (.ref a0), .val (.int (1 : Int32))] [(.int r), (.int x1)]))
  by_cases hc10_3 : x1 = r
  · skip
    refine own_via (fun t k => XS.icmpNo X2.here hx rfl (hb hby d4_10) rfl (teq hc10_3).2 k) ?_
    show OwnEnds p.tables e below _ (T2.setTop (mkF m 13 #[.val (.ref a0), .val (.int (1 : Int32))] []))
    refine own_via (fun t k => XS.iconst X2.here hx rfl (hb hby d4_13) k) ?_
    show OwnEnds p.tables e below _ (T2.setTop (mkF m 14 #[.val (.ref a0), .val (.int (1 : Int32))] [(.int (1 : Int32))]))
    refine own_via (fun t k => XS.goto X2.here hx rfl (pc0 := 14) (pc' := 18) rfl (hb hby d4_14) (by decide) (by decide) k) ?_
    show OwnEnds p.tables e below _ (T2.setTop (mkF m 18 #[.val (.ref a0), .val (.int (1 : Int32))] [(.int (1 : Int32))]))
    refine own_retN (t := .boolean) X2 hx Bd.returns (by simp) hlk (hb hby d4_18) ?_ (by decide) (by decide)
    rw [e2]
    exact ⟨congrArg (fun z => some (Value.int z)) (show nar .boolean (1 : Int32) = own_is x1 r by simp only [own_is, if_pos hc10_3, own_nar1, own_nar0]), N0, rfl⟩
  · skip
    refine own_via (fun t k => XS.icmpYes X2.here hx rfl (pc0 := 10) (pc' := 17) rfl (hb hby d4_10) rfl (feq hc10_3).2 (by decide) (by decide) k) ?_
    show OwnEnds p.tables e below _ (T2.setTop (mkF m 17 #[.val (.ref a0), .val (.int (1 : Int32))] []))
    refine own_via (fun t k => XS.iconst X2.here hx rfl (hb hby d4_17) k) ?_
    show OwnEnds p.tables e below _ (T2.setTop (mkF m 18 #[.val (.ref a0), .val (.int (1 : Int32))] [(.int (0 : Int32))]))
    refine own_retN (t := .boolean) X2 hx Bd.returns (by simp) hlk (hb hby d4_18) ?_ (by decide) (by decide)
    rw [e2]
    exact ⟨congrArg (fun z => some (Value.int z)) (show nar .boolean (0 : Int32) = own_is x1 r by simp only [own_is, if_neg hc10_3, own_nar1, own_nar0]), N0, rfl⟩
theorem ef_42 (m : MethodId) (a0 : Addr) : entryFrame m #[(.ref a0), (.int (2 : Int32))] 2 = mkF m 0 #[.val (.ref a0), .val (.int (2 : Int32))] [] := by first | (simp [entryFrame, mkF, argsToLocals, Value.category]; done) | rfl
def Q42 (Z : State) (a0 : Addr) (b : Addr) (r : Int32) (x0 : Int32) (x1 : Int32) (x2 : Int32) (x3 : Int32) (h0 : Heap) (n0 : Nat) (v : Option Value) (h : Heap) (L : List Loc) : Prop := v = some (.int (own_is x2 r)) ∧ Fr n0 L ∧ h = h0
set_option maxRecDepth 65536 in
set_option maxHeartbeats 40000000 in
theorem rm42 (l : Launch) (Z : State) (aw : Array Value) (hw : ∀ d ∈ tables_1, d.before aw Z = true) (ws : List Jvm.Cond) (a0 : Addr) (b : Addr) (r : Int32) (x0 : Int32) (x1 : Int32) (x2 : Int32) (x3 : Int32) (h0 : Heap) (n0 : Nat) (Z0 : n0 ≤ h0.size) (E_a0 : Exa Z h0 a0 "com/example/libhorn/libhorn/measures/FoundMarks") (F_round_a0 : Fld Z h0 a0 "com/example/libhorn/libhorn/measures/FoundMarks" "round" "I" (.int r)) (F_rounds_a0 : Fld Z h0 a0 "com/example/libhorn/libhorn/measures/FoundMarks" "rounds" "[I" (.ref b)) (A_b : AL Z h0 b .int [(.int x0), (.int x1), (.int x2), (.int x3)]) :
    MetFree l (⟨"com/example/libhorn/libhorn/measures/FoundMarks", "isMarked", "(I)Z"⟩ : MethodName) (head1 (Jvm.Cond.code (⟨"com/example/libhorn/libhorn/measures/FoundMarks", "isMarked", "(I)Z"⟩ : MethodName) prog_59_method_4_code 2 (some .boolean) :: ws) ({ frames := 0, cells := 0, slots := 0, locals := 0 } : Room)) (fun a U => a = #[(.ref a0), (.int (2 : Int32))] ∧ Z.Warmed39 U.vm ∧ U.heap = h0) (fun _ _ _ _ _ => True) (fun _ U o U' => ∃ v L, o = .returned v ∧ Q42 Z a0 b r x0 x1 x2 x3 h0 n0 v U'.heap L ∧ FrameEnd U o U' L ({ frames := 0, cells := 0, slots := 0, locals := 0 } : Room).cells ({ frames := 0, cells := 0, slots := 0, locals := 0 } : Room).slots) := by
  refine MetFree.of_bodySF (plainFor_of_name pn_0) hisR ?_
  intro p e s m args below meth c s₁ Bd hml0 hP hK
  obtain ⟨rfl, hZ, hh⟩ := hP
  have hx := Bd.exec
  have hby := Bd.bytes
  have hml : c.maxLocals = 2 := hml0
  have hown : s.vm.findClass "com/example/libhorn/libhorn/measures/FoundMarks" = some m.cls := findClass_of_methodNamed Bd.named
  have hnm := (name_of_methodNamed Bd.named Bd.method).1
  have hlk : meth.locks = false := Bd.notSynchronized
  have X0 : Stand p l e ({ frames := 0, cells := 0, slots := 0, locals := 0 } : Room) s m #[(.ref a0), (.int (2 : Int32))] below meth c s₁ [] 0 0 := Stand.of_body Bd
  have e0 : s₁.heap = h0 := by rw [← hh, Bd.state]; rfl
  have N0 := Fr.nil n0
  show OwnEnds p.tables e below (OwnQ s ({ frames := 0, cells := 0, slots := 0, locals := 0 } : Room).cells ({ frames := 0, cells := 0, slots := 0, locals := 0 } : Room).slots (Q42 Z a0 b r x0 x1 x2 x3 h0 n0)) (s₁.setTop (entryFrame m #[(.ref a0), (.int (2 : Int32))] 2))
  refine own_via (fun t k => castTop (ef_42 m a0) k) ?_
  show OwnEnds p.tables e below _ (s₁.setTop (mkF m 0 #[.val (.ref a0), .val (.int (2 : Int32))] []))
  refine own_via (fun t k => XS.aloadN X0.here hx rfl (hb hby d4_0) rfl rfl k) ?_
  show OwnEnds p.tables e below _ (s₁.setTop (mkF m 1 #[.val (.ref a0), .val (.int (2 : Int32))] [(.ref a0)]))
  obtain ⟨T1, X1, e1, st1⟩ := getF X0 hx hZ hown (host := "") (Or.inl (hw _ (List.mem_of_getElem? (i := 12) rfl))) Via.refl e0 F_rounds_a0 (g := (mkF m 1 #[.val (.ref a0), .val (.int (2 : Int32))] [(.ref a0)])) rfl rfl (hb hby d4_1)
  refine own_via st1 ?_
  show OwnEnds p.tables e below _ (T1.setTop (mkF m 4 #[.val (.ref a0), .val (.int (2 : Int32))] [(.ref b)]))
  refine own_via (fun t k => XS.iloadN X1.here hx rfl (hb hby d4_4) rfl k) ?_
  show OwnEnds p.tables e below _ (T1.setTop (mkF m 5 #[.val (.ref a0), .val (.int (2 : Int32))] [(.int (2 : Int32)), (.ref b)]))
  refine own_via (own_ldI X1 hx hZ e1 A_b (v := (.int x2)) 2 rfl rfl (g := (mkF m 5 #[.val (.ref a0), .val (.int (2 : Int32))] [(.int (2 : Int32)), (.ref b)])) rfl rfl (hb hby d4_5)) ?_
  show OwnEnds p.tables e below _ (T1.setTop (mkF m 6 #[.val (.ref a0), .val (.int (2 : Int32))] [(.int x2)]))
  refine own_via (fun t k => XS.aloadN X1.here hx rfl (hb hby d4_6) rfl rfl k) ?_
  show OwnEnds p.tables e below _ (T1.setTop (mkF m 7 #[.val (.ref a0), .val (.int (2 : Int32))] [(.ref a0), (.int x2)]))
  obtain ⟨T2, X2, e2, st2⟩ := getF X1 hx hZ hown (host := "") (Or.inl (hw _ (List.mem_of_getElem? (i := 9) rfl))) Via.refl e1 F_round_a0 (g := (mkF m 7 #[.val (.ref a0), .val (.int (2 : Int32))] [(.ref a0), (.int x2)])) rfl rfl (hb hby d4_7)
  refine own_via st2 ?_
  show OwnEnds p.tables e below _ (T2.setTop (mkF m 10 #[.val (.ref a0), .val (.int (2 : Int32))] [(.int r), (.int x2)]))
  by_cases hc10_3 : x2 = r
  · skip
    refine own_via (fun t k => XS.icmpNo X2.here hx rfl (hb hby d4_10) rfl (teq hc10_3).2 k) ?_
    show OwnEnds p.tables e below _ (T2.setTop (mkF m 13 #[.val (.ref a0), .val (.int (2 : Int32))] []))
    refine own_via (fun t k => XS.iconst X2.here hx rfl (hb hby d4_13) k) ?_
    show OwnEnds p.tables e below _ (T2.setTop (mkF m 14 #[.val (.ref a0), .val (.int (2 : Int32))] [(.int (1 : Int32))]))
    refine own_via (fun t k => XS.goto X2.here hx rfl (pc0 := 14) (pc' := 18) rfl (hb hby d4_14) (by decide) (by decide) k) ?_
    show OwnEnds p.tables e below _ (T2.setTop (mkF m 18 #[.val (.ref a0), .val (.int (2 : Int32))] [(.int (1 : Int32))]))
    refine own_retN (t := .boolean) X2 hx Bd.returns (by simp) hlk (hb hby d4_18) ?_ (by decide) (by decide)
    rw [e2]
    exact ⟨congrArg (fun z => some (Value.int z)) (show nar .boolean (1 : Int32) = own_is x2 r by simp only [own_is, if_pos hc10_3, own_nar1, own_nar0]), N0, rfl⟩
  · skip
    refine own_via (fun t k => XS.icmpYes X2.here hx rfl (pc0 := 10) (pc' := 17) rfl (hb hby d4_10) rfl (feq hc10_3).2 (by decide) (by decide) k) ?_
    show OwnEnds p.tables e below _ (T2.setTop (mkF m 17 #[.val (.ref a0), .val (.int (2 : Int32))] []))
    refine own_via (fun t k => XS.iconst X2.here hx rfl (hb hby d4_17) k) ?_
    show OwnEnds p.tables e below _ (T2.setTop (mkF m 18 #[.val (.ref a0), .val (.int (2 : Int32))] [(.int (0 : Int32))]))
    refine own_retN (t := .boolean) X2 hx Bd.returns (by simp) hlk (hb hby d4_18) ?_ (by decide) (by decide)
    rw [e2]
    exact ⟨congrArg (fun z => some (Value.int z)) (show nar .boolean (0 : Int32) = own_is x2 r by simp only [own_is, if_neg hc10_3, own_nar1, own_nar0]), N0, rfl⟩
theorem ef_43 (m : MethodId) (a0 : Addr) : entryFrame m #[(.ref a0), (.int (3 : Int32))] 2 = mkF m 0 #[.val (.ref a0), .val (.int (3 : Int32))] [] := by first | (simp [entryFrame, mkF, argsToLocals, Value.category]; done) | rfl
def Q43 (Z : State) (a0 : Addr) (b : Addr) (r : Int32) (x0 : Int32) (x1 : Int32) (x2 : Int32) (x3 : Int32) (h0 : Heap) (n0 : Nat) (v : Option Value) (h : Heap) (L : List Loc) : Prop := v = some (.int (own_is x3 r)) ∧ Fr n0 L ∧ h = h0
set_option maxRecDepth 65536 in
set_option maxHeartbeats 40000000 in
theorem rm43 (l : Launch) (Z : State) (aw : Array Value) (hw : ∀ d ∈ tables_1, d.before aw Z = true) (ws : List Jvm.Cond) (a0 : Addr) (b : Addr) (r : Int32) (x0 : Int32) (x1 : Int32) (x2 : Int32) (x3 : Int32) (h0 : Heap) (n0 : Nat) (Z0 : n0 ≤ h0.size) (E_a0 : Exa Z h0 a0 "com/example/libhorn/libhorn/measures/FoundMarks") (F_round_a0 : Fld Z h0 a0 "com/example/libhorn/libhorn/measures/FoundMarks" "round" "I" (.int r)) (F_rounds_a0 : Fld Z h0 a0 "com/example/libhorn/libhorn/measures/FoundMarks" "rounds" "[I" (.ref b)) (A_b : AL Z h0 b .int [(.int x0), (.int x1), (.int x2), (.int x3)]) :
    MetFree l (⟨"com/example/libhorn/libhorn/measures/FoundMarks", "isMarked", "(I)Z"⟩ : MethodName) (head1 (Jvm.Cond.code (⟨"com/example/libhorn/libhorn/measures/FoundMarks", "isMarked", "(I)Z"⟩ : MethodName) prog_59_method_4_code 2 (some .boolean) :: ws) ({ frames := 0, cells := 0, slots := 0, locals := 0 } : Room)) (fun a U => a = #[(.ref a0), (.int (3 : Int32))] ∧ Z.Warmed39 U.vm ∧ U.heap = h0) (fun _ _ _ _ _ => True) (fun _ U o U' => ∃ v L, o = .returned v ∧ Q43 Z a0 b r x0 x1 x2 x3 h0 n0 v U'.heap L ∧ FrameEnd U o U' L ({ frames := 0, cells := 0, slots := 0, locals := 0 } : Room).cells ({ frames := 0, cells := 0, slots := 0, locals := 0 } : Room).slots) := by
  refine MetFree.of_bodySF (plainFor_of_name pn_0) hisR ?_
  intro p e s m args below meth c s₁ Bd hml0 hP hK
  obtain ⟨rfl, hZ, hh⟩ := hP
  have hx := Bd.exec
  have hby := Bd.bytes
  have hml : c.maxLocals = 2 := hml0
  have hown : s.vm.findClass "com/example/libhorn/libhorn/measures/FoundMarks" = some m.cls := findClass_of_methodNamed Bd.named
  have hnm := (name_of_methodNamed Bd.named Bd.method).1
  have hlk : meth.locks = false := Bd.notSynchronized
  have X0 : Stand p l e ({ frames := 0, cells := 0, slots := 0, locals := 0 } : Room) s m #[(.ref a0), (.int (3 : Int32))] below meth c s₁ [] 0 0 := Stand.of_body Bd
  have e0 : s₁.heap = h0 := by rw [← hh, Bd.state]; rfl
  have N0 := Fr.nil n0
  show OwnEnds p.tables e below (OwnQ s ({ frames := 0, cells := 0, slots := 0, locals := 0 } : Room).cells ({ frames := 0, cells := 0, slots := 0, locals := 0 } : Room).slots (Q43 Z a0 b r x0 x1 x2 x3 h0 n0)) (s₁.setTop (entryFrame m #[(.ref a0), (.int (3 : Int32))] 2))
  refine own_via (fun t k => castTop (ef_43 m a0) k) ?_
  show OwnEnds p.tables e below _ (s₁.setTop (mkF m 0 #[.val (.ref a0), .val (.int (3 : Int32))] []))
  refine own_via (fun t k => XS.aloadN X0.here hx rfl (hb hby d4_0) rfl rfl k) ?_
  show OwnEnds p.tables e below _ (s₁.setTop (mkF m 1 #[.val (.ref a0), .val (.int (3 : Int32))] [(.ref a0)]))
  obtain ⟨T1, X1, e1, st1⟩ := getF X0 hx hZ hown (host := "") (Or.inl (hw _ (List.mem_of_getElem? (i := 12) rfl))) Via.refl e0 F_rounds_a0 (g := (mkF m 1 #[.val (.ref a0), .val (.int (3 : Int32))] [(.ref a0)])) rfl rfl (hb hby d4_1)
  refine own_via st1 ?_
  show OwnEnds p.tables e below _ (T1.setTop (mkF m 4 #[.val (.ref a0), .val (.int (3 : Int32))] [(.ref b)]))
  refine own_via (fun t k => XS.iloadN X1.here hx rfl (hb hby d4_4) rfl k) ?_
  show OwnEnds p.tables e below _ (T1.setTop (mkF m 5 #[.val (.ref a0), .val (.int (3 : Int32))] [(.int (3 : Int32)), (.ref b)]))
  refine own_via (own_ldI X1 hx hZ e1 A_b (v := (.int x3)) 3 rfl rfl (g := (mkF m 5 #[.val (.ref a0), .val (.int (3 : Int32))] [(.int (3 : Int32)), (.ref b)])) rfl rfl (hb hby d4_5)) ?_
  show OwnEnds p.tables e below _ (T1.setTop (mkF m 6 #[.val (.ref a0), .val (.int (3 : Int32))] [(.int x3)]))
  refine own_via (fun t k => XS.aloadN X1.here hx rfl (hb hby d4_6) rfl rfl k) ?_
  show OwnEnds p.tables e below _ (T1.setTop (mkF m 7 #[.val (.ref a0), .val (.int (3 : Int32))] [(.ref a0), (.int x3)]))
  obtain ⟨T2, X2, e2, st2⟩ := getF X1 hx hZ hown (host := "") (Or.inl (hw _ (List.mem_of_getElem? (i := 9) rfl))) Via.refl e1 F_round_a0 (g := (mkF m 7 #[.val (.ref a0), .val (.int (3 : Int32))] [(.ref a0), (.int x3)])) rfl rfl (hb hby d4_7)
  refine own_via st2 ?_
  show OwnEnds p.tables e below _ (T2.setTop (mkF m 10 #[.val (.ref a0), .val (.int (3 : Int32))] [(.int r), (.int x3)]))
  by_cases hc10_3 : x3 = r
  · skip
    refine own_via (fun t k => XS.icmpNo X2.here hx rfl (hb hby d4_10) rfl (teq hc10_3).2 k) ?_
    show OwnEnds p.tables e below _ (T2.setTop (mkF m 13 #[.val (.ref a0), .val (.int (3 : Int32))] []))
    refine own_via (fun t k => XS.iconst X2.here hx rfl (hb hby d4_13) k) ?_
    show OwnEnds p.tables e below _ (T2.setTop (mkF m 14 #[.val (.ref a0), .val (.int (3 : Int32))] [(.int (1 : Int32))]))
    refine own_via (fun t k => XS.goto X2.here hx rfl (pc0 := 14) (pc' := 18) rfl (hb hby d4_14) (by decide) (by decide) k) ?_
    show OwnEnds p.tables e below _ (T2.setTop (mkF m 18 #[.val (.ref a0), .val (.int (3 : Int32))] [(.int (1 : Int32))]))
    refine own_retN (t := .boolean) X2 hx Bd.returns (by simp) hlk (hb hby d4_18) ?_ (by decide) (by decide)
    rw [e2]
    exact ⟨congrArg (fun z => some (Value.int z)) (show nar .boolean (1 : Int32) = own_is x3 r by simp only [own_is, if_pos hc10_3, own_nar1, own_nar0]), N0, rfl⟩
  · skip
    refine own_via (fun t k => XS.icmpYes X2.here hx rfl (pc0 := 10) (pc' := 17) rfl (hb hby d4_10) rfl (feq hc10_3).2 (by decide) (by decide) k) ?_
    show OwnEnds p.tables e below _ (T2.setTop (mkF m 17 #[.val (.ref a0), .val (.int (3 : Int32))] []))
    refine own_via (fun t k => XS.iconst X2.here hx rfl (hb hby d4_17) k) ?_
    show OwnEnds p.tables e below _ (T2.setTop (mkF m 18 #[.val (.ref a0), .val (.int (3 : Int32))] [(.int (0 : Int32))]))
    refine own_retN (t := .boolean) X2 hx Bd.returns (by simp) hlk (hb hby d4_18) ?_ (by decide) (by decide)
    rw [e2]
    exact ⟨congrArg (fun z => some (Value.int z)) (show nar .boolean (0 : Int32) = own_is x3 r by simp only [own_is, if_neg hc10_3, own_nar1, own_nar0]), N0, rfl⟩
theorem d5_0 : decode method_2_code 0 = .ok (.iload 8, 2) := by decide +kernel
theorem d5_2 : decode method_2_code 2 = .ok (.ifCond .eq 10, 3) := by decide +kernel
theorem d5_5 : decode method_2_code 5 = .ok (.iload_n 0, 1) := by decide +kernel
theorem d5_6 : decode method_2_code 6 = .ok (.iload_n 3, 1) := by decide +kernel
theorem d5_7 : decode method_2_code 7 = .ok (.if_icmp .ne 5, 3) := by decide +kernel
theorem d5_10 : decode method_2_code 10 = .ok (.iconst 1, 1) := by decide +kernel
theorem d5_11 : decode method_2_code 11 = .ok (.ireturn, 1) := by decide +kernel
theorem d5_12 : decode method_2_code 12 = .ok (.iload 6, 2) := by decide +kernel
theorem d5_14 : decode method_2_code 14 = .ok (.ifCond .eq 15, 3) := by decide +kernel
theorem d5_17 : decode method_2_code 17 = .ok (.iload 7, 2) := by decide +kernel
theorem d5_19 : decode method_2_code 19 = .ok (.ifCond .ne 10, 3) := by decide +kernel
theorem d5_22 : decode method_2_code 22 = .ok (.iload_n 0, 1) := by decide +kernel
theorem d5_23 : decode method_2_code 23 = .ok (.iload_n 2, 1) := by decide +kernel
theorem d5_24 : decode method_2_code 24 = .ok (.if_icmp .ne 5, 3) := by decide +kernel
theorem d5_27 : decode method_2_code 27 = .ok (.iconst 1, 1) := by decide +kernel
theorem d5_28 : decode method_2_code 28 = .ok (.ireturn, 1) := by decide +kernel
theorem d5_29 : decode method_2_code 29 = .ok (.iload 4, 2) := by decide +kernel
theorem d5_31 : decode method_2_code 31 = .ok (.ifCond .eq 20, 3) := by decide +kernel
theorem d5_34 : decode method_2_code 34 = .ok (.iload 5, 2) := by decide +kernel
theorem d5_36 : decode method_2_code 36 = .ok (.ifCond .ne 15, 3) := by decide +kernel
theorem d5_39 : decode method_2_code 39 = .ok (.iload 7, 2) := by decide +kernel
theorem d5_41 : decode method_2_code 41 = .ok (.ifCond .ne 10, 3) := by decide +kernel
theorem d5_44 : decode method_2_code 44 = .ok (.iload_n 0, 1) := by decide +kernel
theorem d5_45 : decode method_2_code 45 = .ok (.iload_n 1, 1) := by decide +kernel
theorem d5_46 : decode method_2_code 46 = .ok (.if_icmp .ne 5, 3) := by decide +kernel
theorem d5_49 : decode method_2_code 49 = .ok (.iconst 1, 1) := by decide +kernel
theorem d5_50 : decode method_2_code 50 = .ok (.ireturn, 1) := by decide +kernel
theorem d5_51 : decode method_2_code 51 = .ok (.iconst 0, 1) := by decide +kernel
theorem d5_52 : decode method_2_code 52 = .ok (.ireturn, 1) := by decide +kernel
theorem pn_1 : plainName "com/example/libhorn/libhorn/measures/FoundMarksIsMarkedPinLaw" = true := by first | (simp [plainName, overriddenIn]; done) | decide +kernel
theorem ef_5 (m : MethodId) (p0 : Int32) (p1 : Int32) (p2 : Int32) (p3 : Int32) (p4 : Int32) (p5 : Int32) (p6 : Int32) (p7 : Int32) (p8 : Int32) : entryFrame m #[(.int p0), (.int p1), (.int p2), (.int p3), (.int p4), (.int p5), (.int p6), (.int p7), (.int p8)] 9 = mkF m 0 #[.val (.int p0), .val (.int p1), .val (.int p2), .val (.int p3), .val (.int p4), .val (.int p5), .val (.int p6), .val (.int p7), .val (.int p8)] [] := by first | (simp [entryFrame, mkF, argsToLocals, Value.category]; done) | rfl
def Q5 (Z : State) (p0 : Int32) (p1 : Int32) (p2 : Int32) (p3 : Int32) (p4 : Int32) (p5 : Int32) (p6 : Int32) (p7 : Int32) (p8 : Int32) (h0 : Heap) (n0 : Nat) (v : Option Value) (h : Heap) (L : List Loc) : Prop := v = some (.int (own_exp p0 p1 p2 p3 p4 p5 p6 p7 p8)) ∧ Fr n0 L ∧ h = h0
set_option maxRecDepth 65536 in
set_option maxHeartbeats 40000000 in
theorem rm5 (l : Launch) (Z : State) (aw : Array Value) (hw : ∀ d ∈ tables_1, d.before aw Z = true) (ws : List Jvm.Cond) (p0 : Int32) (p1 : Int32) (p2 : Int32) (p3 : Int32) (p4 : Int32) (p5 : Int32) (p6 : Int32) (p7 : Int32) (p8 : Int32) (h0 : Heap) (n0 : Nat) (Z0 : n0 ≤ h0.size) :
    MetFree l (⟨"com/example/libhorn/libhorn/measures/FoundMarksIsMarkedPinLaw", "expected", "(IIIIZZZZZ)Z"⟩ : MethodName) (head1 (Jvm.Cond.code (⟨"com/example/libhorn/libhorn/measures/FoundMarksIsMarkedPinLaw", "expected", "(IIIIZZZZZ)Z"⟩ : MethodName) method_2_code 9 (some .boolean) :: ws) ({ frames := 0, cells := 0, slots := 0, locals := 0 } : Room)) (fun a U => a = #[(.int p0), (.int p1), (.int p2), (.int p3), (.int p4), (.int p5), (.int p6), (.int p7), (.int p8)] ∧ Z.Warmed39 U.vm ∧ U.heap = h0) (fun _ _ _ _ _ => True) (fun _ U o U' => ∃ v L, o = .returned v ∧ Q5 Z p0 p1 p2 p3 p4 p5 p6 p7 p8 h0 n0 v U'.heap L ∧ FrameEnd U o U' L ({ frames := 0, cells := 0, slots := 0, locals := 0 } : Room).cells ({ frames := 0, cells := 0, slots := 0, locals := 0 } : Room).slots) := by
  refine MetFree.of_bodySF (plainFor_of_name pn_1) hisR ?_
  intro p e s m args below meth c s₁ Bd hml0 hP hK
  obtain ⟨rfl, hZ, hh⟩ := hP
  have hx := Bd.exec
  have hby := Bd.bytes
  have hml : c.maxLocals = 9 := hml0
  have hown : s.vm.findClass "com/example/libhorn/libhorn/measures/FoundMarksIsMarkedPinLaw" = some m.cls := findClass_of_methodNamed Bd.named
  have hnm := (name_of_methodNamed Bd.named Bd.method).1
  have hlk : meth.locks = false := Bd.notSynchronized
  have X0 : Stand p l e ({ frames := 0, cells := 0, slots := 0, locals := 0 } : Room) s m #[(.int p0), (.int p1), (.int p2), (.int p3), (.int p4), (.int p5), (.int p6), (.int p7), (.int p8)] below meth c s₁ [] 0 0 := Stand.of_body Bd
  have e0 : s₁.heap = h0 := by rw [← hh, Bd.state]; rfl
  have N0 := Fr.nil n0
  show OwnEnds p.tables e below (OwnQ s ({ frames := 0, cells := 0, slots := 0, locals := 0 } : Room).cells ({ frames := 0, cells := 0, slots := 0, locals := 0 } : Room).slots (Q5 Z p0 p1 p2 p3 p4 p5 p6 p7 p8 h0 n0)) (s₁.setTop (entryFrame m #[(.int p0), (.int p1), (.int p2), (.int p3), (.int p4), (.int p5), (.int p6), (.int p7), (.int p8)] 9))
  refine own_via (fun t k => castTop (ef_5 m p0 p1 p2 p3 p4 p5 p6 p7 p8) k) ?_
  show OwnEnds p.tables e below _ (s₁.setTop (mkF m 0 #[.val (.int p0), .val (.int p1), .val (.int p2), .val (.int p3), .val (.int p4), .val (.int p5), .val (.int p6), .val (.int p7), .val (.int p8)] []))
  refine own_via (fun t k => XS.iload X0.here hx rfl (hb hby d5_0) rfl k) ?_
  show OwnEnds p.tables e below _ (s₁.setTop (mkF m 2 #[.val (.int p0), .val (.int p1), .val (.int p2), .val (.int p3), .val (.int p4), .val (.int p5), .val (.int p6), .val (.int p7), .val (.int p8)] [(.int p8)]))
  by_cases hc2_1 : p8 = (0 : Int32)
  · skip
    refine own_via (fun t k => XS.ifYes X0.here hx rfl (pc0 := 2) (pc' := 12) rfl (hb hby d5_2) rfl ((if0 _ _).trans (teq hc2_1).1) (by decide) (by decide) k) ?_
    show OwnEnds p.tables e below _ (s₁.setTop (mkF m 12 #[.val (.int p0), .val (.int p1), .val (.int p2), .val (.int p3), .val (.int p4), .val (.int p5), .val (.int p6), .val (.int p7), .val (.int p8)] []))
    refine own_via (fun t k => XS.iload X0.here hx rfl (hb hby d5_12) rfl k) ?_
    show OwnEnds p.tables e below _ (s₁.setTop (mkF m 14 #[.val (.int p0), .val (.int p1), .val (.int p2), .val (.int p3), .val (.int p4), .val (.int p5), .val (.int p6), .val (.int p7), .val (.int p8)] [(.int p6)]))
    by_cases hc14_2 : p6 = (0 : Int32)
    · skip
      refine own_via (fun t k => XS.ifYes X0.here hx rfl (pc0 := 14) (pc' := 29) rfl (hb hby d5_14) rfl ((if0 _ _).trans (teq hc14_2).1) (by decide) (by decide) k) ?_
      show OwnEnds p.tables e below _ (s₁.setTop (mkF m 29 #[.val (.int p0), .val (.int p1), .val (.int p2), .val (.int p3), .val (.int p4), .val (.int p5), .val (.int p6), .val (.int p7), .val (.int p8)] []))
      refine own_via (fun t k => XS.iload X0.here hx rfl (hb hby d5_29) rfl k) ?_
      show OwnEnds p.tables e below _ (s₁.setTop (mkF m 31 #[.val (.int p0), .val (.int p1), .val (.int p2), .val (.int p3), .val (.int p4), .val (.int p5), .val (.int p6), .val (.int p7), .val (.int p8)] [(.int p4)]))
      by_cases hc31_3 : p4 = (0 : Int32)
      · skip
        refine own_via (fun t k => XS.ifYes X0.here hx rfl (pc0 := 31) (pc' := 51) rfl (hb hby d5_31) rfl ((if0 _ _).trans (teq hc31_3).1) (by decide) (by decide) k) ?_
        show OwnEnds p.tables e below _ (s₁.setTop (mkF m 51 #[.val (.int p0), .val (.int p1), .val (.int p2), .val (.int p3), .val (.int p4), .val (.int p5), .val (.int p6), .val (.int p7), .val (.int p8)] []))
        refine own_via (fun t k => XS.iconst X0.here hx rfl (hb hby d5_51) k) ?_
        show OwnEnds p.tables e below _ (s₁.setTop (mkF m 52 #[.val (.int p0), .val (.int p1), .val (.int p2), .val (.int p3), .val (.int p4), .val (.int p5), .val (.int p6), .val (.int p7), .val (.int p8)] [(.int (0 : Int32))]))
        refine own_retN (t := .boolean) X0 hx Bd.returns (by simp) hlk (hb hby d5_52) ?_ (by decide) (by decide)
        rw [e0]
        exact ⟨congrArg (fun z => some (Value.int z)) (show nar .boolean (0 : Int32) = own_exp p0 p1 p2 p3 p4 p5 p6 p7 p8 by simp only [own_exp, if_pos hc2_1, if_pos hc14_2, if_pos hc31_3, own_nar1, own_nar0, own_t12, own_t29]), N0, rfl⟩
      · skip
        refine own_via (fun t k => XS.ifNo X0.here hx rfl (hb hby d5_31) rfl ((if0 _ _).trans (feq hc31_3).1) k) ?_
        show OwnEnds p.tables e below _ (s₁.setTop (mkF m 34 #[.val (.int p0), .val (.int p1), .val (.int p2), .val (.int p3), .val (.int p4), .val (.int p5), .val (.int p6), .val (.int p7), .val (.int p8)] []))
        refine own_via (fun t k => XS.iload X0.here hx rfl (hb hby d5_34) rfl k) ?_
        show OwnEnds p.tables e below _ (s₁.setTop (mkF m 36 #[.val (.int p0), .val (.int p1), .val (.int p2), .val (.int p3), .val (.int p4), .val (.int p5), .val (.int p6), .val (.int p7), .val (.int p8)] [(.int p5)]))
        by_cases hc36_4 : p5 = (0 : Int32)
        · skip
          refine own_via (fun t k => XS.ifNo X0.here hx rfl (hb hby d5_36) rfl ((if0 _ _).trans (teq hc36_4).2) k) ?_
          show OwnEnds p.tables e below _ (s₁.setTop (mkF m 39 #[.val (.int p0), .val (.int p1), .val (.int p2), .val (.int p3), .val (.int p4), .val (.int p5), .val (.int p6), .val (.int p7), .val (.int p8)] []))
          refine own_via (fun t k => XS.iload X0.here hx rfl (hb hby d5_39) rfl k) ?_
          show OwnEnds p.tables e below _ (s₁.setTop (mkF m 41 #[.val (.int p0), .val (.int p1), .val (.int p2), .val (.int p3), .val (.int p4), .val (.int p5), .val (.int p6), .val (.int p7), .val (.int p8)] [(.int p7)]))
          by_cases hc41_5 : p7 = (0 : Int32)
          · skip
            refine own_via (fun t k => XS.ifNo X0.here hx rfl (hb hby d5_41) rfl ((if0 _ _).trans (teq hc41_5).2) k) ?_
            show OwnEnds p.tables e below _ (s₁.setTop (mkF m 44 #[.val (.int p0), .val (.int p1), .val (.int p2), .val (.int p3), .val (.int p4), .val (.int p5), .val (.int p6), .val (.int p7), .val (.int p8)] []))
            refine own_via (fun t k => XS.iloadN X0.here hx rfl (hb hby d5_44) rfl k) ?_
            show OwnEnds p.tables e below _ (s₁.setTop (mkF m 45 #[.val (.int p0), .val (.int p1), .val (.int p2), .val (.int p3), .val (.int p4), .val (.int p5), .val (.int p6), .val (.int p7), .val (.int p8)] [(.int p0)]))
            refine own_via (fun t k => XS.iloadN X0.here hx rfl (hb hby d5_45) rfl k) ?_
            show OwnEnds p.tables e below _ (s₁.setTop (mkF m 46 #[.val (.int p0), .val (.int p1), .val (.int p2), .val (.int p3), .val (.int p4), .val (.int p5), .val (.int p6), .val (.int p7), .val (.int p8)] [(.int p1), (.int p0)]))
            by_cases hc46_6 : p0 = p1
            · skip
              refine own_via (fun t k => XS.icmpNo X0.here hx rfl (hb hby d5_46) rfl (teq hc46_6).2 k) ?_
              show OwnEnds p.tables e below _ (s₁.setTop (mkF m 49 #[.val (.int p0), .val (.int p1), .val (.int p2), .val (.int p3), .val (.int p4), .val (.int p5), .val (.int p6), .val (.int p7), .val (.int p8)] []))
              refine own_via (fun t k => XS.iconst X0.here hx rfl (hb hby d5_49) k) ?_
              show OwnEnds p.tables e below _ (s₁.setTop (mkF m 50 #[.val (.int p0), .val (.int p1), .val (.int p2), .val (.int p3), .val (.int p4), .val (.int p5), .val (.int p6), .val (.int p7), .val (.int p8)] [(.int (1 : Int32))]))
              refine own_retN (t := .boolean) X0 hx Bd.returns (by simp) hlk (hb hby d5_50) ?_ (by decide) (by decide)
              rw [e0]
              exact ⟨congrArg (fun z => some (Value.int z)) (show nar .boolean (1 : Int32) = own_exp p0 p1 p2 p3 p4 p5 p6 p7 p8 by simp only [own_exp, if_pos hc2_1, if_pos hc14_2, if_neg hc31_3, if_pos hc36_4, if_pos hc41_5, if_pos hc46_6, own_nar1, own_nar0, own_t12, own_t29]), N0, rfl⟩
            · skip
              refine own_via (fun t k => XS.icmpYes X0.here hx rfl (pc0 := 46) (pc' := 51) rfl (hb hby d5_46) rfl (feq hc46_6).2 (by decide) (by decide) k) ?_
              show OwnEnds p.tables e below _ (s₁.setTop (mkF m 51 #[.val (.int p0), .val (.int p1), .val (.int p2), .val (.int p3), .val (.int p4), .val (.int p5), .val (.int p6), .val (.int p7), .val (.int p8)] []))
              refine own_via (fun t k => XS.iconst X0.here hx rfl (hb hby d5_51) k) ?_
              show OwnEnds p.tables e below _ (s₁.setTop (mkF m 52 #[.val (.int p0), .val (.int p1), .val (.int p2), .val (.int p3), .val (.int p4), .val (.int p5), .val (.int p6), .val (.int p7), .val (.int p8)] [(.int (0 : Int32))]))
              refine own_retN (t := .boolean) X0 hx Bd.returns (by simp) hlk (hb hby d5_52) ?_ (by decide) (by decide)
              rw [e0]
              exact ⟨congrArg (fun z => some (Value.int z)) (show nar .boolean (0 : Int32) = own_exp p0 p1 p2 p3 p4 p5 p6 p7 p8 by simp only [own_exp, if_pos hc2_1, if_pos hc14_2, if_neg hc31_3, if_pos hc36_4, if_pos hc41_5, if_neg hc46_6, own_nar1, own_nar0, own_t12, own_t29]), N0, rfl⟩
          · skip
            refine own_via (fun t k => XS.ifYes X0.here hx rfl (pc0 := 41) (pc' := 51) rfl (hb hby d5_41) rfl ((if0 _ _).trans (feq hc41_5).2) (by decide) (by decide) k) ?_
            show OwnEnds p.tables e below _ (s₁.setTop (mkF m 51 #[.val (.int p0), .val (.int p1), .val (.int p2), .val (.int p3), .val (.int p4), .val (.int p5), .val (.int p6), .val (.int p7), .val (.int p8)] []))
            refine own_via (fun t k => XS.iconst X0.here hx rfl (hb hby d5_51) k) ?_
            show OwnEnds p.tables e below _ (s₁.setTop (mkF m 52 #[.val (.int p0), .val (.int p1), .val (.int p2), .val (.int p3), .val (.int p4), .val (.int p5), .val (.int p6), .val (.int p7), .val (.int p8)] [(.int (0 : Int32))]))
            refine own_retN (t := .boolean) X0 hx Bd.returns (by simp) hlk (hb hby d5_52) ?_ (by decide) (by decide)
            rw [e0]
            exact ⟨congrArg (fun z => some (Value.int z)) (show nar .boolean (0 : Int32) = own_exp p0 p1 p2 p3 p4 p5 p6 p7 p8 by simp only [own_exp, if_pos hc2_1, if_pos hc14_2, if_neg hc31_3, if_pos hc36_4, if_neg hc41_5, own_nar1, own_nar0, own_t12, own_t29]), N0, rfl⟩
        · skip
          refine own_via (fun t k => XS.ifYes X0.here hx rfl (pc0 := 36) (pc' := 51) rfl (hb hby d5_36) rfl ((if0 _ _).trans (feq hc36_4).2) (by decide) (by decide) k) ?_
          show OwnEnds p.tables e below _ (s₁.setTop (mkF m 51 #[.val (.int p0), .val (.int p1), .val (.int p2), .val (.int p3), .val (.int p4), .val (.int p5), .val (.int p6), .val (.int p7), .val (.int p8)] []))
          refine own_via (fun t k => XS.iconst X0.here hx rfl (hb hby d5_51) k) ?_
          show OwnEnds p.tables e below _ (s₁.setTop (mkF m 52 #[.val (.int p0), .val (.int p1), .val (.int p2), .val (.int p3), .val (.int p4), .val (.int p5), .val (.int p6), .val (.int p7), .val (.int p8)] [(.int (0 : Int32))]))
          refine own_retN (t := .boolean) X0 hx Bd.returns (by simp) hlk (hb hby d5_52) ?_ (by decide) (by decide)
          rw [e0]
          exact ⟨congrArg (fun z => some (Value.int z)) (show nar .boolean (0 : Int32) = own_exp p0 p1 p2 p3 p4 p5 p6 p7 p8 by simp only [own_exp, if_pos hc2_1, if_pos hc14_2, if_neg hc31_3, if_neg hc36_4, own_nar1, own_nar0, own_t12, own_t29]), N0, rfl⟩
    · skip
      refine own_via (fun t k => XS.ifNo X0.here hx rfl (hb hby d5_14) rfl ((if0 _ _).trans (feq hc14_2).1) k) ?_
      show OwnEnds p.tables e below _ (s₁.setTop (mkF m 17 #[.val (.int p0), .val (.int p1), .val (.int p2), .val (.int p3), .val (.int p4), .val (.int p5), .val (.int p6), .val (.int p7), .val (.int p8)] []))
      refine own_via (fun t k => XS.iload X0.here hx rfl (hb hby d5_17) rfl k) ?_
      show OwnEnds p.tables e below _ (s₁.setTop (mkF m 19 #[.val (.int p0), .val (.int p1), .val (.int p2), .val (.int p3), .val (.int p4), .val (.int p5), .val (.int p6), .val (.int p7), .val (.int p8)] [(.int p7)]))
      by_cases hc19_7 : p7 = (0 : Int32)
      · skip
        refine own_via (fun t k => XS.ifNo X0.here hx rfl (hb hby d5_19) rfl ((if0 _ _).trans (teq hc19_7).2) k) ?_
        show OwnEnds p.tables e below _ (s₁.setTop (mkF m 22 #[.val (.int p0), .val (.int p1), .val (.int p2), .val (.int p3), .val (.int p4), .val (.int p5), .val (.int p6), .val (.int p7), .val (.int p8)] []))
        refine own_via (fun t k => XS.iloadN X0.here hx rfl (hb hby d5_22) rfl k) ?_
        show OwnEnds p.tables e below _ (s₁.setTop (mkF m 23 #[.val (.int p0), .val (.int p1), .val (.int p2), .val (.int p3), .val (.int p4), .val (.int p5), .val (.int p6), .val (.int p7), .val (.int p8)] [(.int p0)]))
        refine own_via (fun t k => XS.iloadN X0.here hx rfl (hb hby d5_23) rfl k) ?_
        show OwnEnds p.tables e below _ (s₁.setTop (mkF m 24 #[.val (.int p0), .val (.int p1), .val (.int p2), .val (.int p3), .val (.int p4), .val (.int p5), .val (.int p6), .val (.int p7), .val (.int p8)] [(.int p2), (.int p0)]))
        by_cases hc24_8 : p0 = p2
        · skip
          refine own_via (fun t k => XS.icmpNo X0.here hx rfl (hb hby d5_24) rfl (teq hc24_8).2 k) ?_
          show OwnEnds p.tables e below _ (s₁.setTop (mkF m 27 #[.val (.int p0), .val (.int p1), .val (.int p2), .val (.int p3), .val (.int p4), .val (.int p5), .val (.int p6), .val (.int p7), .val (.int p8)] []))
          refine own_via (fun t k => XS.iconst X0.here hx rfl (hb hby d5_27) k) ?_
          show OwnEnds p.tables e below _ (s₁.setTop (mkF m 28 #[.val (.int p0), .val (.int p1), .val (.int p2), .val (.int p3), .val (.int p4), .val (.int p5), .val (.int p6), .val (.int p7), .val (.int p8)] [(.int (1 : Int32))]))
          refine own_retN (t := .boolean) X0 hx Bd.returns (by simp) hlk (hb hby d5_28) ?_ (by decide) (by decide)
          rw [e0]
          exact ⟨congrArg (fun z => some (Value.int z)) (show nar .boolean (1 : Int32) = own_exp p0 p1 p2 p3 p4 p5 p6 p7 p8 by simp only [own_exp, if_pos hc2_1, if_neg hc14_2, if_pos hc19_7, if_pos hc24_8, own_nar1, own_nar0, own_t12, own_t29]), N0, rfl⟩
        · skip
          refine own_via (fun t k => XS.icmpYes X0.here hx rfl (pc0 := 24) (pc' := 29) rfl (hb hby d5_24) rfl (feq hc24_8).2 (by decide) (by decide) k) ?_
          show OwnEnds p.tables e below _ (s₁.setTop (mkF m 29 #[.val (.int p0), .val (.int p1), .val (.int p2), .val (.int p3), .val (.int p4), .val (.int p5), .val (.int p6), .val (.int p7), .val (.int p8)] []))
          refine own_via (fun t k => XS.iload X0.here hx rfl (hb hby d5_29) rfl k) ?_
          show OwnEnds p.tables e below _ (s₁.setTop (mkF m 31 #[.val (.int p0), .val (.int p1), .val (.int p2), .val (.int p3), .val (.int p4), .val (.int p5), .val (.int p6), .val (.int p7), .val (.int p8)] [(.int p4)]))
          by_cases hc31_9 : p4 = (0 : Int32)
          · skip
            refine own_via (fun t k => XS.ifYes X0.here hx rfl (pc0 := 31) (pc' := 51) rfl (hb hby d5_31) rfl ((if0 _ _).trans (teq hc31_9).1) (by decide) (by decide) k) ?_
            show OwnEnds p.tables e below _ (s₁.setTop (mkF m 51 #[.val (.int p0), .val (.int p1), .val (.int p2), .val (.int p3), .val (.int p4), .val (.int p5), .val (.int p6), .val (.int p7), .val (.int p8)] []))
            refine own_via (fun t k => XS.iconst X0.here hx rfl (hb hby d5_51) k) ?_
            show OwnEnds p.tables e below _ (s₁.setTop (mkF m 52 #[.val (.int p0), .val (.int p1), .val (.int p2), .val (.int p3), .val (.int p4), .val (.int p5), .val (.int p6), .val (.int p7), .val (.int p8)] [(.int (0 : Int32))]))
            refine own_retN (t := .boolean) X0 hx Bd.returns (by simp) hlk (hb hby d5_52) ?_ (by decide) (by decide)
            rw [e0]
            exact ⟨congrArg (fun z => some (Value.int z)) (show nar .boolean (0 : Int32) = own_exp p0 p1 p2 p3 p4 p5 p6 p7 p8 by simp only [own_exp, if_pos hc2_1, if_neg hc14_2, if_pos hc19_7, if_neg hc24_8, if_pos hc31_9, own_nar1, own_nar0, own_t12, own_t29]), N0, rfl⟩
          · skip
            refine own_via (fun t k => XS.ifNo X0.here hx rfl (hb hby d5_31) rfl ((if0 _ _).trans (feq hc31_9).1) k) ?_
            show OwnEnds p.tables e below _ (s₁.setTop (mkF m 34 #[.val (.int p0), .val (.int p1), .val (.int p2), .val (.int p3), .val (.int p4), .val (.int p5), .val (.int p6), .val (.int p7), .val (.int p8)] []))
            refine own_via (fun t k => XS.iload X0.here hx rfl (hb hby d5_34) rfl k) ?_
            show OwnEnds p.tables e below _ (s₁.setTop (mkF m 36 #[.val (.int p0), .val (.int p1), .val (.int p2), .val (.int p3), .val (.int p4), .val (.int p5), .val (.int p6), .val (.int p7), .val (.int p8)] [(.int p5)]))
            by_cases hc36_10 : p5 = (0 : Int32)
            · skip
              refine own_via (fun t k => XS.ifNo X0.here hx rfl (hb hby d5_36) rfl ((if0 _ _).trans (teq hc36_10).2) k) ?_
              show OwnEnds p.tables e below _ (s₁.setTop (mkF m 39 #[.val (.int p0), .val (.int p1), .val (.int p2), .val (.int p3), .val (.int p4), .val (.int p5), .val (.int p6), .val (.int p7), .val (.int p8)] []))
              refine own_via (fun t k => XS.iload X0.here hx rfl (hb hby d5_39) rfl k) ?_
              show OwnEnds p.tables e below _ (s₁.setTop (mkF m 41 #[.val (.int p0), .val (.int p1), .val (.int p2), .val (.int p3), .val (.int p4), .val (.int p5), .val (.int p6), .val (.int p7), .val (.int p8)] [(.int p7)]))
              have hc41_11 : p7 = (0 : Int32) := hc19_7
              refine own_via (fun t k => XS.ifNo X0.here hx rfl (hb hby d5_41) rfl ((if0 _ _).trans (teq hc41_11).2) k) ?_
              show OwnEnds p.tables e below _ (s₁.setTop (mkF m 44 #[.val (.int p0), .val (.int p1), .val (.int p2), .val (.int p3), .val (.int p4), .val (.int p5), .val (.int p6), .val (.int p7), .val (.int p8)] []))
              refine own_via (fun t k => XS.iloadN X0.here hx rfl (hb hby d5_44) rfl k) ?_
              show OwnEnds p.tables e below _ (s₁.setTop (mkF m 45 #[.val (.int p0), .val (.int p1), .val (.int p2), .val (.int p3), .val (.int p4), .val (.int p5), .val (.int p6), .val (.int p7), .val (.int p8)] [(.int p0)]))
              refine own_via (fun t k => XS.iloadN X0.here hx rfl (hb hby d5_45) rfl k) ?_
              show OwnEnds p.tables e below _ (s₁.setTop (mkF m 46 #[.val (.int p0), .val (.int p1), .val (.int p2), .val (.int p3), .val (.int p4), .val (.int p5), .val (.int p6), .val (.int p7), .val (.int p8)] [(.int p1), (.int p0)]))
              by_cases hc46_12 : p0 = p1
              · skip
                refine own_via (fun t k => XS.icmpNo X0.here hx rfl (hb hby d5_46) rfl (teq hc46_12).2 k) ?_
                show OwnEnds p.tables e below _ (s₁.setTop (mkF m 49 #[.val (.int p0), .val (.int p1), .val (.int p2), .val (.int p3), .val (.int p4), .val (.int p5), .val (.int p6), .val (.int p7), .val (.int p8)] []))
                refine own_via (fun t k => XS.iconst X0.here hx rfl (hb hby d5_49) k) ?_
                show OwnEnds p.tables e below _ (s₁.setTop (mkF m 50 #[.val (.int p0), .val (.int p1), .val (.int p2), .val (.int p3), .val (.int p4), .val (.int p5), .val (.int p6), .val (.int p7), .val (.int p8)] [(.int (1 : Int32))]))
                refine own_retN (t := .boolean) X0 hx Bd.returns (by simp) hlk (hb hby d5_50) ?_ (by decide) (by decide)
                rw [e0]
                exact ⟨congrArg (fun z => some (Value.int z)) (show nar .boolean (1 : Int32) = own_exp p0 p1 p2 p3 p4 p5 p6 p7 p8 by simp only [own_exp, if_pos hc2_1, if_neg hc14_2, if_pos hc19_7, if_neg hc24_8, if_neg hc31_9, if_pos hc36_10, if_pos hc46_12, own_nar1, own_nar0, own_t12, own_t29]), N0, rfl⟩
              · skip
                refine own_via (fun t k => XS.icmpYes X0.here hx rfl (pc0 := 46) (pc' := 51) rfl (hb hby d5_46) rfl (feq hc46_12).2 (by decide) (by decide) k) ?_
                show OwnEnds p.tables e below _ (s₁.setTop (mkF m 51 #[.val (.int p0), .val (.int p1), .val (.int p2), .val (.int p3), .val (.int p4), .val (.int p5), .val (.int p6), .val (.int p7), .val (.int p8)] []))
                refine own_via (fun t k => XS.iconst X0.here hx rfl (hb hby d5_51) k) ?_
                show OwnEnds p.tables e below _ (s₁.setTop (mkF m 52 #[.val (.int p0), .val (.int p1), .val (.int p2), .val (.int p3), .val (.int p4), .val (.int p5), .val (.int p6), .val (.int p7), .val (.int p8)] [(.int (0 : Int32))]))
                refine own_retN (t := .boolean) X0 hx Bd.returns (by simp) hlk (hb hby d5_52) ?_ (by decide) (by decide)
                rw [e0]
                exact ⟨congrArg (fun z => some (Value.int z)) (show nar .boolean (0 : Int32) = own_exp p0 p1 p2 p3 p4 p5 p6 p7 p8 by simp only [own_exp, if_pos hc2_1, if_neg hc14_2, if_pos hc19_7, if_neg hc24_8, if_neg hc31_9, if_pos hc36_10, if_neg hc46_12, own_nar1, own_nar0, own_t12, own_t29]), N0, rfl⟩
            · skip
              refine own_via (fun t k => XS.ifYes X0.here hx rfl (pc0 := 36) (pc' := 51) rfl (hb hby d5_36) rfl ((if0 _ _).trans (feq hc36_10).2) (by decide) (by decide) k) ?_
              show OwnEnds p.tables e below _ (s₁.setTop (mkF m 51 #[.val (.int p0), .val (.int p1), .val (.int p2), .val (.int p3), .val (.int p4), .val (.int p5), .val (.int p6), .val (.int p7), .val (.int p8)] []))
              refine own_via (fun t k => XS.iconst X0.here hx rfl (hb hby d5_51) k) ?_
              show OwnEnds p.tables e below _ (s₁.setTop (mkF m 52 #[.val (.int p0), .val (.int p1), .val (.int p2), .val (.int p3), .val (.int p4), .val (.int p5), .val (.int p6), .val (.int p7), .val (.int p8)] [(.int (0 : Int32))]))
              refine own_retN (t := .boolean) X0 hx Bd.returns (by simp) hlk (hb hby d5_52) ?_ (by decide) (by decide)
              rw [e0]
              exact ⟨congrArg (fun z => some (Value.int z)) (show nar .boolean (0 : Int32) = own_exp p0 p1 p2 p3 p4 p5 p6 p7 p8 by simp only [own_exp, if_pos hc2_1, if_neg hc14_2, if_pos hc19_7, if_neg hc24_8, if_neg hc31_9, if_neg hc36_10, own_nar1, own_nar0, own_t12, own_t29]), N0, rfl⟩
      · skip
        refine own_via (fun t k => XS.ifYes X0.here hx rfl (pc0 := 19) (pc' := 29) rfl (hb hby d5_19) rfl ((if0 _ _).trans (feq hc19_7).2) (by decide) (by decide) k) ?_
        show OwnEnds p.tables e below _ (s₁.setTop (mkF m 29 #[.val (.int p0), .val (.int p1), .val (.int p2), .val (.int p3), .val (.int p4), .val (.int p5), .val (.int p6), .val (.int p7), .val (.int p8)] []))
        refine own_via (fun t k => XS.iload X0.here hx rfl (hb hby d5_29) rfl k) ?_
        show OwnEnds p.tables e below _ (s₁.setTop (mkF m 31 #[.val (.int p0), .val (.int p1), .val (.int p2), .val (.int p3), .val (.int p4), .val (.int p5), .val (.int p6), .val (.int p7), .val (.int p8)] [(.int p4)]))
        by_cases hc31_13 : p4 = (0 : Int32)
        · skip
          refine own_via (fun t k => XS.ifYes X0.here hx rfl (pc0 := 31) (pc' := 51) rfl (hb hby d5_31) rfl ((if0 _ _).trans (teq hc31_13).1) (by decide) (by decide) k) ?_
          show OwnEnds p.tables e below _ (s₁.setTop (mkF m 51 #[.val (.int p0), .val (.int p1), .val (.int p2), .val (.int p3), .val (.int p4), .val (.int p5), .val (.int p6), .val (.int p7), .val (.int p8)] []))
          refine own_via (fun t k => XS.iconst X0.here hx rfl (hb hby d5_51) k) ?_
          show OwnEnds p.tables e below _ (s₁.setTop (mkF m 52 #[.val (.int p0), .val (.int p1), .val (.int p2), .val (.int p3), .val (.int p4), .val (.int p5), .val (.int p6), .val (.int p7), .val (.int p8)] [(.int (0 : Int32))]))
          refine own_retN (t := .boolean) X0 hx Bd.returns (by simp) hlk (hb hby d5_52) ?_ (by decide) (by decide)
          rw [e0]
          exact ⟨congrArg (fun z => some (Value.int z)) (show nar .boolean (0 : Int32) = own_exp p0 p1 p2 p3 p4 p5 p6 p7 p8 by simp only [own_exp, if_pos hc2_1, if_neg hc14_2, if_neg hc19_7, if_pos hc31_13, own_nar1, own_nar0, own_t12, own_t29]), N0, rfl⟩
        · skip
          refine own_via (fun t k => XS.ifNo X0.here hx rfl (hb hby d5_31) rfl ((if0 _ _).trans (feq hc31_13).1) k) ?_
          show OwnEnds p.tables e below _ (s₁.setTop (mkF m 34 #[.val (.int p0), .val (.int p1), .val (.int p2), .val (.int p3), .val (.int p4), .val (.int p5), .val (.int p6), .val (.int p7), .val (.int p8)] []))
          refine own_via (fun t k => XS.iload X0.here hx rfl (hb hby d5_34) rfl k) ?_
          show OwnEnds p.tables e below _ (s₁.setTop (mkF m 36 #[.val (.int p0), .val (.int p1), .val (.int p2), .val (.int p3), .val (.int p4), .val (.int p5), .val (.int p6), .val (.int p7), .val (.int p8)] [(.int p5)]))
          by_cases hc36_14 : p5 = (0 : Int32)
          · skip
            refine own_via (fun t k => XS.ifNo X0.here hx rfl (hb hby d5_36) rfl ((if0 _ _).trans (teq hc36_14).2) k) ?_
            show OwnEnds p.tables e below _ (s₁.setTop (mkF m 39 #[.val (.int p0), .val (.int p1), .val (.int p2), .val (.int p3), .val (.int p4), .val (.int p5), .val (.int p6), .val (.int p7), .val (.int p8)] []))
            refine own_via (fun t k => XS.iload X0.here hx rfl (hb hby d5_39) rfl k) ?_
            show OwnEnds p.tables e below _ (s₁.setTop (mkF m 41 #[.val (.int p0), .val (.int p1), .val (.int p2), .val (.int p3), .val (.int p4), .val (.int p5), .val (.int p6), .val (.int p7), .val (.int p8)] [(.int p7)]))
            have hc41_15 : ¬ (p7 = (0 : Int32)) := hc19_7
            refine own_via (fun t k => XS.ifYes X0.here hx rfl (pc0 := 41) (pc' := 51) rfl (hb hby d5_41) rfl ((if0 _ _).trans (feq hc41_15).2) (by decide) (by decide) k) ?_
            show OwnEnds p.tables e below _ (s₁.setTop (mkF m 51 #[.val (.int p0), .val (.int p1), .val (.int p2), .val (.int p3), .val (.int p4), .val (.int p5), .val (.int p6), .val (.int p7), .val (.int p8)] []))
            refine own_via (fun t k => XS.iconst X0.here hx rfl (hb hby d5_51) k) ?_
            show OwnEnds p.tables e below _ (s₁.setTop (mkF m 52 #[.val (.int p0), .val (.int p1), .val (.int p2), .val (.int p3), .val (.int p4), .val (.int p5), .val (.int p6), .val (.int p7), .val (.int p8)] [(.int (0 : Int32))]))
            refine own_retN (t := .boolean) X0 hx Bd.returns (by simp) hlk (hb hby d5_52) ?_ (by decide) (by decide)
            rw [e0]
            exact ⟨congrArg (fun z => some (Value.int z)) (show nar .boolean (0 : Int32) = own_exp p0 p1 p2 p3 p4 p5 p6 p7 p8 by simp only [own_exp, if_pos hc2_1, if_neg hc14_2, if_neg hc19_7, if_neg hc31_13, if_pos hc36_14, own_nar1, own_nar0, own_t12, own_t29]), N0, rfl⟩
          · skip
            refine own_via (fun t k => XS.ifYes X0.here hx rfl (pc0 := 36) (pc' := 51) rfl (hb hby d5_36) rfl ((if0 _ _).trans (feq hc36_14).2) (by decide) (by decide) k) ?_
            show OwnEnds p.tables e below _ (s₁.setTop (mkF m 51 #[.val (.int p0), .val (.int p1), .val (.int p2), .val (.int p3), .val (.int p4), .val (.int p5), .val (.int p6), .val (.int p7), .val (.int p8)] []))
            refine own_via (fun t k => XS.iconst X0.here hx rfl (hb hby d5_51) k) ?_
            show OwnEnds p.tables e below _ (s₁.setTop (mkF m 52 #[.val (.int p0), .val (.int p1), .val (.int p2), .val (.int p3), .val (.int p4), .val (.int p5), .val (.int p6), .val (.int p7), .val (.int p8)] [(.int (0 : Int32))]))
            refine own_retN (t := .boolean) X0 hx Bd.returns (by simp) hlk (hb hby d5_52) ?_ (by decide) (by decide)
            rw [e0]
            exact ⟨congrArg (fun z => some (Value.int z)) (show nar .boolean (0 : Int32) = own_exp p0 p1 p2 p3 p4 p5 p6 p7 p8 by simp only [own_exp, if_pos hc2_1, if_neg hc14_2, if_neg hc19_7, if_neg hc31_13, if_neg hc36_14, own_nar1, own_nar0, own_t12, own_t29]), N0, rfl⟩
  · skip
    refine own_via (fun t k => XS.ifNo X0.here hx rfl (hb hby d5_2) rfl ((if0 _ _).trans (feq hc2_1).1) k) ?_
    show OwnEnds p.tables e below _ (s₁.setTop (mkF m 5 #[.val (.int p0), .val (.int p1), .val (.int p2), .val (.int p3), .val (.int p4), .val (.int p5), .val (.int p6), .val (.int p7), .val (.int p8)] []))
    refine own_via (fun t k => XS.iloadN X0.here hx rfl (hb hby d5_5) rfl k) ?_
    show OwnEnds p.tables e below _ (s₁.setTop (mkF m 6 #[.val (.int p0), .val (.int p1), .val (.int p2), .val (.int p3), .val (.int p4), .val (.int p5), .val (.int p6), .val (.int p7), .val (.int p8)] [(.int p0)]))
    refine own_via (fun t k => XS.iloadN X0.here hx rfl (hb hby d5_6) rfl k) ?_
    show OwnEnds p.tables e below _ (s₁.setTop (mkF m 7 #[.val (.int p0), .val (.int p1), .val (.int p2), .val (.int p3), .val (.int p4), .val (.int p5), .val (.int p6), .val (.int p7), .val (.int p8)] [(.int p3), (.int p0)]))
    by_cases hc7_16 : p0 = p3
    · skip
      refine own_via (fun t k => XS.icmpNo X0.here hx rfl (hb hby d5_7) rfl (teq hc7_16).2 k) ?_
      show OwnEnds p.tables e below _ (s₁.setTop (mkF m 10 #[.val (.int p0), .val (.int p1), .val (.int p2), .val (.int p3), .val (.int p4), .val (.int p5), .val (.int p6), .val (.int p7), .val (.int p8)] []))
      refine own_via (fun t k => XS.iconst X0.here hx rfl (hb hby d5_10) k) ?_
      show OwnEnds p.tables e below _ (s₁.setTop (mkF m 11 #[.val (.int p0), .val (.int p1), .val (.int p2), .val (.int p3), .val (.int p4), .val (.int p5), .val (.int p6), .val (.int p7), .val (.int p8)] [(.int (1 : Int32))]))
      refine own_retN (t := .boolean) X0 hx Bd.returns (by simp) hlk (hb hby d5_11) ?_ (by decide) (by decide)
      rw [e0]
      exact ⟨congrArg (fun z => some (Value.int z)) (show nar .boolean (1 : Int32) = own_exp p0 p1 p2 p3 p4 p5 p6 p7 p8 by simp only [own_exp, if_neg hc2_1, if_pos hc7_16, own_nar1, own_nar0, own_t12, own_t29]), N0, rfl⟩
    · skip
      refine own_via (fun t k => XS.icmpYes X0.here hx rfl (pc0 := 7) (pc' := 12) rfl (hb hby d5_7) rfl (feq hc7_16).2 (by decide) (by decide) k) ?_
      show OwnEnds p.tables e below _ (s₁.setTop (mkF m 12 #[.val (.int p0), .val (.int p1), .val (.int p2), .val (.int p3), .val (.int p4), .val (.int p5), .val (.int p6), .val (.int p7), .val (.int p8)] []))
      refine own_via (fun t k => XS.iload X0.here hx rfl (hb hby d5_12) rfl k) ?_
      show OwnEnds p.tables e below _ (s₁.setTop (mkF m 14 #[.val (.int p0), .val (.int p1), .val (.int p2), .val (.int p3), .val (.int p4), .val (.int p5), .val (.int p6), .val (.int p7), .val (.int p8)] [(.int p6)]))
      by_cases hc14_17 : p6 = (0 : Int32)
      · skip
        refine own_via (fun t k => XS.ifYes X0.here hx rfl (pc0 := 14) (pc' := 29) rfl (hb hby d5_14) rfl ((if0 _ _).trans (teq hc14_17).1) (by decide) (by decide) k) ?_
        show OwnEnds p.tables e below _ (s₁.setTop (mkF m 29 #[.val (.int p0), .val (.int p1), .val (.int p2), .val (.int p3), .val (.int p4), .val (.int p5), .val (.int p6), .val (.int p7), .val (.int p8)] []))
        refine own_via (fun t k => XS.iload X0.here hx rfl (hb hby d5_29) rfl k) ?_
        show OwnEnds p.tables e below _ (s₁.setTop (mkF m 31 #[.val (.int p0), .val (.int p1), .val (.int p2), .val (.int p3), .val (.int p4), .val (.int p5), .val (.int p6), .val (.int p7), .val (.int p8)] [(.int p4)]))
        by_cases hc31_18 : p4 = (0 : Int32)
        · skip
          refine own_via (fun t k => XS.ifYes X0.here hx rfl (pc0 := 31) (pc' := 51) rfl (hb hby d5_31) rfl ((if0 _ _).trans (teq hc31_18).1) (by decide) (by decide) k) ?_
          show OwnEnds p.tables e below _ (s₁.setTop (mkF m 51 #[.val (.int p0), .val (.int p1), .val (.int p2), .val (.int p3), .val (.int p4), .val (.int p5), .val (.int p6), .val (.int p7), .val (.int p8)] []))
          refine own_via (fun t k => XS.iconst X0.here hx rfl (hb hby d5_51) k) ?_
          show OwnEnds p.tables e below _ (s₁.setTop (mkF m 52 #[.val (.int p0), .val (.int p1), .val (.int p2), .val (.int p3), .val (.int p4), .val (.int p5), .val (.int p6), .val (.int p7), .val (.int p8)] [(.int (0 : Int32))]))
          refine own_retN (t := .boolean) X0 hx Bd.returns (by simp) hlk (hb hby d5_52) ?_ (by decide) (by decide)
          rw [e0]
          exact ⟨congrArg (fun z => some (Value.int z)) (show nar .boolean (0 : Int32) = own_exp p0 p1 p2 p3 p4 p5 p6 p7 p8 by simp only [own_exp, if_neg hc2_1, if_neg hc7_16, if_pos hc14_17, if_pos hc31_18, own_nar1, own_nar0, own_t12, own_t29]), N0, rfl⟩
        · skip
          refine own_via (fun t k => XS.ifNo X0.here hx rfl (hb hby d5_31) rfl ((if0 _ _).trans (feq hc31_18).1) k) ?_
          show OwnEnds p.tables e below _ (s₁.setTop (mkF m 34 #[.val (.int p0), .val (.int p1), .val (.int p2), .val (.int p3), .val (.int p4), .val (.int p5), .val (.int p6), .val (.int p7), .val (.int p8)] []))
          refine own_via (fun t k => XS.iload X0.here hx rfl (hb hby d5_34) rfl k) ?_
          show OwnEnds p.tables e below _ (s₁.setTop (mkF m 36 #[.val (.int p0), .val (.int p1), .val (.int p2), .val (.int p3), .val (.int p4), .val (.int p5), .val (.int p6), .val (.int p7), .val (.int p8)] [(.int p5)]))
          by_cases hc36_19 : p5 = (0 : Int32)
          · skip
            refine own_via (fun t k => XS.ifNo X0.here hx rfl (hb hby d5_36) rfl ((if0 _ _).trans (teq hc36_19).2) k) ?_
            show OwnEnds p.tables e below _ (s₁.setTop (mkF m 39 #[.val (.int p0), .val (.int p1), .val (.int p2), .val (.int p3), .val (.int p4), .val (.int p5), .val (.int p6), .val (.int p7), .val (.int p8)] []))
            refine own_via (fun t k => XS.iload X0.here hx rfl (hb hby d5_39) rfl k) ?_
            show OwnEnds p.tables e below _ (s₁.setTop (mkF m 41 #[.val (.int p0), .val (.int p1), .val (.int p2), .val (.int p3), .val (.int p4), .val (.int p5), .val (.int p6), .val (.int p7), .val (.int p8)] [(.int p7)]))
            by_cases hc41_20 : p7 = (0 : Int32)
            · skip
              refine own_via (fun t k => XS.ifNo X0.here hx rfl (hb hby d5_41) rfl ((if0 _ _).trans (teq hc41_20).2) k) ?_
              show OwnEnds p.tables e below _ (s₁.setTop (mkF m 44 #[.val (.int p0), .val (.int p1), .val (.int p2), .val (.int p3), .val (.int p4), .val (.int p5), .val (.int p6), .val (.int p7), .val (.int p8)] []))
              refine own_via (fun t k => XS.iloadN X0.here hx rfl (hb hby d5_44) rfl k) ?_
              show OwnEnds p.tables e below _ (s₁.setTop (mkF m 45 #[.val (.int p0), .val (.int p1), .val (.int p2), .val (.int p3), .val (.int p4), .val (.int p5), .val (.int p6), .val (.int p7), .val (.int p8)] [(.int p0)]))
              refine own_via (fun t k => XS.iloadN X0.here hx rfl (hb hby d5_45) rfl k) ?_
              show OwnEnds p.tables e below _ (s₁.setTop (mkF m 46 #[.val (.int p0), .val (.int p1), .val (.int p2), .val (.int p3), .val (.int p4), .val (.int p5), .val (.int p6), .val (.int p7), .val (.int p8)] [(.int p1), (.int p0)]))
              by_cases hc46_21 : p0 = p1
              · skip
                refine own_via (fun t k => XS.icmpNo X0.here hx rfl (hb hby d5_46) rfl (teq hc46_21).2 k) ?_
                show OwnEnds p.tables e below _ (s₁.setTop (mkF m 49 #[.val (.int p0), .val (.int p1), .val (.int p2), .val (.int p3), .val (.int p4), .val (.int p5), .val (.int p6), .val (.int p7), .val (.int p8)] []))
                refine own_via (fun t k => XS.iconst X0.here hx rfl (hb hby d5_49) k) ?_
                show OwnEnds p.tables e below _ (s₁.setTop (mkF m 50 #[.val (.int p0), .val (.int p1), .val (.int p2), .val (.int p3), .val (.int p4), .val (.int p5), .val (.int p6), .val (.int p7), .val (.int p8)] [(.int (1 : Int32))]))
                refine own_retN (t := .boolean) X0 hx Bd.returns (by simp) hlk (hb hby d5_50) ?_ (by decide) (by decide)
                rw [e0]
                exact ⟨congrArg (fun z => some (Value.int z)) (show nar .boolean (1 : Int32) = own_exp p0 p1 p2 p3 p4 p5 p6 p7 p8 by simp only [own_exp, if_neg hc2_1, if_neg hc7_16, if_pos hc14_17, if_neg hc31_18, if_pos hc36_19, if_pos hc41_20, if_pos hc46_21, own_nar1, own_nar0, own_t12, own_t29]), N0, rfl⟩
              · skip
                refine own_via (fun t k => XS.icmpYes X0.here hx rfl (pc0 := 46) (pc' := 51) rfl (hb hby d5_46) rfl (feq hc46_21).2 (by decide) (by decide) k) ?_
                show OwnEnds p.tables e below _ (s₁.setTop (mkF m 51 #[.val (.int p0), .val (.int p1), .val (.int p2), .val (.int p3), .val (.int p4), .val (.int p5), .val (.int p6), .val (.int p7), .val (.int p8)] []))
                refine own_via (fun t k => XS.iconst X0.here hx rfl (hb hby d5_51) k) ?_
                show OwnEnds p.tables e below _ (s₁.setTop (mkF m 52 #[.val (.int p0), .val (.int p1), .val (.int p2), .val (.int p3), .val (.int p4), .val (.int p5), .val (.int p6), .val (.int p7), .val (.int p8)] [(.int (0 : Int32))]))
                refine own_retN (t := .boolean) X0 hx Bd.returns (by simp) hlk (hb hby d5_52) ?_ (by decide) (by decide)
                rw [e0]
                exact ⟨congrArg (fun z => some (Value.int z)) (show nar .boolean (0 : Int32) = own_exp p0 p1 p2 p3 p4 p5 p6 p7 p8 by simp only [own_exp, if_neg hc2_1, if_neg hc7_16, if_pos hc14_17, if_neg hc31_18, if_pos hc36_19, if_pos hc41_20, if_neg hc46_21, own_nar1, own_nar0, own_t12, own_t29]), N0, rfl⟩
            · skip
              refine own_via (fun t k => XS.ifYes X0.here hx rfl (pc0 := 41) (pc' := 51) rfl (hb hby d5_41) rfl ((if0 _ _).trans (feq hc41_20).2) (by decide) (by decide) k) ?_
              show OwnEnds p.tables e below _ (s₁.setTop (mkF m 51 #[.val (.int p0), .val (.int p1), .val (.int p2), .val (.int p3), .val (.int p4), .val (.int p5), .val (.int p6), .val (.int p7), .val (.int p8)] []))
              refine own_via (fun t k => XS.iconst X0.here hx rfl (hb hby d5_51) k) ?_
              show OwnEnds p.tables e below _ (s₁.setTop (mkF m 52 #[.val (.int p0), .val (.int p1), .val (.int p2), .val (.int p3), .val (.int p4), .val (.int p5), .val (.int p6), .val (.int p7), .val (.int p8)] [(.int (0 : Int32))]))
              refine own_retN (t := .boolean) X0 hx Bd.returns (by simp) hlk (hb hby d5_52) ?_ (by decide) (by decide)
              rw [e0]
              exact ⟨congrArg (fun z => some (Value.int z)) (show nar .boolean (0 : Int32) = own_exp p0 p1 p2 p3 p4 p5 p6 p7 p8 by simp only [own_exp, if_neg hc2_1, if_neg hc7_16, if_pos hc14_17, if_neg hc31_18, if_pos hc36_19, if_neg hc41_20, own_nar1, own_nar0, own_t12, own_t29]), N0, rfl⟩
          · skip
            refine own_via (fun t k => XS.ifYes X0.here hx rfl (pc0 := 36) (pc' := 51) rfl (hb hby d5_36) rfl ((if0 _ _).trans (feq hc36_19).2) (by decide) (by decide) k) ?_
            show OwnEnds p.tables e below _ (s₁.setTop (mkF m 51 #[.val (.int p0), .val (.int p1), .val (.int p2), .val (.int p3), .val (.int p4), .val (.int p5), .val (.int p6), .val (.int p7), .val (.int p8)] []))
            refine own_via (fun t k => XS.iconst X0.here hx rfl (hb hby d5_51) k) ?_
            show OwnEnds p.tables e below _ (s₁.setTop (mkF m 52 #[.val (.int p0), .val (.int p1), .val (.int p2), .val (.int p3), .val (.int p4), .val (.int p5), .val (.int p6), .val (.int p7), .val (.int p8)] [(.int (0 : Int32))]))
            refine own_retN (t := .boolean) X0 hx Bd.returns (by simp) hlk (hb hby d5_52) ?_ (by decide) (by decide)
            rw [e0]
            exact ⟨congrArg (fun z => some (Value.int z)) (show nar .boolean (0 : Int32) = own_exp p0 p1 p2 p3 p4 p5 p6 p7 p8 by simp only [own_exp, if_neg hc2_1, if_neg hc7_16, if_pos hc14_17, if_neg hc31_18, if_neg hc36_19, own_nar1, own_nar0, own_t12, own_t29]), N0, rfl⟩
      · skip
        refine own_via (fun t k => XS.ifNo X0.here hx rfl (hb hby d5_14) rfl ((if0 _ _).trans (feq hc14_17).1) k) ?_
        show OwnEnds p.tables e below _ (s₁.setTop (mkF m 17 #[.val (.int p0), .val (.int p1), .val (.int p2), .val (.int p3), .val (.int p4), .val (.int p5), .val (.int p6), .val (.int p7), .val (.int p8)] []))
        refine own_via (fun t k => XS.iload X0.here hx rfl (hb hby d5_17) rfl k) ?_
        show OwnEnds p.tables e below _ (s₁.setTop (mkF m 19 #[.val (.int p0), .val (.int p1), .val (.int p2), .val (.int p3), .val (.int p4), .val (.int p5), .val (.int p6), .val (.int p7), .val (.int p8)] [(.int p7)]))
        by_cases hc19_22 : p7 = (0 : Int32)
        · skip
          refine own_via (fun t k => XS.ifNo X0.here hx rfl (hb hby d5_19) rfl ((if0 _ _).trans (teq hc19_22).2) k) ?_
          show OwnEnds p.tables e below _ (s₁.setTop (mkF m 22 #[.val (.int p0), .val (.int p1), .val (.int p2), .val (.int p3), .val (.int p4), .val (.int p5), .val (.int p6), .val (.int p7), .val (.int p8)] []))
          refine own_via (fun t k => XS.iloadN X0.here hx rfl (hb hby d5_22) rfl k) ?_
          show OwnEnds p.tables e below _ (s₁.setTop (mkF m 23 #[.val (.int p0), .val (.int p1), .val (.int p2), .val (.int p3), .val (.int p4), .val (.int p5), .val (.int p6), .val (.int p7), .val (.int p8)] [(.int p0)]))
          refine own_via (fun t k => XS.iloadN X0.here hx rfl (hb hby d5_23) rfl k) ?_
          show OwnEnds p.tables e below _ (s₁.setTop (mkF m 24 #[.val (.int p0), .val (.int p1), .val (.int p2), .val (.int p3), .val (.int p4), .val (.int p5), .val (.int p6), .val (.int p7), .val (.int p8)] [(.int p2), (.int p0)]))
          by_cases hc24_23 : p0 = p2
          · skip
            refine own_via (fun t k => XS.icmpNo X0.here hx rfl (hb hby d5_24) rfl (teq hc24_23).2 k) ?_
            show OwnEnds p.tables e below _ (s₁.setTop (mkF m 27 #[.val (.int p0), .val (.int p1), .val (.int p2), .val (.int p3), .val (.int p4), .val (.int p5), .val (.int p6), .val (.int p7), .val (.int p8)] []))
            refine own_via (fun t k => XS.iconst X0.here hx rfl (hb hby d5_27) k) ?_
            show OwnEnds p.tables e below _ (s₁.setTop (mkF m 28 #[.val (.int p0), .val (.int p1), .val (.int p2), .val (.int p3), .val (.int p4), .val (.int p5), .val (.int p6), .val (.int p7), .val (.int p8)] [(.int (1 : Int32))]))
            refine own_retN (t := .boolean) X0 hx Bd.returns (by simp) hlk (hb hby d5_28) ?_ (by decide) (by decide)
            rw [e0]
            exact ⟨congrArg (fun z => some (Value.int z)) (show nar .boolean (1 : Int32) = own_exp p0 p1 p2 p3 p4 p5 p6 p7 p8 by simp only [own_exp, if_neg hc2_1, if_neg hc7_16, if_neg hc14_17, if_pos hc19_22, if_pos hc24_23, own_nar1, own_nar0, own_t12, own_t29]), N0, rfl⟩
          · skip
            refine own_via (fun t k => XS.icmpYes X0.here hx rfl (pc0 := 24) (pc' := 29) rfl (hb hby d5_24) rfl (feq hc24_23).2 (by decide) (by decide) k) ?_
            show OwnEnds p.tables e below _ (s₁.setTop (mkF m 29 #[.val (.int p0), .val (.int p1), .val (.int p2), .val (.int p3), .val (.int p4), .val (.int p5), .val (.int p6), .val (.int p7), .val (.int p8)] []))
            refine own_via (fun t k => XS.iload X0.here hx rfl (hb hby d5_29) rfl k) ?_
            show OwnEnds p.tables e below _ (s₁.setTop (mkF m 31 #[.val (.int p0), .val (.int p1), .val (.int p2), .val (.int p3), .val (.int p4), .val (.int p5), .val (.int p6), .val (.int p7), .val (.int p8)] [(.int p4)]))
            by_cases hc31_24 : p4 = (0 : Int32)
            · skip
              refine own_via (fun t k => XS.ifYes X0.here hx rfl (pc0 := 31) (pc' := 51) rfl (hb hby d5_31) rfl ((if0 _ _).trans (teq hc31_24).1) (by decide) (by decide) k) ?_
              show OwnEnds p.tables e below _ (s₁.setTop (mkF m 51 #[.val (.int p0), .val (.int p1), .val (.int p2), .val (.int p3), .val (.int p4), .val (.int p5), .val (.int p6), .val (.int p7), .val (.int p8)] []))
              refine own_via (fun t k => XS.iconst X0.here hx rfl (hb hby d5_51) k) ?_
              show OwnEnds p.tables e below _ (s₁.setTop (mkF m 52 #[.val (.int p0), .val (.int p1), .val (.int p2), .val (.int p3), .val (.int p4), .val (.int p5), .val (.int p6), .val (.int p7), .val (.int p8)] [(.int (0 : Int32))]))
              refine own_retN (t := .boolean) X0 hx Bd.returns (by simp) hlk (hb hby d5_52) ?_ (by decide) (by decide)
              rw [e0]
              exact ⟨congrArg (fun z => some (Value.int z)) (show nar .boolean (0 : Int32) = own_exp p0 p1 p2 p3 p4 p5 p6 p7 p8 by simp only [own_exp, if_neg hc2_1, if_neg hc7_16, if_neg hc14_17, if_pos hc19_22, if_neg hc24_23, if_pos hc31_24, own_nar1, own_nar0, own_t12, own_t29]), N0, rfl⟩
            · skip
              refine own_via (fun t k => XS.ifNo X0.here hx rfl (hb hby d5_31) rfl ((if0 _ _).trans (feq hc31_24).1) k) ?_
              show OwnEnds p.tables e below _ (s₁.setTop (mkF m 34 #[.val (.int p0), .val (.int p1), .val (.int p2), .val (.int p3), .val (.int p4), .val (.int p5), .val (.int p6), .val (.int p7), .val (.int p8)] []))
              refine own_via (fun t k => XS.iload X0.here hx rfl (hb hby d5_34) rfl k) ?_
              show OwnEnds p.tables e below _ (s₁.setTop (mkF m 36 #[.val (.int p0), .val (.int p1), .val (.int p2), .val (.int p3), .val (.int p4), .val (.int p5), .val (.int p6), .val (.int p7), .val (.int p8)] [(.int p5)]))
              by_cases hc36_25 : p5 = (0 : Int32)
              · skip
                refine own_via (fun t k => XS.ifNo X0.here hx rfl (hb hby d5_36) rfl ((if0 _ _).trans (teq hc36_25).2) k) ?_
                show OwnEnds p.tables e below _ (s₁.setTop (mkF m 39 #[.val (.int p0), .val (.int p1), .val (.int p2), .val (.int p3), .val (.int p4), .val (.int p5), .val (.int p6), .val (.int p7), .val (.int p8)] []))
                refine own_via (fun t k => XS.iload X0.here hx rfl (hb hby d5_39) rfl k) ?_
                show OwnEnds p.tables e below _ (s₁.setTop (mkF m 41 #[.val (.int p0), .val (.int p1), .val (.int p2), .val (.int p3), .val (.int p4), .val (.int p5), .val (.int p6), .val (.int p7), .val (.int p8)] [(.int p7)]))
                have hc41_26 : p7 = (0 : Int32) := hc19_22
                refine own_via (fun t k => XS.ifNo X0.here hx rfl (hb hby d5_41) rfl ((if0 _ _).trans (teq hc41_26).2) k) ?_
                show OwnEnds p.tables e below _ (s₁.setTop (mkF m 44 #[.val (.int p0), .val (.int p1), .val (.int p2), .val (.int p3), .val (.int p4), .val (.int p5), .val (.int p6), .val (.int p7), .val (.int p8)] []))
                refine own_via (fun t k => XS.iloadN X0.here hx rfl (hb hby d5_44) rfl k) ?_
                show OwnEnds p.tables e below _ (s₁.setTop (mkF m 45 #[.val (.int p0), .val (.int p1), .val (.int p2), .val (.int p3), .val (.int p4), .val (.int p5), .val (.int p6), .val (.int p7), .val (.int p8)] [(.int p0)]))
                refine own_via (fun t k => XS.iloadN X0.here hx rfl (hb hby d5_45) rfl k) ?_
                show OwnEnds p.tables e below _ (s₁.setTop (mkF m 46 #[.val (.int p0), .val (.int p1), .val (.int p2), .val (.int p3), .val (.int p4), .val (.int p5), .val (.int p6), .val (.int p7), .val (.int p8)] [(.int p1), (.int p0)]))
                by_cases hc46_27 : p0 = p1
                · skip
                  refine own_via (fun t k => XS.icmpNo X0.here hx rfl (hb hby d5_46) rfl (teq hc46_27).2 k) ?_
                  show OwnEnds p.tables e below _ (s₁.setTop (mkF m 49 #[.val (.int p0), .val (.int p1), .val (.int p2), .val (.int p3), .val (.int p4), .val (.int p5), .val (.int p6), .val (.int p7), .val (.int p8)] []))
                  refine own_via (fun t k => XS.iconst X0.here hx rfl (hb hby d5_49) k) ?_
                  show OwnEnds p.tables e below _ (s₁.setTop (mkF m 50 #[.val (.int p0), .val (.int p1), .val (.int p2), .val (.int p3), .val (.int p4), .val (.int p5), .val (.int p6), .val (.int p7), .val (.int p8)] [(.int (1 : Int32))]))
                  refine own_retN (t := .boolean) X0 hx Bd.returns (by simp) hlk (hb hby d5_50) ?_ (by decide) (by decide)
                  rw [e0]
                  exact ⟨congrArg (fun z => some (Value.int z)) (show nar .boolean (1 : Int32) = own_exp p0 p1 p2 p3 p4 p5 p6 p7 p8 by simp only [own_exp, if_neg hc2_1, if_neg hc7_16, if_neg hc14_17, if_pos hc19_22, if_neg hc24_23, if_neg hc31_24, if_pos hc36_25, if_pos hc46_27, own_nar1, own_nar0, own_t12, own_t29]), N0, rfl⟩
                · skip
                  refine own_via (fun t k => XS.icmpYes X0.here hx rfl (pc0 := 46) (pc' := 51) rfl (hb hby d5_46) rfl (feq hc46_27).2 (by decide) (by decide) k) ?_
                  show OwnEnds p.tables e below _ (s₁.setTop (mkF m 51 #[.val (.int p0), .val (.int p1), .val (.int p2), .val (.int p3), .val (.int p4), .val (.int p5), .val (.int p6), .val (.int p7), .val (.int p8)] []))
                  refine own_via (fun t k => XS.iconst X0.here hx rfl (hb hby d5_51) k) ?_
                  show OwnEnds p.tables e below _ (s₁.setTop (mkF m 52 #[.val (.int p0), .val (.int p1), .val (.int p2), .val (.int p3), .val (.int p4), .val (.int p5), .val (.int p6), .val (.int p7), .val (.int p8)] [(.int (0 : Int32))]))
                  refine own_retN (t := .boolean) X0 hx Bd.returns (by simp) hlk (hb hby d5_52) ?_ (by decide) (by decide)
                  rw [e0]
                  exact ⟨congrArg (fun z => some (Value.int z)) (show nar .boolean (0 : Int32) = own_exp p0 p1 p2 p3 p4 p5 p6 p7 p8 by simp only [own_exp, if_neg hc2_1, if_neg hc7_16, if_neg hc14_17, if_pos hc19_22, if_neg hc24_23, if_neg hc31_24, if_pos hc36_25, if_neg hc46_27, own_nar1, own_nar0, own_t12, own_t29]), N0, rfl⟩
              · skip
                refine own_via (fun t k => XS.ifYes X0.here hx rfl (pc0 := 36) (pc' := 51) rfl (hb hby d5_36) rfl ((if0 _ _).trans (feq hc36_25).2) (by decide) (by decide) k) ?_
                show OwnEnds p.tables e below _ (s₁.setTop (mkF m 51 #[.val (.int p0), .val (.int p1), .val (.int p2), .val (.int p3), .val (.int p4), .val (.int p5), .val (.int p6), .val (.int p7), .val (.int p8)] []))
                refine own_via (fun t k => XS.iconst X0.here hx rfl (hb hby d5_51) k) ?_
                show OwnEnds p.tables e below _ (s₁.setTop (mkF m 52 #[.val (.int p0), .val (.int p1), .val (.int p2), .val (.int p3), .val (.int p4), .val (.int p5), .val (.int p6), .val (.int p7), .val (.int p8)] [(.int (0 : Int32))]))
                refine own_retN (t := .boolean) X0 hx Bd.returns (by simp) hlk (hb hby d5_52) ?_ (by decide) (by decide)
                rw [e0]
                exact ⟨congrArg (fun z => some (Value.int z)) (show nar .boolean (0 : Int32) = own_exp p0 p1 p2 p3 p4 p5 p6 p7 p8 by simp only [own_exp, if_neg hc2_1, if_neg hc7_16, if_neg hc14_17, if_pos hc19_22, if_neg hc24_23, if_neg hc31_24, if_neg hc36_25, own_nar1, own_nar0, own_t12, own_t29]), N0, rfl⟩
        · skip
          refine own_via (fun t k => XS.ifYes X0.here hx rfl (pc0 := 19) (pc' := 29) rfl (hb hby d5_19) rfl ((if0 _ _).trans (feq hc19_22).2) (by decide) (by decide) k) ?_
          show OwnEnds p.tables e below _ (s₁.setTop (mkF m 29 #[.val (.int p0), .val (.int p1), .val (.int p2), .val (.int p3), .val (.int p4), .val (.int p5), .val (.int p6), .val (.int p7), .val (.int p8)] []))
          refine own_via (fun t k => XS.iload X0.here hx rfl (hb hby d5_29) rfl k) ?_
          show OwnEnds p.tables e below _ (s₁.setTop (mkF m 31 #[.val (.int p0), .val (.int p1), .val (.int p2), .val (.int p3), .val (.int p4), .val (.int p5), .val (.int p6), .val (.int p7), .val (.int p8)] [(.int p4)]))
          by_cases hc31_28 : p4 = (0 : Int32)
          · skip
            refine own_via (fun t k => XS.ifYes X0.here hx rfl (pc0 := 31) (pc' := 51) rfl (hb hby d5_31) rfl ((if0 _ _).trans (teq hc31_28).1) (by decide) (by decide) k) ?_
            show OwnEnds p.tables e below _ (s₁.setTop (mkF m 51 #[.val (.int p0), .val (.int p1), .val (.int p2), .val (.int p3), .val (.int p4), .val (.int p5), .val (.int p6), .val (.int p7), .val (.int p8)] []))
            refine own_via (fun t k => XS.iconst X0.here hx rfl (hb hby d5_51) k) ?_
            show OwnEnds p.tables e below _ (s₁.setTop (mkF m 52 #[.val (.int p0), .val (.int p1), .val (.int p2), .val (.int p3), .val (.int p4), .val (.int p5), .val (.int p6), .val (.int p7), .val (.int p8)] [(.int (0 : Int32))]))
            refine own_retN (t := .boolean) X0 hx Bd.returns (by simp) hlk (hb hby d5_52) ?_ (by decide) (by decide)
            rw [e0]
            exact ⟨congrArg (fun z => some (Value.int z)) (show nar .boolean (0 : Int32) = own_exp p0 p1 p2 p3 p4 p5 p6 p7 p8 by simp only [own_exp, if_neg hc2_1, if_neg hc7_16, if_neg hc14_17, if_neg hc19_22, if_pos hc31_28, own_nar1, own_nar0, own_t12, own_t29]), N0, rfl⟩
          · skip
            refine own_via (fun t k => XS.ifNo X0.here hx rfl (hb hby d5_31) rfl ((if0 _ _).trans (feq hc31_28).1) k) ?_
            show OwnEnds p.tables e below _ (s₁.setTop (mkF m 34 #[.val (.int p0), .val (.int p1), .val (.int p2), .val (.int p3), .val (.int p4), .val (.int p5), .val (.int p6), .val (.int p7), .val (.int p8)] []))
            refine own_via (fun t k => XS.iload X0.here hx rfl (hb hby d5_34) rfl k) ?_
            show OwnEnds p.tables e below _ (s₁.setTop (mkF m 36 #[.val (.int p0), .val (.int p1), .val (.int p2), .val (.int p3), .val (.int p4), .val (.int p5), .val (.int p6), .val (.int p7), .val (.int p8)] [(.int p5)]))
            by_cases hc36_29 : p5 = (0 : Int32)
            · skip
              refine own_via (fun t k => XS.ifNo X0.here hx rfl (hb hby d5_36) rfl ((if0 _ _).trans (teq hc36_29).2) k) ?_
              show OwnEnds p.tables e below _ (s₁.setTop (mkF m 39 #[.val (.int p0), .val (.int p1), .val (.int p2), .val (.int p3), .val (.int p4), .val (.int p5), .val (.int p6), .val (.int p7), .val (.int p8)] []))
              refine own_via (fun t k => XS.iload X0.here hx rfl (hb hby d5_39) rfl k) ?_
              show OwnEnds p.tables e below _ (s₁.setTop (mkF m 41 #[.val (.int p0), .val (.int p1), .val (.int p2), .val (.int p3), .val (.int p4), .val (.int p5), .val (.int p6), .val (.int p7), .val (.int p8)] [(.int p7)]))
              have hc41_30 : ¬ (p7 = (0 : Int32)) := hc19_22
              refine own_via (fun t k => XS.ifYes X0.here hx rfl (pc0 := 41) (pc' := 51) rfl (hb hby d5_41) rfl ((if0 _ _).trans (feq hc41_30).2) (by decide) (by decide) k) ?_
              show OwnEnds p.tables e below _ (s₁.setTop (mkF m 51 #[.val (.int p0), .val (.int p1), .val (.int p2), .val (.int p3), .val (.int p4), .val (.int p5), .val (.int p6), .val (.int p7), .val (.int p8)] []))
              refine own_via (fun t k => XS.iconst X0.here hx rfl (hb hby d5_51) k) ?_
              show OwnEnds p.tables e below _ (s₁.setTop (mkF m 52 #[.val (.int p0), .val (.int p1), .val (.int p2), .val (.int p3), .val (.int p4), .val (.int p5), .val (.int p6), .val (.int p7), .val (.int p8)] [(.int (0 : Int32))]))
              refine own_retN (t := .boolean) X0 hx Bd.returns (by simp) hlk (hb hby d5_52) ?_ (by decide) (by decide)
              rw [e0]
              exact ⟨congrArg (fun z => some (Value.int z)) (show nar .boolean (0 : Int32) = own_exp p0 p1 p2 p3 p4 p5 p6 p7 p8 by simp only [own_exp, if_neg hc2_1, if_neg hc7_16, if_neg hc14_17, if_neg hc19_22, if_neg hc31_28, if_pos hc36_29, own_nar1, own_nar0, own_t12, own_t29]), N0, rfl⟩
            · skip
              refine own_via (fun t k => XS.ifYes X0.here hx rfl (pc0 := 36) (pc' := 51) rfl (hb hby d5_36) rfl ((if0 _ _).trans (feq hc36_29).2) (by decide) (by decide) k) ?_
              show OwnEnds p.tables e below _ (s₁.setTop (mkF m 51 #[.val (.int p0), .val (.int p1), .val (.int p2), .val (.int p3), .val (.int p4), .val (.int p5), .val (.int p6), .val (.int p7), .val (.int p8)] []))
              refine own_via (fun t k => XS.iconst X0.here hx rfl (hb hby d5_51) k) ?_
              show OwnEnds p.tables e below _ (s₁.setTop (mkF m 52 #[.val (.int p0), .val (.int p1), .val (.int p2), .val (.int p3), .val (.int p4), .val (.int p5), .val (.int p6), .val (.int p7), .val (.int p8)] [(.int (0 : Int32))]))
              refine own_retN (t := .boolean) X0 hx Bd.returns (by simp) hlk (hb hby d5_52) ?_ (by decide) (by decide)
              rw [e0]
              exact ⟨congrArg (fun z => some (Value.int z)) (show nar .boolean (0 : Int32) = own_exp p0 p1 p2 p3 p4 p5 p6 p7 p8 by simp only [own_exp, if_neg hc2_1, if_neg hc7_16, if_neg hc14_17, if_neg hc19_22, if_neg hc31_28, if_neg hc36_29, own_nar1, own_nar0, own_t12, own_t29]), N0, rfl⟩
theorem d6_0 : decode prog_59_method_2_code 0 = .ok (.aload_n 0, 1) := by decide +kernel
theorem d6_1 : decode prog_59_method_2_code 1 = .ok (.getfield 7, 3) := by decide +kernel
theorem d6_4 : decode prog_59_method_2_code 4 = .ok (.ldc 19, 2) := by decide +kernel
theorem d6_6 : decode prog_59_method_2_code 6 = .ok (.if_icmp .ne 16, 3) := by decide +kernel
theorem d6_9 : decode prog_59_method_2_code 9 = .ok (.aload_n 0, 1) := by decide +kernel
theorem d6_10 : decode prog_59_method_2_code 10 = .ok (.getfield 13, 3) := by decide +kernel
theorem d6_13 : decode prog_59_method_2_code 13 = .ok (.iconst 0, 1) := by decide +kernel
theorem d6_14 : decode prog_59_method_2_code 14 = .ok (.invokestatic 20, 3) := by decide +kernel
theorem d6_17 : decode prog_59_method_2_code 17 = .ok (.aload_n 0, 1) := by decide +kernel
theorem d6_18 : decode prog_59_method_2_code 18 = .ok (.iconst 0, 1) := by decide +kernel
theorem d6_19 : decode prog_59_method_2_code 19 = .ok (.putfield 7, 3) := by decide +kernel
theorem d6_22 : decode prog_59_method_2_code 22 = .ok (.aload_n 0, 1) := by decide +kernel
theorem d6_23 : decode prog_59_method_2_code 23 = .ok (.dup, 1) := by decide +kernel
theorem d6_24 : decode prog_59_method_2_code 24 = .ok (.getfield 7, 3) := by decide +kernel
theorem d6_27 : decode prog_59_method_2_code 27 = .ok (.iconst 1, 1) := by decide +kernel
theorem d6_28 : decode prog_59_method_2_code 28 = .ok (.iadd, 1) := by decide +kernel
theorem d6_29 : decode prog_59_method_2_code 29 = .ok (.putfield 7, 3) := by decide +kernel
theorem d6_32 : decode prog_59_method_2_code 32 = .ok (.return_, 1) := by decide +kernel
theorem ef_6 (m : MethodId) (a0 : Addr) : entryFrame m #[(.ref a0)] 1 = mkF m 0 #[.val (.ref a0)] [] := by first | (simp [entryFrame, mkF, argsToLocals, Value.category]; done) | rfl
def Q6 (Z : State) (a0 : Addr) (b : Addr) (r : Int32) (h0 : Heap) (n0 : Nat) (v : Option Value) (h : Heap) (L : List Loc) : Prop := v = none ∧ Fr n0 L ∧ Keep h0 h [a0] ∧ Exa Z h a0 "com/example/libhorn/libhorn/measures/FoundMarks" ∧ Fld Z h a0 "com/example/libhorn/libhorn/measures/FoundMarks" "round" "I" (.int (r + 1)) ∧ Fld Z h a0 "com/example/libhorn/libhorn/measures/FoundMarks" "rounds" "[I" (.ref b)
set_option maxRecDepth 65536 in
set_option maxHeartbeats 40000000 in
theorem rm6 (l : Launch) (Z : State) (aw : Array Value) (hw : ∀ d ∈ tables_1, d.before aw Z = true) (ws : List Jvm.Cond) (a0 : Addr) (b : Addr) (r : Int32) (h0 : Heap) (n0 : Nat) (Z0 : n0 ≤ h0.size) (E_a0 : Exa Z h0 a0 "com/example/libhorn/libhorn/measures/FoundMarks") (F_round_a0 : Fld Z h0 a0 "com/example/libhorn/libhorn/measures/FoundMarks" "round" "I" (.int r)) (F_rounds_a0 : Fld Z h0 a0 "com/example/libhorn/libhorn/measures/FoundMarks" "rounds" "[I" (.ref b)) (g_a0 : n0 ≤ a0) (hm : r ≠ 2147483647) :
    MetFree l (⟨"com/example/libhorn/libhorn/measures/FoundMarks", "clear", "()V"⟩ : MethodName) (head1 (Jvm.Cond.code (⟨"com/example/libhorn/libhorn/measures/FoundMarks", "clear", "()V"⟩ : MethodName) prog_59_method_2_code 1 none :: ws) ({ frames := 0, cells := 0, slots := 0, locals := 0 } : Room)) (fun a U => a = #[(.ref a0)] ∧ Z.Warmed39 U.vm ∧ U.heap = h0) (fun _ _ _ _ _ => True) (fun _ U o U' => ∃ v L, o = .returned v ∧ Q6 Z a0 b r h0 n0 v U'.heap L ∧ FrameEnd U o U' L ({ frames := 0, cells := 0, slots := 0, locals := 0 } : Room).cells ({ frames := 0, cells := 0, slots := 0, locals := 0 } : Room).slots) := by
  refine MetFree.of_bodySF (plainFor_of_name pn_0) hisR ?_
  intro p e s m args below meth c s₁ Bd hml0 hP hK
  obtain ⟨rfl, hZ, hh⟩ := hP
  have hx := Bd.exec
  have hby := Bd.bytes
  have hml : c.maxLocals = 1 := hml0
  have hown : s.vm.findClass "com/example/libhorn/libhorn/measures/FoundMarks" = some m.cls := findClass_of_methodNamed Bd.named
  have hnm := (name_of_methodNamed Bd.named Bd.method).1
  have hlk : meth.locks = false := Bd.notSynchronized
  have X0 : Stand p l e ({ frames := 0, cells := 0, slots := 0, locals := 0 } : Room) s m #[(.ref a0)] below meth c s₁ [] 0 0 := Stand.of_body Bd
  have e0 : s₁.heap = h0 := by rw [← hh, Bd.state]; rfl
  have N0 := Fr.nil n0
  show OwnEnds p.tables e below (OwnQ s ({ frames := 0, cells := 0, slots := 0, locals := 0 } : Room).cells ({ frames := 0, cells := 0, slots := 0, locals := 0 } : Room).slots (Q6 Z a0 b r h0 n0)) (s₁.setTop (entryFrame m #[(.ref a0)] 1))
  refine own_via (fun t k => castTop (ef_6 m a0) k) ?_
  show OwnEnds p.tables e below _ (s₁.setTop (mkF m 0 #[.val (.ref a0)] []))
  have K0 : Keep h0 h0 [a0] := Keep.refl _ _
  refine own_via (fun t k => XS.aloadN X0.here hx rfl (hb hby d6_0) rfl rfl k) ?_
  show OwnEnds p.tables e below _ (s₁.setTop (mkF m 1 #[.val (.ref a0)] [(.ref a0)]))
  obtain ⟨T1, X1, e1, st1⟩ := getF X0 hx hZ hown (host := "") (Or.inl (hw _ (List.mem_of_getElem? (i := 9) rfl))) Via.refl e0 F_round_a0 (g := (mkF m 1 #[.val (.ref a0)] [(.ref a0)])) rfl rfl (hb hby d6_1)
  refine own_via st1 ?_
  show OwnEnds p.tables e below _ (T1.setTop (mkF m 4 #[.val (.ref a0)] [(.int r)]))
  refine own_via (X1.ldcInt hx hown (mvT hZ (hw _ (List.mem_of_getElem? (i := 33) rfl))) (g := (mkF m 4 #[.val (.ref a0)] [(.int r)])) rfl (hb hby d6_4)) ?_
  show OwnEnds p.tables e below _ (T1.setTop (mkF m 6 #[.val (.ref a0)] [(.int (2147483647 : Int32)), (.int r)]))
  have hc6_2 : ¬ (r = (2147483647 : Int32)) := hm
  refine own_via (fun t k => XS.icmpYes X1.here hx rfl (pc0 := 6) (pc' := 22) rfl (hb hby d6_6) rfl (feq hc6_2).2 (by decide) (by decide) k) ?_
  show OwnEnds p.tables e below _ (T1.setTop (mkF m 22 #[.val (.ref a0)] []))
  refine own_via (fun t k => XS.aloadN X1.here hx rfl (hb hby d6_22) rfl rfl k) ?_
  show OwnEnds p.tables e below _ (T1.setTop (mkF m 23 #[.val (.ref a0)] [(.ref a0)]))
  refine own_via (fun t k => XS.dup X1.here hx rfl (hb hby d6_23) rfl rfl k) ?_
  show OwnEnds p.tables e below _ (T1.setTop (mkF m 24 #[.val (.ref a0)] [(.ref a0), (.ref a0)]))
  obtain ⟨T3, X3, e3, st3⟩ := getF X1 hx hZ hown (host := "") (Or.inl (hw _ (List.mem_of_getElem? (i := 9) rfl))) Via.refl e1 F_round_a0 (g := (mkF m 24 #[.val (.ref a0)] [(.ref a0), (.ref a0)])) rfl rfl (hb hby d6_24)
  refine own_via st3 ?_
  show OwnEnds p.tables e below _ (T3.setTop (mkF m 27 #[.val (.ref a0)] [(.int r), (.ref a0)]))
  refine own_via (fun t k => XS.iconst X3.here hx rfl (hb hby d6_27) k) ?_
  show OwnEnds p.tables e below _ (T3.setTop (mkF m 28 #[.val (.ref a0)] [(.int (1 : Int32)), (.int r), (.ref a0)]))
  refine own_via (fun t k => XS.iadd X3.here hx rfl (hb hby d6_28) rfl k) ?_
  show OwnEnds p.tables e below _ (T3.setTop (mkF m 29 #[.val (.ref a0)] [(.int (r + (1 : Int32))), (.ref a0)]))
  obtain ⟨T4, h4, X4, e4, W4, st4⟩ := putF X3 hx hZ hown (host := "") (Or.inl (hw _ (List.mem_of_getElem? (i := 9) rfl))) Via.refl e3 F_round_a0 E_a0 (Or.inl (hw _ (List.mem_of_getElem? (i := 10) rfl))) (hw _ (List.mem_of_getElem? (i := 1) rfl)) (ty := .int) (by decide) rfl rfl (g := (mkF m 29 #[.val (.ref a0)] [(.int (r + (1 : Int32))), (.ref a0)])) rfl rfl (hb hby d6_29)
  replace E_a0 := E_a0.wr W4
  replace F_round_a0 := F_round_a0.same W4
  replace F_rounds_a0 := F_rounds_a0.other W4 (Or.inr (slot_ne (Or.inr (hw _ (List.mem_of_getElem? (i := 13) rfl))) (Or.inl (hw _ (List.mem_of_getElem? (i := 10) rfl))) (by decide) (t := (.array .int)) (t' := .int) (by decide) (by decide)))
  replace K0 := K0.wr W4 (Or.inl (List.mem_of_getElem? (i := 0) rfl))
  have Zs_W4 : n0 ≤ _ := Nat.le_trans Z0 (Keep.of_wr W4).1
  have N4 := Fr.snoc X4 N0 g_a0
  refine own_via st4 ?_
  show OwnEnds p.tables e below _ (T4.setTop (mkF m 32 #[.val (.ref a0)] []))
  refine own_retV X4 hx Bd.returns hlk (hb hby d6_32) ?_ (by decide) (by decide)
  rw [e4]
  exact ⟨rfl, N4, K0, E_a0, F_round_a0, F_rounds_a0⟩
theorem ef_0 (m : MethodId) (p0 : Int32) (p1 : Int32) (p2 : Int32) (p3 : Int32) : entryFrame m #[(.int p0), (.int p1), (.int p2), (.int p3)] maxLocals = mkF m 0 #[.val (.int p0), .val (.int p1), .val (.int p2), .val (.int p3), .unset, .unset, .unset, .unset, .unset, .unset, .unset, .unset, .unset, .unset, .unset, .unset, .unset] [] := by first | (simp [entryFrame, mkF, argsToLocals, Value.category, maxLocals]; done) | rfl
def Q0 (Z : State) (p0 : Int32) (p1 : Int32) (p2 : Int32) (p3 : Int32) (h0 : Heap) (n0 : Nat) (v : Option Value) (h : Heap) (L : List Loc) : Prop := v = some (.int 1) ∧ Fr n0 L
theorem pd_0 : parseMethodDescriptor "(I)V" = some ⟨[.int], none⟩ := by decide +kernel
theorem pd_1 : parseMethodDescriptor "()V" = some ⟨[], none⟩ := by decide +kernel
theorem pd_2 : parseMethodDescriptor "(I)Z" = some ⟨[.int], some .boolean⟩ := by decide +kernel
theorem pd_3 : parseMethodDescriptor "(IIIIZZZZZ)Z" = some ⟨[.int, .int, .int, .int, .boolean, .boolean, .boolean, .boolean, .boolean], some .boolean⟩ := by decide +kernel
set_option maxRecDepth 65536 in
set_option maxHeartbeats 40000000 in
theorem rm0 (l : Launch) (Z : State) (aw : Array Value) (hw : ∀ d ∈ tables_1, d.before aw Z = true) (ws : List Jvm.Cond) (p0 : Int32) (p1 : Int32) (p2 : Int32) (p3 : Int32) (h0 : Heap) (n0 : Nat) (Z0 : n0 ≤ h0.size) :
    MetFree l x (head1 (Jvm.Cond.code x code maxLocals ret :: ws) room_1) (fun a U => a = #[(.int p0), (.int p1), (.int p2), (.int p3)] ∧ Z.Warmed39 U.vm ∧ U.heap = h0) (fun _ _ _ _ _ => True) (fun _ U o U' => ∃ v L, o = .returned v ∧ Q0 Z p0 p1 p2 p3 h0 n0 v U'.heap L ∧ FrameEnd U o U' L 16 128) := by
  refine MetFree.of_bodySF (plainFor_of_name pn_1) hisR ?_
  intro p e s m args below meth c s₁ Bd hml0 hP hK
  obtain ⟨rfl, hZ, hh⟩ := hP
  have hx := Bd.exec
  have hby := Bd.bytes
  have hml : c.maxLocals = 17 := hml0
  have hown : s.vm.findClass "com/example/libhorn/libhorn/measures/FoundMarksIsMarkedPinLaw" = some m.cls := findClass_of_methodNamed Bd.named
  have hnm := (name_of_methodNamed Bd.named Bd.method).1
  have hlk : meth.locks = false := Bd.notSynchronized
  have X0 : Stand p l e room_1 s m #[(.int p0), (.int p1), (.int p2), (.int p3)] below meth c s₁ [] 0 0 := Stand.of_body Bd
  have e0 : s₁.heap = h0 := by rw [← hh, Bd.state]; rfl
  have N0 := Fr.nil n0
  show OwnEnds p.tables e below (OwnQ s 16 128 (Q0 Z p0 p1 p2 p3 h0 n0)) (s₁.setTop (entryFrame m #[(.int p0), (.int p1), (.int p2), (.int p3)] maxLocals))
  refine own_via (fun t k => castTop (ef_0 m p0 p1 p2 p3) k) ?_
  show OwnEnds p.tables e below _ (s₁.setTop (mkF m 0 #[.val (.int p0), .val (.int p1), .val (.int p2), .val (.int p3), .unset, .unset, .unset, .unset, .unset, .unset, .unset, .unset, .unset, .unset, .unset, .unset, .unset] []))
  refine own_via (fun t k => XS.iloadN X0.here hx rfl (hb hby at_0) rfl k) ?_
  show OwnEnds p.tables e below _ (s₁.setTop (mkF m 1 #[.val (.int p0), .val (.int p1), .val (.int p2), .val (.int p3), .unset, .unset, .unset, .unset, .unset, .unset, .unset, .unset, .unset, .unset, .unset, .unset, .unset] [(.int p0)]))
  refine own_via (fun t k => XS.iconst X0.here hx rfl (hb hby at_1) k) ?_
  show OwnEnds p.tables e below _ (s₁.setTop (mkF m 2 #[.val (.int p0), .val (.int p1), .val (.int p2), .val (.int p3), .unset, .unset, .unset, .unset, .unset, .unset, .unset, .unset, .unset, .unset, .unset, .unset, .unset] [(.int (3 : Int32)), (.int p0)]))
  refine own_via (fun t k => XS.iand X0.here hx rfl (hb hby at_2) rfl k) ?_
  show OwnEnds p.tables e below _ (s₁.setTop (mkF m 3 #[.val (.int p0), .val (.int p1), .val (.int p2), .val (.int p3), .unset, .unset, .unset, .unset, .unset, .unset, .unset, .unset, .unset, .unset, .unset, .unset, .unset] [(.int (p0 &&& (3 : Int32)))]))
  obtain ⟨ea, h_ea⟩ : ∃ z, z = (p0 &&& (3 : Int32)) := ⟨_, rfl⟩
  rw [← h_ea]
  refine own_via (fun t k => XS.istore X0.here hx rfl (hb hby at_3) rfl (l' := #[.val (.int p0), .val (.int p1), .val (.int p2), .val (.int p3), .val (.int ea), .unset, .unset, .unset, .unset, .unset, .unset, .unset, .unset, .unset, .unset, .unset, .unset]) rfl k) ?_
  show OwnEnds p.tables e below _ (s₁.setTop (mkF m 5 #[.val (.int p0), .val (.int p1), .val (.int p2), .val (.int p3), .val (.int ea), .unset, .unset, .unset, .unset, .unset, .unset, .unset, .unset, .unset, .unset, .unset, .unset] []))
  refine own_via (fun t k => XS.iloadN X0.here hx rfl (hb hby at_5) rfl k) ?_
  show OwnEnds p.tables e below _ (s₁.setTop (mkF m 6 #[.val (.int p0), .val (.int p1), .val (.int p2), .val (.int p3), .val (.int ea), .unset, .unset, .unset, .unset, .unset, .unset, .unset, .unset, .unset, .unset, .unset, .unset] [(.int p1)]))
  refine own_via (fun t k => XS.iconst X0.here hx rfl (hb hby at_6) k) ?_
  show OwnEnds p.tables e below _ (s₁.setTop (mkF m 7 #[.val (.int p0), .val (.int p1), .val (.int p2), .val (.int p3), .val (.int ea), .unset, .unset, .unset, .unset, .unset, .unset, .unset, .unset, .unset, .unset, .unset, .unset] [(.int (3 : Int32)), (.int p1)]))
  refine own_via (fun t k => XS.iand X0.here hx rfl (hb hby at_7) rfl k) ?_
  show OwnEnds p.tables e below _ (s₁.setTop (mkF m 8 #[.val (.int p0), .val (.int p1), .val (.int p2), .val (.int p3), .val (.int ea), .unset, .unset, .unset, .unset, .unset, .unset, .unset, .unset, .unset, .unset, .unset, .unset] [(.int (p1 &&& (3 : Int32)))]))
  obtain ⟨eb, h_eb⟩ : ∃ z, z = (p1 &&& (3 : Int32)) := ⟨_, rfl⟩
  rw [← h_eb]
  refine own_via (fun t k => XS.istore X0.here hx rfl (hb hby at_8) rfl (l' := #[.val (.int p0), .val (.int p1), .val (.int p2), .val (.int p3), .val (.int ea), .val (.int eb), .unset, .unset, .unset, .unset, .unset, .unset, .unset, .unset, .unset, .unset, .unset]) rfl k) ?_
  show OwnEnds p.tables e below _ (s₁.setTop (mkF m 10 #[.val (.int p0), .val (.int p1), .val (.int p2), .val (.int p3), .val (.int ea), .val (.int eb), .unset, .unset, .unset, .unset, .unset, .unset, .unset, .unset, .unset, .unset, .unset] []))
  refine own_via (fun t k => XS.iloadN X0.here hx rfl (hb hby at_10) rfl k) ?_
  show OwnEnds p.tables e below _ (s₁.setTop (mkF m 11 #[.val (.int p0), .val (.int p1), .val (.int p2), .val (.int p3), .val (.int ea), .val (.int eb), .unset, .unset, .unset, .unset, .unset, .unset, .unset, .unset, .unset, .unset, .unset] [(.int p2)]))
  refine own_via (fun t k => XS.iconst X0.here hx rfl (hb hby at_11) k) ?_
  show OwnEnds p.tables e below _ (s₁.setTop (mkF m 12 #[.val (.int p0), .val (.int p1), .val (.int p2), .val (.int p3), .val (.int ea), .val (.int eb), .unset, .unset, .unset, .unset, .unset, .unset, .unset, .unset, .unset, .unset, .unset] [(.int (3 : Int32)), (.int p2)]))
  refine own_via (fun t k => XS.iand X0.here hx rfl (hb hby at_12) rfl k) ?_
  show OwnEnds p.tables e below _ (s₁.setTop (mkF m 13 #[.val (.int p0), .val (.int p1), .val (.int p2), .val (.int p3), .val (.int ea), .val (.int eb), .unset, .unset, .unset, .unset, .unset, .unset, .unset, .unset, .unset, .unset, .unset] [(.int (p2 &&& (3 : Int32)))]))
  obtain ⟨ec, h_ec⟩ : ∃ z, z = (p2 &&& (3 : Int32)) := ⟨_, rfl⟩
  rw [← h_ec]
  refine own_via (fun t k => XS.istore X0.here hx rfl (hb hby at_13) rfl (l' := #[.val (.int p0), .val (.int p1), .val (.int p2), .val (.int p3), .val (.int ea), .val (.int eb), .val (.int ec), .unset, .unset, .unset, .unset, .unset, .unset, .unset, .unset, .unset, .unset]) rfl k) ?_
  show OwnEnds p.tables e below _ (s₁.setTop (mkF m 15 #[.val (.int p0), .val (.int p1), .val (.int p2), .val (.int p3), .val (.int ea), .val (.int eb), .val (.int ec), .unset, .unset, .unset, .unset, .unset, .unset, .unset, .unset, .unset, .unset] []))
  refine own_via (fun t k => XS.iloadN X0.here hx rfl (hb hby at_15) rfl k) ?_
  show OwnEnds p.tables e below _ (s₁.setTop (mkF m 16 #[.val (.int p0), .val (.int p1), .val (.int p2), .val (.int p3), .val (.int ea), .val (.int eb), .val (.int ec), .unset, .unset, .unset, .unset, .unset, .unset, .unset, .unset, .unset, .unset] [(.int p3)]))
  refine own_via (fun t k => XS.iconst X0.here hx rfl (hb hby at_16) k) ?_
  show OwnEnds p.tables e below _ (s₁.setTop (mkF m 17 #[.val (.int p0), .val (.int p1), .val (.int p2), .val (.int p3), .val (.int ea), .val (.int eb), .val (.int ec), .unset, .unset, .unset, .unset, .unset, .unset, .unset, .unset, .unset, .unset] [(.int (1 : Int32)), (.int p3)]))
  refine own_via (fun t k => XS.iand X0.here hx rfl (hb hby at_17) rfl k) ?_
  show OwnEnds p.tables e below _ (s₁.setTop (mkF m 18 #[.val (.int p0), .val (.int p1), .val (.int p2), .val (.int p3), .val (.int ea), .val (.int eb), .val (.int ec), .unset, .unset, .unset, .unset, .unset, .unset, .unset, .unset, .unset, .unset] [(.int (p3 &&& (1 : Int32)))]))
  have J26_1 : ∀ mA : Int32, mA = (if (p3 &&& (1 : Int32)) = (0 : Int32) then (0 : Int32) else (1 : Int32)) → OwnEnds p.tables e below (OwnQ s 16 128 (Q0 Z p0 p1 p2 p3 h0 n0)) (s₁.setTop (mkF m 26 #[.val (.int p0), .val (.int p1), .val (.int p2), .val (.int p3), .val (.int ea), .val (.int eb), .val (.int ec), .unset, .unset, .unset, .unset, .unset, .unset, .unset, .unset, .unset, .unset] [(.int mA)])) := by
    intro mA h_mA
    refine own_via (fun t k => XS.istore X0.here hx rfl (hb hby at_26) rfl (l' := #[.val (.int p0), .val (.int p1), .val (.int p2), .val (.int p3), .val (.int ea), .val (.int eb), .val (.int ec), .val (.int mA), .unset, .unset, .unset, .unset, .unset, .unset, .unset, .unset, .unset]) rfl k) ?_
    show OwnEnds p.tables e below _ (s₁.setTop (mkF m 28 #[.val (.int p0), .val (.int p1), .val (.int p2), .val (.int p3), .val (.int ea), .val (.int eb), .val (.int ec), .val (.int mA), .unset, .unset, .unset, .unset, .unset, .unset, .unset, .unset, .unset] []))
    refine own_via (fun t k => XS.iloadN X0.here hx rfl (hb hby at_28) rfl k) ?_
    show OwnEnds p.tables e below _ (s₁.setTop (mkF m 29 #[.val (.int p0), .val (.int p1), .val (.int p2), .val (.int p3), .val (.int ea), .val (.int eb), .val (.int ec), .val (.int mA), .unset, .unset, .unset, .unset, .unset, .unset, .unset, .unset, .unset] [(.int p3)]))
    refine own_via (fun t k => XS.iconst X0.here hx rfl (hb hby at_29) k) ?_
    show OwnEnds p.tables e below _ (s₁.setTop (mkF m 30 #[.val (.int p0), .val (.int p1), .val (.int p2), .val (.int p3), .val (.int ea), .val (.int eb), .val (.int ec), .val (.int mA), .unset, .unset, .unset, .unset, .unset, .unset, .unset, .unset, .unset] [(.int (2 : Int32)), (.int p3)]))
    refine own_via (fun t k => XS.iand X0.here hx rfl (hb hby at_30) rfl k) ?_
    show OwnEnds p.tables e below _ (s₁.setTop (mkF m 31 #[.val (.int p0), .val (.int p1), .val (.int p2), .val (.int p3), .val (.int ea), .val (.int eb), .val (.int ec), .val (.int mA), .unset, .unset, .unset, .unset, .unset, .unset, .unset, .unset, .unset] [(.int (p3 &&& (2 : Int32)))]))
    have J39_2 : ∀ c1 : Int32, c1 = (if (p3 &&& (2 : Int32)) = (0 : Int32) then (0 : Int32) else (1 : Int32)) → OwnEnds p.tables e below (OwnQ s 16 128 (Q0 Z p0 p1 p2 p3 h0 n0)) (s₁.setTop (mkF m 39 #[.val (.int p0), .val (.int p1), .val (.int p2), .val (.int p3), .val (.int ea), .val (.int eb), .val (.int ec), .val (.int mA), .unset, .unset, .unset, .unset, .unset, .unset, .unset, .unset, .unset] [(.int c1)])) := by
      intro c1 h_c1
      refine own_via (fun t k => XS.istore X0.here hx rfl (hb hby at_39) rfl (l' := #[.val (.int p0), .val (.int p1), .val (.int p2), .val (.int p3), .val (.int ea), .val (.int eb), .val (.int ec), .val (.int mA), .val (.int c1), .unset, .unset, .unset, .unset, .unset, .unset, .unset, .unset]) rfl k) ?_
      show OwnEnds p.tables e below _ (s₁.setTop (mkF m 41 #[.val (.int p0), .val (.int p1), .val (.int p2), .val (.int p3), .val (.int ea), .val (.int eb), .val (.int ec), .val (.int mA), .val (.int c1), .unset, .unset, .unset, .unset, .unset, .unset, .unset, .unset] []))
      refine own_via (fun t k => XS.iloadN X0.here hx rfl (hb hby at_41) rfl k) ?_
      show OwnEnds p.tables e below _ (s₁.setTop (mkF m 42 #[.val (.int p0), .val (.int p1), .val (.int p2), .val (.int p3), .val (.int ea), .val (.int eb), .val (.int ec), .val (.int mA), .val (.int c1), .unset, .unset, .unset, .unset, .unset, .unset, .unset, .unset] [(.int p3)]))
      refine own_via (fun t k => XS.iconst X0.here hx rfl (hb hby at_42) k) ?_
      show OwnEnds p.tables e below _ (s₁.setTop (mkF m 43 #[.val (.int p0), .val (.int p1), .val (.int p2), .val (.int p3), .val (.int ea), .val (.int eb), .val (.int ec), .val (.int mA), .val (.int c1), .unset, .unset, .unset, .unset, .unset, .unset, .unset, .unset] [(.int (4 : Int32)), (.int p3)]))
      refine own_via (fun t k => XS.iand X0.here hx rfl (hb hby at_43) rfl k) ?_
      show OwnEnds p.tables e below _ (s₁.setTop (mkF m 44 #[.val (.int p0), .val (.int p1), .val (.int p2), .val (.int p3), .val (.int ea), .val (.int eb), .val (.int ec), .val (.int mA), .val (.int c1), .unset, .unset, .unset, .unset, .unset, .unset, .unset, .unset] [(.int (p3 &&& (4 : Int32)))]))
      have J52_3 : ∀ mB : Int32, mB = (if (p3 &&& (4 : Int32)) = (0 : Int32) then (0 : Int32) else (1 : Int32)) → OwnEnds p.tables e below (OwnQ s 16 128 (Q0 Z p0 p1 p2 p3 h0 n0)) (s₁.setTop (mkF m 52 #[.val (.int p0), .val (.int p1), .val (.int p2), .val (.int p3), .val (.int ea), .val (.int eb), .val (.int ec), .val (.int mA), .val (.int c1), .unset, .unset, .unset, .unset, .unset, .unset, .unset, .unset] [(.int mB)])) := by
        intro mB h_mB
        refine own_via (fun t k => XS.istore X0.here hx rfl (hb hby at_52) rfl (l' := #[.val (.int p0), .val (.int p1), .val (.int p2), .val (.int p3), .val (.int ea), .val (.int eb), .val (.int ec), .val (.int mA), .val (.int c1), .val (.int mB), .unset, .unset, .unset, .unset, .unset, .unset, .unset]) rfl k) ?_
        show OwnEnds p.tables e below _ (s₁.setTop (mkF m 54 #[.val (.int p0), .val (.int p1), .val (.int p2), .val (.int p3), .val (.int ea), .val (.int eb), .val (.int ec), .val (.int mA), .val (.int c1), .val (.int mB), .unset, .unset, .unset, .unset, .unset, .unset, .unset] []))
        refine own_via (fun t k => XS.iloadN X0.here hx rfl (hb hby at_54) rfl k) ?_
        show OwnEnds p.tables e below _ (s₁.setTop (mkF m 55 #[.val (.int p0), .val (.int p1), .val (.int p2), .val (.int p3), .val (.int ea), .val (.int eb), .val (.int ec), .val (.int mA), .val (.int c1), .val (.int mB), .unset, .unset, .unset, .unset, .unset, .unset, .unset] [(.int p3)]))
        refine own_via (fun t k => XS.bipush X0.here hx rfl (hb hby at_55) k) ?_
        show OwnEnds p.tables e below _ (s₁.setTop (mkF m 57 #[.val (.int p0), .val (.int p1), .val (.int p2), .val (.int p3), .val (.int ea), .val (.int eb), .val (.int ec), .val (.int mA), .val (.int c1), .val (.int mB), .unset, .unset, .unset, .unset, .unset, .unset, .unset] [(.int (8 : Int32)), (.int p3)]))
        refine own_via (fun t k => XS.iand X0.here hx rfl (hb hby at_57) rfl k) ?_
        show OwnEnds p.tables e below _ (s₁.setTop (mkF m 58 #[.val (.int p0), .val (.int p1), .val (.int p2), .val (.int p3), .val (.int ea), .val (.int eb), .val (.int ec), .val (.int mA), .val (.int c1), .val (.int mB), .unset, .unset, .unset, .unset, .unset, .unset, .unset] [(.int (p3 &&& (8 : Int32)))]))
        have J66_4 : ∀ c2 : Int32, c2 = (if (p3 &&& (8 : Int32)) = (0 : Int32) then (0 : Int32) else (1 : Int32)) → OwnEnds p.tables e below (OwnQ s 16 128 (Q0 Z p0 p1 p2 p3 h0 n0)) (s₁.setTop (mkF m 66 #[.val (.int p0), .val (.int p1), .val (.int p2), .val (.int p3), .val (.int ea), .val (.int eb), .val (.int ec), .val (.int mA), .val (.int c1), .val (.int mB), .unset, .unset, .unset, .unset, .unset, .unset, .unset] [(.int c2)])) := by
          intro c2 h_c2
          refine own_via (fun t k => XS.istore X0.here hx rfl (hb hby at_66) rfl (l' := #[.val (.int p0), .val (.int p1), .val (.int p2), .val (.int p3), .val (.int ea), .val (.int eb), .val (.int ec), .val (.int mA), .val (.int c1), .val (.int mB), .val (.int c2), .unset, .unset, .unset, .unset, .unset, .unset]) rfl k) ?_
          show OwnEnds p.tables e below _ (s₁.setTop (mkF m 68 #[.val (.int p0), .val (.int p1), .val (.int p2), .val (.int p3), .val (.int ea), .val (.int eb), .val (.int ec), .val (.int mA), .val (.int c1), .val (.int mB), .val (.int c2), .unset, .unset, .unset, .unset, .unset, .unset] []))
          refine own_via (fun t k => XS.iloadN X0.here hx rfl (hb hby at_68) rfl k) ?_
          show OwnEnds p.tables e below _ (s₁.setTop (mkF m 69 #[.val (.int p0), .val (.int p1), .val (.int p2), .val (.int p3), .val (.int ea), .val (.int eb), .val (.int ec), .val (.int mA), .val (.int c1), .val (.int mB), .val (.int c2), .unset, .unset, .unset, .unset, .unset, .unset] [(.int p3)]))
          refine own_via (fun t k => XS.bipush X0.here hx rfl (hb hby at_69) k) ?_
          show OwnEnds p.tables e below _ (s₁.setTop (mkF m 71 #[.val (.int p0), .val (.int p1), .val (.int p2), .val (.int p3), .val (.int ea), .val (.int eb), .val (.int ec), .val (.int mA), .val (.int c1), .val (.int mB), .val (.int c2), .unset, .unset, .unset, .unset, .unset, .unset] [(.int (16 : Int32)), (.int p3)]))
          refine own_via (fun t k => XS.iand X0.here hx rfl (hb hby at_71) rfl k) ?_
          show OwnEnds p.tables e below _ (s₁.setTop (mkF m 72 #[.val (.int p0), .val (.int p1), .val (.int p2), .val (.int p3), .val (.int ea), .val (.int eb), .val (.int ec), .val (.int mA), .val (.int c1), .val (.int mB), .val (.int c2), .unset, .unset, .unset, .unset, .unset, .unset] [(.int (p3 &&& (16 : Int32)))]))
          have J80_5 : ∀ mC : Int32, mC = (if (p3 &&& (16 : Int32)) = (0 : Int32) then (0 : Int32) else (1 : Int32)) → OwnEnds p.tables e below (OwnQ s 16 128 (Q0 Z p0 p1 p2 p3 h0 n0)) (s₁.setTop (mkF m 80 #[.val (.int p0), .val (.int p1), .val (.int p2), .val (.int p3), .val (.int ea), .val (.int eb), .val (.int ec), .val (.int mA), .val (.int c1), .val (.int mB), .val (.int c2), .unset, .unset, .unset, .unset, .unset, .unset] [(.int mC)])) := by
            intro mC h_mC
            refine own_via (fun t k => XS.istore X0.here hx rfl (hb hby at_80) rfl (l' := #[.val (.int p0), .val (.int p1), .val (.int p2), .val (.int p3), .val (.int ea), .val (.int eb), .val (.int ec), .val (.int mA), .val (.int c1), .val (.int mB), .val (.int c2), .val (.int mC), .unset, .unset, .unset, .unset, .unset]) rfl k) ?_
            show OwnEnds p.tables e below _ (s₁.setTop (mkF m 82 #[.val (.int p0), .val (.int p1), .val (.int p2), .val (.int p3), .val (.int ea), .val (.int eb), .val (.int ec), .val (.int mA), .val (.int c1), .val (.int mB), .val (.int c2), .val (.int mC), .unset, .unset, .unset, .unset, .unset] []))
            obtain ⟨T6, h6, X6, e6, E6, A6, D6, -, st6⟩ := newO X0 hx hZ hown (hw _ (List.mem_of_getElem? (i := 0) rfl)) (hw _ (List.mem_of_getElem? (i := 1) rfl)) (hw _ (List.mem_of_getElem? (i := 2) rfl)) e0 (g := (mkF m 82 #[.val (.int p0), .val (.int p1), .val (.int p2), .val (.int p3), .val (.int ea), .val (.int eb), .val (.int ec), .val (.int mA), .val (.int c1), .val (.int mB), .val (.int c2), .val (.int mC), .unset, .unset, .unset, .unset, .unset] [])) rfl (hb hby at_82) (by decide) (by decide)
            obtain ⟨b6, g6⟩ : ∃ z, z = h0.size := ⟨_, rfl⟩
            rw [← g6] at A6 D6 st6
            have g_b6 : n0 ≤ b6 := Nat.le_trans Z0 (Nat.le_of_eq g6.symm)
            have Zs_6 : n0 ≤ _ := Nat.le_trans Z0 E6.1
            have E_b6 := A6
            have F_round_b6 : Fld Z h6 b6 "com/example/libhorn/libhorn/measures/FoundMarks" "round" "I" (.int (0 : Int32)) := D6 (Or.inl (hw _ (List.mem_of_getElem? (i := 10) rfl))) (ty := .int) (by decide)
            have F_rounds_b6 : Fld Z h6 b6 "com/example/libhorn/libhorn/measures/FoundMarks" "rounds" "[I" .null := D6 (Or.inr (hw _ (List.mem_of_getElem? (i := 13) rfl))) (ty := (.array .int)) (by decide)
            refine own_via st6 ?_
            show OwnEnds p.tables e below _ (T6.setTop (mkF m 85 #[.val (.int p0), .val (.int p1), .val (.int p2), .val (.int p3), .val (.int ea), .val (.int eb), .val (.int ec), .val (.int mA), .val (.int c1), .val (.int mB), .val (.int c2), .val (.int mC), .unset, .unset, .unset, .unset, .unset] [(.ref b6)]))
            refine own_via (fun t k => XS.dup X6.here hx rfl (hb hby at_85) rfl rfl k) ?_
            show OwnEnds p.tables e below _ (T6.setTop (mkF m 86 #[.val (.int p0), .val (.int p1), .val (.int p2), .val (.int p3), .val (.int ea), .val (.int eb), .val (.int ec), .val (.int mA), .val (.int c1), .val (.int mB), .val (.int c2), .val (.int mC), .unset, .unset, .unset, .unset, .unset] [(.ref b6), (.ref b6)]))
            refine own_via (fun t k => XS.iconst X6.here hx rfl (hb hby at_86) k) ?_
            show OwnEnds p.tables e below _ (T6.setTop (mkF m 87 #[.val (.int p0), .val (.int p1), .val (.int p2), .val (.int p3), .val (.int ea), .val (.int eb), .val (.int ec), .val (.int mA), .val (.int c1), .val (.int mB), .val (.int c2), .val (.int mC), .unset, .unset, .unset, .unset, .unset] [(.int (4 : Int32)), (.ref b6), (.ref b6)]))
            obtain ⟨_, _, ⟨T7, L7, k7, n7⟩, -, X7, ⟨Lc7, hQ7, l7, y7, z7⟩, st7⟩ := X6.specialBack hx (y := (⟨"com/example/libhorn/libhorn/measures/FoundMarks", "<init>", "(I)V"⟩ : MethodName)) rfl hown (mvT hZ (hw _ (List.mem_of_getElem? (i := 3) rfl))) (mvT hZ (hw _ (List.mem_of_getElem? (i := 4) rfl))) (mvT hZ (hw _ (List.mem_of_getElem? (i := 5) rfl))) (by decide) (backOf (W := 1) (rm1 l Z aw hw [] b6 h6 n0 Zs_6 E_b6 F_round_b6 F_rounds_b6 g_b6) hZ (hw _ (List.mem_of_getElem? (i := 5) rfl)) (hw _ (List.mem_of_getElem? (i := 2) rfl)) (by decide) (by decide)) (g := (mkF m 87 #[.val (.int p0), .val (.int p1), .val (.int p2), .val (.int p3), .val (.int ea), .val (.int eb), .val (.int ec), .val (.int mA), .val (.int c1), .val (.int mB), .val (.int c2), .val (.int mC), .unset, .unset, .unset, .unset, .unset] [(.int (4 : Int32)), (.ref b6), (.ref b6)])) rfl (by rw [hml]; rfl) (Steps.refl _) (a := b6) (argsL := [(.int (4 : Int32))]) (rest := [(.ref b6)]) (lenOf pd_0 rfl) rfl (by show 2 * 0 + _ ≤ _; exact Nat.le_of_eq rfl) (hb hby at_87) (fun _ _ => ⟨rfl, e6, (by decide : 1 + 1 ≤ _), (by decide : 2 + 4 ≤ _)⟩)
            dsimp only [Pt.U, Pt.locs, Pt.cells, Pt.slots] at X7 l7 y7 z7 st7 hQ7
            subst l7 y7 z7
            obtain ⟨h7, e7⟩ : ∃ z, T7.heap = z := ⟨_, rfl⟩
            rw [e7] at hQ7
            obtain ⟨rb, rfl, Nq7, K7, sz_rb', Y7_0, Y7_1, Y7_2, Y7_3⟩ := hQ7
            have N7 := Fr.app N0 Nq7
            have ne_b6_rb : b6 ≠ rb := Nat.ne_of_lt (Nat.lt_of_lt_of_le E_b6.lt sz_rb')
            have g_rb : n0 ≤ rb := Nat.le_trans Zs_6 sz_rb'
            replace E_b6 := E_b6.keep K7
            have F_round_b6 : Fld Z h7 b6 "com/example/libhorn/libhorn/measures/FoundMarks" "round" "I" (.int (1 : Int32)) := Y7_1
            have F_rounds_b6 : Fld Z h7 b6 "com/example/libhorn/libhorn/measures/FoundMarks" "rounds" "[I" (.ref rb) := Y7_2
            have A_rb : AL Z h7 rb .int [(.int (0 : Int32)), (.int (0 : Int32)), (.int (0 : Int32)), (.int (0 : Int32))] := Y7_3
            have Zs_7 : n0 ≤ _ := Nat.le_trans Zs_6 K7.1
            refine own_of st7 ?_
            show OwnEnds p.tables e below _ (T7.setTop (mkF m 90 #[.val (.int p0), .val (.int p1), .val (.int p2), .val (.int p3), .val (.int ea), .val (.int eb), .val (.int ec), .val (.int mA), .val (.int c1), .val (.int mB), .val (.int c2), .val (.int mC), .unset, .unset, .unset, .unset, .unset] [(.ref b6)]))
            refine own_via (fun t k => XS.astore X7.here hx rfl (hb hby at_90) rfl rfl (l' := #[.val (.int p0), .val (.int p1), .val (.int p2), .val (.int p3), .val (.int ea), .val (.int eb), .val (.int ec), .val (.int mA), .val (.int c1), .val (.int mB), .val (.int c2), .val (.int mC), .val (.ref b6), .unset, .unset, .unset, .unset]) rfl k) ?_
            show OwnEnds p.tables e below _ (T7.setTop (mkF m 92 #[.val (.int p0), .val (.int p1), .val (.int p2), .val (.int p3), .val (.int ea), .val (.int eb), .val (.int ec), .val (.int mA), .val (.int c1), .val (.int mB), .val (.int c2), .val (.int mC), .val (.ref b6), .unset, .unset, .unset, .unset] []))
            refine own_via (fun t k => XS.iload X7.here hx rfl (hb hby at_92) rfl k) ?_
            show OwnEnds p.tables e below _ (T7.setTop (mkF m 94 #[.val (.int p0), .val (.int p1), .val (.int p2), .val (.int p3), .val (.int ea), .val (.int eb), .val (.int ec), .val (.int mA), .val (.int c1), .val (.int mB), .val (.int c2), .val (.int mC), .val (.ref b6), .unset, .unset, .unset, .unset] [(.int mA)]))
            have J104_8 : ∀ (TJ104_8 : State) (hJ104_8 : Heap) (locsJ104_8 : List Loc), ∀ u0 : Int32, ∀ u1 : Int32, ∀ u2 : Int32, ∀ u3 : Int32, Stand p l e room_1 s m #[(.int p0), (.int p1), (.int p2), (.int p3)] below meth c TJ104_8 locsJ104_8 2 6 → TJ104_8.heap = hJ104_8 → Fr n0 locsJ104_8 → n0 ≤ hJ104_8.size → Exa Z hJ104_8 b6 "com/example/libhorn/libhorn/measures/FoundMarks" → Fld Z hJ104_8 b6 "com/example/libhorn/libhorn/measures/FoundMarks" "round" "I" (.int (1 : Int32)) → Fld Z hJ104_8 b6 "com/example/libhorn/libhorn/measures/FoundMarks" "rounds" "[I" (.ref rb) → AL Z hJ104_8 rb .int [(.int u0), (.int u1), (.int u2), (.int u3)] → u0 = (if mA = (0 : Int32) then (0 : Int32) else (own_m (0 : Int32) ea (1 : Int32) (0 : Int32))) → u1 = (if mA = (0 : Int32) then (0 : Int32) else (own_m (1 : Int32) ea (1 : Int32) (0 : Int32))) → u2 = (if mA = (0 : Int32) then (0 : Int32) else (own_m (2 : Int32) ea (1 : Int32) (0 : Int32))) → u3 = (if mA = (0 : Int32) then (0 : Int32) else (own_m (3 : Int32) ea (1 : Int32) (0 : Int32))) → OwnEnds p.tables e below (OwnQ s 16 128 (Q0 Z p0 p1 p2 p3 h0 n0)) (TJ104_8.setTop (mkF m 104 #[.val (.int p0), .val (.int p1), .val (.int p2), .val (.int p3), .val (.int ea), .val (.int eb), .val (.int ec), .val (.int mA), .val (.int c1), .val (.int mB), .val (.int c2), .val (.int mC), .val (.ref b6), .unset, .unset, .unset, .unset] [])) := by
              intro TJ104_8 hJ104_8 locsJ104_8 u0 u1 u2 u3 XJ104_8 eJ104_8 NJ104_8 ZsJ104_8 E_b6 F_round_b6 F_rounds_b6 A_rb h_u0 h_u1 h_u2 h_u3
              refine own_via (fun t k => XS.iload XJ104_8.here hx rfl (hb hby at_104) rfl k) ?_
              show OwnEnds p.tables e below _ (TJ104_8.setTop (mkF m 106 #[.val (.int p0), .val (.int p1), .val (.int p2), .val (.int p3), .val (.int ea), .val (.int eb), .val (.int ec), .val (.int mA), .val (.int c1), .val (.int mB), .val (.int c2), .val (.int mC), .val (.ref b6), .unset, .unset, .unset, .unset] [(.int c1)]))
              have J114_9 : ∀ (TJ114_9 : State) (hJ114_9 : Heap) (locsJ114_9 : List Loc), ∀ r1 : Int32, Stand p l e room_1 s m #[(.int p0), (.int p1), (.int p2), (.int p3)] below meth c TJ114_9 locsJ114_9 2 6 → TJ114_9.heap = hJ114_9 → Fr n0 locsJ114_9 → n0 ≤ hJ114_9.size → Exa Z hJ114_9 b6 "com/example/libhorn/libhorn/measures/FoundMarks" → Fld Z hJ114_9 b6 "com/example/libhorn/libhorn/measures/FoundMarks" "round" "I" (.int r1) → Fld Z hJ114_9 b6 "com/example/libhorn/libhorn/measures/FoundMarks" "rounds" "[I" (.ref rb) → AL Z hJ114_9 rb .int [(.int u0), (.int u1), (.int u2), (.int u3)] → r1 = (if c1 = (0 : Int32) then (1 : Int32) else ((1 : Int32) + (1 : Int32))) → OwnEnds p.tables e below (OwnQ s 16 128 (Q0 Z p0 p1 p2 p3 h0 n0)) (TJ114_9.setTop (mkF m 114 #[.val (.int p0), .val (.int p1), .val (.int p2), .val (.int p3), .val (.int ea), .val (.int eb), .val (.int ec), .val (.int mA), .val (.int c1), .val (.int mB), .val (.int c2), .val (.int mC), .val (.ref b6), .unset, .unset, .unset, .unset] [])) := by
                intro TJ114_9 hJ114_9 locsJ114_9 r1 XJ114_9 eJ114_9 NJ114_9 ZsJ114_9 E_b6 F_round_b6 F_rounds_b6 A_rb h_r1
                refine own_via (fun t k => XS.iload XJ114_9.here hx rfl (hb hby at_114) rfl k) ?_
                show OwnEnds p.tables e below _ (TJ114_9.setTop (mkF m 116 #[.val (.int p0), .val (.int p1), .val (.int p2), .val (.int p3), .val (.int ea), .val (.int eb), .val (.int ec), .val (.int mA), .val (.int c1), .val (.int mB), .val (.int c2), .val (.int mC), .val (.ref b6), .unset, .unset, .unset, .unset] [(.int mB)]))
                have J126_10 : ∀ (TJ126_10 : State) (hJ126_10 : Heap) (locsJ126_10 : List Loc), ∀ v0 : Int32, ∀ v1 : Int32, ∀ v2 : Int32, ∀ v3 : Int32, Stand p l e room_1 s m #[(.int p0), (.int p1), (.int p2), (.int p3)] below meth c TJ126_10 locsJ126_10 2 6 → TJ126_10.heap = hJ126_10 → Fr n0 locsJ126_10 → n0 ≤ hJ126_10.size → Exa Z hJ126_10 b6 "com/example/libhorn/libhorn/measures/FoundMarks" → Fld Z hJ126_10 b6 "com/example/libhorn/libhorn/measures/FoundMarks" "round" "I" (.int r1) → Fld Z hJ126_10 b6 "com/example/libhorn/libhorn/measures/FoundMarks" "rounds" "[I" (.ref rb) → AL Z hJ126_10 rb .int [(.int v0), (.int v1), (.int v2), (.int v3)] → v0 = (if mB = (0 : Int32) then u0 else (own_m (0 : Int32) eb r1 u0)) → v1 = (if mB = (0 : Int32) then u1 else (own_m (1 : Int32) eb r1 u1)) → v2 = (if mB = (0 : Int32) then u2 else (own_m (2 : Int32) eb r1 u2)) → v3 = (if mB = (0 : Int32) then u3 else (own_m (3 : Int32) eb r1 u3)) → OwnEnds p.tables e below (OwnQ s 16 128 (Q0 Z p0 p1 p2 p3 h0 n0)) (TJ126_10.setTop (mkF m 126 #[.val (.int p0), .val (.int p1), .val (.int p2), .val (.int p3), .val (.int ea), .val (.int eb), .val (.int ec), .val (.int mA), .val (.int c1), .val (.int mB), .val (.int c2), .val (.int mC), .val (.ref b6), .unset, .unset, .unset, .unset] [])) := by
                  intro TJ126_10 hJ126_10 locsJ126_10 v0 v1 v2 v3 XJ126_10 eJ126_10 NJ126_10 ZsJ126_10 E_b6 F_round_b6 F_rounds_b6 A_rb h_v0 h_v1 h_v2 h_v3
                  refine own_via (fun t k => XS.iload XJ126_10.here hx rfl (hb hby at_126) rfl k) ?_
                  show OwnEnds p.tables e below _ (TJ126_10.setTop (mkF m 128 #[.val (.int p0), .val (.int p1), .val (.int p2), .val (.int p3), .val (.int ea), .val (.int eb), .val (.int ec), .val (.int mA), .val (.int c1), .val (.int mB), .val (.int c2), .val (.int mC), .val (.ref b6), .unset, .unset, .unset, .unset] [(.int c2)]))
                  have J136_11 : ∀ (TJ136_11 : State) (hJ136_11 : Heap) (locsJ136_11 : List Loc), ∀ r2 : Int32, Stand p l e room_1 s m #[(.int p0), (.int p1), (.int p2), (.int p3)] below meth c TJ136_11 locsJ136_11 2 6 → TJ136_11.heap = hJ136_11 → Fr n0 locsJ136_11 → n0 ≤ hJ136_11.size → Exa Z hJ136_11 b6 "com/example/libhorn/libhorn/measures/FoundMarks" → Fld Z hJ136_11 b6 "com/example/libhorn/libhorn/measures/FoundMarks" "round" "I" (.int r2) → Fld Z hJ136_11 b6 "com/example/libhorn/libhorn/measures/FoundMarks" "rounds" "[I" (.ref rb) → AL Z hJ136_11 rb .int [(.int v0), (.int v1), (.int v2), (.int v3)] → r2 = (if c2 = (0 : Int32) then r1 else (r1 + (1 : Int32))) → OwnEnds p.tables e below (OwnQ s 16 128 (Q0 Z p0 p1 p2 p3 h0 n0)) (TJ136_11.setTop (mkF m 136 #[.val (.int p0), .val (.int p1), .val (.int p2), .val (.int p3), .val (.int ea), .val (.int eb), .val (.int ec), .val (.int mA), .val (.int c1), .val (.int mB), .val (.int c2), .val (.int mC), .val (.ref b6), .unset, .unset, .unset, .unset] [])) := by
                    intro TJ136_11 hJ136_11 locsJ136_11 r2 XJ136_11 eJ136_11 NJ136_11 ZsJ136_11 E_b6 F_round_b6 F_rounds_b6 A_rb h_r2
                    refine own_via (fun t k => XS.iload XJ136_11.here hx rfl (hb hby at_136) rfl k) ?_
                    show OwnEnds p.tables e below _ (TJ136_11.setTop (mkF m 138 #[.val (.int p0), .val (.int p1), .val (.int p2), .val (.int p3), .val (.int ea), .val (.int eb), .val (.int ec), .val (.int mA), .val (.int c1), .val (.int mB), .val (.int c2), .val (.int mC), .val (.ref b6), .unset, .unset, .unset, .unset] [(.int mC)]))
                    have J148_12 : ∀ (TJ148_12 : State) (hJ148_12 : Heap) (locsJ148_12 : List Loc), ∀ y0 : Int32, ∀ y1 : Int32, ∀ y2 : Int32, ∀ y3 : Int32, Stand p l e room_1 s m #[(.int p0), (.int p1), (.int p2), (.int p3)] below meth c TJ148_12 locsJ148_12 2 6 → TJ148_12.heap = hJ148_12 → Fr n0 locsJ148_12 → n0 ≤ hJ148_12.size → Exa Z hJ148_12 b6 "com/example/libhorn/libhorn/measures/FoundMarks" → Fld Z hJ148_12 b6 "com/example/libhorn/libhorn/measures/FoundMarks" "round" "I" (.int r2) → Fld Z hJ148_12 b6 "com/example/libhorn/libhorn/measures/FoundMarks" "rounds" "[I" (.ref rb) → AL Z hJ148_12 rb .int [(.int y0), (.int y1), (.int y2), (.int y3)] → y0 = (if mC = (0 : Int32) then v0 else (own_m (0 : Int32) ec r2 v0)) → y1 = (if mC = (0 : Int32) then v1 else (own_m (1 : Int32) ec r2 v1)) → y2 = (if mC = (0 : Int32) then v2 else (own_m (2 : Int32) ec r2 v2)) → y3 = (if mC = (0 : Int32) then v3 else (own_m (3 : Int32) ec r2 v3)) → OwnEnds p.tables e below (OwnQ s 16 128 (Q0 Z p0 p1 p2 p3 h0 n0)) (TJ148_12.setTop (mkF m 148 #[.val (.int p0), .val (.int p1), .val (.int p2), .val (.int p3), .val (.int ea), .val (.int eb), .val (.int ec), .val (.int mA), .val (.int c1), .val (.int mB), .val (.int c2), .val (.int mC), .val (.ref b6), .unset, .unset, .unset, .unset] [])) := by
                      intro TJ148_12 hJ148_12 locsJ148_12 y0 y1 y2 y3 XJ148_12 eJ148_12 NJ148_12 ZsJ148_12 E_b6 F_round_b6 F_rounds_b6 A_rb h_y0 h_y1 h_y2 h_y3
                      refine own_via (fun t k => XS.aload XJ148_12.here hx rfl (hb hby at_148) rfl rfl k) ?_
                      show OwnEnds p.tables e below _ (TJ148_12.setTop (mkF m 150 #[.val (.int p0), .val (.int p1), .val (.int p2), .val (.int p3), .val (.int ea), .val (.int eb), .val (.int ec), .val (.int mA), .val (.int c1), .val (.int mB), .val (.int c2), .val (.int mC), .val (.ref b6), .unset, .unset, .unset, .unset] [(.ref b6)]))
                      refine own_via (fun t k => XS.iconst XJ148_12.here hx rfl (hb hby at_150) k) ?_
                      show OwnEnds p.tables e below _ (TJ148_12.setTop (mkF m 151 #[.val (.int p0), .val (.int p1), .val (.int p2), .val (.int p3), .val (.int ea), .val (.int eb), .val (.int ec), .val (.int mA), .val (.int c1), .val (.int mB), .val (.int c2), .val (.int mC), .val (.ref b6), .unset, .unset, .unset, .unset] [(.int (0 : Int32)), (.ref b6)]))
                      obtain ⟨cq13, kq13, q13a, q13b, q13c⟩ := isOf hZ eJ148_12 E_b6
                      obtain ⟨_, _, ⟨T13, L13, k13, n13⟩, -, X13, ⟨Lc13, hQ13, l13, y13, z13⟩, st13⟩ := XJ148_12.virtualBack hx (y := (⟨"com/example/libhorn/libhorn/measures/FoundMarks", "isMarked", "(I)Z"⟩ : MethodName)) (z := (⟨"com/example/libhorn/libhorn/measures/FoundMarks", "isMarked", "(I)Z"⟩ : MethodName)) hown (mvT hZ (hw _ (List.mem_of_getElem? (i := 19) rfl))) (mvT hZ (hw _ (List.mem_of_getElem? (i := 20) rfl))) (notFace_of_selects (args := #[]) (mvT hZ (hw _ (List.mem_of_getElem? (i := 22) rfl)))) (mvT hZ (hw _ (List.mem_of_getElem? (i := 22) rfl))) (mvT hZ (hw _ (List.mem_of_getElem? (i := 21) rfl))) (by decide) (backOf (W := 0) (rm40 l Z aw hw [] b6 rb r2 y0 y1 y2 y3 hJ148_12 n0 ZsJ148_12 E_b6 F_round_b6 F_rounds_b6 A_rb) hZ (hw _ (List.mem_of_getElem? (i := 23) rfl)) (hw _ (List.mem_of_getElem? (i := 2) rfl)) (by decide) (by decide)) q13a q13c (g := (mkF m 151 #[.val (.int p0), .val (.int p1), .val (.int p2), .val (.int p3), .val (.int ea), .val (.int eb), .val (.int ec), .val (.int mA), .val (.int c1), .val (.int mB), .val (.int c2), .val (.int mC), .val (.ref b6), .unset, .unset, .unset, .unset] [(.int (0 : Int32)), (.ref b6)])) rfl (by rw [hml]; rfl) (Steps.refl _) (argsL := [(.int (0 : Int32))]) (rest := []) (lenOf pd_2 rfl) rfl (by show 2 * 0 + _ ≤ _; exact Nat.le_of_eq rfl) (hb hby at_151) (fun _ _ => ⟨rfl, eJ148_12, (by decide : 2 + 0 ≤ _), (by decide : 6 + 0 ≤ _)⟩)
                      dsimp only [Pt.U, Pt.locs, Pt.cells, Pt.slots] at X13 l13 y13 z13 st13 hQ13
                      subst l13 y13 z13
                      obtain ⟨rfl, Nq13, e13⟩ := hQ13
                      have N13 := Fr.app NJ148_12 Nq13
                      replace e13 : T13.heap = hJ148_12 := e13
                      refine own_of st13 ?_
                      show OwnEnds p.tables e below _ (T13.setTop (mkF m 154 #[.val (.int p0), .val (.int p1), .val (.int p2), .val (.int p3), .val (.int ea), .val (.int eb), .val (.int ec), .val (.int mA), .val (.int c1), .val (.int mB), .val (.int c2), .val (.int mC), .val (.ref b6), .unset, .unset, .unset, .unset] [(.int (own_is y0 r2))]))
                      refine own_via (fun t k => XS.iconst X13.here hx rfl (hb hby at_154) k) ?_
                      show OwnEnds p.tables e below _ (T13.setTop (mkF m 155 #[.val (.int p0), .val (.int p1), .val (.int p2), .val (.int p3), .val (.int ea), .val (.int eb), .val (.int ec), .val (.int mA), .val (.int c1), .val (.int mB), .val (.int c2), .val (.int mC), .val (.ref b6), .unset, .unset, .unset, .unset] [(.int (0 : Int32)), (.int (own_is y0 r2))]))
                      refine own_via (fun t k => XS.iload X13.here hx rfl (hb hby at_155) rfl k) ?_
                      show OwnEnds p.tables e below _ (T13.setTop (mkF m 157 #[.val (.int p0), .val (.int p1), .val (.int p2), .val (.int p3), .val (.int ea), .val (.int eb), .val (.int ec), .val (.int mA), .val (.int c1), .val (.int mB), .val (.int c2), .val (.int mC), .val (.ref b6), .unset, .unset, .unset, .unset] [(.int ea), (.int (0 : Int32)), (.int (own_is y0 r2))]))
                      refine own_via (fun t k => XS.iload X13.here hx rfl (hb hby at_157) rfl k) ?_
                      show OwnEnds p.tables e below _ (T13.setTop (mkF m 159 #[.val (.int p0), .val (.int p1), .val (.int p2), .val (.int p3), .val (.int ea), .val (.int eb), .val (.int ec), .val (.int mA), .val (.int c1), .val (.int mB), .val (.int c2), .val (.int mC), .val (.ref b6), .unset, .unset, .unset, .unset] [(.int eb), (.int ea), (.int (0 : Int32)), (.int (own_is y0 r2))]))
                      refine own_via (fun t k => XS.iload X13.here hx rfl (hb hby at_159) rfl k) ?_
                      show OwnEnds p.tables e below _ (T13.setTop (mkF m 161 #[.val (.int p0), .val (.int p1), .val (.int p2), .val (.int p3), .val (.int ea), .val (.int eb), .val (.int ec), .val (.int mA), .val (.int c1), .val (.int mB), .val (.int c2), .val (.int mC), .val (.ref b6), .unset, .unset, .unset, .unset] [(.int ec), (.int eb), (.int ea), (.int (0 : Int32)), (.int (own_is y0 r2))]))
                      refine own_via (fun t k => XS.iload X13.here hx rfl (hb hby at_161) rfl k) ?_
                      show OwnEnds p.tables e below _ (T13.setTop (mkF m 163 #[.val (.int p0), .val (.int p1), .val (.int p2), .val (.int p3), .val (.int ea), .val (.int eb), .val (.int ec), .val (.int mA), .val (.int c1), .val (.int mB), .val (.int c2), .val (.int mC), .val (.ref b6), .unset, .unset, .unset, .unset] [(.int mA), (.int ec), (.int eb), (.int ea), (.int (0 : Int32)), (.int (own_is y0 r2))]))
                      refine own_via (fun t k => XS.iload X13.here hx rfl (hb hby at_163) rfl k) ?_
                      show OwnEnds p.tables e below _ (T13.setTop (mkF m 165 #[.val (.int p0), .val (.int p1), .val (.int p2), .val (.int p3), .val (.int ea), .val (.int eb), .val (.int ec), .val (.int mA), .val (.int c1), .val (.int mB), .val (.int c2), .val (.int mC), .val (.ref b6), .unset, .unset, .unset, .unset] [(.int c1), (.int mA), (.int ec), (.int eb), (.int ea), (.int (0 : Int32)), (.int (own_is y0 r2))]))
                      refine own_via (fun t k => XS.iload X13.here hx rfl (hb hby at_165) rfl k) ?_
                      show OwnEnds p.tables e below _ (T13.setTop (mkF m 167 #[.val (.int p0), .val (.int p1), .val (.int p2), .val (.int p3), .val (.int ea), .val (.int eb), .val (.int ec), .val (.int mA), .val (.int c1), .val (.int mB), .val (.int c2), .val (.int mC), .val (.ref b6), .unset, .unset, .unset, .unset] [(.int mB), (.int c1), (.int mA), (.int ec), (.int eb), (.int ea), (.int (0 : Int32)), (.int (own_is y0 r2))]))
                      refine own_via (fun t k => XS.iload X13.here hx rfl (hb hby at_167) rfl k) ?_
                      show OwnEnds p.tables e below _ (T13.setTop (mkF m 169 #[.val (.int p0), .val (.int p1), .val (.int p2), .val (.int p3), .val (.int ea), .val (.int eb), .val (.int ec), .val (.int mA), .val (.int c1), .val (.int mB), .val (.int c2), .val (.int mC), .val (.ref b6), .unset, .unset, .unset, .unset] [(.int c2), (.int mB), (.int c1), (.int mA), (.int ec), (.int eb), (.int ea), (.int (0 : Int32)), (.int (own_is y0 r2))]))
                      refine own_via (fun t k => XS.iload X13.here hx rfl (hb hby at_169) rfl k) ?_
                      show OwnEnds p.tables e below _ (T13.setTop (mkF m 171 #[.val (.int p0), .val (.int p1), .val (.int p2), .val (.int p3), .val (.int ea), .val (.int eb), .val (.int ec), .val (.int mA), .val (.int c1), .val (.int mB), .val (.int c2), .val (.int mC), .val (.ref b6), .unset, .unset, .unset, .unset] [(.int mC), (.int c2), (.int mB), (.int c1), (.int mA), (.int ec), (.int eb), (.int ea), (.int (0 : Int32)), (.int (own_is y0 r2))]))
                      obtain ⟨_, _, ⟨T14, L14, k14, n14⟩, -, X14, ⟨Lc14, hQ14, l14, y14, z14⟩, st14⟩ := Jvm.LawKit.callS X13 hx (y := (⟨"com/example/libhorn/libhorn/measures/FoundMarksIsMarkedPinLaw", "expected", "(IIIIZZZZZ)Z"⟩ : MethodName)) hown (mvT hZ (hw _ (List.mem_of_getElem? (i := 24) rfl))) (mvT hZ (hw _ (List.mem_of_getElem? (i := 25) rfl))) (mvT hZ (hw _ (List.mem_of_getElem? (i := 26) rfl))) (mvT hZ (hw _ (List.mem_of_getElem? (i := 27) rfl))) (by decide) (backOf (W := 1) (rm5 l Z aw hw [] (0 : Int32) ea eb ec mA c1 mB c2 mC hJ148_12 n0 ZsJ148_12 ) hZ (hw _ (List.mem_of_getElem? (i := 27) rfl)) (hw _ (List.mem_of_getElem? (i := 26) rfl)) (by decide) (by decide)) (g := (mkF m 171 #[.val (.int p0), .val (.int p1), .val (.int p2), .val (.int p3), .val (.int ea), .val (.int eb), .val (.int ec), .val (.int mA), .val (.int c1), .val (.int mB), .val (.int c2), .val (.int mC), .val (.ref b6), .unset, .unset, .unset, .unset] [(.int mC), (.int c2), (.int mB), (.int c1), (.int mA), (.int ec), (.int eb), (.int ea), (.int (0 : Int32)), (.int (own_is y0 r2))])) rfl (by rw [hml]; rfl) (argsL := [(.int (0 : Int32)), (.int ea), (.int eb), (.int ec), (.int mA), (.int c1), (.int mB), (.int c2), (.int mC)]) (rest := [(.int (own_is y0 r2))]) (lenOf pd_3 rfl) rfl (by show 2 * 0 + _ ≤ _; exact Nat.le_of_eq rfl) (hb hby at_171) (fun _ _ => ⟨rfl, e13, (by decide : 2 + 0 ≤ _), (by decide : 6 + 0 ≤ _)⟩)
                      dsimp only [Pt.U, Pt.locs, Pt.cells, Pt.slots] at X14 l14 y14 z14 st14 hQ14
                      subst l14 y14 z14
                      obtain ⟨rfl, Nq14, e14⟩ := hQ14
                      have N14 := Fr.app N13 Nq14
                      replace e14 : T14.heap = hJ148_12 := e14
                      refine own_via st14 ?_
                      show OwnEnds p.tables e below _ (T14.setTop (mkF m 174 #[.val (.int p0), .val (.int p1), .val (.int p2), .val (.int p3), .val (.int ea), .val (.int eb), .val (.int ec), .val (.int mA), .val (.int c1), .val (.int mB), .val (.int c2), .val (.int mC), .val (.ref b6), .unset, .unset, .unset, .unset] [(.int (own_exp (0 : Int32) ea eb ec mA c1 mB c2 mC)), (.int (own_is y0 r2))]))
                      have hc174_15 : (own_is y0 r2) = (own_exp (0 : Int32) ea eb ec mA c1 mB c2 mC) := own_fin h_u0 h_r1 h_v0 h_r2 h_y0
                      refine own_via (fun t k => XS.icmpNo X14.here hx rfl (hb hby at_174) rfl (teq hc174_15).2 k) ?_
                      show OwnEnds p.tables e below _ (T14.setTop (mkF m 177 #[.val (.int p0), .val (.int p1), .val (.int p2), .val (.int p3), .val (.int ea), .val (.int eb), .val (.int ec), .val (.int mA), .val (.int c1), .val (.int mB), .val (.int c2), .val (.int mC), .val (.ref b6), .unset, .unset, .unset, .unset] []))
                      refine own_via (fun t k => XS.iconst X14.here hx rfl (hb hby at_177) k) ?_
                      show OwnEnds p.tables e below _ (T14.setTop (mkF m 178 #[.val (.int p0), .val (.int p1), .val (.int p2), .val (.int p3), .val (.int ea), .val (.int eb), .val (.int ec), .val (.int mA), .val (.int c1), .val (.int mB), .val (.int c2), .val (.int mC), .val (.ref b6), .unset, .unset, .unset, .unset] [(.int (1 : Int32))]))
                      refine own_via (fun t k => XS.goto X14.here hx rfl (pc0 := 178) (pc' := 182) rfl (hb hby at_178) (by decide) (by decide) k) ?_
                      show OwnEnds p.tables e below _ (T14.setTop (mkF m 182 #[.val (.int p0), .val (.int p1), .val (.int p2), .val (.int p3), .val (.int ea), .val (.int eb), .val (.int ec), .val (.int mA), .val (.int c1), .val (.int mB), .val (.int c2), .val (.int mC), .val (.ref b6), .unset, .unset, .unset, .unset] [(.int (1 : Int32))]))
                      refine own_via (fun t k => XS.istore X14.here hx rfl (hb hby at_182) rfl (l' := #[.val (.int p0), .val (.int p1), .val (.int p2), .val (.int p3), .val (.int ea), .val (.int eb), .val (.int ec), .val (.int mA), .val (.int c1), .val (.int mB), .val (.int c2), .val (.int mC), .val (.ref b6), .val (.int (1 : Int32)), .unset, .unset, .unset]) rfl k) ?_
                      show OwnEnds p.tables e below _ (T14.setTop (mkF m 184 #[.val (.int p0), .val (.int p1), .val (.int p2), .val (.int p3), .val (.int ea), .val (.int eb), .val (.int ec), .val (.int mA), .val (.int c1), .val (.int mB), .val (.int c2), .val (.int mC), .val (.ref b6), .val (.int (1 : Int32)), .unset, .unset, .unset] []))
                      refine own_via (fun t k => XS.aload X14.here hx rfl (hb hby at_184) rfl rfl k) ?_
                      show OwnEnds p.tables e below _ (T14.setTop (mkF m 186 #[.val (.int p0), .val (.int p1), .val (.int p2), .val (.int p3), .val (.int ea), .val (.int eb), .val (.int ec), .val (.int mA), .val (.int c1), .val (.int mB), .val (.int c2), .val (.int mC), .val (.ref b6), .val (.int (1 : Int32)), .unset, .unset, .unset] [(.ref b6)]))
                      refine own_via (fun t k => XS.iconst X14.here hx rfl (hb hby at_186) k) ?_
                      show OwnEnds p.tables e below _ (T14.setTop (mkF m 187 #[.val (.int p0), .val (.int p1), .val (.int p2), .val (.int p3), .val (.int ea), .val (.int eb), .val (.int ec), .val (.int mA), .val (.int c1), .val (.int mB), .val (.int c2), .val (.int mC), .val (.ref b6), .val (.int (1 : Int32)), .unset, .unset, .unset] [(.int (1 : Int32)), (.ref b6)]))
                      obtain ⟨cq16, kq16, q16a, q16b, q16c⟩ := isOf hZ e14 E_b6
                      obtain ⟨_, _, ⟨T16, L16, k16, n16⟩, -, X16, ⟨Lc16, hQ16, l16, y16, z16⟩, st16⟩ := X14.virtualBack hx (y := (⟨"com/example/libhorn/libhorn/measures/FoundMarks", "isMarked", "(I)Z"⟩ : MethodName)) (z := (⟨"com/example/libhorn/libhorn/measures/FoundMarks", "isMarked", "(I)Z"⟩ : MethodName)) hown (mvT hZ (hw _ (List.mem_of_getElem? (i := 19) rfl))) (mvT hZ (hw _ (List.mem_of_getElem? (i := 20) rfl))) (notFace_of_selects (args := #[]) (mvT hZ (hw _ (List.mem_of_getElem? (i := 22) rfl)))) (mvT hZ (hw _ (List.mem_of_getElem? (i := 22) rfl))) (mvT hZ (hw _ (List.mem_of_getElem? (i := 21) rfl))) (by decide) (backOf (W := 0) (rm41 l Z aw hw [] b6 rb r2 y0 y1 y2 y3 hJ148_12 n0 ZsJ148_12 E_b6 F_round_b6 F_rounds_b6 A_rb) hZ (hw _ (List.mem_of_getElem? (i := 23) rfl)) (hw _ (List.mem_of_getElem? (i := 2) rfl)) (by decide) (by decide)) q16a q16c (g := (mkF m 187 #[.val (.int p0), .val (.int p1), .val (.int p2), .val (.int p3), .val (.int ea), .val (.int eb), .val (.int ec), .val (.int mA), .val (.int c1), .val (.int mB), .val (.int c2), .val (.int mC), .val (.ref b6), .val (.int (1 : Int32)), .unset, .unset, .unset] [(.int (1 : Int32)), (.ref b6)])) rfl (by rw [hml]; rfl) (Steps.refl _) (argsL := [(.int (1 : Int32))]) (rest := []) (lenOf pd_2 rfl) rfl (by show 2 * 0 + _ ≤ _; exact Nat.le_of_eq rfl) (hb hby at_187) (fun _ _ => ⟨rfl, e14, (by decide : 2 + 0 ≤ _), (by decide : 6 + 0 ≤ _)⟩)
                      dsimp only [Pt.U, Pt.locs, Pt.cells, Pt.slots] at X16 l16 y16 z16 st16 hQ16
                      subst l16 y16 z16
                      obtain ⟨rfl, Nq16, e16⟩ := hQ16
                      have N16 := Fr.app N14 Nq16
                      replace e16 : T16.heap = hJ148_12 := e16
                      refine own_of st16 ?_
                      show OwnEnds p.tables e below _ (T16.setTop (mkF m 190 #[.val (.int p0), .val (.int p1), .val (.int p2), .val (.int p3), .val (.int ea), .val (.int eb), .val (.int ec), .val (.int mA), .val (.int c1), .val (.int mB), .val (.int c2), .val (.int mC), .val (.ref b6), .val (.int (1 : Int32)), .unset, .unset, .unset] [(.int (own_is y1 r2))]))
                      refine own_via (fun t k => XS.iconst X16.here hx rfl (hb hby at_190) k) ?_
                      show OwnEnds p.tables e below _ (T16.setTop (mkF m 191 #[.val (.int p0), .val (.int p1), .val (.int p2), .val (.int p3), .val (.int ea), .val (.int eb), .val (.int ec), .val (.int mA), .val (.int c1), .val (.int mB), .val (.int c2), .val (.int mC), .val (.ref b6), .val (.int (1 : Int32)), .unset, .unset, .unset] [(.int (1 : Int32)), (.int (own_is y1 r2))]))
                      refine own_via (fun t k => XS.iload X16.here hx rfl (hb hby at_191) rfl k) ?_
                      show OwnEnds p.tables e below _ (T16.setTop (mkF m 193 #[.val (.int p0), .val (.int p1), .val (.int p2), .val (.int p3), .val (.int ea), .val (.int eb), .val (.int ec), .val (.int mA), .val (.int c1), .val (.int mB), .val (.int c2), .val (.int mC), .val (.ref b6), .val (.int (1 : Int32)), .unset, .unset, .unset] [(.int ea), (.int (1 : Int32)), (.int (own_is y1 r2))]))
                      refine own_via (fun t k => XS.iload X16.here hx rfl (hb hby at_193) rfl k) ?_
                      show OwnEnds p.tables e below _ (T16.setTop (mkF m 195 #[.val (.int p0), .val (.int p1), .val (.int p2), .val (.int p3), .val (.int ea), .val (.int eb), .val (.int ec), .val (.int mA), .val (.int c1), .val (.int mB), .val (.int c2), .val (.int mC), .val (.ref b6), .val (.int (1 : Int32)), .unset, .unset, .unset] [(.int eb), (.int ea), (.int (1 : Int32)), (.int (own_is y1 r2))]))
                      refine own_via (fun t k => XS.iload X16.here hx rfl (hb hby at_195) rfl k) ?_
                      show OwnEnds p.tables e below _ (T16.setTop (mkF m 197 #[.val (.int p0), .val (.int p1), .val (.int p2), .val (.int p3), .val (.int ea), .val (.int eb), .val (.int ec), .val (.int mA), .val (.int c1), .val (.int mB), .val (.int c2), .val (.int mC), .val (.ref b6), .val (.int (1 : Int32)), .unset, .unset, .unset] [(.int ec), (.int eb), (.int ea), (.int (1 : Int32)), (.int (own_is y1 r2))]))
                      refine own_via (fun t k => XS.iload X16.here hx rfl (hb hby at_197) rfl k) ?_
                      show OwnEnds p.tables e below _ (T16.setTop (mkF m 199 #[.val (.int p0), .val (.int p1), .val (.int p2), .val (.int p3), .val (.int ea), .val (.int eb), .val (.int ec), .val (.int mA), .val (.int c1), .val (.int mB), .val (.int c2), .val (.int mC), .val (.ref b6), .val (.int (1 : Int32)), .unset, .unset, .unset] [(.int mA), (.int ec), (.int eb), (.int ea), (.int (1 : Int32)), (.int (own_is y1 r2))]))
                      refine own_via (fun t k => XS.iload X16.here hx rfl (hb hby at_199) rfl k) ?_
                      show OwnEnds p.tables e below _ (T16.setTop (mkF m 201 #[.val (.int p0), .val (.int p1), .val (.int p2), .val (.int p3), .val (.int ea), .val (.int eb), .val (.int ec), .val (.int mA), .val (.int c1), .val (.int mB), .val (.int c2), .val (.int mC), .val (.ref b6), .val (.int (1 : Int32)), .unset, .unset, .unset] [(.int c1), (.int mA), (.int ec), (.int eb), (.int ea), (.int (1 : Int32)), (.int (own_is y1 r2))]))
                      refine own_via (fun t k => XS.iload X16.here hx rfl (hb hby at_201) rfl k) ?_
                      show OwnEnds p.tables e below _ (T16.setTop (mkF m 203 #[.val (.int p0), .val (.int p1), .val (.int p2), .val (.int p3), .val (.int ea), .val (.int eb), .val (.int ec), .val (.int mA), .val (.int c1), .val (.int mB), .val (.int c2), .val (.int mC), .val (.ref b6), .val (.int (1 : Int32)), .unset, .unset, .unset] [(.int mB), (.int c1), (.int mA), (.int ec), (.int eb), (.int ea), (.int (1 : Int32)), (.int (own_is y1 r2))]))
                      refine own_via (fun t k => XS.iload X16.here hx rfl (hb hby at_203) rfl k) ?_
                      show OwnEnds p.tables e below _ (T16.setTop (mkF m 205 #[.val (.int p0), .val (.int p1), .val (.int p2), .val (.int p3), .val (.int ea), .val (.int eb), .val (.int ec), .val (.int mA), .val (.int c1), .val (.int mB), .val (.int c2), .val (.int mC), .val (.ref b6), .val (.int (1 : Int32)), .unset, .unset, .unset] [(.int c2), (.int mB), (.int c1), (.int mA), (.int ec), (.int eb), (.int ea), (.int (1 : Int32)), (.int (own_is y1 r2))]))
                      refine own_via (fun t k => XS.iload X16.here hx rfl (hb hby at_205) rfl k) ?_
                      show OwnEnds p.tables e below _ (T16.setTop (mkF m 207 #[.val (.int p0), .val (.int p1), .val (.int p2), .val (.int p3), .val (.int ea), .val (.int eb), .val (.int ec), .val (.int mA), .val (.int c1), .val (.int mB), .val (.int c2), .val (.int mC), .val (.ref b6), .val (.int (1 : Int32)), .unset, .unset, .unset] [(.int mC), (.int c2), (.int mB), (.int c1), (.int mA), (.int ec), (.int eb), (.int ea), (.int (1 : Int32)), (.int (own_is y1 r2))]))
                      obtain ⟨_, _, ⟨T17, L17, k17, n17⟩, -, X17, ⟨Lc17, hQ17, l17, y17, z17⟩, st17⟩ := Jvm.LawKit.callS X16 hx (y := (⟨"com/example/libhorn/libhorn/measures/FoundMarksIsMarkedPinLaw", "expected", "(IIIIZZZZZ)Z"⟩ : MethodName)) hown (mvT hZ (hw _ (List.mem_of_getElem? (i := 24) rfl))) (mvT hZ (hw _ (List.mem_of_getElem? (i := 25) rfl))) (mvT hZ (hw _ (List.mem_of_getElem? (i := 26) rfl))) (mvT hZ (hw _ (List.mem_of_getElem? (i := 27) rfl))) (by decide) (backOf (W := 1) (rm5 l Z aw hw [] (1 : Int32) ea eb ec mA c1 mB c2 mC hJ148_12 n0 ZsJ148_12 ) hZ (hw _ (List.mem_of_getElem? (i := 27) rfl)) (hw _ (List.mem_of_getElem? (i := 26) rfl)) (by decide) (by decide)) (g := (mkF m 207 #[.val (.int p0), .val (.int p1), .val (.int p2), .val (.int p3), .val (.int ea), .val (.int eb), .val (.int ec), .val (.int mA), .val (.int c1), .val (.int mB), .val (.int c2), .val (.int mC), .val (.ref b6), .val (.int (1 : Int32)), .unset, .unset, .unset] [(.int mC), (.int c2), (.int mB), (.int c1), (.int mA), (.int ec), (.int eb), (.int ea), (.int (1 : Int32)), (.int (own_is y1 r2))])) rfl (by rw [hml]; rfl) (argsL := [(.int (1 : Int32)), (.int ea), (.int eb), (.int ec), (.int mA), (.int c1), (.int mB), (.int c2), (.int mC)]) (rest := [(.int (own_is y1 r2))]) (lenOf pd_3 rfl) rfl (by show 2 * 0 + _ ≤ _; exact Nat.le_of_eq rfl) (hb hby at_207) (fun _ _ => ⟨rfl, e16, (by decide : 2 + 0 ≤ _), (by decide : 6 + 0 ≤ _)⟩)
                      dsimp only [Pt.U, Pt.locs, Pt.cells, Pt.slots] at X17 l17 y17 z17 st17 hQ17
                      subst l17 y17 z17
                      obtain ⟨rfl, Nq17, e17⟩ := hQ17
                      have N17 := Fr.app N16 Nq17
                      replace e17 : T17.heap = hJ148_12 := e17
                      refine own_via st17 ?_
                      show OwnEnds p.tables e below _ (T17.setTop (mkF m 210 #[.val (.int p0), .val (.int p1), .val (.int p2), .val (.int p3), .val (.int ea), .val (.int eb), .val (.int ec), .val (.int mA), .val (.int c1), .val (.int mB), .val (.int c2), .val (.int mC), .val (.ref b6), .val (.int (1 : Int32)), .unset, .unset, .unset] [(.int (own_exp (1 : Int32) ea eb ec mA c1 mB c2 mC)), (.int (own_is y1 r2))]))
                      have hc210_18 : (own_is y1 r2) = (own_exp (1 : Int32) ea eb ec mA c1 mB c2 mC) := own_fin h_u1 h_r1 h_v1 h_r2 h_y1
                      refine own_via (fun t k => XS.icmpNo X17.here hx rfl (hb hby at_210) rfl (teq hc210_18).2 k) ?_
                      show OwnEnds p.tables e below _ (T17.setTop (mkF m 213 #[.val (.int p0), .val (.int p1), .val (.int p2), .val (.int p3), .val (.int ea), .val (.int eb), .val (.int ec), .val (.int mA), .val (.int c1), .val (.int mB), .val (.int c2), .val (.int mC), .val (.ref b6), .val (.int (1 : Int32)), .unset, .unset, .unset] []))
                      refine own_via (fun t k => XS.iconst X17.here hx rfl (hb hby at_213) k) ?_
                      show OwnEnds p.tables e below _ (T17.setTop (mkF m 214 #[.val (.int p0), .val (.int p1), .val (.int p2), .val (.int p3), .val (.int ea), .val (.int eb), .val (.int ec), .val (.int mA), .val (.int c1), .val (.int mB), .val (.int c2), .val (.int mC), .val (.ref b6), .val (.int (1 : Int32)), .unset, .unset, .unset] [(.int (1 : Int32))]))
                      refine own_via (fun t k => XS.goto X17.here hx rfl (pc0 := 214) (pc' := 218) rfl (hb hby at_214) (by decide) (by decide) k) ?_
                      show OwnEnds p.tables e below _ (T17.setTop (mkF m 218 #[.val (.int p0), .val (.int p1), .val (.int p2), .val (.int p3), .val (.int ea), .val (.int eb), .val (.int ec), .val (.int mA), .val (.int c1), .val (.int mB), .val (.int c2), .val (.int mC), .val (.ref b6), .val (.int (1 : Int32)), .unset, .unset, .unset] [(.int (1 : Int32))]))
                      refine own_via (fun t k => XS.istore X17.here hx rfl (hb hby at_218) rfl (l' := #[.val (.int p0), .val (.int p1), .val (.int p2), .val (.int p3), .val (.int ea), .val (.int eb), .val (.int ec), .val (.int mA), .val (.int c1), .val (.int mB), .val (.int c2), .val (.int mC), .val (.ref b6), .val (.int (1 : Int32)), .val (.int (1 : Int32)), .unset, .unset]) rfl k) ?_
                      show OwnEnds p.tables e below _ (T17.setTop (mkF m 220 #[.val (.int p0), .val (.int p1), .val (.int p2), .val (.int p3), .val (.int ea), .val (.int eb), .val (.int ec), .val (.int mA), .val (.int c1), .val (.int mB), .val (.int c2), .val (.int mC), .val (.ref b6), .val (.int (1 : Int32)), .val (.int (1 : Int32)), .unset, .unset] []))
                      refine own_via (fun t k => XS.aload X17.here hx rfl (hb hby at_220) rfl rfl k) ?_
                      show OwnEnds p.tables e below _ (T17.setTop (mkF m 222 #[.val (.int p0), .val (.int p1), .val (.int p2), .val (.int p3), .val (.int ea), .val (.int eb), .val (.int ec), .val (.int mA), .val (.int c1), .val (.int mB), .val (.int c2), .val (.int mC), .val (.ref b6), .val (.int (1 : Int32)), .val (.int (1 : Int32)), .unset, .unset] [(.ref b6)]))
                      refine own_via (fun t k => XS.iconst X17.here hx rfl (hb hby at_222) k) ?_
                      show OwnEnds p.tables e below _ (T17.setTop (mkF m 223 #[.val (.int p0), .val (.int p1), .val (.int p2), .val (.int p3), .val (.int ea), .val (.int eb), .val (.int ec), .val (.int mA), .val (.int c1), .val (.int mB), .val (.int c2), .val (.int mC), .val (.ref b6), .val (.int (1 : Int32)), .val (.int (1 : Int32)), .unset, .unset] [(.int (2 : Int32)), (.ref b6)]))
                      obtain ⟨cq19, kq19, q19a, q19b, q19c⟩ := isOf hZ e17 E_b6
                      obtain ⟨_, _, ⟨T19, L19, k19, n19⟩, -, X19, ⟨Lc19, hQ19, l19, y19, z19⟩, st19⟩ := X17.virtualBack hx (y := (⟨"com/example/libhorn/libhorn/measures/FoundMarks", "isMarked", "(I)Z"⟩ : MethodName)) (z := (⟨"com/example/libhorn/libhorn/measures/FoundMarks", "isMarked", "(I)Z"⟩ : MethodName)) hown (mvT hZ (hw _ (List.mem_of_getElem? (i := 19) rfl))) (mvT hZ (hw _ (List.mem_of_getElem? (i := 20) rfl))) (notFace_of_selects (args := #[]) (mvT hZ (hw _ (List.mem_of_getElem? (i := 22) rfl)))) (mvT hZ (hw _ (List.mem_of_getElem? (i := 22) rfl))) (mvT hZ (hw _ (List.mem_of_getElem? (i := 21) rfl))) (by decide) (backOf (W := 0) (rm42 l Z aw hw [] b6 rb r2 y0 y1 y2 y3 hJ148_12 n0 ZsJ148_12 E_b6 F_round_b6 F_rounds_b6 A_rb) hZ (hw _ (List.mem_of_getElem? (i := 23) rfl)) (hw _ (List.mem_of_getElem? (i := 2) rfl)) (by decide) (by decide)) q19a q19c (g := (mkF m 223 #[.val (.int p0), .val (.int p1), .val (.int p2), .val (.int p3), .val (.int ea), .val (.int eb), .val (.int ec), .val (.int mA), .val (.int c1), .val (.int mB), .val (.int c2), .val (.int mC), .val (.ref b6), .val (.int (1 : Int32)), .val (.int (1 : Int32)), .unset, .unset] [(.int (2 : Int32)), (.ref b6)])) rfl (by rw [hml]; rfl) (Steps.refl _) (argsL := [(.int (2 : Int32))]) (rest := []) (lenOf pd_2 rfl) rfl (by show 2 * 0 + _ ≤ _; exact Nat.le_of_eq rfl) (hb hby at_223) (fun _ _ => ⟨rfl, e17, (by decide : 2 + 0 ≤ _), (by decide : 6 + 0 ≤ _)⟩)
                      dsimp only [Pt.U, Pt.locs, Pt.cells, Pt.slots] at X19 l19 y19 z19 st19 hQ19
                      subst l19 y19 z19
                      obtain ⟨rfl, Nq19, e19⟩ := hQ19
                      have N19 := Fr.app N17 Nq19
                      replace e19 : T19.heap = hJ148_12 := e19
                      refine own_of st19 ?_
                      show OwnEnds p.tables e below _ (T19.setTop (mkF m 226 #[.val (.int p0), .val (.int p1), .val (.int p2), .val (.int p3), .val (.int ea), .val (.int eb), .val (.int ec), .val (.int mA), .val (.int c1), .val (.int mB), .val (.int c2), .val (.int mC), .val (.ref b6), .val (.int (1 : Int32)), .val (.int (1 : Int32)), .unset, .unset] [(.int (own_is y2 r2))]))
                      refine own_via (fun t k => XS.iconst X19.here hx rfl (hb hby at_226) k) ?_
                      show OwnEnds p.tables e below _ (T19.setTop (mkF m 227 #[.val (.int p0), .val (.int p1), .val (.int p2), .val (.int p3), .val (.int ea), .val (.int eb), .val (.int ec), .val (.int mA), .val (.int c1), .val (.int mB), .val (.int c2), .val (.int mC), .val (.ref b6), .val (.int (1 : Int32)), .val (.int (1 : Int32)), .unset, .unset] [(.int (2 : Int32)), (.int (own_is y2 r2))]))
                      refine own_via (fun t k => XS.iload X19.here hx rfl (hb hby at_227) rfl k) ?_
                      show OwnEnds p.tables e below _ (T19.setTop (mkF m 229 #[.val (.int p0), .val (.int p1), .val (.int p2), .val (.int p3), .val (.int ea), .val (.int eb), .val (.int ec), .val (.int mA), .val (.int c1), .val (.int mB), .val (.int c2), .val (.int mC), .val (.ref b6), .val (.int (1 : Int32)), .val (.int (1 : Int32)), .unset, .unset] [(.int ea), (.int (2 : Int32)), (.int (own_is y2 r2))]))
                      refine own_via (fun t k => XS.iload X19.here hx rfl (hb hby at_229) rfl k) ?_
                      show OwnEnds p.tables e below _ (T19.setTop (mkF m 231 #[.val (.int p0), .val (.int p1), .val (.int p2), .val (.int p3), .val (.int ea), .val (.int eb), .val (.int ec), .val (.int mA), .val (.int c1), .val (.int mB), .val (.int c2), .val (.int mC), .val (.ref b6), .val (.int (1 : Int32)), .val (.int (1 : Int32)), .unset, .unset] [(.int eb), (.int ea), (.int (2 : Int32)), (.int (own_is y2 r2))]))
                      refine own_via (fun t k => XS.iload X19.here hx rfl (hb hby at_231) rfl k) ?_
                      show OwnEnds p.tables e below _ (T19.setTop (mkF m 233 #[.val (.int p0), .val (.int p1), .val (.int p2), .val (.int p3), .val (.int ea), .val (.int eb), .val (.int ec), .val (.int mA), .val (.int c1), .val (.int mB), .val (.int c2), .val (.int mC), .val (.ref b6), .val (.int (1 : Int32)), .val (.int (1 : Int32)), .unset, .unset] [(.int ec), (.int eb), (.int ea), (.int (2 : Int32)), (.int (own_is y2 r2))]))
                      refine own_via (fun t k => XS.iload X19.here hx rfl (hb hby at_233) rfl k) ?_
                      show OwnEnds p.tables e below _ (T19.setTop (mkF m 235 #[.val (.int p0), .val (.int p1), .val (.int p2), .val (.int p3), .val (.int ea), .val (.int eb), .val (.int ec), .val (.int mA), .val (.int c1), .val (.int mB), .val (.int c2), .val (.int mC), .val (.ref b6), .val (.int (1 : Int32)), .val (.int (1 : Int32)), .unset, .unset] [(.int mA), (.int ec), (.int eb), (.int ea), (.int (2 : Int32)), (.int (own_is y2 r2))]))
                      refine own_via (fun t k => XS.iload X19.here hx rfl (hb hby at_235) rfl k) ?_
                      show OwnEnds p.tables e below _ (T19.setTop (mkF m 237 #[.val (.int p0), .val (.int p1), .val (.int p2), .val (.int p3), .val (.int ea), .val (.int eb), .val (.int ec), .val (.int mA), .val (.int c1), .val (.int mB), .val (.int c2), .val (.int mC), .val (.ref b6), .val (.int (1 : Int32)), .val (.int (1 : Int32)), .unset, .unset] [(.int c1), (.int mA), (.int ec), (.int eb), (.int ea), (.int (2 : Int32)), (.int (own_is y2 r2))]))
                      refine own_via (fun t k => XS.iload X19.here hx rfl (hb hby at_237) rfl k) ?_
                      show OwnEnds p.tables e below _ (T19.setTop (mkF m 239 #[.val (.int p0), .val (.int p1), .val (.int p2), .val (.int p3), .val (.int ea), .val (.int eb), .val (.int ec), .val (.int mA), .val (.int c1), .val (.int mB), .val (.int c2), .val (.int mC), .val (.ref b6), .val (.int (1 : Int32)), .val (.int (1 : Int32)), .unset, .unset] [(.int mB), (.int c1), (.int mA), (.int ec), (.int eb), (.int ea), (.int (2 : Int32)), (.int (own_is y2 r2))]))
                      refine own_via (fun t k => XS.iload X19.here hx rfl (hb hby at_239) rfl k) ?_
                      show OwnEnds p.tables e below _ (T19.setTop (mkF m 241 #[.val (.int p0), .val (.int p1), .val (.int p2), .val (.int p3), .val (.int ea), .val (.int eb), .val (.int ec), .val (.int mA), .val (.int c1), .val (.int mB), .val (.int c2), .val (.int mC), .val (.ref b6), .val (.int (1 : Int32)), .val (.int (1 : Int32)), .unset, .unset] [(.int c2), (.int mB), (.int c1), (.int mA), (.int ec), (.int eb), (.int ea), (.int (2 : Int32)), (.int (own_is y2 r2))]))
                      refine own_via (fun t k => XS.iload X19.here hx rfl (hb hby at_241) rfl k) ?_
                      show OwnEnds p.tables e below _ (T19.setTop (mkF m 243 #[.val (.int p0), .val (.int p1), .val (.int p2), .val (.int p3), .val (.int ea), .val (.int eb), .val (.int ec), .val (.int mA), .val (.int c1), .val (.int mB), .val (.int c2), .val (.int mC), .val (.ref b6), .val (.int (1 : Int32)), .val (.int (1 : Int32)), .unset, .unset] [(.int mC), (.int c2), (.int mB), (.int c1), (.int mA), (.int ec), (.int eb), (.int ea), (.int (2 : Int32)), (.int (own_is y2 r2))]))
                      obtain ⟨_, _, ⟨T20, L20, k20, n20⟩, -, X20, ⟨Lc20, hQ20, l20, y20, z20⟩, st20⟩ := Jvm.LawKit.callS X19 hx (y := (⟨"com/example/libhorn/libhorn/measures/FoundMarksIsMarkedPinLaw", "expected", "(IIIIZZZZZ)Z"⟩ : MethodName)) hown (mvT hZ (hw _ (List.mem_of_getElem? (i := 24) rfl))) (mvT hZ (hw _ (List.mem_of_getElem? (i := 25) rfl))) (mvT hZ (hw _ (List.mem_of_getElem? (i := 26) rfl))) (mvT hZ (hw _ (List.mem_of_getElem? (i := 27) rfl))) (by decide) (backOf (W := 1) (rm5 l Z aw hw [] (2 : Int32) ea eb ec mA c1 mB c2 mC hJ148_12 n0 ZsJ148_12 ) hZ (hw _ (List.mem_of_getElem? (i := 27) rfl)) (hw _ (List.mem_of_getElem? (i := 26) rfl)) (by decide) (by decide)) (g := (mkF m 243 #[.val (.int p0), .val (.int p1), .val (.int p2), .val (.int p3), .val (.int ea), .val (.int eb), .val (.int ec), .val (.int mA), .val (.int c1), .val (.int mB), .val (.int c2), .val (.int mC), .val (.ref b6), .val (.int (1 : Int32)), .val (.int (1 : Int32)), .unset, .unset] [(.int mC), (.int c2), (.int mB), (.int c1), (.int mA), (.int ec), (.int eb), (.int ea), (.int (2 : Int32)), (.int (own_is y2 r2))])) rfl (by rw [hml]; rfl) (argsL := [(.int (2 : Int32)), (.int ea), (.int eb), (.int ec), (.int mA), (.int c1), (.int mB), (.int c2), (.int mC)]) (rest := [(.int (own_is y2 r2))]) (lenOf pd_3 rfl) rfl (by show 2 * 0 + _ ≤ _; exact Nat.le_of_eq rfl) (hb hby at_243) (fun _ _ => ⟨rfl, e19, (by decide : 2 + 0 ≤ _), (by decide : 6 + 0 ≤ _)⟩)
                      dsimp only [Pt.U, Pt.locs, Pt.cells, Pt.slots] at X20 l20 y20 z20 st20 hQ20
                      subst l20 y20 z20
                      obtain ⟨rfl, Nq20, e20⟩ := hQ20
                      have N20 := Fr.app N19 Nq20
                      replace e20 : T20.heap = hJ148_12 := e20
                      refine own_via st20 ?_
                      show OwnEnds p.tables e below _ (T20.setTop (mkF m 246 #[.val (.int p0), .val (.int p1), .val (.int p2), .val (.int p3), .val (.int ea), .val (.int eb), .val (.int ec), .val (.int mA), .val (.int c1), .val (.int mB), .val (.int c2), .val (.int mC), .val (.ref b6), .val (.int (1 : Int32)), .val (.int (1 : Int32)), .unset, .unset] [(.int (own_exp (2 : Int32) ea eb ec mA c1 mB c2 mC)), (.int (own_is y2 r2))]))
                      have hc246_21 : (own_is y2 r2) = (own_exp (2 : Int32) ea eb ec mA c1 mB c2 mC) := own_fin h_u2 h_r1 h_v2 h_r2 h_y2
                      refine own_via (fun t k => XS.icmpNo X20.here hx rfl (hb hby at_246) rfl (teq hc246_21).2 k) ?_
                      show OwnEnds p.tables e below _ (T20.setTop (mkF m 249 #[.val (.int p0), .val (.int p1), .val (.int p2), .val (.int p3), .val (.int ea), .val (.int eb), .val (.int ec), .val (.int mA), .val (.int c1), .val (.int mB), .val (.int c2), .val (.int mC), .val (.ref b6), .val (.int (1 : Int32)), .val (.int (1 : Int32)), .unset, .unset] []))
                      refine own_via (fun t k => XS.iconst X20.here hx rfl (hb hby at_249) k) ?_
                      show OwnEnds p.tables e below _ (T20.setTop (mkF m 250 #[.val (.int p0), .val (.int p1), .val (.int p2), .val (.int p3), .val (.int ea), .val (.int eb), .val (.int ec), .val (.int mA), .val (.int c1), .val (.int mB), .val (.int c2), .val (.int mC), .val (.ref b6), .val (.int (1 : Int32)), .val (.int (1 : Int32)), .unset, .unset] [(.int (1 : Int32))]))
                      refine own_via (fun t k => XS.goto X20.here hx rfl (pc0 := 250) (pc' := 254) rfl (hb hby at_250) (by decide) (by decide) k) ?_
                      show OwnEnds p.tables e below _ (T20.setTop (mkF m 254 #[.val (.int p0), .val (.int p1), .val (.int p2), .val (.int p3), .val (.int ea), .val (.int eb), .val (.int ec), .val (.int mA), .val (.int c1), .val (.int mB), .val (.int c2), .val (.int mC), .val (.ref b6), .val (.int (1 : Int32)), .val (.int (1 : Int32)), .unset, .unset] [(.int (1 : Int32))]))
                      refine own_via (fun t k => XS.istore X20.here hx rfl (hb hby at_254) rfl (l' := #[.val (.int p0), .val (.int p1), .val (.int p2), .val (.int p3), .val (.int ea), .val (.int eb), .val (.int ec), .val (.int mA), .val (.int c1), .val (.int mB), .val (.int c2), .val (.int mC), .val (.ref b6), .val (.int (1 : Int32)), .val (.int (1 : Int32)), .val (.int (1 : Int32)), .unset]) rfl k) ?_
                      show OwnEnds p.tables e below _ (T20.setTop (mkF m 256 #[.val (.int p0), .val (.int p1), .val (.int p2), .val (.int p3), .val (.int ea), .val (.int eb), .val (.int ec), .val (.int mA), .val (.int c1), .val (.int mB), .val (.int c2), .val (.int mC), .val (.ref b6), .val (.int (1 : Int32)), .val (.int (1 : Int32)), .val (.int (1 : Int32)), .unset] []))
                      refine own_via (fun t k => XS.aload X20.here hx rfl (hb hby at_256) rfl rfl k) ?_
                      show OwnEnds p.tables e below _ (T20.setTop (mkF m 258 #[.val (.int p0), .val (.int p1), .val (.int p2), .val (.int p3), .val (.int ea), .val (.int eb), .val (.int ec), .val (.int mA), .val (.int c1), .val (.int mB), .val (.int c2), .val (.int mC), .val (.ref b6), .val (.int (1 : Int32)), .val (.int (1 : Int32)), .val (.int (1 : Int32)), .unset] [(.ref b6)]))
                      refine own_via (fun t k => XS.iconst X20.here hx rfl (hb hby at_258) k) ?_
                      show OwnEnds p.tables e below _ (T20.setTop (mkF m 259 #[.val (.int p0), .val (.int p1), .val (.int p2), .val (.int p3), .val (.int ea), .val (.int eb), .val (.int ec), .val (.int mA), .val (.int c1), .val (.int mB), .val (.int c2), .val (.int mC), .val (.ref b6), .val (.int (1 : Int32)), .val (.int (1 : Int32)), .val (.int (1 : Int32)), .unset] [(.int (3 : Int32)), (.ref b6)]))
                      obtain ⟨cq22, kq22, q22a, q22b, q22c⟩ := isOf hZ e20 E_b6
                      obtain ⟨_, _, ⟨T22, L22, k22, n22⟩, -, X22, ⟨Lc22, hQ22, l22, y22, z22⟩, st22⟩ := X20.virtualBack hx (y := (⟨"com/example/libhorn/libhorn/measures/FoundMarks", "isMarked", "(I)Z"⟩ : MethodName)) (z := (⟨"com/example/libhorn/libhorn/measures/FoundMarks", "isMarked", "(I)Z"⟩ : MethodName)) hown (mvT hZ (hw _ (List.mem_of_getElem? (i := 19) rfl))) (mvT hZ (hw _ (List.mem_of_getElem? (i := 20) rfl))) (notFace_of_selects (args := #[]) (mvT hZ (hw _ (List.mem_of_getElem? (i := 22) rfl)))) (mvT hZ (hw _ (List.mem_of_getElem? (i := 22) rfl))) (mvT hZ (hw _ (List.mem_of_getElem? (i := 21) rfl))) (by decide) (backOf (W := 0) (rm43 l Z aw hw [] b6 rb r2 y0 y1 y2 y3 hJ148_12 n0 ZsJ148_12 E_b6 F_round_b6 F_rounds_b6 A_rb) hZ (hw _ (List.mem_of_getElem? (i := 23) rfl)) (hw _ (List.mem_of_getElem? (i := 2) rfl)) (by decide) (by decide)) q22a q22c (g := (mkF m 259 #[.val (.int p0), .val (.int p1), .val (.int p2), .val (.int p3), .val (.int ea), .val (.int eb), .val (.int ec), .val (.int mA), .val (.int c1), .val (.int mB), .val (.int c2), .val (.int mC), .val (.ref b6), .val (.int (1 : Int32)), .val (.int (1 : Int32)), .val (.int (1 : Int32)), .unset] [(.int (3 : Int32)), (.ref b6)])) rfl (by rw [hml]; rfl) (Steps.refl _) (argsL := [(.int (3 : Int32))]) (rest := []) (lenOf pd_2 rfl) rfl (by show 2 * 0 + _ ≤ _; exact Nat.le_of_eq rfl) (hb hby at_259) (fun _ _ => ⟨rfl, e20, (by decide : 2 + 0 ≤ _), (by decide : 6 + 0 ≤ _)⟩)
                      dsimp only [Pt.U, Pt.locs, Pt.cells, Pt.slots] at X22 l22 y22 z22 st22 hQ22
                      subst l22 y22 z22
                      obtain ⟨rfl, Nq22, e22⟩ := hQ22
                      have N22 := Fr.app N20 Nq22
                      replace e22 : T22.heap = hJ148_12 := e22
                      refine own_of st22 ?_
                      show OwnEnds p.tables e below _ (T22.setTop (mkF m 262 #[.val (.int p0), .val (.int p1), .val (.int p2), .val (.int p3), .val (.int ea), .val (.int eb), .val (.int ec), .val (.int mA), .val (.int c1), .val (.int mB), .val (.int c2), .val (.int mC), .val (.ref b6), .val (.int (1 : Int32)), .val (.int (1 : Int32)), .val (.int (1 : Int32)), .unset] [(.int (own_is y3 r2))]))
                      refine own_via (fun t k => XS.iconst X22.here hx rfl (hb hby at_262) k) ?_
                      show OwnEnds p.tables e below _ (T22.setTop (mkF m 263 #[.val (.int p0), .val (.int p1), .val (.int p2), .val (.int p3), .val (.int ea), .val (.int eb), .val (.int ec), .val (.int mA), .val (.int c1), .val (.int mB), .val (.int c2), .val (.int mC), .val (.ref b6), .val (.int (1 : Int32)), .val (.int (1 : Int32)), .val (.int (1 : Int32)), .unset] [(.int (3 : Int32)), (.int (own_is y3 r2))]))
                      refine own_via (fun t k => XS.iload X22.here hx rfl (hb hby at_263) rfl k) ?_
                      show OwnEnds p.tables e below _ (T22.setTop (mkF m 265 #[.val (.int p0), .val (.int p1), .val (.int p2), .val (.int p3), .val (.int ea), .val (.int eb), .val (.int ec), .val (.int mA), .val (.int c1), .val (.int mB), .val (.int c2), .val (.int mC), .val (.ref b6), .val (.int (1 : Int32)), .val (.int (1 : Int32)), .val (.int (1 : Int32)), .unset] [(.int ea), (.int (3 : Int32)), (.int (own_is y3 r2))]))
                      refine own_via (fun t k => XS.iload X22.here hx rfl (hb hby at_265) rfl k) ?_
                      show OwnEnds p.tables e below _ (T22.setTop (mkF m 267 #[.val (.int p0), .val (.int p1), .val (.int p2), .val (.int p3), .val (.int ea), .val (.int eb), .val (.int ec), .val (.int mA), .val (.int c1), .val (.int mB), .val (.int c2), .val (.int mC), .val (.ref b6), .val (.int (1 : Int32)), .val (.int (1 : Int32)), .val (.int (1 : Int32)), .unset] [(.int eb), (.int ea), (.int (3 : Int32)), (.int (own_is y3 r2))]))
                      refine own_via (fun t k => XS.iload X22.here hx rfl (hb hby at_267) rfl k) ?_
                      show OwnEnds p.tables e below _ (T22.setTop (mkF m 269 #[.val (.int p0), .val (.int p1), .val (.int p2), .val (.int p3), .val (.int ea), .val (.int eb), .val (.int ec), .val (.int mA), .val (.int c1), .val (.int mB), .val (.int c2), .val (.int mC), .val (.ref b6), .val (.int (1 : Int32)), .val (.int (1 : Int32)), .val (.int (1 : Int32)), .unset] [(.int ec), (.int eb), (.int ea), (.int (3 : Int32)), (.int (own_is y3 r2))]))
                      refine own_via (fun t k => XS.iload X22.here hx rfl (hb hby at_269) rfl k) ?_
                      show OwnEnds p.tables e below _ (T22.setTop (mkF m 271 #[.val (.int p0), .val (.int p1), .val (.int p2), .val (.int p3), .val (.int ea), .val (.int eb), .val (.int ec), .val (.int mA), .val (.int c1), .val (.int mB), .val (.int c2), .val (.int mC), .val (.ref b6), .val (.int (1 : Int32)), .val (.int (1 : Int32)), .val (.int (1 : Int32)), .unset] [(.int mA), (.int ec), (.int eb), (.int ea), (.int (3 : Int32)), (.int (own_is y3 r2))]))
                      refine own_via (fun t k => XS.iload X22.here hx rfl (hb hby at_271) rfl k) ?_
                      show OwnEnds p.tables e below _ (T22.setTop (mkF m 273 #[.val (.int p0), .val (.int p1), .val (.int p2), .val (.int p3), .val (.int ea), .val (.int eb), .val (.int ec), .val (.int mA), .val (.int c1), .val (.int mB), .val (.int c2), .val (.int mC), .val (.ref b6), .val (.int (1 : Int32)), .val (.int (1 : Int32)), .val (.int (1 : Int32)), .unset] [(.int c1), (.int mA), (.int ec), (.int eb), (.int ea), (.int (3 : Int32)), (.int (own_is y3 r2))]))
                      refine own_via (fun t k => XS.iload X22.here hx rfl (hb hby at_273) rfl k) ?_
                      show OwnEnds p.tables e below _ (T22.setTop (mkF m 275 #[.val (.int p0), .val (.int p1), .val (.int p2), .val (.int p3), .val (.int ea), .val (.int eb), .val (.int ec), .val (.int mA), .val (.int c1), .val (.int mB), .val (.int c2), .val (.int mC), .val (.ref b6), .val (.int (1 : Int32)), .val (.int (1 : Int32)), .val (.int (1 : Int32)), .unset] [(.int mB), (.int c1), (.int mA), (.int ec), (.int eb), (.int ea), (.int (3 : Int32)), (.int (own_is y3 r2))]))
                      refine own_via (fun t k => XS.iload X22.here hx rfl (hb hby at_275) rfl k) ?_
                      show OwnEnds p.tables e below _ (T22.setTop (mkF m 277 #[.val (.int p0), .val (.int p1), .val (.int p2), .val (.int p3), .val (.int ea), .val (.int eb), .val (.int ec), .val (.int mA), .val (.int c1), .val (.int mB), .val (.int c2), .val (.int mC), .val (.ref b6), .val (.int (1 : Int32)), .val (.int (1 : Int32)), .val (.int (1 : Int32)), .unset] [(.int c2), (.int mB), (.int c1), (.int mA), (.int ec), (.int eb), (.int ea), (.int (3 : Int32)), (.int (own_is y3 r2))]))
                      refine own_via (fun t k => XS.iload X22.here hx rfl (hb hby at_277) rfl k) ?_
                      show OwnEnds p.tables e below _ (T22.setTop (mkF m 279 #[.val (.int p0), .val (.int p1), .val (.int p2), .val (.int p3), .val (.int ea), .val (.int eb), .val (.int ec), .val (.int mA), .val (.int c1), .val (.int mB), .val (.int c2), .val (.int mC), .val (.ref b6), .val (.int (1 : Int32)), .val (.int (1 : Int32)), .val (.int (1 : Int32)), .unset] [(.int mC), (.int c2), (.int mB), (.int c1), (.int mA), (.int ec), (.int eb), (.int ea), (.int (3 : Int32)), (.int (own_is y3 r2))]))
                      obtain ⟨_, _, ⟨T23, L23, k23, n23⟩, -, X23, ⟨Lc23, hQ23, l23, y23, z23⟩, st23⟩ := Jvm.LawKit.callS X22 hx (y := (⟨"com/example/libhorn/libhorn/measures/FoundMarksIsMarkedPinLaw", "expected", "(IIIIZZZZZ)Z"⟩ : MethodName)) hown (mvT hZ (hw _ (List.mem_of_getElem? (i := 24) rfl))) (mvT hZ (hw _ (List.mem_of_getElem? (i := 25) rfl))) (mvT hZ (hw _ (List.mem_of_getElem? (i := 26) rfl))) (mvT hZ (hw _ (List.mem_of_getElem? (i := 27) rfl))) (by decide) (backOf (W := 1) (rm5 l Z aw hw [] (3 : Int32) ea eb ec mA c1 mB c2 mC hJ148_12 n0 ZsJ148_12 ) hZ (hw _ (List.mem_of_getElem? (i := 27) rfl)) (hw _ (List.mem_of_getElem? (i := 26) rfl)) (by decide) (by decide)) (g := (mkF m 279 #[.val (.int p0), .val (.int p1), .val (.int p2), .val (.int p3), .val (.int ea), .val (.int eb), .val (.int ec), .val (.int mA), .val (.int c1), .val (.int mB), .val (.int c2), .val (.int mC), .val (.ref b6), .val (.int (1 : Int32)), .val (.int (1 : Int32)), .val (.int (1 : Int32)), .unset] [(.int mC), (.int c2), (.int mB), (.int c1), (.int mA), (.int ec), (.int eb), (.int ea), (.int (3 : Int32)), (.int (own_is y3 r2))])) rfl (by rw [hml]; rfl) (argsL := [(.int (3 : Int32)), (.int ea), (.int eb), (.int ec), (.int mA), (.int c1), (.int mB), (.int c2), (.int mC)]) (rest := [(.int (own_is y3 r2))]) (lenOf pd_3 rfl) rfl (by show 2 * 0 + _ ≤ _; exact Nat.le_of_eq rfl) (hb hby at_279) (fun _ _ => ⟨rfl, e22, (by decide : 2 + 0 ≤ _), (by decide : 6 + 0 ≤ _)⟩)
                      dsimp only [Pt.U, Pt.locs, Pt.cells, Pt.slots] at X23 l23 y23 z23 st23 hQ23
                      subst l23 y23 z23
                      obtain ⟨rfl, Nq23, e23⟩ := hQ23
                      have N23 := Fr.app N22 Nq23
                      replace e23 : T23.heap = hJ148_12 := e23
                      refine own_via st23 ?_
                      show OwnEnds p.tables e below _ (T23.setTop (mkF m 282 #[.val (.int p0), .val (.int p1), .val (.int p2), .val (.int p3), .val (.int ea), .val (.int eb), .val (.int ec), .val (.int mA), .val (.int c1), .val (.int mB), .val (.int c2), .val (.int mC), .val (.ref b6), .val (.int (1 : Int32)), .val (.int (1 : Int32)), .val (.int (1 : Int32)), .unset] [(.int (own_exp (3 : Int32) ea eb ec mA c1 mB c2 mC)), (.int (own_is y3 r2))]))
                      have hc282_24 : (own_is y3 r2) = (own_exp (3 : Int32) ea eb ec mA c1 mB c2 mC) := own_fin h_u3 h_r1 h_v3 h_r2 h_y3
                      refine own_via (fun t k => XS.icmpNo X23.here hx rfl (hb hby at_282) rfl (teq hc282_24).2 k) ?_
                      show OwnEnds p.tables e below _ (T23.setTop (mkF m 285 #[.val (.int p0), .val (.int p1), .val (.int p2), .val (.int p3), .val (.int ea), .val (.int eb), .val (.int ec), .val (.int mA), .val (.int c1), .val (.int mB), .val (.int c2), .val (.int mC), .val (.ref b6), .val (.int (1 : Int32)), .val (.int (1 : Int32)), .val (.int (1 : Int32)), .unset] []))
                      refine own_via (fun t k => XS.iconst X23.here hx rfl (hb hby at_285) k) ?_
                      show OwnEnds p.tables e below _ (T23.setTop (mkF m 286 #[.val (.int p0), .val (.int p1), .val (.int p2), .val (.int p3), .val (.int ea), .val (.int eb), .val (.int ec), .val (.int mA), .val (.int c1), .val (.int mB), .val (.int c2), .val (.int mC), .val (.ref b6), .val (.int (1 : Int32)), .val (.int (1 : Int32)), .val (.int (1 : Int32)), .unset] [(.int (1 : Int32))]))
                      refine own_via (fun t k => XS.goto X23.here hx rfl (pc0 := 286) (pc' := 290) rfl (hb hby at_286) (by decide) (by decide) k) ?_
                      show OwnEnds p.tables e below _ (T23.setTop (mkF m 290 #[.val (.int p0), .val (.int p1), .val (.int p2), .val (.int p3), .val (.int ea), .val (.int eb), .val (.int ec), .val (.int mA), .val (.int c1), .val (.int mB), .val (.int c2), .val (.int mC), .val (.ref b6), .val (.int (1 : Int32)), .val (.int (1 : Int32)), .val (.int (1 : Int32)), .unset] [(.int (1 : Int32))]))
                      refine own_via (fun t k => XS.istore X23.here hx rfl (hb hby at_290) rfl (l' := #[.val (.int p0), .val (.int p1), .val (.int p2), .val (.int p3), .val (.int ea), .val (.int eb), .val (.int ec), .val (.int mA), .val (.int c1), .val (.int mB), .val (.int c2), .val (.int mC), .val (.ref b6), .val (.int (1 : Int32)), .val (.int (1 : Int32)), .val (.int (1 : Int32)), .val (.int (1 : Int32))]) rfl k) ?_
                      show OwnEnds p.tables e below _ (T23.setTop (mkF m 292 #[.val (.int p0), .val (.int p1), .val (.int p2), .val (.int p3), .val (.int ea), .val (.int eb), .val (.int ec), .val (.int mA), .val (.int c1), .val (.int mB), .val (.int c2), .val (.int mC), .val (.ref b6), .val (.int (1 : Int32)), .val (.int (1 : Int32)), .val (.int (1 : Int32)), .val (.int (1 : Int32))] []))
                      refine own_via (fun t k => XS.iload X23.here hx rfl (hb hby at_292) rfl k) ?_
                      show OwnEnds p.tables e below _ (T23.setTop (mkF m 294 #[.val (.int p0), .val (.int p1), .val (.int p2), .val (.int p3), .val (.int ea), .val (.int eb), .val (.int ec), .val (.int mA), .val (.int c1), .val (.int mB), .val (.int c2), .val (.int mC), .val (.ref b6), .val (.int (1 : Int32)), .val (.int (1 : Int32)), .val (.int (1 : Int32)), .val (.int (1 : Int32))] [(.int (1 : Int32))]))
                      have hc294_25 : ¬ ((1 : Int32) = (0 : Int32)) := by decide
                      refine own_via (fun t k => XS.ifNo X23.here hx rfl (hb hby at_294) rfl ((if0 _ _).trans (feq hc294_25).1) k) ?_
                      show OwnEnds p.tables e below _ (T23.setTop (mkF m 297 #[.val (.int p0), .val (.int p1), .val (.int p2), .val (.int p3), .val (.int ea), .val (.int eb), .val (.int ec), .val (.int mA), .val (.int c1), .val (.int mB), .val (.int c2), .val (.int mC), .val (.ref b6), .val (.int (1 : Int32)), .val (.int (1 : Int32)), .val (.int (1 : Int32)), .val (.int (1 : Int32))] []))
                      refine own_via (fun t k => XS.iload X23.here hx rfl (hb hby at_297) rfl k) ?_
                      show OwnEnds p.tables e below _ (T23.setTop (mkF m 299 #[.val (.int p0), .val (.int p1), .val (.int p2), .val (.int p3), .val (.int ea), .val (.int eb), .val (.int ec), .val (.int mA), .val (.int c1), .val (.int mB), .val (.int c2), .val (.int mC), .val (.ref b6), .val (.int (1 : Int32)), .val (.int (1 : Int32)), .val (.int (1 : Int32)), .val (.int (1 : Int32))] [(.int (1 : Int32))]))
                      have hc299_26 : ¬ ((1 : Int32) = (0 : Int32)) := by decide
                      refine own_via (fun t k => XS.ifNo X23.here hx rfl (hb hby at_299) rfl ((if0 _ _).trans (feq hc299_26).1) k) ?_
                      show OwnEnds p.tables e below _ (T23.setTop (mkF m 302 #[.val (.int p0), .val (.int p1), .val (.int p2), .val (.int p3), .val (.int ea), .val (.int eb), .val (.int ec), .val (.int mA), .val (.int c1), .val (.int mB), .val (.int c2), .val (.int mC), .val (.ref b6), .val (.int (1 : Int32)), .val (.int (1 : Int32)), .val (.int (1 : Int32)), .val (.int (1 : Int32))] []))
                      refine own_via (fun t k => XS.iload X23.here hx rfl (hb hby at_302) rfl k) ?_
                      show OwnEnds p.tables e below _ (T23.setTop (mkF m 304 #[.val (.int p0), .val (.int p1), .val (.int p2), .val (.int p3), .val (.int ea), .val (.int eb), .val (.int ec), .val (.int mA), .val (.int c1), .val (.int mB), .val (.int c2), .val (.int mC), .val (.ref b6), .val (.int (1 : Int32)), .val (.int (1 : Int32)), .val (.int (1 : Int32)), .val (.int (1 : Int32))] [(.int (1 : Int32))]))
                      have hc304_27 : ¬ ((1 : Int32) = (0 : Int32)) := by decide
                      refine own_via (fun t k => XS.ifNo X23.here hx rfl (hb hby at_304) rfl ((if0 _ _).trans (feq hc304_27).1) k) ?_
                      show OwnEnds p.tables e below _ (T23.setTop (mkF m 307 #[.val (.int p0), .val (.int p1), .val (.int p2), .val (.int p3), .val (.int ea), .val (.int eb), .val (.int ec), .val (.int mA), .val (.int c1), .val (.int mB), .val (.int c2), .val (.int mC), .val (.ref b6), .val (.int (1 : Int32)), .val (.int (1 : Int32)), .val (.int (1 : Int32)), .val (.int (1 : Int32))] []))
                      refine own_via (fun t k => XS.iload X23.here hx rfl (hb hby at_307) rfl k) ?_
                      show OwnEnds p.tables e below _ (T23.setTop (mkF m 309 #[.val (.int p0), .val (.int p1), .val (.int p2), .val (.int p3), .val (.int ea), .val (.int eb), .val (.int ec), .val (.int mA), .val (.int c1), .val (.int mB), .val (.int c2), .val (.int mC), .val (.ref b6), .val (.int (1 : Int32)), .val (.int (1 : Int32)), .val (.int (1 : Int32)), .val (.int (1 : Int32))] [(.int (1 : Int32))]))
                      have hc309_28 : ¬ ((1 : Int32) = (0 : Int32)) := by decide
                      refine own_via (fun t k => XS.ifNo X23.here hx rfl (hb hby at_309) rfl ((if0 _ _).trans (feq hc309_28).1) k) ?_
                      show OwnEnds p.tables e below _ (T23.setTop (mkF m 312 #[.val (.int p0), .val (.int p1), .val (.int p2), .val (.int p3), .val (.int ea), .val (.int eb), .val (.int ec), .val (.int mA), .val (.int c1), .val (.int mB), .val (.int c2), .val (.int mC), .val (.ref b6), .val (.int (1 : Int32)), .val (.int (1 : Int32)), .val (.int (1 : Int32)), .val (.int (1 : Int32))] []))
                      refine own_via (fun t k => XS.iconst X23.here hx rfl (hb hby at_312) k) ?_
                      show OwnEnds p.tables e below _ (T23.setTop (mkF m 313 #[.val (.int p0), .val (.int p1), .val (.int p2), .val (.int p3), .val (.int ea), .val (.int eb), .val (.int ec), .val (.int mA), .val (.int c1), .val (.int mB), .val (.int c2), .val (.int mC), .val (.ref b6), .val (.int (1 : Int32)), .val (.int (1 : Int32)), .val (.int (1 : Int32)), .val (.int (1 : Int32))] [(.int (1 : Int32))]))
                      refine own_via (fun t k => XS.goto X23.here hx rfl (pc0 := 313) (pc' := 317) rfl (hb hby at_313) (by decide) (by decide) k) ?_
                      show OwnEnds p.tables e below _ (T23.setTop (mkF m 317 #[.val (.int p0), .val (.int p1), .val (.int p2), .val (.int p3), .val (.int ea), .val (.int eb), .val (.int ec), .val (.int mA), .val (.int c1), .val (.int mB), .val (.int c2), .val (.int mC), .val (.ref b6), .val (.int (1 : Int32)), .val (.int (1 : Int32)), .val (.int (1 : Int32)), .val (.int (1 : Int32))] [(.int (1 : Int32))]))
                      refine own_retN (t := .boolean) X23 hx Bd.returns (by simp) hlk (hb hby at_317) ?_ (by decide) (by decide)
                      rw [e23]
                      exact ⟨rfl, N23⟩
                    by_cases hc138_29 : mC = (0 : Int32)
                    · skip
                      refine own_via (fun t k => XS.ifYes XJ136_11.here hx rfl (pc0 := 138) (pc' := 148) rfl (hb hby at_138) rfl ((if0 _ _).trans (teq hc138_29).1) (by decide) (by decide) k) ?_
                      show OwnEnds p.tables e below _ (TJ136_11.setTop (mkF m 148 #[.val (.int p0), .val (.int p1), .val (.int p2), .val (.int p3), .val (.int ea), .val (.int eb), .val (.int ec), .val (.int mA), .val (.int c1), .val (.int mB), .val (.int c2), .val (.int mC), .val (.ref b6), .unset, .unset, .unset, .unset] []))
                      exact J148_12 _ _ _ _ _ _ _ (own_wide XJ136_11 (by decide) (by decide)) eJ136_11 NJ136_11 ZsJ136_11 E_b6 F_round_b6 F_rounds_b6 A_rb (by simp only [if_pos hc138_29]) (by simp only [if_pos hc138_29]) (by simp only [if_pos hc138_29]) (by simp only [if_pos hc138_29])
                    · skip
                      refine own_via (fun t k => XS.ifNo XJ136_11.here hx rfl (hb hby at_138) rfl ((if0 _ _).trans (feq hc138_29).1) k) ?_
                      show OwnEnds p.tables e below _ (TJ136_11.setTop (mkF m 141 #[.val (.int p0), .val (.int p1), .val (.int p2), .val (.int p3), .val (.int ea), .val (.int eb), .val (.int ec), .val (.int mA), .val (.int c1), .val (.int mB), .val (.int c2), .val (.int mC), .val (.ref b6), .unset, .unset, .unset, .unset] []))
                      refine own_via (fun t k => XS.aload XJ136_11.here hx rfl (hb hby at_141) rfl rfl k) ?_
                      show OwnEnds p.tables e below _ (TJ136_11.setTop (mkF m 143 #[.val (.int p0), .val (.int p1), .val (.int p2), .val (.int p3), .val (.int ea), .val (.int eb), .val (.int ec), .val (.int mA), .val (.int c1), .val (.int mB), .val (.int c2), .val (.int mC), .val (.ref b6), .unset, .unset, .unset, .unset] [(.ref b6)]))
                      refine own_via (fun t k => XS.iload XJ136_11.here hx rfl (hb hby at_143) rfl k) ?_
                      show OwnEnds p.tables e below _ (TJ136_11.setTop (mkF m 145 #[.val (.int p0), .val (.int p1), .val (.int p2), .val (.int p3), .val (.int ea), .val (.int eb), .val (.int ec), .val (.int mA), .val (.int c1), .val (.int mB), .val (.int c2), .val (.int mC), .val (.ref b6), .unset, .unset, .unset, .unset] [(.int ec), (.ref b6)]))
                      obtain ⟨cq30, kq30, q30a, q30b, q30c⟩ := isOf hZ eJ136_11 E_b6
                      obtain ⟨_, _, ⟨T30, L30, k30, n30⟩, -, X30, ⟨Lc30, hQ30, l30, y30, z30⟩, st30⟩ := XJ136_11.virtualBack hx (y := (⟨"com/example/libhorn/libhorn/measures/FoundMarks", "mark", "(I)V"⟩ : MethodName)) (z := (⟨"com/example/libhorn/libhorn/measures/FoundMarks", "mark", "(I)V"⟩ : MethodName)) hown (mvT hZ (hw _ (List.mem_of_getElem? (i := 14) rfl))) (mvT hZ (hw _ (List.mem_of_getElem? (i := 15) rfl))) (notFace_of_selects (args := #[]) (mvT hZ (hw _ (List.mem_of_getElem? (i := 17) rfl)))) (mvT hZ (hw _ (List.mem_of_getElem? (i := 17) rfl))) (mvT hZ (hw _ (List.mem_of_getElem? (i := 16) rfl))) (by decide) (backOf (W := 0) (rm3 l Z aw hw [] b6 ec rb r2 v0 v1 v2 v3 hJ136_11 n0 ZsJ136_11 E_b6 F_round_b6 F_rounds_b6 A_rb (by rw [h_ec]; exact own_3 _) g_rb ne_b6_rb) hZ (hw _ (List.mem_of_getElem? (i := 18) rfl)) (hw _ (List.mem_of_getElem? (i := 2) rfl)) (by decide) (by decide)) q30a q30c (g := (mkF m 145 #[.val (.int p0), .val (.int p1), .val (.int p2), .val (.int p3), .val (.int ea), .val (.int eb), .val (.int ec), .val (.int mA), .val (.int c1), .val (.int mB), .val (.int c2), .val (.int mC), .val (.ref b6), .unset, .unset, .unset, .unset] [(.int ec), (.ref b6)])) rfl (by rw [hml]; rfl) (Steps.refl _) (argsL := [(.int ec)]) (rest := []) (lenOf pd_0 rfl) rfl (by show 2 * 0 + _ ≤ _; exact Nat.le_of_eq rfl) (hb hby at_145) (fun _ _ => ⟨rfl, eJ136_11, (by decide : 2 + 0 ≤ _), (by decide : 6 + 0 ≤ _)⟩)
                      dsimp only [Pt.U, Pt.locs, Pt.cells, Pt.slots] at X30 l30 y30 z30 st30 hQ30
                      subst l30 y30 z30
                      obtain ⟨h30, e30⟩ : ∃ z, T30.heap = z := ⟨_, rfl⟩
                      rw [e30] at hQ30
                      obtain ⟨rfl, Nq30, K30, Y30_0⟩ := hQ30
                      have N30 := Fr.app NJ136_11 Nq30
                      replace E_b6 := E_b6.keep K30
                      replace F_round_b6 := F_round_b6.keep K30 (ninS ne_b6_rb nin0)
                      replace F_rounds_b6 := F_rounds_b6.keep K30 (ninS ne_b6_rb nin0)
                      have A_rb : AL Z h30 rb .int [(.int (own_m (0 : Int32) ec r2 v0)), (.int (own_m (1 : Int32) ec r2 v1)), (.int (own_m (2 : Int32) ec r2 v2)), (.int (own_m (3 : Int32) ec r2 v3))] := Y30_0
                      have Zs_30 : n0 ≤ _ := Nat.le_trans ZsJ136_11 K30.1
                      refine own_of st30 ?_
                      show OwnEnds p.tables e below _ (T30.setTop (mkF m 148 #[.val (.int p0), .val (.int p1), .val (.int p2), .val (.int p3), .val (.int ea), .val (.int eb), .val (.int ec), .val (.int mA), .val (.int c1), .val (.int mB), .val (.int c2), .val (.int mC), .val (.ref b6), .unset, .unset, .unset, .unset] []))
                      exact J148_12 _ _ _ _ _ _ _ (own_wide X30 (by decide) (by decide)) e30 N30 Zs_30 E_b6 F_round_b6 F_rounds_b6 A_rb (by simp only [if_neg hc138_29]) (by simp only [if_neg hc138_29]) (by simp only [if_neg hc138_29]) (by simp only [if_neg hc138_29])
                  by_cases hc128_31 : c2 = (0 : Int32)
                  · skip
                    refine own_via (fun t k => XS.ifYes XJ126_10.here hx rfl (pc0 := 128) (pc' := 136) rfl (hb hby at_128) rfl ((if0 _ _).trans (teq hc128_31).1) (by decide) (by decide) k) ?_
                    show OwnEnds p.tables e below _ (TJ126_10.setTop (mkF m 136 #[.val (.int p0), .val (.int p1), .val (.int p2), .val (.int p3), .val (.int ea), .val (.int eb), .val (.int ec), .val (.int mA), .val (.int c1), .val (.int mB), .val (.int c2), .val (.int mC), .val (.ref b6), .unset, .unset, .unset, .unset] []))
                    exact J136_11 _ _ _ _ (own_wide XJ126_10 (by decide) (by decide)) eJ126_10 NJ126_10 ZsJ126_10 E_b6 F_round_b6 F_rounds_b6 A_rb (by simp only [if_pos hc128_31])
                  · skip
                    refine own_via (fun t k => XS.ifNo XJ126_10.here hx rfl (hb hby at_128) rfl ((if0 _ _).trans (feq hc128_31).1) k) ?_
                    show OwnEnds p.tables e below _ (TJ126_10.setTop (mkF m 131 #[.val (.int p0), .val (.int p1), .val (.int p2), .val (.int p3), .val (.int ea), .val (.int eb), .val (.int ec), .val (.int mA), .val (.int c1), .val (.int mB), .val (.int c2), .val (.int mC), .val (.ref b6), .unset, .unset, .unset, .unset] []))
                    refine own_via (fun t k => XS.aload XJ126_10.here hx rfl (hb hby at_131) rfl rfl k) ?_
                    show OwnEnds p.tables e below _ (TJ126_10.setTop (mkF m 133 #[.val (.int p0), .val (.int p1), .val (.int p2), .val (.int p3), .val (.int ea), .val (.int eb), .val (.int ec), .val (.int mA), .val (.int c1), .val (.int mB), .val (.int c2), .val (.int mC), .val (.ref b6), .unset, .unset, .unset, .unset] [(.ref b6)]))
                    obtain ⟨cq32, kq32, q32a, q32b, q32c⟩ := isOf hZ eJ126_10 E_b6
                    obtain ⟨_, _, ⟨T32, L32, k32, n32⟩, -, X32, ⟨Lc32, hQ32, l32, y32, z32⟩, st32⟩ := XJ126_10.virtualBack hx (y := (⟨"com/example/libhorn/libhorn/measures/FoundMarks", "clear", "()V"⟩ : MethodName)) (z := (⟨"com/example/libhorn/libhorn/measures/FoundMarks", "clear", "()V"⟩ : MethodName)) hown (mvT hZ (hw _ (List.mem_of_getElem? (i := 28) rfl))) (mvT hZ (hw _ (List.mem_of_getElem? (i := 29) rfl))) (notFace_of_selects (args := #[]) (mvT hZ (hw _ (List.mem_of_getElem? (i := 31) rfl)))) (mvT hZ (hw _ (List.mem_of_getElem? (i := 31) rfl))) (mvT hZ (hw _ (List.mem_of_getElem? (i := 30) rfl))) (by decide) (backOf (W := 0) (rm6 l Z aw hw [] b6 rb r1 hJ126_10 n0 ZsJ126_10 E_b6 F_round_b6 F_rounds_b6 g_b6 (own_r1 h_r1)) hZ (hw _ (List.mem_of_getElem? (i := 32) rfl)) (hw _ (List.mem_of_getElem? (i := 2) rfl)) (by decide) (by decide)) q32a q32c (g := (mkF m 133 #[.val (.int p0), .val (.int p1), .val (.int p2), .val (.int p3), .val (.int ea), .val (.int eb), .val (.int ec), .val (.int mA), .val (.int c1), .val (.int mB), .val (.int c2), .val (.int mC), .val (.ref b6), .unset, .unset, .unset, .unset] [(.ref b6)])) rfl (by rw [hml]; rfl) (Steps.refl _) (argsL := []) (rest := []) (lenOf pd_1 rfl) rfl (by show 2 * 0 + _ ≤ _; exact Nat.le_of_eq rfl) (hb hby at_133) (fun _ _ => ⟨rfl, eJ126_10, (by decide : 2 + 0 ≤ _), (by decide : 6 + 0 ≤ _)⟩)
                    dsimp only [Pt.U, Pt.locs, Pt.cells, Pt.slots] at X32 l32 y32 z32 st32 hQ32
                    subst l32 y32 z32
                    obtain ⟨h32, e32⟩ : ∃ z, T32.heap = z := ⟨_, rfl⟩
                    rw [e32] at hQ32
                    obtain ⟨rfl, Nq32, K32, Y32_0, Y32_1, Y32_2⟩ := hQ32
                    have N32 := Fr.app NJ126_10 Nq32
                    replace E_b6 := E_b6.keep K32
                    replace A_rb := A_rb.keep K32 (ninS (Ne.symm ne_b6_rb) nin0)
                    have F_round_b6 : Fld Z h32 b6 "com/example/libhorn/libhorn/measures/FoundMarks" "round" "I" (.int (r1 + (1 : Int32))) := Y32_1
                    have F_rounds_b6 : Fld Z h32 b6 "com/example/libhorn/libhorn/measures/FoundMarks" "rounds" "[I" (.ref rb) := Y32_2
                    have Zs_32 : n0 ≤ _ := Nat.le_trans ZsJ126_10 K32.1
                    refine own_of st32 ?_
                    show OwnEnds p.tables e below _ (T32.setTop (mkF m 136 #[.val (.int p0), .val (.int p1), .val (.int p2), .val (.int p3), .val (.int ea), .val (.int eb), .val (.int ec), .val (.int mA), .val (.int c1), .val (.int mB), .val (.int c2), .val (.int mC), .val (.ref b6), .unset, .unset, .unset, .unset] []))
                    exact J136_11 _ _ _ _ (own_wide X32 (by decide) (by decide)) e32 N32 Zs_32 E_b6 F_round_b6 F_rounds_b6 A_rb (by simp only [if_neg hc128_31])
                by_cases hc116_33 : mB = (0 : Int32)
                · skip
                  refine own_via (fun t k => XS.ifYes XJ114_9.here hx rfl (pc0 := 116) (pc' := 126) rfl (hb hby at_116) rfl ((if0 _ _).trans (teq hc116_33).1) (by decide) (by decide) k) ?_
                  show OwnEnds p.tables e below _ (TJ114_9.setTop (mkF m 126 #[.val (.int p0), .val (.int p1), .val (.int p2), .val (.int p3), .val (.int ea), .val (.int eb), .val (.int ec), .val (.int mA), .val (.int c1), .val (.int mB), .val (.int c2), .val (.int mC), .val (.ref b6), .unset, .unset, .unset, .unset] []))
                  exact J126_10 _ _ _ _ _ _ _ (own_wide XJ114_9 (by decide) (by decide)) eJ114_9 NJ114_9 ZsJ114_9 E_b6 F_round_b6 F_rounds_b6 A_rb (by simp only [if_pos hc116_33]) (by simp only [if_pos hc116_33]) (by simp only [if_pos hc116_33]) (by simp only [if_pos hc116_33])
                · skip
                  refine own_via (fun t k => XS.ifNo XJ114_9.here hx rfl (hb hby at_116) rfl ((if0 _ _).trans (feq hc116_33).1) k) ?_
                  show OwnEnds p.tables e below _ (TJ114_9.setTop (mkF m 119 #[.val (.int p0), .val (.int p1), .val (.int p2), .val (.int p3), .val (.int ea), .val (.int eb), .val (.int ec), .val (.int mA), .val (.int c1), .val (.int mB), .val (.int c2), .val (.int mC), .val (.ref b6), .unset, .unset, .unset, .unset] []))
                  refine own_via (fun t k => XS.aload XJ114_9.here hx rfl (hb hby at_119) rfl rfl k) ?_
                  show OwnEnds p.tables e below _ (TJ114_9.setTop (mkF m 121 #[.val (.int p0), .val (.int p1), .val (.int p2), .val (.int p3), .val (.int ea), .val (.int eb), .val (.int ec), .val (.int mA), .val (.int c1), .val (.int mB), .val (.int c2), .val (.int mC), .val (.ref b6), .unset, .unset, .unset, .unset] [(.ref b6)]))
                  refine own_via (fun t k => XS.iload XJ114_9.here hx rfl (hb hby at_121) rfl k) ?_
                  show OwnEnds p.tables e below _ (TJ114_9.setTop (mkF m 123 #[.val (.int p0), .val (.int p1), .val (.int p2), .val (.int p3), .val (.int ea), .val (.int eb), .val (.int ec), .val (.int mA), .val (.int c1), .val (.int mB), .val (.int c2), .val (.int mC), .val (.ref b6), .unset, .unset, .unset, .unset] [(.int eb), (.ref b6)]))
                  obtain ⟨cq34, kq34, q34a, q34b, q34c⟩ := isOf hZ eJ114_9 E_b6
                  obtain ⟨_, _, ⟨T34, L34, k34, n34⟩, -, X34, ⟨Lc34, hQ34, l34, y34, z34⟩, st34⟩ := XJ114_9.virtualBack hx (y := (⟨"com/example/libhorn/libhorn/measures/FoundMarks", "mark", "(I)V"⟩ : MethodName)) (z := (⟨"com/example/libhorn/libhorn/measures/FoundMarks", "mark", "(I)V"⟩ : MethodName)) hown (mvT hZ (hw _ (List.mem_of_getElem? (i := 14) rfl))) (mvT hZ (hw _ (List.mem_of_getElem? (i := 15) rfl))) (notFace_of_selects (args := #[]) (mvT hZ (hw _ (List.mem_of_getElem? (i := 17) rfl)))) (mvT hZ (hw _ (List.mem_of_getElem? (i := 17) rfl))) (mvT hZ (hw _ (List.mem_of_getElem? (i := 16) rfl))) (by decide) (backOf (W := 0) (rm3 l Z aw hw [] b6 eb rb r1 u0 u1 u2 u3 hJ114_9 n0 ZsJ114_9 E_b6 F_round_b6 F_rounds_b6 A_rb (by rw [h_eb]; exact own_3 _) g_rb ne_b6_rb) hZ (hw _ (List.mem_of_getElem? (i := 18) rfl)) (hw _ (List.mem_of_getElem? (i := 2) rfl)) (by decide) (by decide)) q34a q34c (g := (mkF m 123 #[.val (.int p0), .val (.int p1), .val (.int p2), .val (.int p3), .val (.int ea), .val (.int eb), .val (.int ec), .val (.int mA), .val (.int c1), .val (.int mB), .val (.int c2), .val (.int mC), .val (.ref b6), .unset, .unset, .unset, .unset] [(.int eb), (.ref b6)])) rfl (by rw [hml]; rfl) (Steps.refl _) (argsL := [(.int eb)]) (rest := []) (lenOf pd_0 rfl) rfl (by show 2 * 0 + _ ≤ _; exact Nat.le_of_eq rfl) (hb hby at_123) (fun _ _ => ⟨rfl, eJ114_9, (by decide : 2 + 0 ≤ _), (by decide : 6 + 0 ≤ _)⟩)
                  dsimp only [Pt.U, Pt.locs, Pt.cells, Pt.slots] at X34 l34 y34 z34 st34 hQ34
                  subst l34 y34 z34
                  obtain ⟨h34, e34⟩ : ∃ z, T34.heap = z := ⟨_, rfl⟩
                  rw [e34] at hQ34
                  obtain ⟨rfl, Nq34, K34, Y34_0⟩ := hQ34
                  have N34 := Fr.app NJ114_9 Nq34
                  replace E_b6 := E_b6.keep K34
                  replace F_round_b6 := F_round_b6.keep K34 (ninS ne_b6_rb nin0)
                  replace F_rounds_b6 := F_rounds_b6.keep K34 (ninS ne_b6_rb nin0)
                  have A_rb : AL Z h34 rb .int [(.int (own_m (0 : Int32) eb r1 u0)), (.int (own_m (1 : Int32) eb r1 u1)), (.int (own_m (2 : Int32) eb r1 u2)), (.int (own_m (3 : Int32) eb r1 u3))] := Y34_0
                  have Zs_34 : n0 ≤ _ := Nat.le_trans ZsJ114_9 K34.1
                  refine own_of st34 ?_
                  show OwnEnds p.tables e below _ (T34.setTop (mkF m 126 #[.val (.int p0), .val (.int p1), .val (.int p2), .val (.int p3), .val (.int ea), .val (.int eb), .val (.int ec), .val (.int mA), .val (.int c1), .val (.int mB), .val (.int c2), .val (.int mC), .val (.ref b6), .unset, .unset, .unset, .unset] []))
                  exact J126_10 _ _ _ _ _ _ _ (own_wide X34 (by decide) (by decide)) e34 N34 Zs_34 E_b6 F_round_b6 F_rounds_b6 A_rb (by simp only [if_neg hc116_33]) (by simp only [if_neg hc116_33]) (by simp only [if_neg hc116_33]) (by simp only [if_neg hc116_33])
              by_cases hc106_35 : c1 = (0 : Int32)
              · skip
                refine own_via (fun t k => XS.ifYes XJ104_8.here hx rfl (pc0 := 106) (pc' := 114) rfl (hb hby at_106) rfl ((if0 _ _).trans (teq hc106_35).1) (by decide) (by decide) k) ?_
                show OwnEnds p.tables e below _ (TJ104_8.setTop (mkF m 114 #[.val (.int p0), .val (.int p1), .val (.int p2), .val (.int p3), .val (.int ea), .val (.int eb), .val (.int ec), .val (.int mA), .val (.int c1), .val (.int mB), .val (.int c2), .val (.int mC), .val (.ref b6), .unset, .unset, .unset, .unset] []))
                exact J114_9 _ _ _ _ (own_wide XJ104_8 (by decide) (by decide)) eJ104_8 NJ104_8 ZsJ104_8 E_b6 F_round_b6 F_rounds_b6 A_rb (by simp only [if_pos hc106_35])
              · skip
                refine own_via (fun t k => XS.ifNo XJ104_8.here hx rfl (hb hby at_106) rfl ((if0 _ _).trans (feq hc106_35).1) k) ?_
                show OwnEnds p.tables e below _ (TJ104_8.setTop (mkF m 109 #[.val (.int p0), .val (.int p1), .val (.int p2), .val (.int p3), .val (.int ea), .val (.int eb), .val (.int ec), .val (.int mA), .val (.int c1), .val (.int mB), .val (.int c2), .val (.int mC), .val (.ref b6), .unset, .unset, .unset, .unset] []))
                refine own_via (fun t k => XS.aload XJ104_8.here hx rfl (hb hby at_109) rfl rfl k) ?_
                show OwnEnds p.tables e below _ (TJ104_8.setTop (mkF m 111 #[.val (.int p0), .val (.int p1), .val (.int p2), .val (.int p3), .val (.int ea), .val (.int eb), .val (.int ec), .val (.int mA), .val (.int c1), .val (.int mB), .val (.int c2), .val (.int mC), .val (.ref b6), .unset, .unset, .unset, .unset] [(.ref b6)]))
                obtain ⟨cq36, kq36, q36a, q36b, q36c⟩ := isOf hZ eJ104_8 E_b6
                obtain ⟨_, _, ⟨T36, L36, k36, n36⟩, -, X36, ⟨Lc36, hQ36, l36, y36, z36⟩, st36⟩ := XJ104_8.virtualBack hx (y := (⟨"com/example/libhorn/libhorn/measures/FoundMarks", "clear", "()V"⟩ : MethodName)) (z := (⟨"com/example/libhorn/libhorn/measures/FoundMarks", "clear", "()V"⟩ : MethodName)) hown (mvT hZ (hw _ (List.mem_of_getElem? (i := 28) rfl))) (mvT hZ (hw _ (List.mem_of_getElem? (i := 29) rfl))) (notFace_of_selects (args := #[]) (mvT hZ (hw _ (List.mem_of_getElem? (i := 31) rfl)))) (mvT hZ (hw _ (List.mem_of_getElem? (i := 31) rfl))) (mvT hZ (hw _ (List.mem_of_getElem? (i := 30) rfl))) (by decide) (backOf (W := 0) (rm6 l Z aw hw [] b6 rb (1 : Int32) hJ104_8 n0 ZsJ104_8 E_b6 F_round_b6 F_rounds_b6 g_b6 (by decide)) hZ (hw _ (List.mem_of_getElem? (i := 32) rfl)) (hw _ (List.mem_of_getElem? (i := 2) rfl)) (by decide) (by decide)) q36a q36c (g := (mkF m 111 #[.val (.int p0), .val (.int p1), .val (.int p2), .val (.int p3), .val (.int ea), .val (.int eb), .val (.int ec), .val (.int mA), .val (.int c1), .val (.int mB), .val (.int c2), .val (.int mC), .val (.ref b6), .unset, .unset, .unset, .unset] [(.ref b6)])) rfl (by rw [hml]; rfl) (Steps.refl _) (argsL := []) (rest := []) (lenOf pd_1 rfl) rfl (by show 2 * 0 + _ ≤ _; exact Nat.le_of_eq rfl) (hb hby at_111) (fun _ _ => ⟨rfl, eJ104_8, (by decide : 2 + 0 ≤ _), (by decide : 6 + 0 ≤ _)⟩)
                dsimp only [Pt.U, Pt.locs, Pt.cells, Pt.slots] at X36 l36 y36 z36 st36 hQ36
                subst l36 y36 z36
                obtain ⟨h36, e36⟩ : ∃ z, T36.heap = z := ⟨_, rfl⟩
                rw [e36] at hQ36
                obtain ⟨rfl, Nq36, K36, Y36_0, Y36_1, Y36_2⟩ := hQ36
                have N36 := Fr.app NJ104_8 Nq36
                replace E_b6 := E_b6.keep K36
                replace A_rb := A_rb.keep K36 (ninS (Ne.symm ne_b6_rb) nin0)
                have F_round_b6 : Fld Z h36 b6 "com/example/libhorn/libhorn/measures/FoundMarks" "round" "I" (.int ((1 : Int32) + (1 : Int32))) := Y36_1
                have F_rounds_b6 : Fld Z h36 b6 "com/example/libhorn/libhorn/measures/FoundMarks" "rounds" "[I" (.ref rb) := Y36_2
                have Zs_36 : n0 ≤ _ := Nat.le_trans ZsJ104_8 K36.1
                refine own_of st36 ?_
                show OwnEnds p.tables e below _ (T36.setTop (mkF m 114 #[.val (.int p0), .val (.int p1), .val (.int p2), .val (.int p3), .val (.int ea), .val (.int eb), .val (.int ec), .val (.int mA), .val (.int c1), .val (.int mB), .val (.int c2), .val (.int mC), .val (.ref b6), .unset, .unset, .unset, .unset] []))
                exact J114_9 _ _ _ _ (own_wide X36 (by decide) (by decide)) e36 N36 Zs_36 E_b6 F_round_b6 F_rounds_b6 A_rb (by simp only [if_neg hc106_35])
            by_cases hc94_37 : mA = (0 : Int32)
            · skip
              refine own_via (fun t k => XS.ifYes X7.here hx rfl (pc0 := 94) (pc' := 104) rfl (hb hby at_94) rfl ((if0 _ _).trans (teq hc94_37).1) (by decide) (by decide) k) ?_
              show OwnEnds p.tables e below _ (T7.setTop (mkF m 104 #[.val (.int p0), .val (.int p1), .val (.int p2), .val (.int p3), .val (.int ea), .val (.int eb), .val (.int ec), .val (.int mA), .val (.int c1), .val (.int mB), .val (.int c2), .val (.int mC), .val (.ref b6), .unset, .unset, .unset, .unset] []))
              exact J104_8 _ _ _ _ _ _ _ (own_wide X7 (by decide) (by decide)) e7 N7 Zs_7 E_b6 F_round_b6 F_rounds_b6 A_rb (by simp only [if_pos hc94_37]) (by simp only [if_pos hc94_37]) (by simp only [if_pos hc94_37]) (by simp only [if_pos hc94_37])
            · skip
              refine own_via (fun t k => XS.ifNo X7.here hx rfl (hb hby at_94) rfl ((if0 _ _).trans (feq hc94_37).1) k) ?_
              show OwnEnds p.tables e below _ (T7.setTop (mkF m 97 #[.val (.int p0), .val (.int p1), .val (.int p2), .val (.int p3), .val (.int ea), .val (.int eb), .val (.int ec), .val (.int mA), .val (.int c1), .val (.int mB), .val (.int c2), .val (.int mC), .val (.ref b6), .unset, .unset, .unset, .unset] []))
              refine own_via (fun t k => XS.aload X7.here hx rfl (hb hby at_97) rfl rfl k) ?_
              show OwnEnds p.tables e below _ (T7.setTop (mkF m 99 #[.val (.int p0), .val (.int p1), .val (.int p2), .val (.int p3), .val (.int ea), .val (.int eb), .val (.int ec), .val (.int mA), .val (.int c1), .val (.int mB), .val (.int c2), .val (.int mC), .val (.ref b6), .unset, .unset, .unset, .unset] [(.ref b6)]))
              refine own_via (fun t k => XS.iload X7.here hx rfl (hb hby at_99) rfl k) ?_
              show OwnEnds p.tables e below _ (T7.setTop (mkF m 101 #[.val (.int p0), .val (.int p1), .val (.int p2), .val (.int p3), .val (.int ea), .val (.int eb), .val (.int ec), .val (.int mA), .val (.int c1), .val (.int mB), .val (.int c2), .val (.int mC), .val (.ref b6), .unset, .unset, .unset, .unset] [(.int ea), (.ref b6)]))
              obtain ⟨cq38, kq38, q38a, q38b, q38c⟩ := isOf hZ e7 E_b6
              obtain ⟨_, _, ⟨T38, L38, k38, n38⟩, -, X38, ⟨Lc38, hQ38, l38, y38, z38⟩, st38⟩ := X7.virtualBack hx (y := (⟨"com/example/libhorn/libhorn/measures/FoundMarks", "mark", "(I)V"⟩ : MethodName)) (z := (⟨"com/example/libhorn/libhorn/measures/FoundMarks", "mark", "(I)V"⟩ : MethodName)) hown (mvT hZ (hw _ (List.mem_of_getElem? (i := 14) rfl))) (mvT hZ (hw _ (List.mem_of_getElem? (i := 15) rfl))) (notFace_of_selects (args := #[]) (mvT hZ (hw _ (List.mem_of_getElem? (i := 17) rfl)))) (mvT hZ (hw _ (List.mem_of_getElem? (i := 17) rfl))) (mvT hZ (hw _ (List.mem_of_getElem? (i := 16) rfl))) (by decide) (backOf (W := 0) (rm3 l Z aw hw [] b6 ea rb (1 : Int32) (0 : Int32) (0 : Int32) (0 : Int32) (0 : Int32) h7 n0 Zs_7 E_b6 F_round_b6 F_rounds_b6 A_rb (by rw [h_ea]; exact own_3 _) g_rb ne_b6_rb) hZ (hw _ (List.mem_of_getElem? (i := 18) rfl)) (hw _ (List.mem_of_getElem? (i := 2) rfl)) (by decide) (by decide)) q38a q38c (g := (mkF m 101 #[.val (.int p0), .val (.int p1), .val (.int p2), .val (.int p3), .val (.int ea), .val (.int eb), .val (.int ec), .val (.int mA), .val (.int c1), .val (.int mB), .val (.int c2), .val (.int mC), .val (.ref b6), .unset, .unset, .unset, .unset] [(.int ea), (.ref b6)])) rfl (by rw [hml]; rfl) (Steps.refl _) (argsL := [(.int ea)]) (rest := []) (lenOf pd_0 rfl) rfl (by show 2 * 0 + _ ≤ _; exact Nat.le_of_eq rfl) (hb hby at_101) (fun _ _ => ⟨rfl, e7, (by decide : 2 + 0 ≤ _), (by decide : 6 + 0 ≤ _)⟩)
              dsimp only [Pt.U, Pt.locs, Pt.cells, Pt.slots] at X38 l38 y38 z38 st38 hQ38
              subst l38 y38 z38
              obtain ⟨h38, e38⟩ : ∃ z, T38.heap = z := ⟨_, rfl⟩
              rw [e38] at hQ38
              obtain ⟨rfl, Nq38, K38, Y38_0⟩ := hQ38
              have N38 := Fr.app N7 Nq38
              replace E_b6 := E_b6.keep K38
              replace F_round_b6 := F_round_b6.keep K38 (ninS ne_b6_rb nin0)
              replace F_rounds_b6 := F_rounds_b6.keep K38 (ninS ne_b6_rb nin0)
              have A_rb : AL Z h38 rb .int [(.int (own_m (0 : Int32) ea (1 : Int32) (0 : Int32))), (.int (own_m (1 : Int32) ea (1 : Int32) (0 : Int32))), (.int (own_m (2 : Int32) ea (1 : Int32) (0 : Int32))), (.int (own_m (3 : Int32) ea (1 : Int32) (0 : Int32)))] := Y38_0
              have Zs_38 : n0 ≤ _ := Nat.le_trans Zs_7 K38.1
              refine own_of st38 ?_
              show OwnEnds p.tables e below _ (T38.setTop (mkF m 104 #[.val (.int p0), .val (.int p1), .val (.int p2), .val (.int p3), .val (.int ea), .val (.int eb), .val (.int ec), .val (.int mA), .val (.int c1), .val (.int mB), .val (.int c2), .val (.int mC), .val (.ref b6), .unset, .unset, .unset, .unset] []))
              exact J104_8 _ _ _ _ _ _ _ (own_wide X38 (by decide) (by decide)) e38 N38 Zs_38 E_b6 F_round_b6 F_rounds_b6 A_rb (by simp only [if_neg hc94_37]) (by simp only [if_neg hc94_37]) (by simp only [if_neg hc94_37]) (by simp only [if_neg hc94_37])
          by_cases hc72_39 : (p3 &&& (16 : Int32)) = (0 : Int32)
          · skip
            refine own_via (fun t k => XS.ifYes X0.here hx rfl (pc0 := 72) (pc' := 79) rfl (hb hby at_72) rfl ((if0 _ _).trans (teq hc72_39).1) (by decide) (by decide) k) ?_
            show OwnEnds p.tables e below _ (s₁.setTop (mkF m 79 #[.val (.int p0), .val (.int p1), .val (.int p2), .val (.int p3), .val (.int ea), .val (.int eb), .val (.int ec), .val (.int mA), .val (.int c1), .val (.int mB), .val (.int c2), .unset, .unset, .unset, .unset, .unset, .unset] []))
            refine own_via (fun t k => XS.iconst X0.here hx rfl (hb hby at_79) k) ?_
            show OwnEnds p.tables e below _ (s₁.setTop (mkF m 80 #[.val (.int p0), .val (.int p1), .val (.int p2), .val (.int p3), .val (.int ea), .val (.int eb), .val (.int ec), .val (.int mA), .val (.int c1), .val (.int mB), .val (.int c2), .unset, .unset, .unset, .unset, .unset, .unset] [(.int (0 : Int32))]))
            exact J80_5 _ (by simp only [if_pos hc72_39])
          · skip
            refine own_via (fun t k => XS.ifNo X0.here hx rfl (hb hby at_72) rfl ((if0 _ _).trans (feq hc72_39).1) k) ?_
            show OwnEnds p.tables e below _ (s₁.setTop (mkF m 75 #[.val (.int p0), .val (.int p1), .val (.int p2), .val (.int p3), .val (.int ea), .val (.int eb), .val (.int ec), .val (.int mA), .val (.int c1), .val (.int mB), .val (.int c2), .unset, .unset, .unset, .unset, .unset, .unset] []))
            refine own_via (fun t k => XS.iconst X0.here hx rfl (hb hby at_75) k) ?_
            show OwnEnds p.tables e below _ (s₁.setTop (mkF m 76 #[.val (.int p0), .val (.int p1), .val (.int p2), .val (.int p3), .val (.int ea), .val (.int eb), .val (.int ec), .val (.int mA), .val (.int c1), .val (.int mB), .val (.int c2), .unset, .unset, .unset, .unset, .unset, .unset] [(.int (1 : Int32))]))
            refine own_via (fun t k => XS.goto X0.here hx rfl (pc0 := 76) (pc' := 80) rfl (hb hby at_76) (by decide) (by decide) k) ?_
            show OwnEnds p.tables e below _ (s₁.setTop (mkF m 80 #[.val (.int p0), .val (.int p1), .val (.int p2), .val (.int p3), .val (.int ea), .val (.int eb), .val (.int ec), .val (.int mA), .val (.int c1), .val (.int mB), .val (.int c2), .unset, .unset, .unset, .unset, .unset, .unset] [(.int (1 : Int32))]))
            exact J80_5 _ (by simp only [if_neg hc72_39])
        by_cases hc58_40 : (p3 &&& (8 : Int32)) = (0 : Int32)
        · skip
          refine own_via (fun t k => XS.ifYes X0.here hx rfl (pc0 := 58) (pc' := 65) rfl (hb hby at_58) rfl ((if0 _ _).trans (teq hc58_40).1) (by decide) (by decide) k) ?_
          show OwnEnds p.tables e below _ (s₁.setTop (mkF m 65 #[.val (.int p0), .val (.int p1), .val (.int p2), .val (.int p3), .val (.int ea), .val (.int eb), .val (.int ec), .val (.int mA), .val (.int c1), .val (.int mB), .unset, .unset, .unset, .unset, .unset, .unset, .unset] []))
          refine own_via (fun t k => XS.iconst X0.here hx rfl (hb hby at_65) k) ?_
          show OwnEnds p.tables e below _ (s₁.setTop (mkF m 66 #[.val (.int p0), .val (.int p1), .val (.int p2), .val (.int p3), .val (.int ea), .val (.int eb), .val (.int ec), .val (.int mA), .val (.int c1), .val (.int mB), .unset, .unset, .unset, .unset, .unset, .unset, .unset] [(.int (0 : Int32))]))
          exact J66_4 _ (by simp only [if_pos hc58_40])
        · skip
          refine own_via (fun t k => XS.ifNo X0.here hx rfl (hb hby at_58) rfl ((if0 _ _).trans (feq hc58_40).1) k) ?_
          show OwnEnds p.tables e below _ (s₁.setTop (mkF m 61 #[.val (.int p0), .val (.int p1), .val (.int p2), .val (.int p3), .val (.int ea), .val (.int eb), .val (.int ec), .val (.int mA), .val (.int c1), .val (.int mB), .unset, .unset, .unset, .unset, .unset, .unset, .unset] []))
          refine own_via (fun t k => XS.iconst X0.here hx rfl (hb hby at_61) k) ?_
          show OwnEnds p.tables e below _ (s₁.setTop (mkF m 62 #[.val (.int p0), .val (.int p1), .val (.int p2), .val (.int p3), .val (.int ea), .val (.int eb), .val (.int ec), .val (.int mA), .val (.int c1), .val (.int mB), .unset, .unset, .unset, .unset, .unset, .unset, .unset] [(.int (1 : Int32))]))
          refine own_via (fun t k => XS.goto X0.here hx rfl (pc0 := 62) (pc' := 66) rfl (hb hby at_62) (by decide) (by decide) k) ?_
          show OwnEnds p.tables e below _ (s₁.setTop (mkF m 66 #[.val (.int p0), .val (.int p1), .val (.int p2), .val (.int p3), .val (.int ea), .val (.int eb), .val (.int ec), .val (.int mA), .val (.int c1), .val (.int mB), .unset, .unset, .unset, .unset, .unset, .unset, .unset] [(.int (1 : Int32))]))
          exact J66_4 _ (by simp only [if_neg hc58_40])
      by_cases hc44_41 : (p3 &&& (4 : Int32)) = (0 : Int32)
      · skip
        refine own_via (fun t k => XS.ifYes X0.here hx rfl (pc0 := 44) (pc' := 51) rfl (hb hby at_44) rfl ((if0 _ _).trans (teq hc44_41).1) (by decide) (by decide) k) ?_
        show OwnEnds p.tables e below _ (s₁.setTop (mkF m 51 #[.val (.int p0), .val (.int p1), .val (.int p2), .val (.int p3), .val (.int ea), .val (.int eb), .val (.int ec), .val (.int mA), .val (.int c1), .unset, .unset, .unset, .unset, .unset, .unset, .unset, .unset] []))
        refine own_via (fun t k => XS.iconst X0.here hx rfl (hb hby at_51) k) ?_
        show OwnEnds p.tables e below _ (s₁.setTop (mkF m 52 #[.val (.int p0), .val (.int p1), .val (.int p2), .val (.int p3), .val (.int ea), .val (.int eb), .val (.int ec), .val (.int mA), .val (.int c1), .unset, .unset, .unset, .unset, .unset, .unset, .unset, .unset] [(.int (0 : Int32))]))
        exact J52_3 _ (by simp only [if_pos hc44_41])
      · skip
        refine own_via (fun t k => XS.ifNo X0.here hx rfl (hb hby at_44) rfl ((if0 _ _).trans (feq hc44_41).1) k) ?_
        show OwnEnds p.tables e below _ (s₁.setTop (mkF m 47 #[.val (.int p0), .val (.int p1), .val (.int p2), .val (.int p3), .val (.int ea), .val (.int eb), .val (.int ec), .val (.int mA), .val (.int c1), .unset, .unset, .unset, .unset, .unset, .unset, .unset, .unset] []))
        refine own_via (fun t k => XS.iconst X0.here hx rfl (hb hby at_47) k) ?_
        show OwnEnds p.tables e below _ (s₁.setTop (mkF m 48 #[.val (.int p0), .val (.int p1), .val (.int p2), .val (.int p3), .val (.int ea), .val (.int eb), .val (.int ec), .val (.int mA), .val (.int c1), .unset, .unset, .unset, .unset, .unset, .unset, .unset, .unset] [(.int (1 : Int32))]))
        refine own_via (fun t k => XS.goto X0.here hx rfl (pc0 := 48) (pc' := 52) rfl (hb hby at_48) (by decide) (by decide) k) ?_
        show OwnEnds p.tables e below _ (s₁.setTop (mkF m 52 #[.val (.int p0), .val (.int p1), .val (.int p2), .val (.int p3), .val (.int ea), .val (.int eb), .val (.int ec), .val (.int mA), .val (.int c1), .unset, .unset, .unset, .unset, .unset, .unset, .unset, .unset] [(.int (1 : Int32))]))
        exact J52_3 _ (by simp only [if_neg hc44_41])
    by_cases hc31_42 : (p3 &&& (2 : Int32)) = (0 : Int32)
    · skip
      refine own_via (fun t k => XS.ifYes X0.here hx rfl (pc0 := 31) (pc' := 38) rfl (hb hby at_31) rfl ((if0 _ _).trans (teq hc31_42).1) (by decide) (by decide) k) ?_
      show OwnEnds p.tables e below _ (s₁.setTop (mkF m 38 #[.val (.int p0), .val (.int p1), .val (.int p2), .val (.int p3), .val (.int ea), .val (.int eb), .val (.int ec), .val (.int mA), .unset, .unset, .unset, .unset, .unset, .unset, .unset, .unset, .unset] []))
      refine own_via (fun t k => XS.iconst X0.here hx rfl (hb hby at_38) k) ?_
      show OwnEnds p.tables e below _ (s₁.setTop (mkF m 39 #[.val (.int p0), .val (.int p1), .val (.int p2), .val (.int p3), .val (.int ea), .val (.int eb), .val (.int ec), .val (.int mA), .unset, .unset, .unset, .unset, .unset, .unset, .unset, .unset, .unset] [(.int (0 : Int32))]))
      exact J39_2 _ (by simp only [if_pos hc31_42])
    · skip
      refine own_via (fun t k => XS.ifNo X0.here hx rfl (hb hby at_31) rfl ((if0 _ _).trans (feq hc31_42).1) k) ?_
      show OwnEnds p.tables e below _ (s₁.setTop (mkF m 34 #[.val (.int p0), .val (.int p1), .val (.int p2), .val (.int p3), .val (.int ea), .val (.int eb), .val (.int ec), .val (.int mA), .unset, .unset, .unset, .unset, .unset, .unset, .unset, .unset, .unset] []))
      refine own_via (fun t k => XS.iconst X0.here hx rfl (hb hby at_34) k) ?_
      show OwnEnds p.tables e below _ (s₁.setTop (mkF m 35 #[.val (.int p0), .val (.int p1), .val (.int p2), .val (.int p3), .val (.int ea), .val (.int eb), .val (.int ec), .val (.int mA), .unset, .unset, .unset, .unset, .unset, .unset, .unset, .unset, .unset] [(.int (1 : Int32))]))
      refine own_via (fun t k => XS.goto X0.here hx rfl (pc0 := 35) (pc' := 39) rfl (hb hby at_35) (by decide) (by decide) k) ?_
      show OwnEnds p.tables e below _ (s₁.setTop (mkF m 39 #[.val (.int p0), .val (.int p1), .val (.int p2), .val (.int p3), .val (.int ea), .val (.int eb), .val (.int ec), .val (.int mA), .unset, .unset, .unset, .unset, .unset, .unset, .unset, .unset, .unset] [(.int (1 : Int32))]))
      exact J39_2 _ (by simp only [if_neg hc31_42])
  by_cases hc18_43 : (p3 &&& (1 : Int32)) = (0 : Int32)
  · skip
    refine own_via (fun t k => XS.ifYes X0.here hx rfl (pc0 := 18) (pc' := 25) rfl (hb hby at_18) rfl ((if0 _ _).trans (teq hc18_43).1) (by decide) (by decide) k) ?_
    show OwnEnds p.tables e below _ (s₁.setTop (mkF m 25 #[.val (.int p0), .val (.int p1), .val (.int p2), .val (.int p3), .val (.int ea), .val (.int eb), .val (.int ec), .unset, .unset, .unset, .unset, .unset, .unset, .unset, .unset, .unset, .unset] []))
    refine own_via (fun t k => XS.iconst X0.here hx rfl (hb hby at_25) k) ?_
    show OwnEnds p.tables e below _ (s₁.setTop (mkF m 26 #[.val (.int p0), .val (.int p1), .val (.int p2), .val (.int p3), .val (.int ea), .val (.int eb), .val (.int ec), .unset, .unset, .unset, .unset, .unset, .unset, .unset, .unset, .unset, .unset] [(.int (0 : Int32))]))
    exact J26_1 _ (by simp only [if_pos hc18_43])
  · skip
    refine own_via (fun t k => XS.ifNo X0.here hx rfl (hb hby at_18) rfl ((if0 _ _).trans (feq hc18_43).1) k) ?_
    show OwnEnds p.tables e below _ (s₁.setTop (mkF m 21 #[.val (.int p0), .val (.int p1), .val (.int p2), .val (.int p3), .val (.int ea), .val (.int eb), .val (.int ec), .unset, .unset, .unset, .unset, .unset, .unset, .unset, .unset, .unset, .unset] []))
    refine own_via (fun t k => XS.iconst X0.here hx rfl (hb hby at_21) k) ?_
    show OwnEnds p.tables e below _ (s₁.setTop (mkF m 22 #[.val (.int p0), .val (.int p1), .val (.int p2), .val (.int p3), .val (.int ea), .val (.int eb), .val (.int ec), .unset, .unset, .unset, .unset, .unset, .unset, .unset, .unset, .unset, .unset] [(.int (1 : Int32))]))
    refine own_via (fun t k => XS.goto X0.here hx rfl (pc0 := 22) (pc' := 26) rfl (hb hby at_22) (by decide) (by decide) k) ?_
    show OwnEnds p.tables e below _ (s₁.setTop (mkF m 26 #[.val (.int p0), .val (.int p1), .val (.int p2), .val (.int p3), .val (.int ea), .val (.int eb), .val (.int ec), .unset, .unset, .unset, .unset, .unset, .unset, .unset, .unset, .unset, .unset] [(.int (1 : Int32))]))
    exact J26_1 _ (by simp only [if_neg hc18_43])
set_option maxRecDepth 65536 in
set_option maxHeartbeats 40000000 in
theorem comes_1 {Post : Tables → Env → Array Value → State → Outcome → State → Prop} (hpost : ∀ tb e args s v u, (limb_1_1.after args s (.returned v) u = true ∧ limb_1_2.after args s (.returned v) u = true ∧ True) → FrameEnd s (.returned v) u (Jvm.fieldLocs frame_1_writes args s ++ Jvm.arrayLocs frame_1_arrays args s ++ Jvm.staticLocs frame_1_statics s) 16 128 → Post tb e args s (.returned v) u) :
    ArmFor flags0 classFile x code maxLocals ret World_1 tables_1 room_1 Calls_1 rest_1 Pre_1 Post := by
  intro l hfl _ _ p e ha hc hk s m args below hf hA hF happ hP
  obtain ⟨hcalls, hrest, hpre⟩ := hP
  obtain ⟨-, -, -, hnamed, -, -, -, hat⟩ := (Spec.applies_iff hf).mp happ
  obtain ⟨hg, hn⟩ := and_e (Cond.before_iff.mp (show (Jvm.Cond.and given_1 narrow_1).before args s = true from hpre))
  obtain ⟨hq0, hg0⟩ := and_e hg
  obtain ⟨hq1, hg1⟩ := and_e hg0
  obtain ⟨hq2, hg2⟩ := and_e hg1
  obtain ⟨hq3, hg3⟩ := and_e hg2
  obtain ⟨w0, w1, w2, w3, rfl⟩ : ∃ w0 w1 w2 w3 : Value, args = #[w0, w1, w2, w3] := by
    have hs : args.size = 4 := by simpa [Cond.value, given_1] using hq0
    obtain ⟨L⟩ := args
    match L, hs with
    | [w0, w1, w2, w3], _ => exact ⟨w0, w1, w2, w3, rfl⟩
  have hw := fun d (hd : d ∈ tables_1) => atoms_spec (ws := Jvm.Cond.code x code maxLocals ret :: tables_1) hat d (List.mem_cons_of_mem _ hd)
  have hfit : Fit s := fun {y c} hc i hi => by
    obtain ⟨ha, rfl⟩ := Array.getElem?_eq_some_iff.mp hc
    have q := List.all_eq_true.mp ((Array.all_eq_true_iff_forall_mem.mp hF) _ (Array.getElem_mem ha)) i (List.mem_range.mpr hi)
    simpa [Array.getElem?_eq_getElem hi] using q
  obtain ⟨i0, ei0⟩ := is_v hq1
  obtain rfl : w0 = (.int i0) := Option.some.inj ei0
  obtain ⟨i1, ei1⟩ := is_v hq2
  obtain rfl : w1 = (.int i1) := Option.some.inj ei1
  obtain ⟨i2, ei2⟩ := is_v hq3
  obtain rfl : w2 = (.int i2) := Option.some.inj ei2
  obtain ⟨i3, ei3⟩ := is_v hg3
  obtain rfl : w3 = (.int i3) := Option.some.inj ei3
  obtain ⟨n, o, h1, h2, h3, _, L, rfl, ⟨rfl, N⟩, hq⟩ := rm0 l s _ hw tables_1 i0 i1 i2 i3 s.heap s.heap.size (Nat.le_refl _)  p e ha hc hk s m _ below hf ((Spec.applies_iff_loose hf).mp happ).1 ⟨rfl, State.Warmed39.refl s, rfl⟩ trivial
  refine ⟨n, _, h1, h2, h3, hpost _ _ _ _ _ _ ⟨Cond.after_iff.mpr rfl, Cond.after_iff.mpr (eq_i res_at (Term.int_eval (1)) rfl), trivial⟩ ⟨hq.1, hq.2.1, (hq.2.2.sift fun y hy => Or.inr (N y hy)).mono (by decide) (by decide)⟩⟩
theorem main_1_1 : Claimed_1_1 := comes_1 fun _ _ _ _ _ _ h hF => ⟨h.1, hF⟩
theorem main_1_2 : Claimed_1_2 := comes_1 fun _ _ _ _ _ _ h hF => ⟨h.2.1, hF⟩
end Jvm.Pilot.@@N@@
namespace Jvm.Pilot.@@N@@
open Jvm Jvm.ClassFile Sem Op Lib Jvm.Free Jvm.Stand Jvm.Pilot.@@N@@.Jvm.D
/-! MADE BY PROGRAM (witnessworld.py) out of the Statement's table words and the real class files: 9 classes; the members and pool entries that the words name. The judged class is class 1, her method 2. -/
namespace start1
open Jvm.ClassFile
def u (s : String) : CpInfo := .utf8 (stringToUtf16 s)
/-- a pool by its gaps: so many unusable entries, then the entry; so many at the end -/
def gap : Nat → List CpInfo → List CpInfo
  | 0, r => r
  | n + 1, r => .unusable :: gap n r
def poolList (es : List (Nat × CpInfo)) (last : Nat) : List CpInfo := es.foldr (fun e r => gap e.1 (e.2 :: r)) (gap last [])
def pool (es : List (Nat × CpInfo)) (last : Nat) : Array CpInfo := ⟨poolList es last⟩
def fileOf (pool : Array CpInfo) (this : Nat) (attrs : Array Attribute := #[]) (ms : Array MethodInfo := #[]) (fl : Nat := 33) (sup : Nat := 0) (ifs : Array Nat := #[]) (fds : Array FieldInfo := #[]) : ClassFile where
  minorVersion := 0
  majorVersion := 65
  constantPool := pool
  accessFlags := fl
  thisClass := this
  superClass := sup
  interfaces := ifs
  fields := fds
  methods := ms
  attributes := attrs
def plain (name : String) (sup : Option ClassId) : Class where
  name := name
  kind := .ordinary
  loader := none
  accessFlags := 33
  super := sup
  interfaces := #[]
  cf := none
  fields := #[]
  methods := #[]
  instanceTypes := #[]
  staticTypes := #[]
  resolved := #[]
  callSites := []
  init := .initialized
  statics := none
  mirror := none

def pool0 : Array CpInfo := pool [(5, u "<init>"), (0, u "()V"), (1, .class_ 10), (1, u "java/lang/Object")] 113

def k0c0 : Code := { maxStack := 0, maxLocals := 1, code := object_method_1_code, exceptionTable := #[], attributes := #[] }
def k0m0 : Method := { name := "<init>", desc := "()V", sig := { parameters := [], returnType := none }, accessFlags := 1, code := some k0c0 }
/-- java/lang/Object -/
def k0 : Class := { plain "java/lang/Object" none with
  accessFlags := 33
  interfaces := #[]
  cf := some (fileOf pool0 8 #[] #[{ accessFlags := 1, nameIndex := 5, descriptorIndex := 6, attributes := #[] }] 33 0 #[] #[])
  fields := #[]
  methods := #[k0m0]
  instanceTypes := #[]
  staticTypes := #[]
  resolved := Array.replicate 124 none
  statics := none }

def pool1 : Array CpInfo := pool [(2, .class_ 4), (1, u "java/lang/Object"), (0, u "<init>"), (0, u "()V"), (0, .class_ 8), (0, u "com/example/libhorn/libhorn/measures/FoundMarks"), (0, .methodref 7 10), (0, .nameAndType 5 11), (0, u "(I)V"), (0, .methodref 7 13), (0, .nameAndType 14 11), (0, u "mark"), (0, .methodref 7 16), (0, .nameAndType 17 6), (0, u "clear"), (0, .methodref 7 19), (0, .nameAndType 20 21), (0, u "isMarked"), (0, u "(I)Z"), (0, .methodref 23 24), (0, .class_ 25), (0, .nameAndType 26 27), (0, u "com/example/libhorn/libhorn/measures/FoundMarksIsMarkedPinLaw"), (0, u "expected"), (0, u "(IIIIZZZZZ)Z"), (3, u "law"), (0, u "(IIII)Z")] 2

def k1m0 : Method := { name := "<init>", desc := "()V", sig := { parameters := [], returnType := none }, accessFlags := 1, code := none }
def k1c1 : Code := { maxStack := 2, maxLocals := 9, code := method_2_code, exceptionTable := #[], attributes := #[] }
def k1m1 : Method := { name := "expected", desc := "(IIIIZZZZZ)Z", sig := { parameters := [.int, .int, .int, .int, .boolean, .boolean, .boolean, .boolean, .boolean], returnType := some .boolean }, accessFlags := 10, code := some k1c1 }
def k1c2 : Code := { maxStack := 10, maxLocals := 17, code := code, exceptionTable := #[], attributes := #[] }
def k1m2 : Method := { name := "law", desc := "(IIII)Z", sig := { parameters := [.int, .int, .int, .int], returnType := some .boolean }, accessFlags := 9, code := some k1c2 }
/-- com/example/libhorn/libhorn/measures/FoundMarksIsMarkedPinLaw -/
def k1 : Class := { plain "com/example/libhorn/libhorn/measures/FoundMarksIsMarkedPinLaw" (some 0) with
  accessFlags := 49
  interfaces := #[]
  cf := some (fileOf pool1 23 #[] #[{ accessFlags := 1, nameIndex := 5, descriptorIndex := 6, attributes := #[] }, { accessFlags := 10, nameIndex := 26, descriptorIndex := 27, attributes := #[] }, { accessFlags := 9, nameIndex := 31, descriptorIndex := 32, attributes := #[] }] 49 2 #[] #[])
  fields := #[]
  methods := #[k1m0, k1m1, k1m2]
  instanceTypes := #[]
  staticTypes := #[]
  resolved := Array.replicate 35 none
  statics := none }

def pool2 : Array CpInfo := pool [(1, .methodref 2 3), (0, .class_ 4), (0, .nameAndType 5 6), (0, u "java/lang/Object"), (0, u "<init>"), (0, u "()V"), (0, .fieldref 8 9), (0, .class_ 10), (0, .nameAndType 11 12), (0, u "com/example/libhorn/libhorn/measures/FoundMarks"), (0, u "round"), (0, u "I"), (0, .fieldref 8 14), (0, .nameAndType 15 16), (0, u "rounds"), (0, u "[I"), (2, .integer 2147483647), (6, u "(I)V"), (2, u "clear"), (1, u "mark"), (0, u "isMarked"), (0, u "(I)Z")] 2

def k2c0 : Code := { maxStack := 2, maxLocals := 2, code := prog_59_method_1_code, exceptionTable := #[], attributes := #[] }
def k2m0 : Method := { name := "<init>", desc := "(I)V", sig := { parameters := [.int], returnType := none }, accessFlags := 0, code := some k2c0 }
def k2c1 : Code := { maxStack := 3, maxLocals := 1, code := prog_59_method_2_code, exceptionTable := #[], attributes := #[] }
def k2m1 : Method := { name := "clear", desc := "()V", sig := { parameters := [], returnType := none }, accessFlags := 0, code := some k2c1 }
def k2c2 : Code := { maxStack := 3, maxLocals := 2, code := prog_59_method_3_code, exceptionTable := #[], attributes := #[] }
def k2m2 : Method := { name := "mark", desc := "(I)V", sig := { parameters := [.int], returnType := none }, accessFlags := 0, code := some k2c2 }
def k2c3 : Code := { maxStack := 2, maxLocals := 2, code := prog_59_method_4_code, exceptionTable := #[], attributes := #[] }
def k2m3 : Method := { name := "isMarked", desc := "(I)Z", sig := { parameters := [.int], returnType := some .boolean }, accessFlags := 0, code := some k2c3 }
/-- com/example/libhorn/libhorn/measures/FoundMarks -/
def k2 : Class := { plain "com/example/libhorn/libhorn/measures/FoundMarks" (some 0) with
  accessFlags := 48
  interfaces := #[]
  cf := some (fileOf pool2 8 #[] #[{ accessFlags := 0, nameIndex := 5, descriptorIndex := 26, attributes := #[] }, { accessFlags := 0, nameIndex := 29, descriptorIndex := 6, attributes := #[] }, { accessFlags := 0, nameIndex := 31, descriptorIndex := 26, attributes := #[] }, { accessFlags := 0, nameIndex := 32, descriptorIndex := 33, attributes := #[] }] 48 2 #[] #[{ accessFlags := 18, nameIndex := 15, descriptorIndex := 16, attributes := #[] }, { accessFlags := 2, nameIndex := 11, descriptorIndex := 12, attributes := #[] }])
  fields := #[{ name := "rounds", type := (.array .int), accessFlags := 18, slot := 0, constantValue := 0 }, { name := "round", type := .int, accessFlags := 2, slot := 1, constantValue := 0 }]
  methods := #[k2m0, k2m1, k2m2, k2m3]
  instanceTypes := #[(.array .int), .int]
  staticTypes := #[]
  resolved := Array.replicate 36 none
  statics := none }

def pool3 : Array CpInfo := pool [(1, u "java/lang/Cloneable"), (0, .class_ 1), (0, u "java/lang/Object"), (0, .class_ 3)] 3

/-- java/lang/Cloneable -/
def k3 : Class := { plain "java/lang/Cloneable" (some 0) with
  accessFlags := 1537
  interfaces := #[]
  cf := some (fileOf pool3 2 #[] #[] 1537 4 #[] #[])
  fields := #[]
  methods := #[]
  instanceTypes := #[]
  staticTypes := #[]
  resolved := Array.replicate 8 none
  statics := none }

def pool4 : Array CpInfo := pool [(1, u "java/io/Serializable"), (0, .class_ 1), (0, u "java/lang/Object"), (0, .class_ 3)] 3

/-- java/io/Serializable -/
def k4 : Class := { plain "java/io/Serializable" (some 0) with
  accessFlags := 1537
  interfaces := #[]
  cf := some (fileOf pool4 2 #[] #[] 1537 4 #[] #[])
  fields := #[]
  methods := #[]
  instanceTypes := #[]
  staticTypes := #[]
  resolved := Array.replicate 8 none
  statics := none }

/-- the primitive byte -/
def k5 : Class := { plain "byte" none with kind := .primitive 'B', accessFlags := 0x411 }
/-- [B -/
def k6 : Class := { plain "[B" (some 0) with kind := .array 5 .byte, interfaces := #[3, 4], accessFlags := 1041 }

/-- the primitive int -/
def k7 : Class := { plain "int" none with kind := .primitive 'I', accessFlags := 0x411 }
/-- [I -/
def k8 : Class := { plain "[I" (some 0) with kind := .array 7 .int, interfaces := #[3, 4], accessFlags := 1041 }

def heap : Heap := #[]
def classes : Array Class := #[k0, k1, k2, k3, k4, k5, k6, k7, k8]
def interned : List (Array UInt16 × Addr) := []
def slotsUsed : Nat := 0
def theMethod : MethodId := ⟨1, 2⟩
def args0 : Array Value := #[.int 5, .int 300, .int 1, .int 7]
def aboutOver (below : List Frame) : State where
  vm := { classes := classes, interned := interned.toArray }
  heap := heap
  slotsUsed := slotsUsed
  threads := #[{ frames := .invoking theMethod args0 :: below }]
def below0 : List Frame := [.native { method := ⟨0, 0⟩, args := #[] }]
def about1 : State := aboutOver below0
def p0 : Program := .bare "" "" ""
def e0 : Env := launch0.env 0 0 0
theorem w_frames : about1.frames = Frame.invoking theMethod args0 :: below0 := rfl
set_option maxRecDepth 65536 in
theorem w_args : argsFit about1.vm theMethod args0 = true := by decide +kernel
set_option maxRecDepth 65536 in
theorem w_heap : heapFits about1 = true := by decide +kernel
set_option maxRecDepth 65536 in
theorem w_runnable : about1.curStatus? = some .runnable := by decide +kernel
set_option maxRecDepth 65536 in
theorem w_alone : about1.alone = true := by decide +kernel
set_option maxRecDepth 65536 in
theorem w_named : about1.methodNamed? x = some theMethod := by decide +kernel
set_option maxRecDepth 65536 in
theorem w_hears : about1.hears theMethod below0 = true := by decide +kernel
set_option maxRecDepth 65536 in
theorem w_ripe : about1.ripe theMethod args0 below0 = true := by decide +kernel
theorem w_running : about1.status = .running := rfl
set_option maxRecDepth 65536 in
theorem w_room : about1.hasRoom e0.platform room_1 = true :=
  launch0.hasRoom_least _ room_1 (by decide +kernel) (by decide +kernel) (by decide +kernel) (by decide +kernel) (by decide +kernel) (by decide +kernel)
theorem allAtoms_all (ts : List Jvm.Cond) (a : Array Jvm.Value) (st : Jvm.State) : (allAtoms ts).before a st = ts.all (fun c => c.before a st) := by
  induction ts with
  | nil => rfl
  | cons c t ih =>
    show (Jvm.Cond.and c (allAtoms t)).before a st = _
    rw [Jvm.Cond.before_and, ih, List.all_cons]
def words1 : List Jvm.Cond := Jvm.Cond.code x code maxLocals ret :: tables_1
/-- a 'code' word, met by the world's own term for the bytes: nothing is compared byte by byte -/
theorem code_word {y : MethodName} {bytes : ByteArray} {mx : Nat} {rt : Option FieldType} {a : Array Value} {s : State} {m : MethodId} {meth : Method} {c : Code} (h1 : s.methodNamed? y = some m) (h2 : s.vm.method? m = some meth) (h3 : meth.code = some c) (h4 : c.code = bytes)
    (h5 : (c.maxLocals == mx && c.exceptionTable.isEmpty && decide (c.maxStack ≤ mostOperands) && decide (meth.sig.returnType = rt) && !meth.locks && decide (parseMethodDescriptor y.desc = some meth.sig)) = true) : (Jvm.Cond.code y bytes mx rt).before a s = true := by
  simp only [Bool.and_eq_true, beq_iff_eq, Bool.not_eq_true', decide_eq_true_eq] at h5
  obtain ⟨⟨⟨⟨⟨g1, g2⟩, g3⟩, g4⟩, g5⟩, g6⟩ := h5
  simp [Cond.before, Cond.holds, Cond.value, h1, h2, h3, h4, g1, g2, g3, g4, g5, g6]
def isCode : Jvm.Cond → Bool
  | .code _ _ _ _ => true
  | _ => false
theorem all_split {L : List Jvm.Cond} {P : Jvm.Cond → Bool} (h1 : L.all (fun c => isCode c || P c) = true) (h2 : ∀ c ∈ L.filter isCode, P c = true) : L.all P = true := by
  refine List.all_eq_true.mpr fun c hc => ?_
  have h := List.all_eq_true.mp h1 c hc
  rcases Bool.eq_false_or_eq_true (isCode c) with hi | hi
  · exact h2 c (List.mem_filter.mpr ⟨hc, hi⟩)
  · simpa [hi] using h
set_option maxRecDepth 65536 in
theorem w_c0 : (Jvm.Cond.code x code maxLocals ret).before args0 about1 = true := code_word (m := ⟨1, 2⟩) (meth := k1m2) (c := k1c2) (by decide +kernel) rfl rfl rfl (by decide +kernel)
set_option maxRecDepth 65536 in
theorem w_c1 : (Jvm.Cond.code ({ cls := "com/example/libhorn/libhorn/measures/FoundMarks", name := "<init>", desc := "(I)V" } : Jvm.MethodName) prog_59_method_1_code (2 : Nat) (Option.none : Option Jvm.ClassFile.FieldType)).before args0 about1 = true := code_word (m := ⟨2, 0⟩) (meth := k2m0) (c := k2c0) (by decide +kernel) rfl rfl rfl (by decide +kernel)
set_option maxRecDepth 65536 in
theorem w_c2 : (Jvm.Cond.code ({ cls := "java/lang/Object", name := "<init>", desc := "()V" } : Jvm.MethodName) object_method_1_code (1 : Nat) (Option.none : Option Jvm.ClassFile.FieldType)).before args0 about1 = true := code_word (m := ⟨0, 0⟩) (meth := k0m0) (c := k0c0) (by decide +kernel) rfl rfl rfl (by decide +kernel)
set_option maxRecDepth 65536 in
theorem w_c3 : (Jvm.Cond.code ({ cls := "com/example/libhorn/libhorn/measures/FoundMarks", name := "mark", desc := "(I)V" } : Jvm.MethodName) prog_59_method_3_code (2 : Nat) (Option.none : Option Jvm.ClassFile.FieldType)).before args0 about1 = true := code_word (m := ⟨2, 2⟩) (meth := k2m2) (c := k2c2) (by decide +kernel) rfl rfl rfl (by decide +kernel)
set_option maxRecDepth 65536 in
theorem w_c4 : (Jvm.Cond.code ({ cls := "com/example/libhorn/libhorn/measures/FoundMarks", name := "isMarked", desc := "(I)Z" } : Jvm.MethodName) prog_59_method_4_code (2 : Nat) (Option.some Jvm.ClassFile.FieldType.boolean)).before args0 about1 = true := code_word (m := ⟨2, 3⟩) (meth := k2m3) (c := k2c3) (by decide +kernel) rfl rfl rfl (by decide +kernel)
set_option maxRecDepth 65536 in
theorem w_c5 : (Jvm.Cond.code ({ cls := "com/example/libhorn/libhorn/measures/FoundMarksIsMarkedPinLaw", name := "expected", desc := "(IIIIZZZZZ)Z" } : Jvm.MethodName) method_2_code (9 : Nat) (Option.some Jvm.ClassFile.FieldType.boolean)).before args0 about1 = true := code_word (m := ⟨1, 1⟩) (meth := k1m1) (c := k1c1) (by decide +kernel) rfl rfl rfl (by decide +kernel)
set_option maxRecDepth 65536 in
theorem w_c6 : (Jvm.Cond.code ({ cls := "com/example/libhorn/libhorn/measures/FoundMarks", name := "clear", desc := "()V" } : Jvm.MethodName) prog_59_method_2_code (1 : Nat) (Option.none : Option Jvm.ClassFile.FieldType)).before args0 about1 = true := code_word (m := ⟨2, 1⟩) (meth := k2m1) (c := k2c1) (by decide +kernel) rfl rfl rfl (by decide +kernel)
def codes1 : List Jvm.Cond := [Jvm.Cond.code x code maxLocals ret, Jvm.Cond.code ({ cls := "com/example/libhorn/libhorn/measures/FoundMarks", name := "<init>", desc := "(I)V" } : Jvm.MethodName) prog_59_method_1_code (2 : Nat) (Option.none : Option Jvm.ClassFile.FieldType), Jvm.Cond.code ({ cls := "java/lang/Object", name := "<init>", desc := "()V" } : Jvm.MethodName) object_method_1_code (1 : Nat) (Option.none : Option Jvm.ClassFile.FieldType), Jvm.Cond.code ({ cls := "com/example/libhorn/libhorn/measures/FoundMarks", name := "mark", desc := "(I)V" } : Jvm.MethodName) prog_59_method_3_code (2 : Nat) (Option.none : Option Jvm.ClassFile.FieldType), Jvm.Cond.code ({ cls := "com/example/libhorn/libhorn/measures/FoundMarks", name := "isMarked", desc := "(I)Z" } : Jvm.MethodName) prog_59_method_4_code (2 : Nat) (Option.some Jvm.ClassFile.FieldType.boolean), Jvm.Cond.code ({ cls := "com/example/libhorn/libhorn/measures/FoundMarksIsMarkedPinLaw", name := "expected", desc := "(IIIIZZZZZ)Z" } : Jvm.MethodName) method_2_code (9 : Nat) (Option.some Jvm.ClassFile.FieldType.boolean), Jvm.Cond.code ({ cls := "com/example/libhorn/libhorn/measures/FoundMarks", name := "clear", desc := "()V" } : Jvm.MethodName) prog_59_method_2_code (1 : Nat) (Option.none : Option Jvm.ClassFile.FieldType)]
set_option maxRecDepth 65536 in
theorem codes_eq : words1.filter isCode = codes1 := rfl
theorem w_codes : ∀ c ∈ words1.filter isCode, c.before args0 about1 = true := by
  rw [codes_eq]
  intro c hc
  simp only [codes1, List.mem_cons, List.not_mem_nil, or_false] at hc
  rcases hc with rfl | rfl | rfl | rfl | rfl | rfl | rfl
  · exact w_c0
  · exact w_c1
  · exact w_c2
  · exact w_c3
  · exact w_c4
  · exact w_c5
  · exact w_c6
set_option maxRecDepth 65536 in
theorem w_t1 : (words1.take 24).all (fun c => isCode c || c.before args0 about1) = true := by decide +kernel
set_option maxRecDepth 65536 in
theorem w_t2 : (words1.drop 24).all (fun c => isCode c || c.before args0 about1) = true := by decide +kernel
theorem w_tables : (allAtoms (Jvm.Cond.code x code maxLocals ret :: tables_1)).before args0 about1 = true := by
  rw [allAtoms_all]
  show words1.all (fun c => c.before args0 about1) = true
  refine all_split ?_ w_codes
  rw [← List.take_append_drop 24 words1, List.all_append, w_t1, w_t2]
  rfl
set_option maxRecDepth 65536 in
theorem w_case : (Jvm.Cond.and given_1 narrow_1).before args0 about1 = true := by decide +kernel
theorem w_applies : (headSpec (Jvm.Cond.code x code maxLocals ret :: tables_1) room_1).applies x e0.platform about1 = true :=
  (Spec.applies_iff w_frames).mpr ⟨w_running, w_runnable, w_alone, w_named, w_hears, w_ripe, w_room, w_tables⟩
theorem atStart : AtStart classFile x code maxLocals ret World_1 tables_1 room_1 Calls_1 rest_1 Pre_1 launch0 p0 e0 about1 theMethod args0 below0 :=
  ⟨lists_1, trivial, launch0.admits_env _ _ _, launch0.least_env, fairChoices_fair.cas, fairChoices_fair.clock, w_frames, w_args, w_heap, w_applies, trivial, trivial, w_case⟩
end start1
theorem witness_1 : WitnessClaimed_1 := ⟨start1.p0, start1.e0, start1.about1, start1.theMethod, start1.args0, start1.below0, start1.atStart⟩
end Jvm.Pilot.@@N@@
