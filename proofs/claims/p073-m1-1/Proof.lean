import JvmDerived
import JvmDerived.Pilot.@@N@@Statement
import JvmDerived.Pilot.@@N@@Code
set_option linter.unusedVariables false
set_option linter.unusedSimpArgs false
namespace Jvm.Pilot.@@N@@
open Jvm Jvm.ClassFile Sem Op Lib Jvm.Free Jvm.Stand Jvm.LawKit Jvm.RoadKit Bundle Jvm.Pilot.@@N@@.Jvm.D
/-! 1. the words of the mirrors: a named value, a check, a call -/
def own_lt {α β : Type} (x : α) (f : α → Option β) : Option β := f x
def own_ck {β : Type} (P : Prop) [Decidable P] (x : Option β) : Option β := if P then x else none
def own_bd {α β : Type} (x : Option α) (f : α → Option β) : Option β := x.bind f
theorem own_lt_e {α β : Type} {x : α} {f : α → Option β} {r : β} (h : own_lt x f = some r) : ∃ v, v = x ∧ f v = some r := ⟨x, rfl, h⟩
theorem own_ck_e {β : Type} {P : Prop} [Decidable P] {x : Option β} {r : β} (h : own_ck P x = some r) : P ∧ x = some r := by
  unfold own_ck at h
  by_cases q : P
  · rw [if_pos q] at h; exact ⟨q, h⟩
  · rw [if_neg q] at h; cases h
theorem own_bd_e {α β : Type} {x : Option α} {f : α → Option β} {r : β} (h : own_bd x f = some r) : ∃ v, x = some v ∧ f v = some r := by
  unfold own_bd at h
  cases x with
  | none => cases h
  | some v => exact ⟨v, rfl, h⟩
abbrev own_inb {α : Type} (bs : List α) (j : Int32) : Prop := ¬ j < 0 ∧ j.toNatClampNeg < bs.length
def own_rd {α : Type} [OfNat α 0] (bs : List α) (j : Int32) : α := bs.getD j.toNatClampNeg 0
def own_wr {α : Type} (bs : List α) (j : Int32) (v : α) : List α := bs.set j.toNatClampNeg v
def own_sz {α : Type} (bs : List α) : Int32 := bs.length.toInt32
/-! 2. a run that comes to an end as Q says -/
def own_Goes (p : Program) (e : Env) (below : List Frame) (s : State) (Q : Option Value → Heap → List Loc → Prop) (ce sl : Nat) (A : State) : Prop :=
  ∃ s₂ o, Steps p.tables e below A s₂ ∧ s₂.status = .running ∧ Ended s₂ below o ∧ ∃ v L, o = .returned v ∧ Q v s₂.heap L ∧ FrameEnd s o s₂ L ce sl
section Own
variable {p : Program} {l : Launch} {e : Env} {R : Room} {s : State} {m : MethodId} {args : Array Value} {below : List Frame} {meth : Method} {c : Code} {T : State} {locs : List Loc} {cells slots : Nat} {Z : State} {h h' : Heap} {Q : Option Value → Heap → List Loc → Prop} {ce sl : Nat}
theorem own_Goes.via {A B : State} (q : ∀ t, Steps p.tables e below B t → Steps p.tables e below A t) (g : own_Goes p e below s Q ce sl B) : own_Goes p e below s Q ce sl A := by
  obtain ⟨s₂, o, h1, r⟩ := g
  exact ⟨s₂, o, q _ h1, r⟩
theorem own_Goes.tr {A B : State} (q : Steps p.tables e below A B) (g : own_Goes p e below s Q ce sl B) : own_Goes p e below s Q ce sl A := g.via fun _ k => q.trans k
theorem own_retV (X : Stand p l e R s m args below meth c T locs cells slots) (hx : p.tables.exec = Jvm.exec) {pc : Nat} {Ls : Array Slot} (hret : meth.sig.returnType = none) (hlk : meth.locks = false) (hd : decode c.code pc = .ok (.return_, 1)) (eT : T.heap = h) (hQ : Q none h locs) (hc : cells ≤ ce) (hs : slots ≤ sl) :
    own_Goes p e below s Q ce sl (T.setTop (mkF m pc Ls [])) := by
  obtain ⟨fs, hr, hrun, hended, hW, hsame⟩ := X.leave (v := none) (fun _ => rfl) hlk
  refine ⟨_, _, ?_, hrun, hended, _, _, rfl, ?_, ⟨_, rfl⟩, hW, hsame.mono hc hs⟩
  · exact X.returnOut hx hret hd hr
  · show Q none T.heap locs
    rw [eT]; exact hQ
theorem own_retI (X : Stand p l e R s m args below meth c T locs cells slots) (hx : p.tables.exec = Jvm.exec) {pc : Nat} {Ls : Array Slot} {z : Int32} {rest : List Value} (hret : meth.sig.returnType = some .int) (hlk : meth.locks = false) (hd : decode c.code pc = .ok (.ireturn, 1)) (eT : T.heap = h) (hQ : Q (some (.int z)) h locs) (hc : cells ≤ ce) (hs : slots ≤ sl) :
    own_Goes p e below s Q ce sl (T.setTop (mkF m pc Ls (.int z :: rest))) := by
  obtain ⟨fs, hr, hrun, hended, hW, hsame⟩ := X.leave (v := some (.int z)) (fun h => by rw [hret] at h; cases h) hlk
  refine ⟨_, _, ?_, hrun, hended, _, _, rfl, ?_, ⟨_, rfl⟩, hW, hsame.mono hc hs⟩
  · exact retOut X hx hret rfl (Or.inl ⟨rfl, Or.inl rfl, z, rfl⟩) hd hr
  · show Q _ T.heap locs
    rw [eT]; exact hQ
theorem own_retJ (X : Stand p l e R s m args below meth c T locs cells slots) (hx : p.tables.exec = Jvm.exec) {pc : Nat} {Ls : Array Slot} {z : Int64} {rest : List Value} (hret : meth.sig.returnType = some .long) (hlk : meth.locks = false) (hd : decode c.code pc = .ok (.lreturn, 1)) (eT : T.heap = h) (hQ : Q (some (.long z)) h locs) (hc : cells ≤ ce) (hs : slots ≤ sl) :
    own_Goes p e below s Q ce sl (T.setTop (mkF m pc Ls (.long z :: rest))) := by
  obtain ⟨fs, hr, hrun, hended, hW, hsame⟩ := X.leave (v := some (.long z)) (fun h => by rw [hret] at h; cases h) hlk
  refine ⟨_, _, ?_, hrun, hended, _, _, rfl, ?_, ⟨_, rfl⟩, hW, hsame.mono hc hs⟩
  · exact retOut X hx hret rfl (Or.inr (Or.inl ⟨rfl, rfl, z, rfl⟩)) hd hr
  · show Q _ T.heap locs
    rw [eT]; exact hQ
theorem own_retR (X : Stand p l e R s m args below meth c T locs cells slots) (hx : p.tables.exec = Jvm.exec) {pc : Nat} {Ls : Array Slot} {t : FieldType} {w : Value} {rest : List Value} (hret : meth.sig.returnType = some t) (hlk : meth.locks = false) (hd : decode c.code pc = .ok (.areturn, 1)) (ht : t.isReference = true) (eT : T.heap = h) (hw : w.isRef = true) (hQ : Q (some w) h locs) (hc : cells ≤ ce) (hs : slots ≤ sl) :
    own_Goes p e below s Q ce sl (T.setTop (mkF m pc Ls (w :: rest))) := by
  obtain ⟨fs, hr, hrun, hended, hW, hsame⟩ := X.leave (v := some w) (fun h => by rw [hret] at h; cases h) hlk
  refine ⟨_, _, ?_, hrun, hended, _, _, rfl, ?_, ⟨_, rfl⟩, hW, hsame.mono hc hs⟩
  · exact retOut X hx hret (by cases t <;> first | (cases ht; done) | rfl) (Or.inr (Or.inr (Or.inr (Or.inr ⟨rfl, ht, hw⟩)))) hd hr
  · show Q _ T.heap locs
    rw [eT]; exact hQ
theorem own_retN (X : Stand p l e R s m args below meth c T locs cells slots) (hx : p.tables.exec = Jvm.exec) {pc : Nat} {Ls : Array Slot} {z v : Int32} {t : FieldType} {rest : List Value} (hret : meth.sig.returnType = some t) (hlk : meth.locks = false) (ht : t = .boolean ∨ t = .byte ∨ t = .char ∨ t = .short) (hd : decode c.code pc = .ok (.ireturn, 1)) (eT : T.heap = h) (hv : nar t z = v) (hQ : Q (some (.int v)) h locs) (hc : cells ≤ ce) (hs : slots ≤ sl) :
    own_Goes p e below s Q ce sl (T.setTop (mkF m pc Ls (.int z :: rest))) := by
  subst hv
  obtain ⟨fs, hr, hrun, hended, hW, hsame⟩ := X.leave (v := some (.int (nar t z))) (fun h => by rw [hret] at h; cases h) hlk
  refine ⟨_, _, ?_, hrun, hended, _, _, rfl, ?_, ⟨_, rfl⟩, hW, hsame.mono hc hs⟩
  · exact retN X hx hret ht hd hr
  · show Q _ T.heap locs
    rw [eT]; exact hQ
/-! 3. single steps -/
theorem own_irem {g : JFrame} {target : State} (X : Stand p l e R s m args below meth c T locs cells slots) (hx : p.tables.exec = Jvm.exec) (hg : g.method = m) {x y : Int32} {rest : List Value} (hd : decode c.code g.pc = .ok (.irem, 1)) (hs : g.stack = .int y :: .int x :: rest) (hy : y ≠ 0)
    (hr : Steps p.tables e below (T.setTop { g with pc := g.pc + 1, stack := .int (x % y) :: rest }) target) : Steps p.tables e below (T.setTop g) target := iremM X hx hg hd hs hy hr
theorem own_lrem {g : JFrame} {target : State} (X : Stand p l e R s m args below meth c T locs cells slots) (hx : p.tables.exec = Jvm.exec) (hg : g.method = m) {x y : Int64} {rest : List Value} (hd : decode c.code g.pc = .ok (.lrem, 1)) (hs : g.stack = .long y :: .long x :: rest) (hy : y ≠ 0)
    (hr : Steps p.tables e below (T.setTop { g with pc := g.pc + 1, stack := .long (x % y) :: rest }) target) : Steps p.tables e below (T.setTop g) target :=
  XS.lrem X.here hx hg hd hs hy (by rw [lrem_mod]; exact hr)
theorem own_tltL {x y : Int64} (q : x < y) : ifCond.holds .lt (lcmpW x y) = true ∧ ifCond.holds .ge (lcmpW x y) = false := by
  rw [if0, if0]; exact ⟨(tlt ((lw_lt x y).mpr q)).1, (tlt ((lw_lt x y).mpr q)).2.1⟩
theorem own_fltL {x y : Int64} (q : ¬ x < y) : ifCond.holds .lt (lcmpW x y) = false ∧ ifCond.holds .ge (lcmpW x y) = true := by
  rw [if0, if0]; exact ⟨(flt fun z => q ((lw_lt x y).mp z)).1, (flt fun z => q ((lw_lt x y).mp z)).2.1⟩
theorem own_tgtL {x y : Int64} (q : y < x) : ifCond.holds .gt (lcmpW x y) = true ∧ ifCond.holds .le (lcmpW x y) = false := by
  rw [if0, if0]; exact ⟨(tlt ((lw_gt x y).mpr q)).2.2.1, (tlt ((lw_gt x y).mpr q)).2.2.2⟩
theorem own_fgtL {x y : Int64} (q : ¬ y < x) : ifCond.holds .gt (lcmpW x y) = false ∧ ifCond.holds .le (lcmpW x y) = true := by
  rw [if0, if0]; exact ⟨(flt fun z => q ((lw_gt x y).mp z)).2.2.1, (flt fun z => q ((lw_gt x y).mp z)).2.2.2⟩
theorem own_teqL {x y : Int64} (q : x = y) : ifCond.holds .eq (lcmpW x y) = true ∧ ifCond.holds .ne (lcmpW x y) = false := by
  rw [if0, if0]; exact ⟨(teq ((lw_eq x y).mpr q)).1, (teq ((lw_eq x y).mpr q)).2⟩
theorem own_feqL {x y : Int64} (q : ¬ x = y) : ifCond.holds .eq (lcmpW x y) = false ∧ ifCond.holds .ne (lcmpW x y) = true := by
  rw [if0, if0]; exact ⟨(feq fun z => q ((lw_eq x y).mp z)).1, (feq fun z => q ((lw_eq x y).mp z)).2⟩
theorem own_st1 {L : Array Slot} {i : Nat} {v : Value} {o : Slot} {L' : Array Slot} (hold : L[i]? = some o) (ho : One o) (hv : v.category = 1) (hL : L.setIfInBounds i (.val v) = L' := by rfl) : storeLocals L i v = some L' := hL ▸ XS.store1 hold ho hv
theorem own_privSel {s : State} {args : Array Value} {y : MethodName} {n : Nat} (wi : (Cond.instantiable y.cls n).before args s = true) (hp : s.PrivateAt y) (hinst : (Cond.instanceMethod y).before args s = true) (hy : y.cls ≠ "java/lang/invoke/MethodHandle" ∧ y.cls ≠ "java/lang/invoke/VarHandle") : (Cond.selects y.cls y y).before args s = true := by
  obtain ⟨c, k, h1, h2, -, h3, -⟩ := Cond.instantiable_spec wi
  exact selects_self_of_private h1 h2 (Bool.or_eq_false_iff.mp h3).1 hp hinst hy
/-! 4. arrays: what lies in them, as a list -/
def own_Ar (Z : State) (h : Heap) (a : Addr) (ty : FieldType) (vs : List Value) : Prop := ∃ c : Cell, Arr Z h a c ty ∧ c.slots.toList = vs ∧ vs.length < 2 ^ 31 ∧ ∀ v ∈ vs, fits ty v = true
variable {a b : Addr} {ty : FieldType} {vs : List Value}
theorem own_Ar.lt (F : own_Ar Z h a ty vs) : a < h.size := by obtain ⟨c, A, -⟩ := F; exact A.lt
theorem own_Ar.ext (F : own_Ar Z h a ty vs) (E : Ext h h') : own_Ar Z h' a ty vs := by obtain ⟨c, A, r⟩ := F; exact ⟨c, A.ext E, r⟩
theorem own_Ar.other {k : Nat} {v : Value} (F : own_Ar Z h b ty vs) (W : Wr h h' a k v) (q : b ≠ a) : own_Ar Z h' b ty vs := by obtain ⟨c, A, r⟩ := F; exact ⟨c, A.other W q, r⟩
theorem own_Ar.keep {ws : List Addr} (F : own_Ar Z h a ty vs) (K : Keep h h' ws) (q : a ∉ ws) : own_Ar Z h' a ty vs := by obtain ⟨c, A, r⟩ := F; exact ⟨c, ⟨K.2.1 a c A.1 q, A.2⟩, r⟩
theorem own_Ar.size {c : Cell} (q : c.slots.toList = vs) : c.slots.size = vs.length := by rw [← q]; simp
theorem own_in {c : Cell} {j : Int32} (q : c.slots.toList = vs) (hj : own_inb vs j) : ¬ (j < 0 ∨ c.slots.size ≤ j.toNatClampNeg) := by
  rw [own_Ar.size q]
  rintro (r | r)
  · exact hj.1 r
  · exact absurd hj.2 (Nat.not_lt.mpr r)
theorem own_get {c : Cell} {i : Nat} (q : c.slots.toList = vs) (d : Value) (hi : i < vs.length) : c.slots[i]? = some (vs.getD i d) := by
  have e : c.slots = vs.toArray := by rw [← q]
  rw [e]
  simp [List.getD, hi]
theorem own_set {c : Cell} {i : Nat} {v : Value} (q : c.slots.toList = vs) : (c.setSlot i v).slots.toList = vs.set i v := by
  have e : c.slots = vs.toArray := by rw [← q]
  simp [Cell.setSlot, e]
theorem own_fits {i : Nat} {v : Value} (q : ∀ v ∈ vs, fits ty v = true) (hv : fits ty v = true) : ∀ u ∈ vs.set i v, fits ty u = true := fun u hu => by
  rcases List.mem_or_eq_of_mem_set hu with r | r
  · exact q u r
  · rw [r]; exact hv
theorem own_mapGet {bs : List Int32} {i : Nat} (hi : i < bs.length) : (bs.map Value.int).getD i (.int 0) = .int (bs.getD i 0) := by simp [List.getD, hi]
theorem own_mapGetJ {bs : List Int64} {i : Nat} (hi : i < bs.length) : (bs.map Value.long).getD i (.long 0) = .long (bs.getD i 0) := by simp [List.getD, hi]
theorem own_mapSet {bs : List Int32} {i : Nat} {v : Int32} : (bs.map Value.int).set i (.int v) = (bs.set i v).map Value.int := by simp
theorem own_mapSetJ {bs : List Int64} {i : Nat} {v : Int64} : (bs.map Value.long).set i (.long v) = (bs.set i v).map Value.long := by simp
theorem own_inbM {α : Type} {f : α → Value} {bs : List α} {j : Int32} (q : own_inb bs j) : own_inb (bs.map f) j := ⟨q.1, by rw [List.length_map]; exact q.2⟩
theorem own_len {α : Type} {f : α → Value} {bs : List α} (X : Stand p l e R s m args below meth c T locs cells slots) (hx : p.tables.exec = Jvm.exec) (hZ : Z.Warmed39 s.vm) (eT : T.heap = h) (A : own_Ar Z h a ty (bs.map f)) {g : JFrame} (hg : g.method = m) {rest : List Value} (hs : g.stack = .ref a :: rest) (hd : decode c.code g.pc = .ok (.arraylength, 1)) {target : State}
    (hr : Steps p.tables e below (T.setTop { g with pc := g.pc + 1, stack := .int (own_sz bs) :: rest }) target) : Steps p.tables e below (T.setTop g) target := by
  obtain ⟨cl, A, q, -⟩ := A
  refine X.arraylength hx (by rw [eT]; exact A.1) (State.isArrayOf_alike hZ.alike A.2.1) hg hs hd _ ?_
  rw [own_Ar.size q, List.length_map]; exact hr
theorem own_ldI {bs : List Int32} {j : Int32} (X : Stand p l e R s m args below meth c T locs cells slots) (hx : p.tables.exec = Jvm.exec) (hZ : Z.Warmed39 s.vm) (eT : T.heap = h) (A : own_Ar Z h a .int (bs.map Value.int)) (hj : own_inb bs j) {g : JFrame} (hg : g.method = m) {rest : List Value} (hs : g.stack = .int j :: .ref a :: rest) (hd : decode c.code g.pc = .ok (.iaload, 1)) {target : State}
    (hr : Steps p.tables e below (T.setTop { g with pc := g.pc + 1, stack := .int (own_rd bs j) :: rest }) target) : Steps p.tables e below (T.setTop g) target := by
  obtain ⟨cl, A, q, -⟩ := A
  exact X.iaload hx (by rw [eT]; exact A.1) (State.isArrayOf_alike hZ.alike A.2.1) A.2.2 (own_in q (own_inbM hj)) ((own_get q (.int 0) (own_inbM hj).2).trans (congrArg some (own_mapGet hj.2))) hg hs hd _ hr
theorem own_ldB {bs : List Int32} {j : Int32} (X : Stand p l e R s m args below meth c T locs cells slots) (hx : p.tables.exec = Jvm.exec) (hZ : Z.Warmed39 s.vm) (eT : T.heap = h) (A : own_Ar Z h a .byte (bs.map Value.int)) (hj : own_inb bs j) {g : JFrame} (hg : g.method = m) {rest : List Value} (hs : g.stack = .int j :: .ref a :: rest) (hd : decode c.code g.pc = .ok (.baload, 1)) {target : State}
    (hr : Steps p.tables e below (T.setTop { g with pc := g.pc + 1, stack := .int (own_rd bs j) :: rest }) target) : Steps p.tables e below (T.setTop g) target := by
  obtain ⟨cl, A, q, -⟩ := A
  exact X.baloadBytes hx (by rw [eT]; exact A.1) (State.isArrayOf_alike hZ.alike A.2.1) A.2.2 (own_in q (own_inbM hj)) ((own_get q (.int 0) (own_inbM hj).2).trans (congrArg some (own_mapGet hj.2))) hg hs hd _ hr
theorem own_ldZ {bs : List Int32} {j : Int32} (X : Stand p l e R s m args below meth c T locs cells slots) (hx : p.tables.exec = Jvm.exec) (hZ : Z.Warmed39 s.vm) (eT : T.heap = h) (A : own_Ar Z h a .boolean (bs.map Value.int)) (hj : own_inb bs j) {g : JFrame} (hg : g.method = m) {rest : List Value} (hs : g.stack = .int j :: .ref a :: rest) (hd : decode c.code g.pc = .ok (.baload, 1)) {target : State}
    (hr : Steps p.tables e below (T.setTop { g with pc := g.pc + 1, stack := .int (own_rd bs j) :: rest }) target) : Steps p.tables e below (T.setTop g) target := by
  obtain ⟨cl, A, q, -⟩ := A
  exact X.baloadBooleans hx (by rw [eT]; exact A.1) (State.isArrayOf_alike hZ.alike A.2.1) A.2.2 (own_in q (own_inbM hj)) ((own_get q (.int 0) (own_inbM hj).2).trans (congrArg some (own_mapGet hj.2))) hg hs hd _ hr
theorem own_ldJ {bs : List Int64} {j : Int32} (X : Stand p l e R s m args below meth c T locs cells slots) (hx : p.tables.exec = Jvm.exec) (hZ : Z.Warmed39 s.vm) (eT : T.heap = h) (A : own_Ar Z h a .long (bs.map Value.long)) (hj : own_inb bs j) {g : JFrame} (hg : g.method = m) {rest : List Value} (hs : g.stack = .int j :: .ref a :: rest) (hd : decode c.code g.pc = .ok (.laload, 1)) {target : State}
    (hr : Steps p.tables e below (T.setTop { g with pc := g.pc + 1, stack := .long (own_rd bs j) :: rest }) target) : Steps p.tables e below (T.setTop g) target := by
  obtain ⟨cl, A, q, -⟩ := A
  exact X.laload hx (by rw [eT]; exact A.1) (State.isArrayOf_alike hZ.alike A.2.1) A.2.2 (own_in q (own_inbM hj)) ((own_get q (.long 0) (own_inbM hj).2).trans (congrArg some (own_mapGetJ hj.2))) hg hs hd _ hr
theorem own_stI {bs : List Int32} {j x : Int32} (X : Stand p l e R s m args below meth c T locs cells slots) (hx : p.tables.exec = Jvm.exec) (hZ : Z.Warmed39 s.vm) (eT : T.heap = h) (A : own_Ar Z h a .int (bs.map Value.int)) (hj : own_inb bs j) {g : JFrame} (hg : g.method = m) {rest : List Value} (hs : g.stack = .int x :: .int j :: .ref a :: rest) (hd : decode c.code g.pc = .ok (.iastore, 1)) :
    ∃ T' h', Stand p l e R s m args below meth c T' (locs ++ [⟨a, j.toNatClampNeg⟩]) cells slots ∧ T'.heap = h' ∧ Wr h h' a j.toNatClampNeg (.int x) ∧ own_Ar Z h' a .int ((own_wr bs j x).map Value.int) ∧ ∀ target, Steps p.tables e below (T'.setTop { g with pc := g.pc + 1, stack := rest }) target → Steps p.tables e below (T.setTop g) target := by
  obtain ⟨cl, A, q, r, ft⟩ := A
  obtain ⟨T', h', X', e', W, st⟩ := stI X hx hZ eT A (own_in q (own_inbM hj)) hg hs hd
  exact ⟨T', h', X', e', W, ⟨_, A.same W, (own_set q).trans own_mapSet, by simpa [own_wr] using r, own_mapSet ▸ own_fits ft rfl⟩, st⟩
theorem own_stB {bs : List Int32} {j x : Int32} (X : Stand p l e R s m args below meth c T locs cells slots) (hx : p.tables.exec = Jvm.exec) (hZ : Z.Warmed39 s.vm) (eT : T.heap = h) (A : own_Ar Z h a .byte (bs.map Value.int)) (hj : own_inb bs j) {g : JFrame} (hg : g.method = m) {rest : List Value} (hs : g.stack = .int x :: .int j :: .ref a :: rest) (hd : decode c.code g.pc = .ok (.bastore, 1)) :
    ∃ T' h', Stand p l e R s m args below meth c T' (locs ++ [⟨a, j.toNatClampNeg⟩]) cells slots ∧ T'.heap = h' ∧ Wr h h' a j.toNatClampNeg (.int x.toInt8.toInt32) ∧ own_Ar Z h' a .byte ((own_wr bs j x.toInt8.toInt32).map Value.int) ∧ ∀ target, Steps p.tables e below (T'.setTop { g with pc := g.pc + 1, stack := rest }) target → Steps p.tables e below (T.setTop g) target := by
  obtain ⟨cl, A, q, r, ft⟩ := A
  obtain ⟨T', h', X', e', W, st⟩ := stB X hx hZ eT A (own_in q (own_inbM hj)) hg hs hd
  exact ⟨T', h', X', e', W, ⟨_, A.same W, (own_set q).trans own_mapSet, by simpa [own_wr] using r, own_mapSet ▸ own_fits ft (fits_nar_byte _)⟩, st⟩
theorem own_stZ {bs : List Int32} {j x : Int32} (X : Stand p l e R s m args below meth c T locs cells slots) (hx : p.tables.exec = Jvm.exec) (hZ : Z.Warmed39 s.vm) (eT : T.heap = h) (A : own_Ar Z h a .boolean (bs.map Value.int)) (hj : own_inb bs j) {g : JFrame} (hg : g.method = m) {rest : List Value} (hs : g.stack = .int x :: .int j :: .ref a :: rest) (hd : decode c.code g.pc = .ok (.bastore, 1)) :
    ∃ T' h', Stand p l e R s m args below meth c T' (locs ++ [⟨a, j.toNatClampNeg⟩]) cells slots ∧ T'.heap = h' ∧ Wr h h' a j.toNatClampNeg (.int (x &&& 1)) ∧ own_Ar Z h' a .boolean ((own_wr bs j (x &&& 1)).map Value.int) ∧ ∀ target, Steps p.tables e below (T'.setTop { g with pc := g.pc + 1, stack := rest }) target → Steps p.tables e below (T.setTop g) target := by
  obtain ⟨cl, A, q, r, ft⟩ := A
  obtain ⟨T', h', X', e', W, st⟩ := stZ X hx hZ eT A (own_in q (own_inbM hj)) hg hs hd
  exact ⟨T', h', X', e', W, ⟨_, A.same W, (own_set q).trans own_mapSet, by simpa [own_wr] using r, own_mapSet ▸ own_fits ft (fits_nar_bool _)⟩, st⟩
theorem own_stJ {bs : List Int64} {j : Int32} {x : Int64} (X : Stand p l e R s m args below meth c T locs cells slots) (hx : p.tables.exec = Jvm.exec) (hZ : Z.Warmed39 s.vm) (eT : T.heap = h) (A : own_Ar Z h a .long (bs.map Value.long)) (hj : own_inb bs j) {g : JFrame} (hg : g.method = m) {rest : List Value} (hs : g.stack = .long x :: .int j :: .ref a :: rest) (hd : decode c.code g.pc = .ok (.lastore, 1)) :
    ∃ T' h', Stand p l e R s m args below meth c T' (locs ++ [⟨a, j.toNatClampNeg⟩]) cells slots ∧ T'.heap = h' ∧ Wr h h' a j.toNatClampNeg (.long x) ∧ own_Ar Z h' a .long ((own_wr bs j x).map Value.long) ∧ ∀ target, Steps p.tables e below (T'.setTop { g with pc := g.pc + 1, stack := rest }) target → Steps p.tables e below (T.setTop g) target := by
  obtain ⟨cl, A, q, r, ft⟩ := A
  obtain ⟨T', h', X', e', W, st⟩ := stJ X hx hZ eT A (own_in q (own_inbM hj)) hg hs hd
  exact ⟨T', h', X', e', W, ⟨_, A.same W, (own_set q).trans own_mapSetJ, by simpa [own_wr] using r, own_mapSetJ ▸ own_fits ft rfl⟩, st⟩
theorem own_newI {k : ClassId} {n : Int32} (A : Arr Z h a (newA k ty n) ty) (q : ¬ n < 0) (hd : defaultValue ty = .int 0) : own_Ar Z h a ty ((List.replicate n.toNatClampNeg (0 : Int32)).map Value.int) :=
  ⟨_, A, by simp [newA, hd], by rw [List.length_map, List.length_replicate]; exact (back32 q).2, fun v hv => by
    rw [List.map_replicate] at hv
    rw [(List.mem_replicate.mp hv).2, ← hd]; cases ty <;> rfl⟩
theorem own_newJ {k : ClassId} {n : Int32} (A : Arr Z h a (newA k ty n) ty) (q : ¬ n < 0) (hd : defaultValue ty = .long 0) : own_Ar Z h a ty ((List.replicate n.toNatClampNeg (0 : Int64)).map Value.long) :=
  ⟨_, A, by simp [newA, hd], by rw [List.length_map, List.length_replicate]; exact (back32 q).2, fun v hv => by
    rw [List.map_replicate] at hv
    rw [(List.mem_replicate.mp hv).2, ← hd]; cases ty <;> rfl⟩
end Own
theorem w0 {a0 : Array Value} {Z : State} (hw : ∀ d ∈ tables_1, d.before a0 Z = true) : ((Jvm.Cond.methodLink "com/example/oxpecker/oxpecker/model/HostPortIsPortPinLaw" (17 : Nat) ({ cls := "com/example/oxpecker/oxpecker/model/HostPortIsPortPinLaw", name := "edge", desc := "(I)I" } : Jvm.MethodName))).before a0 Z = true := hw _ (List.mem_of_getElem? (i := 0) rfl)
theorem w1 {a0 : Array Value} {Z : State} (hw : ∀ d ∈ tables_1, d.before a0 Z = true) : ((Jvm.Cond.static ({ cls := "com/example/oxpecker/oxpecker/model/HostPortIsPortPinLaw", name := "edge", desc := "(I)I" } : Jvm.MethodName))).before a0 Z = true := hw _ (List.mem_of_getElem? (i := 1) rfl)
theorem w2 {a0 : Array Value} {Z : State} (hw : ∀ d ∈ tables_1, d.before a0 Z = true) : ((Jvm.Cond.initialized "com/example/oxpecker/oxpecker/model/HostPortIsPortPinLaw")).before a0 Z = true := hw _ (List.mem_of_getElem? (i := 2) rfl)
theorem w3 {a0 : Array Value} {Z : State} (hw : ∀ d ∈ tables_1, d.before a0 Z = true) : ((Jvm.Cond.code ({ cls := "com/example/oxpecker/oxpecker/model/HostPortIsPortPinLaw", name := "edge", desc := "(I)I" } : Jvm.MethodName) method_3_code (2 : Nat) (Option.some Jvm.ClassFile.FieldType.int))).before a0 Z = true := hw _ (List.mem_of_getElem? (i := 3) rfl)
theorem w4 {a0 : Array Value} {Z : State} (hw : ∀ d ∈ tables_1, d.before a0 Z = true) : ((Jvm.Cond.constant "com/example/oxpecker/oxpecker/model/HostPortIsPortPinLaw" (12 : Nat) (65536 : Int32))).before a0 Z = true := hw _ (List.mem_of_getElem? (i := 4) rfl)
theorem w5 {a0 : Array Value} {Z : State} (hw : ∀ d ∈ tables_1, d.before a0 Z = true) : ((Jvm.Cond.methodLink "com/example/oxpecker/oxpecker/model/HostPortIsPortPinLaw" (23 : Nat) ({ cls := "com/example/oxpecker/oxpecker/model/HostPort", name := "isPort", desc := "(I)Z" } : Jvm.MethodName))).before a0 Z = true := hw _ (List.mem_of_getElem? (i := 5) rfl)
theorem w6 {a0 : Array Value} {Z : State} (hw : ∀ d ∈ tables_1, d.before a0 Z = true) : ((Jvm.Cond.static ({ cls := "com/example/oxpecker/oxpecker/model/HostPort", name := "isPort", desc := "(I)Z" } : Jvm.MethodName))).before a0 Z = true := hw _ (List.mem_of_getElem? (i := 6) rfl)
theorem w7 {a0 : Array Value} {Z : State} (hw : ∀ d ∈ tables_1, d.before a0 Z = true) : ((Jvm.Cond.initialized "com/example/oxpecker/oxpecker/model/HostPort")).before a0 Z = true := hw _ (List.mem_of_getElem? (i := 7) rfl)
theorem w8 {a0 : Array Value} {Z : State} (hw : ∀ d ∈ tables_1, d.before a0 Z = true) : ((Jvm.Cond.code ({ cls := "com/example/oxpecker/oxpecker/model/HostPort", name := "isPort", desc := "(I)Z" } : Jvm.MethodName) prog_1_method_2_code (1 : Nat) (Option.some Jvm.ClassFile.FieldType.boolean))).before a0 Z = true := hw _ (List.mem_of_getElem? (i := 8) rfl)
theorem w9 {a0 : Array Value} {Z : State} (hw : ∀ d ∈ tables_1, d.before a0 Z = true) : ((Jvm.Cond.methodLink "com/example/oxpecker/oxpecker/model/HostPortIsPortPinLaw" (29 : Nat) ({ cls := "com/example/oxpecker/oxpecker/model/HostPortIsPortPinLaw", name := "ref", desc := "(I)Z" } : Jvm.MethodName))).before a0 Z = true := hw _ (List.mem_of_getElem? (i := 9) rfl)
theorem w10 {a0 : Array Value} {Z : State} (hw : ∀ d ∈ tables_1, d.before a0 Z = true) : ((Jvm.Cond.static ({ cls := "com/example/oxpecker/oxpecker/model/HostPortIsPortPinLaw", name := "ref", desc := "(I)Z" } : Jvm.MethodName))).before a0 Z = true := hw _ (List.mem_of_getElem? (i := 10) rfl)
theorem w11 {a0 : Array Value} {Z : State} (hw : ∀ d ∈ tables_1, d.before a0 Z = true) : ((Jvm.Cond.code ({ cls := "com/example/oxpecker/oxpecker/model/HostPortIsPortPinLaw", name := "ref", desc := "(I)Z" } : Jvm.MethodName) method_2_code (3 : Nat) (Option.some Jvm.ClassFile.FieldType.boolean))).before a0 Z = true := hw _ (List.mem_of_getElem? (i := 11) rfl)
theorem w12 {a0 : Array Value} {Z : State} (hw : ∀ d ∈ tables_1, d.before a0 Z = true) : ((Jvm.Cond.constantLong "com/example/oxpecker/oxpecker/model/HostPortIsPortPinLaw" (7 : Nat) (4294967295 : Int64))).before a0 Z = true := hw _ (List.mem_of_getElem? (i := 12) rfl)
theorem w13 {a0 : Array Value} {Z : State} (hw : ∀ d ∈ tables_1, d.before a0 Z = true) : ((Jvm.Cond.constantLong "com/example/oxpecker/oxpecker/model/HostPortIsPortPinLaw" (9 : Nat) (65535 : Int64))).before a0 Z = true := hw _ (List.mem_of_getElem? (i := 13) rfl)
theorem w14 {a0 : Array Value} {Z : State} (hw : ∀ d ∈ tables_1, d.before a0 Z = true) : ((Jvm.Cond.constant "com/example/oxpecker/oxpecker/model/HostPort" (45 : Nat) (65535 : Int32))).before a0 Z = true := hw _ (List.mem_of_getElem? (i := 14) rfl)
theorem w15 {a0 : Array Value} {Z : State} (hw : ∀ d ∈ tables_1, d.before a0 Z = true) : ((Jvm.Cond.constant "com/example/oxpecker/oxpecker/model/HostPortIsPortPinLaw" (15 : Nat) (-2147483648 : Int32))).before a0 Z = true := hw _ (List.mem_of_getElem? (i := 15) rfl)
theorem w16 {a0 : Array Value} {Z : State} (hw : ∀ d ∈ tables_1, d.before a0 Z = true) : ((Jvm.Cond.constant "com/example/oxpecker/oxpecker/model/HostPortIsPortPinLaw" (16 : Nat) (2147483647 : Int32))).before a0 Z = true := hw _ (List.mem_of_getElem? (i := 16) rfl)
theorem w17 {a0 : Array Value} {Z : State} (hw : ∀ d ∈ tables_1, d.before a0 Z = true) : ((Jvm.Cond.constant "com/example/oxpecker/oxpecker/model/HostPortIsPortPinLaw" (11 : Nat) (65535 : Int32))).before a0 Z = true := hw _ (List.mem_of_getElem? (i := 17) rfl)
theorem pn_com_example_oxpecker_oxpecker_model_HostPortIsPortPinLaw : plainName "com/example/oxpecker/oxpecker/model/HostPortIsPortPinLaw" = true := by first | (simp [plainName, overriddenIn]; done) | decide +kernel
theorem pn_com_example_oxpecker_oxpecker_model_HostPort : plainName "com/example/oxpecker/oxpecker/model/HostPort" = true := by first | (simp [plainName, overriddenIn]; done) | decide +kernel
theorem pd_0 : parseMethodDescriptor "(I)I" = some ⟨[.int], some .int⟩ := by decide +kernel
theorem pd_1 : parseMethodDescriptor "(I)Z" = some ⟨[.int], some .boolean⟩ := by decide +kernel
theorem dHostPortIsPortPinLaw_edge_0 : decode method_3_code 0 = .ok (.iload_n 0, 1) := by decide +kernel
theorem dHostPortIsPortPinLaw_edge_1 : decode method_3_code 1 = .ok (.bipush 7, 2) := by decide +kernel
theorem dHostPortIsPortPinLaw_edge_3 : decode method_3_code 3 = .ok (.iand, 1) := by decide +kernel
theorem dHostPortIsPortPinLaw_edge_4 : decode method_3_code 4 = .ok (.istore_n 1, 1) := by decide +kernel
theorem dHostPortIsPortPinLaw_edge_5 : decode method_3_code 5 = .ok (.iload_n 1, 1) := by decide +kernel
theorem dHostPortIsPortPinLaw_edge_6 : decode method_3_code 6 = .ok (.ifCond .ne 5, 3) := by decide +kernel
theorem dHostPortIsPortPinLaw_edge_9 : decode method_3_code 9 = .ok (.iconst 0, 1) := by decide +kernel
theorem dHostPortIsPortPinLaw_edge_10 : decode method_3_code 10 = .ok (.ireturn, 1) := by decide +kernel
theorem dHostPortIsPortPinLaw_edge_11 : decode method_3_code 11 = .ok (.iload_n 1, 1) := by decide +kernel
theorem dHostPortIsPortPinLaw_edge_12 : decode method_3_code 12 = .ok (.iconst 1, 1) := by decide +kernel
theorem dHostPortIsPortPinLaw_edge_13 : decode method_3_code 13 = .ok (.if_icmp .ne 5, 3) := by decide +kernel
theorem dHostPortIsPortPinLaw_edge_16 : decode method_3_code 16 = .ok (.iconst 1, 1) := by decide +kernel
theorem dHostPortIsPortPinLaw_edge_17 : decode method_3_code 17 = .ok (.ireturn, 1) := by decide +kernel
theorem dHostPortIsPortPinLaw_edge_18 : decode method_3_code 18 = .ok (.iload_n 1, 1) := by decide +kernel
theorem dHostPortIsPortPinLaw_edge_19 : decode method_3_code 19 = .ok (.iconst 2, 1) := by decide +kernel
theorem dHostPortIsPortPinLaw_edge_20 : decode method_3_code 20 = .ok (.if_icmp .ne 6, 3) := by decide +kernel
theorem dHostPortIsPortPinLaw_edge_23 : decode method_3_code 23 = .ok (.ldc 11, 2) := by decide +kernel
theorem dHostPortIsPortPinLaw_edge_25 : decode method_3_code 25 = .ok (.ireturn, 1) := by decide +kernel
theorem dHostPortIsPortPinLaw_edge_26 : decode method_3_code 26 = .ok (.iload_n 1, 1) := by decide +kernel
theorem dHostPortIsPortPinLaw_edge_27 : decode method_3_code 27 = .ok (.iconst 3, 1) := by decide +kernel
theorem dHostPortIsPortPinLaw_edge_28 : decode method_3_code 28 = .ok (.if_icmp .ne 6, 3) := by decide +kernel
theorem dHostPortIsPortPinLaw_edge_31 : decode method_3_code 31 = .ok (.ldc 12, 2) := by decide +kernel
theorem dHostPortIsPortPinLaw_edge_33 : decode method_3_code 33 = .ok (.ireturn, 1) := by decide +kernel
theorem dHostPortIsPortPinLaw_edge_34 : decode method_3_code 34 = .ok (.iload_n 1, 1) := by decide +kernel
theorem dHostPortIsPortPinLaw_edge_35 : decode method_3_code 35 = .ok (.iconst 4, 1) := by decide +kernel
theorem dHostPortIsPortPinLaw_edge_36 : decode method_3_code 36 = .ok (.if_icmp .ne 6, 3) := by decide +kernel
theorem dHostPortIsPortPinLaw_edge_39 : decode method_3_code 39 = .ok (.ldc 15, 2) := by decide +kernel
theorem dHostPortIsPortPinLaw_edge_41 : decode method_3_code 41 = .ok (.ireturn, 1) := by decide +kernel
theorem dHostPortIsPortPinLaw_edge_42 : decode method_3_code 42 = .ok (.iload_n 1, 1) := by decide +kernel
theorem dHostPortIsPortPinLaw_edge_43 : decode method_3_code 43 = .ok (.iconst 5, 1) := by decide +kernel
theorem dHostPortIsPortPinLaw_edge_44 : decode method_3_code 44 = .ok (.if_icmp .ne 6, 3) := by decide +kernel
theorem dHostPortIsPortPinLaw_edge_47 : decode method_3_code 47 = .ok (.ldc 16, 2) := by decide +kernel
theorem dHostPortIsPortPinLaw_edge_49 : decode method_3_code 49 = .ok (.ireturn, 1) := by decide +kernel
theorem dHostPortIsPortPinLaw_edge_50 : decode method_3_code 50 = .ok (.iload_n 1, 1) := by decide +kernel
theorem dHostPortIsPortPinLaw_edge_51 : decode method_3_code 51 = .ok (.bipush 6, 2) := by decide +kernel
theorem dHostPortIsPortPinLaw_edge_53 : decode method_3_code 53 = .ok (.if_icmp .ne 5, 3) := by decide +kernel
theorem dHostPortIsPortPinLaw_edge_56 : decode method_3_code 56 = .ok (.iconst (-1), 1) := by decide +kernel
theorem dHostPortIsPortPinLaw_edge_57 : decode method_3_code 57 = .ok (.ireturn, 1) := by decide +kernel
theorem dHostPortIsPortPinLaw_edge_58 : decode method_3_code 58 = .ok (.iconst 2, 1) := by decide +kernel
theorem dHostPortIsPortPinLaw_edge_59 : decode method_3_code 59 = .ok (.ireturn, 1) := by decide +kernel
theorem dHostPort_isPort_0 : decode prog_1_method_2_code 0 = .ok (.iload_n 0, 1) := by decide +kernel
theorem dHostPort_isPort_1 : decode prog_1_method_2_code 1 = .ok (.iconst 1, 1) := by decide +kernel
theorem dHostPort_isPort_2 : decode prog_1_method_2_code 2 = .ok (.if_icmp .lt 13, 3) := by decide +kernel
theorem dHostPort_isPort_5 : decode prog_1_method_2_code 5 = .ok (.iload_n 0, 1) := by decide +kernel
theorem dHostPort_isPort_6 : decode prog_1_method_2_code 6 = .ok (.ldc 45, 2) := by decide +kernel
theorem dHostPort_isPort_8 : decode prog_1_method_2_code 8 = .ok (.if_icmp .gt 7, 3) := by decide +kernel
theorem dHostPort_isPort_11 : decode prog_1_method_2_code 11 = .ok (.iconst 1, 1) := by decide +kernel
theorem dHostPort_isPort_12 : decode prog_1_method_2_code 12 = .ok (.goto 4, 3) := by decide +kernel
theorem dHostPort_isPort_15 : decode prog_1_method_2_code 15 = .ok (.iconst 0, 1) := by decide +kernel
theorem dHostPort_isPort_16 : decode prog_1_method_2_code 16 = .ok (.ireturn, 1) := by decide +kernel
theorem dHostPortIsPortPinLaw_ref_0 : decode method_2_code 0 = .ok (.iload_n 0, 1) := by decide +kernel
theorem dHostPortIsPortPinLaw_ref_1 : decode method_2_code 1 = .ok (.iconst 1, 1) := by decide +kernel
theorem dHostPortIsPortPinLaw_ref_2 : decode method_2_code 2 = .ok (.isub, 1) := by decide +kernel
theorem dHostPortIsPortPinLaw_ref_3 : decode method_2_code 3 = .ok (.i2l, 1) := by decide +kernel
theorem dHostPortIsPortPinLaw_ref_4 : decode method_2_code 4 = .ok (.ldc2_w 7, 3) := by decide +kernel
theorem dHostPortIsPortPinLaw_ref_7 : decode method_2_code 7 = .ok (.land, 1) := by decide +kernel
theorem dHostPortIsPortPinLaw_ref_8 : decode method_2_code 8 = .ok (.lstore_n 1, 1) := by decide +kernel
theorem dHostPortIsPortPinLaw_ref_9 : decode method_2_code 9 = .ok (.lload_n 1, 1) := by decide +kernel
theorem dHostPortIsPortPinLaw_ref_10 : decode method_2_code 10 = .ok (.ldc2_w 9, 3) := by decide +kernel
theorem dHostPortIsPortPinLaw_ref_13 : decode method_2_code 13 = .ok (.lcmp, 1) := by decide +kernel
theorem dHostPortIsPortPinLaw_ref_14 : decode method_2_code 14 = .ok (.ifCond .ge 7, 3) := by decide +kernel
theorem dHostPortIsPortPinLaw_ref_17 : decode method_2_code 17 = .ok (.iconst 1, 1) := by decide +kernel
theorem dHostPortIsPortPinLaw_ref_18 : decode method_2_code 18 = .ok (.goto 4, 3) := by decide +kernel
theorem dHostPortIsPortPinLaw_ref_21 : decode method_2_code 21 = .ok (.iconst 0, 1) := by decide +kernel
theorem dHostPortIsPortPinLaw_ref_22 : decode method_2_code 22 = .ok (.ireturn, 1) := by decide +kernel
/-! com/example/oxpecker/oxpecker/model/HostPortIsPortPinLaw.edge:(I)I -/
def f_HostPortIsPortPinLaw_edge (v0 : Int32) : Option (Int32) :=
  own_lt (v0 &&& (7 : Int32)) fun x4 =>
  if x4 = (0 : Int32) then
    some (0 : Int32)
  else
    if x4 = (1 : Int32) then
      some (1 : Int32)
    else
      if x4 = (2 : Int32) then
        some (65535 : Int32)
      else
        if x4 = (3 : Int32) then
          some (65536 : Int32)
        else
          if x4 = (4 : Int32) then
            some (-2147483648 : Int32)
          else
            if x4 = (5 : Int32) then
              some (2147483647 : Int32)
            else
              if x4 = (6 : Int32) then
                some (-1 : Int32)
              else
                some (2 : Int32)
def Q_HostPortIsPortPinLaw_edge (Z : State) (hE : Heap) (n0 : Nat)  (r : Int32) (v : Option Value) (h : Heap) (L : List Loc) : Prop := v = some (.int r) ∧ Fr n0 L ∧ h = hE
def Cx_HostPortIsPortPinLaw_edge (p : Program) (s : State) (m : MethodId) (meth : Method) (c : Code) (Z : State) (a0 : Array Value) : Prop := p.tables.exec = Jvm.exec ∧ Z.Warmed39 s.vm ∧ (∀ d ∈ tables_1, d.before a0 Z = true) ∧ c.code = method_3_code ∧ c.maxLocals = 2 ∧ s.vm.findClass "com/example/oxpecker/oxpecker/model/HostPortIsPortPinLaw" = some m.cls ∧ meth.sig.returnType = some .int ∧ meth.locks = false ∧ meth.name = "edge"
set_option maxRecDepth 65536 in
set_option maxHeartbeats 40000000 in
theorem b_HostPortIsPortPinLaw_edge {p : Program} {l : Launch} {e : Env} {s : State} {m : MethodId} {args : Array Value} {below : List Frame} {meth : Method} {c : Code} {Z : State} {a0 : Array Value} {n0 : Nat} {hE : Heap} (cx : Cx_HostPortIsPortPinLaw_edge p s m meth c Z a0) :
    ∀ {T : State} {locs : List Loc} (X : Stand p l e ({ frames := 0, cells := 0, slots := 0, locals := 0 } : Room) s m args below meth c T locs 0 0) (eT : T.heap = hE) (N : Fr n0 locs) (z : n0 ≤ hE.size) (v0 : Int32) (r : Int32), f_HostPortIsPortPinLaw_edge v0 = some r → own_Goes p e below s (Q_HostPortIsPortPinLaw_edge Z hE n0 r) 0 0 (T.setTop (mkF m 0 #[.val (.int v0), .unset] [])) := by
  have cx' := cx
  obtain ⟨hx, hZ, hw, hby, hml, hown, hret, hlk, hnm⟩ := cx'
  intro T locs X eT N z v0 r hF
  unfold f_HostPortIsPortPinLaw_edge at hF
  refine own_Goes.via (B := T.setTop (mkF m 4 #[.val (.int v0), .unset] [(.int (v0 &&& (7 : Int32)))])) (fun t k => ?_) ?_
  · show Steps p.tables e below (T.setTop (mkF m 0 #[.val (.int v0), .unset] [])) t
    refine XS.iloadN X.here hx rfl (hb hby dHostPortIsPortPinLaw_edge_0) rfl ?_
    show Steps p.tables e below (T.setTop (mkF m 1 #[.val (.int v0), .unset] [(.int v0)])) t
    refine XS.bipush X.here hx rfl (hb hby dHostPortIsPortPinLaw_edge_1) ?_
    show Steps p.tables e below (T.setTop (mkF m 3 #[.val (.int v0), .unset] [(.int (7 : Int32)), (.int v0)])) t
    refine XS.iand X.here hx rfl (hb hby dHostPortIsPortPinLaw_edge_3) rfl ?_
    exact k
  obtain ⟨x4, hx4, hF⟩ := own_lt_e hF
  rw [← hx4]
  refine own_Goes.via (B := T.setTop (mkF m 6 #[.val (.int v0), .val (.int x4)] [(.int x4)])) (fun t k => ?_) ?_
  · show Steps p.tables e below (T.setTop (mkF m 4 #[.val (.int v0), .unset] [(.int x4)])) t
    refine XS.istoreN X.here hx rfl (hb hby dHostPortIsPortPinLaw_edge_4) rfl (l' := #[.val (.int v0), .val (.int x4)]) rfl ?_
    show Steps p.tables e below (T.setTop (mkF m 5 #[.val (.int v0), .val (.int x4)] [])) t
    refine XS.iloadN X.here hx rfl (hb hby dHostPortIsPortPinLaw_edge_5) rfl ?_
    exact k
  by_cases hc6 : x4 = (0 : Int32)
  · rw [if_pos hc6] at hF
    refine own_Goes.via (B := T.setTop (mkF m 10 #[.val (.int v0), .val (.int x4)] [(.int (0 : Int32))])) (fun t k => ?_) ?_
    · show Steps p.tables e below (T.setTop (mkF m 6 #[.val (.int v0), .val (.int x4)] [(.int x4)])) t
      refine XS.ifNo X.here hx rfl (hb hby dHostPortIsPortPinLaw_edge_6) rfl ((if0 _ _).trans (teq hc6).2) ?_
      show Steps p.tables e below (T.setTop (mkF m 9 #[.val (.int v0), .val (.int x4)] [])) t
      refine XS.iconst X.here hx rfl (hb hby dHostPortIsPortPinLaw_edge_9) ?_
      exact k
    obtain rfl : (0 : Int32) = r := Option.some.inj hF
    exact own_retI X hx hret hlk (hb hby dHostPortIsPortPinLaw_edge_10) eT ⟨rfl, N, rfl⟩ (by decide) (by decide)
  · rw [if_neg hc6] at hF
    refine own_Goes.via (B := T.setTop (mkF m 13 #[.val (.int v0), .val (.int x4)] [(.int (1 : Int32)), (.int x4)])) (fun t k => ?_) ?_
    · show Steps p.tables e below (T.setTop (mkF m 6 #[.val (.int v0), .val (.int x4)] [(.int x4)])) t
      refine XS.ifYes X.here hx rfl (pc0 := 6) (pc' := 11) rfl (hb hby dHostPortIsPortPinLaw_edge_6) rfl ((if0 _ _).trans (feq hc6).2) (by decide) (by decide) ?_
      show Steps p.tables e below (T.setTop (mkF m 11 #[.val (.int v0), .val (.int x4)] [])) t
      refine XS.iloadN X.here hx rfl (hb hby dHostPortIsPortPinLaw_edge_11) rfl ?_
      show Steps p.tables e below (T.setTop (mkF m 12 #[.val (.int v0), .val (.int x4)] [(.int x4)])) t
      refine XS.iconst X.here hx rfl (hb hby dHostPortIsPortPinLaw_edge_12) ?_
      exact k
    by_cases hc13 : x4 = (1 : Int32)
    · rw [if_pos hc13] at hF
      refine own_Goes.via (B := T.setTop (mkF m 17 #[.val (.int v0), .val (.int x4)] [(.int (1 : Int32))])) (fun t k => ?_) ?_
      · show Steps p.tables e below (T.setTop (mkF m 13 #[.val (.int v0), .val (.int x4)] [(.int (1 : Int32)), (.int x4)])) t
        refine XS.icmpNo X.here hx rfl (hb hby dHostPortIsPortPinLaw_edge_13) rfl (teq hc13).2 ?_
        show Steps p.tables e below (T.setTop (mkF m 16 #[.val (.int v0), .val (.int x4)] [])) t
        refine XS.iconst X.here hx rfl (hb hby dHostPortIsPortPinLaw_edge_16) ?_
        exact k
      obtain rfl : (1 : Int32) = r := Option.some.inj hF
      exact own_retI X hx hret hlk (hb hby dHostPortIsPortPinLaw_edge_17) eT ⟨rfl, N, rfl⟩ (by decide) (by decide)
    · rw [if_neg hc13] at hF
      refine own_Goes.via (B := T.setTop (mkF m 20 #[.val (.int v0), .val (.int x4)] [(.int (2 : Int32)), (.int x4)])) (fun t k => ?_) ?_
      · show Steps p.tables e below (T.setTop (mkF m 13 #[.val (.int v0), .val (.int x4)] [(.int (1 : Int32)), (.int x4)])) t
        refine XS.icmpYes X.here hx rfl (pc0 := 13) (pc' := 18) rfl (hb hby dHostPortIsPortPinLaw_edge_13) rfl (feq hc13).2 (by decide) (by decide) ?_
        show Steps p.tables e below (T.setTop (mkF m 18 #[.val (.int v0), .val (.int x4)] [])) t
        refine XS.iloadN X.here hx rfl (hb hby dHostPortIsPortPinLaw_edge_18) rfl ?_
        show Steps p.tables e below (T.setTop (mkF m 19 #[.val (.int v0), .val (.int x4)] [(.int x4)])) t
        refine XS.iconst X.here hx rfl (hb hby dHostPortIsPortPinLaw_edge_19) ?_
        exact k
      by_cases hc20 : x4 = (2 : Int32)
      · rw [if_pos hc20] at hF
        refine own_Goes.via (B := T.setTop (mkF m 25 #[.val (.int v0), .val (.int x4)] [(.int (65535 : Int32))])) (fun t k => ?_) ?_
        · show Steps p.tables e below (T.setTop (mkF m 20 #[.val (.int v0), .val (.int x4)] [(.int (2 : Int32)), (.int x4)])) t
          refine XS.icmpNo X.here hx rfl (hb hby dHostPortIsPortPinLaw_edge_20) rfl (teq hc20).2 ?_
          show Steps p.tables e below (T.setTop (mkF m 23 #[.val (.int v0), .val (.int x4)] [])) t
          refine X.ldcInt hx hown (mvT hZ (w17 hw)) (g := (mkF m 23 #[.val (.int v0), .val (.int x4)] [])) rfl (hb hby dHostPortIsPortPinLaw_edge_23) _ ?_
          exact k
        obtain rfl : (65535 : Int32) = r := Option.some.inj hF
        exact own_retI X hx hret hlk (hb hby dHostPortIsPortPinLaw_edge_25) eT ⟨rfl, N, rfl⟩ (by decide) (by decide)
      · rw [if_neg hc20] at hF
        refine own_Goes.via (B := T.setTop (mkF m 28 #[.val (.int v0), .val (.int x4)] [(.int (3 : Int32)), (.int x4)])) (fun t k => ?_) ?_
        · show Steps p.tables e below (T.setTop (mkF m 20 #[.val (.int v0), .val (.int x4)] [(.int (2 : Int32)), (.int x4)])) t
          refine XS.icmpYes X.here hx rfl (pc0 := 20) (pc' := 26) rfl (hb hby dHostPortIsPortPinLaw_edge_20) rfl (feq hc20).2 (by decide) (by decide) ?_
          show Steps p.tables e below (T.setTop (mkF m 26 #[.val (.int v0), .val (.int x4)] [])) t
          refine XS.iloadN X.here hx rfl (hb hby dHostPortIsPortPinLaw_edge_26) rfl ?_
          show Steps p.tables e below (T.setTop (mkF m 27 #[.val (.int v0), .val (.int x4)] [(.int x4)])) t
          refine XS.iconst X.here hx rfl (hb hby dHostPortIsPortPinLaw_edge_27) ?_
          exact k
        by_cases hc28 : x4 = (3 : Int32)
        · rw [if_pos hc28] at hF
          refine own_Goes.via (B := T.setTop (mkF m 33 #[.val (.int v0), .val (.int x4)] [(.int (65536 : Int32))])) (fun t k => ?_) ?_
          · show Steps p.tables e below (T.setTop (mkF m 28 #[.val (.int v0), .val (.int x4)] [(.int (3 : Int32)), (.int x4)])) t
            refine XS.icmpNo X.here hx rfl (hb hby dHostPortIsPortPinLaw_edge_28) rfl (teq hc28).2 ?_
            show Steps p.tables e below (T.setTop (mkF m 31 #[.val (.int v0), .val (.int x4)] [])) t
            refine X.ldcInt hx hown (mvT hZ (w4 hw)) (g := (mkF m 31 #[.val (.int v0), .val (.int x4)] [])) rfl (hb hby dHostPortIsPortPinLaw_edge_31) _ ?_
            exact k
          obtain rfl : (65536 : Int32) = r := Option.some.inj hF
          exact own_retI X hx hret hlk (hb hby dHostPortIsPortPinLaw_edge_33) eT ⟨rfl, N, rfl⟩ (by decide) (by decide)
        · rw [if_neg hc28] at hF
          refine own_Goes.via (B := T.setTop (mkF m 36 #[.val (.int v0), .val (.int x4)] [(.int (4 : Int32)), (.int x4)])) (fun t k => ?_) ?_
          · show Steps p.tables e below (T.setTop (mkF m 28 #[.val (.int v0), .val (.int x4)] [(.int (3 : Int32)), (.int x4)])) t
            refine XS.icmpYes X.here hx rfl (pc0 := 28) (pc' := 34) rfl (hb hby dHostPortIsPortPinLaw_edge_28) rfl (feq hc28).2 (by decide) (by decide) ?_
            show Steps p.tables e below (T.setTop (mkF m 34 #[.val (.int v0), .val (.int x4)] [])) t
            refine XS.iloadN X.here hx rfl (hb hby dHostPortIsPortPinLaw_edge_34) rfl ?_
            show Steps p.tables e below (T.setTop (mkF m 35 #[.val (.int v0), .val (.int x4)] [(.int x4)])) t
            refine XS.iconst X.here hx rfl (hb hby dHostPortIsPortPinLaw_edge_35) ?_
            exact k
          by_cases hc36 : x4 = (4 : Int32)
          · rw [if_pos hc36] at hF
            refine own_Goes.via (B := T.setTop (mkF m 41 #[.val (.int v0), .val (.int x4)] [(.int (-2147483648 : Int32))])) (fun t k => ?_) ?_
            · show Steps p.tables e below (T.setTop (mkF m 36 #[.val (.int v0), .val (.int x4)] [(.int (4 : Int32)), (.int x4)])) t
              refine XS.icmpNo X.here hx rfl (hb hby dHostPortIsPortPinLaw_edge_36) rfl (teq hc36).2 ?_
              show Steps p.tables e below (T.setTop (mkF m 39 #[.val (.int v0), .val (.int x4)] [])) t
              refine X.ldcInt hx hown (mvT hZ (w15 hw)) (g := (mkF m 39 #[.val (.int v0), .val (.int x4)] [])) rfl (hb hby dHostPortIsPortPinLaw_edge_39) _ ?_
              exact k
            obtain rfl : (-2147483648 : Int32) = r := Option.some.inj hF
            exact own_retI X hx hret hlk (hb hby dHostPortIsPortPinLaw_edge_41) eT ⟨rfl, N, rfl⟩ (by decide) (by decide)
          · rw [if_neg hc36] at hF
            refine own_Goes.via (B := T.setTop (mkF m 44 #[.val (.int v0), .val (.int x4)] [(.int (5 : Int32)), (.int x4)])) (fun t k => ?_) ?_
            · show Steps p.tables e below (T.setTop (mkF m 36 #[.val (.int v0), .val (.int x4)] [(.int (4 : Int32)), (.int x4)])) t
              refine XS.icmpYes X.here hx rfl (pc0 := 36) (pc' := 42) rfl (hb hby dHostPortIsPortPinLaw_edge_36) rfl (feq hc36).2 (by decide) (by decide) ?_
              show Steps p.tables e below (T.setTop (mkF m 42 #[.val (.int v0), .val (.int x4)] [])) t
              refine XS.iloadN X.here hx rfl (hb hby dHostPortIsPortPinLaw_edge_42) rfl ?_
              show Steps p.tables e below (T.setTop (mkF m 43 #[.val (.int v0), .val (.int x4)] [(.int x4)])) t
              refine XS.iconst X.here hx rfl (hb hby dHostPortIsPortPinLaw_edge_43) ?_
              exact k
            by_cases hc44 : x4 = (5 : Int32)
            · rw [if_pos hc44] at hF
              refine own_Goes.via (B := T.setTop (mkF m 49 #[.val (.int v0), .val (.int x4)] [(.int (2147483647 : Int32))])) (fun t k => ?_) ?_
              · show Steps p.tables e below (T.setTop (mkF m 44 #[.val (.int v0), .val (.int x4)] [(.int (5 : Int32)), (.int x4)])) t
                refine XS.icmpNo X.here hx rfl (hb hby dHostPortIsPortPinLaw_edge_44) rfl (teq hc44).2 ?_
                show Steps p.tables e below (T.setTop (mkF m 47 #[.val (.int v0), .val (.int x4)] [])) t
                refine X.ldcInt hx hown (mvT hZ (w16 hw)) (g := (mkF m 47 #[.val (.int v0), .val (.int x4)] [])) rfl (hb hby dHostPortIsPortPinLaw_edge_47) _ ?_
                exact k
              obtain rfl : (2147483647 : Int32) = r := Option.some.inj hF
              exact own_retI X hx hret hlk (hb hby dHostPortIsPortPinLaw_edge_49) eT ⟨rfl, N, rfl⟩ (by decide) (by decide)
            · rw [if_neg hc44] at hF
              refine own_Goes.via (B := T.setTop (mkF m 53 #[.val (.int v0), .val (.int x4)] [(.int (6 : Int32)), (.int x4)])) (fun t k => ?_) ?_
              · show Steps p.tables e below (T.setTop (mkF m 44 #[.val (.int v0), .val (.int x4)] [(.int (5 : Int32)), (.int x4)])) t
                refine XS.icmpYes X.here hx rfl (pc0 := 44) (pc' := 50) rfl (hb hby dHostPortIsPortPinLaw_edge_44) rfl (feq hc44).2 (by decide) (by decide) ?_
                show Steps p.tables e below (T.setTop (mkF m 50 #[.val (.int v0), .val (.int x4)] [])) t
                refine XS.iloadN X.here hx rfl (hb hby dHostPortIsPortPinLaw_edge_50) rfl ?_
                show Steps p.tables e below (T.setTop (mkF m 51 #[.val (.int v0), .val (.int x4)] [(.int x4)])) t
                refine XS.bipush X.here hx rfl (hb hby dHostPortIsPortPinLaw_edge_51) ?_
                exact k
              by_cases hc53 : x4 = (6 : Int32)
              · rw [if_pos hc53] at hF
                refine own_Goes.via (B := T.setTop (mkF m 57 #[.val (.int v0), .val (.int x4)] [(.int (-1 : Int32))])) (fun t k => ?_) ?_
                · show Steps p.tables e below (T.setTop (mkF m 53 #[.val (.int v0), .val (.int x4)] [(.int (6 : Int32)), (.int x4)])) t
                  refine XS.icmpNo X.here hx rfl (hb hby dHostPortIsPortPinLaw_edge_53) rfl (teq hc53).2 ?_
                  show Steps p.tables e below (T.setTop (mkF m 56 #[.val (.int v0), .val (.int x4)] [])) t
                  refine XS.iconst X.here hx rfl (hb hby dHostPortIsPortPinLaw_edge_56) ?_
                  exact k
                obtain rfl : (-1 : Int32) = r := Option.some.inj hF
                exact own_retI X hx hret hlk (hb hby dHostPortIsPortPinLaw_edge_57) eT ⟨rfl, N, rfl⟩ (by decide) (by decide)
              · rw [if_neg hc53] at hF
                refine own_Goes.via (B := T.setTop (mkF m 59 #[.val (.int v0), .val (.int x4)] [(.int (2 : Int32))])) (fun t k => ?_) ?_
                · show Steps p.tables e below (T.setTop (mkF m 53 #[.val (.int v0), .val (.int x4)] [(.int (6 : Int32)), (.int x4)])) t
                  refine XS.icmpYes X.here hx rfl (pc0 := 53) (pc' := 58) rfl (hb hby dHostPortIsPortPinLaw_edge_53) rfl (feq hc53).2 (by decide) (by decide) ?_
                  show Steps p.tables e below (T.setTop (mkF m 58 #[.val (.int v0), .val (.int x4)] [])) t
                  refine XS.iconst X.here hx rfl (hb hby dHostPortIsPortPinLaw_edge_58) ?_
                  exact k
                obtain rfl : (2 : Int32) = r := Option.some.inj hF
                exact own_retI X hx hret hlk (hb hby dHostPortIsPortPinLaw_edge_59) eT ⟨rfl, N, rfl⟩ (by decide) (by decide)
theorem ef_HostPortIsPortPinLaw_edge (m : MethodId) (x0 : Int32) : entryFrame m #[(.int x0)] 2 = mkF m 0 #[.val (.int x0), .unset] [] := by first | (simp [entryFrame, mkF, argsToLocals, Value.category]; done) | rfl
set_option maxRecDepth 65536 in
set_option maxHeartbeats 40000000 in
theorem rm_HostPortIsPortPinLaw_edge (l : Launch) (Z : State) (a0 : Array Value) (hw : ∀ d ∈ tables_1, d.before a0 Z = true) (ws : List Jvm.Cond) (hE : Heap) (n0 : Nat) (z : n0 ≤ hE.size)  (v0 : Int32) (r : Int32) (hF : (f_HostPortIsPortPinLaw_edge v0) = some r) :
    MetFree l (⟨"com/example/oxpecker/oxpecker/model/HostPortIsPortPinLaw", "edge", "(I)I"⟩ : MethodName) (head1 (Jvm.Cond.code (⟨"com/example/oxpecker/oxpecker/model/HostPortIsPortPinLaw", "edge", "(I)I"⟩ : MethodName) method_3_code 2 (some .int) :: ws) ({ frames := 0, cells := 0, slots := 0, locals := 0 } : Room)) (fun a U => a = #[(.int v0)] ∧ Z.Warmed39 U.vm ∧ U.heap = hE) (fun _ _ _ _ _ => True) (fun _ U o U' => ∃ v L, o = .returned v ∧ (Q_HostPortIsPortPinLaw_edge Z hE n0 r) v U'.heap L ∧ FrameEnd U o U' L ({ frames := 0, cells := 0, slots := 0, locals := 0 } : Room).cells ({ frames := 0, cells := 0, slots := 0, locals := 0 } : Room).slots) := by
  refine MetFree.of_bodySF (plainFor_of_name pn_com_example_oxpecker_oxpecker_model_HostPortIsPortPinLaw) hisR ?_
  intro p e s m args below meth c s₁ Bd hml0 hP hK
  obtain ⟨rfl, hZ, hh⟩ := hP
  have X0 : Stand p l e ({ frames := 0, cells := 0, slots := 0, locals := 0 } : Room) s m #[(.int v0)] below meth c s₁ [] 0 0 := Stand.of_body Bd
  have e0 : s₁.heap = hE := by rw [← hh, Bd.state]; rfl
  have cx : Cx_HostPortIsPortPinLaw_edge p s m meth c Z a0 := ⟨Bd.exec, hZ, hw, Bd.bytes, hml0, findClass_of_methodNamed Bd.named, Bd.returns, Bd.notSynchronized, (name_of_methodNamed Bd.named Bd.method).1⟩
  show own_Goes p e below s (Q_HostPortIsPortPinLaw_edge Z hE n0 r) ({ frames := 0, cells := 0, slots := 0, locals := 0 } : Room).cells ({ frames := 0, cells := 0, slots := 0, locals := 0 } : Room).slots (s₁.setTop (entryFrame m #[(.int v0)] 2))
  rw [ef_HostPortIsPortPinLaw_edge]
  exact b_HostPortIsPortPinLaw_edge cx X0 e0 (Fr.nil n0) z v0 _ hF
/-! com/example/oxpecker/oxpecker/model/HostPort.isPort:(I)Z -/
def f_HostPort_isPort (v0 : Int32) : Option (Int32) :=
  if v0 < (1 : Int32) then
    some (0 : Int32)
  else
    if (65535 : Int32) < v0 then
      some (0 : Int32)
    else
      some (1 : Int32)
def Q_HostPort_isPort (Z : State) (hE : Heap) (n0 : Nat)  (r : Int32) (v : Option Value) (h : Heap) (L : List Loc) : Prop := v = some (.int r) ∧ Fr n0 L ∧ h = hE
def Cx_HostPort_isPort (p : Program) (s : State) (m : MethodId) (meth : Method) (c : Code) (Z : State) (a0 : Array Value) : Prop := p.tables.exec = Jvm.exec ∧ Z.Warmed39 s.vm ∧ (∀ d ∈ tables_1, d.before a0 Z = true) ∧ c.code = prog_1_method_2_code ∧ c.maxLocals = 1 ∧ s.vm.findClass "com/example/oxpecker/oxpecker/model/HostPort" = some m.cls ∧ meth.sig.returnType = some .boolean ∧ meth.locks = false ∧ meth.name = "isPort"
set_option maxRecDepth 65536 in
set_option maxHeartbeats 40000000 in
theorem b_HostPort_isPort {p : Program} {l : Launch} {e : Env} {s : State} {m : MethodId} {args : Array Value} {below : List Frame} {meth : Method} {c : Code} {Z : State} {a0 : Array Value} {n0 : Nat} {hE : Heap} (cx : Cx_HostPort_isPort p s m meth c Z a0) :
    ∀ {T : State} {locs : List Loc} (X : Stand p l e ({ frames := 0, cells := 0, slots := 0, locals := 0 } : Room) s m args below meth c T locs 0 0) (eT : T.heap = hE) (N : Fr n0 locs) (z : n0 ≤ hE.size) (v0 : Int32) (r : Int32), f_HostPort_isPort v0 = some r → own_Goes p e below s (Q_HostPort_isPort Z hE n0 r) 0 0 (T.setTop (mkF m 0 #[.val (.int v0)] [])) := by
  have cx' := cx
  obtain ⟨hx, hZ, hw, hby, hml, hown, hret, hlk, hnm⟩ := cx'
  intro T locs X eT N z v0 r hF
  unfold f_HostPort_isPort at hF
  refine own_Goes.via (B := T.setTop (mkF m 2 #[.val (.int v0)] [(.int (1 : Int32)), (.int v0)])) (fun t k => ?_) ?_
  · show Steps p.tables e below (T.setTop (mkF m 0 #[.val (.int v0)] [])) t
    refine XS.iloadN X.here hx rfl (hb hby dHostPort_isPort_0) rfl ?_
    show Steps p.tables e below (T.setTop (mkF m 1 #[.val (.int v0)] [(.int v0)])) t
    refine XS.iconst X.here hx rfl (hb hby dHostPort_isPort_1) ?_
    exact k
  by_cases hc2 : v0 < (1 : Int32)
  · rw [if_pos hc2] at hF
    refine own_Goes.via (B := T.setTop (mkF m 16 #[.val (.int v0)] [(.int (0 : Int32))])) (fun t k => ?_) ?_
    · show Steps p.tables e below (T.setTop (mkF m 2 #[.val (.int v0)] [(.int (1 : Int32)), (.int v0)])) t
      refine XS.icmpYes X.here hx rfl (pc0 := 2) (pc' := 15) rfl (hb hby dHostPort_isPort_2) rfl (tlt hc2).1 (by decide) (by decide) ?_
      show Steps p.tables e below (T.setTop (mkF m 15 #[.val (.int v0)] [])) t
      refine XS.iconst X.here hx rfl (hb hby dHostPort_isPort_15) ?_
      exact k
    obtain rfl : (0 : Int32) = r := Option.some.inj hF
    exact own_retN X hx (t := .boolean) hret hlk (by simp) (hb hby dHostPort_isPort_16) eT (v := (0 : Int32)) (by decide) ⟨rfl, N, rfl⟩ (by decide) (by decide)
  · rw [if_neg hc2] at hF
    refine own_Goes.via (B := T.setTop (mkF m 8 #[.val (.int v0)] [(.int (65535 : Int32)), (.int v0)])) (fun t k => ?_) ?_
    · show Steps p.tables e below (T.setTop (mkF m 2 #[.val (.int v0)] [(.int (1 : Int32)), (.int v0)])) t
      refine XS.icmpNo X.here hx rfl (hb hby dHostPort_isPort_2) rfl (flt hc2).1 ?_
      show Steps p.tables e below (T.setTop (mkF m 5 #[.val (.int v0)] [])) t
      refine XS.iloadN X.here hx rfl (hb hby dHostPort_isPort_5) rfl ?_
      show Steps p.tables e below (T.setTop (mkF m 6 #[.val (.int v0)] [(.int v0)])) t
      refine X.ldcInt hx hown (mvT hZ (w14 hw)) (g := (mkF m 6 #[.val (.int v0)] [(.int v0)])) rfl (hb hby dHostPort_isPort_6) _ ?_
      exact k
    by_cases hc8 : (65535 : Int32) < v0
    · rw [if_pos hc8] at hF
      refine own_Goes.via (B := T.setTop (mkF m 16 #[.val (.int v0)] [(.int (0 : Int32))])) (fun t k => ?_) ?_
      · show Steps p.tables e below (T.setTop (mkF m 8 #[.val (.int v0)] [(.int (65535 : Int32)), (.int v0)])) t
        refine XS.icmpYes X.here hx rfl (pc0 := 8) (pc' := 15) rfl (hb hby dHostPort_isPort_8) rfl (tlt hc8).2.2.1 (by decide) (by decide) ?_
        show Steps p.tables e below (T.setTop (mkF m 15 #[.val (.int v0)] [])) t
        refine XS.iconst X.here hx rfl (hb hby dHostPort_isPort_15) ?_
        exact k
      obtain rfl : (0 : Int32) = r := Option.some.inj hF
      exact own_retN X hx (t := .boolean) hret hlk (by simp) (hb hby dHostPort_isPort_16) eT (v := (0 : Int32)) (by decide) ⟨rfl, N, rfl⟩ (by decide) (by decide)
    · rw [if_neg hc8] at hF
      refine own_Goes.via (B := T.setTop (mkF m 16 #[.val (.int v0)] [(.int (1 : Int32))])) (fun t k => ?_) ?_
      · show Steps p.tables e below (T.setTop (mkF m 8 #[.val (.int v0)] [(.int (65535 : Int32)), (.int v0)])) t
        refine XS.icmpNo X.here hx rfl (hb hby dHostPort_isPort_8) rfl (flt hc8).2.2.1 ?_
        show Steps p.tables e below (T.setTop (mkF m 11 #[.val (.int v0)] [])) t
        refine XS.iconst X.here hx rfl (hb hby dHostPort_isPort_11) ?_
        show Steps p.tables e below (T.setTop (mkF m 12 #[.val (.int v0)] [(.int (1 : Int32))])) t
        refine XS.goto X.here hx rfl (pc0 := 12) (pc' := 16) rfl (hb hby dHostPort_isPort_12) (by decide) (by decide) ?_
        exact k
      obtain rfl : (1 : Int32) = r := Option.some.inj hF
      exact own_retN X hx (t := .boolean) hret hlk (by simp) (hb hby dHostPort_isPort_16) eT (v := (1 : Int32)) (by decide) ⟨rfl, N, rfl⟩ (by decide) (by decide)
theorem ef_HostPort_isPort (m : MethodId) (x0 : Int32) : entryFrame m #[(.int x0)] 1 = mkF m 0 #[.val (.int x0)] [] := by first | (simp [entryFrame, mkF, argsToLocals, Value.category]; done) | rfl
set_option maxRecDepth 65536 in
set_option maxHeartbeats 40000000 in
theorem rm_HostPort_isPort (l : Launch) (Z : State) (a0 : Array Value) (hw : ∀ d ∈ tables_1, d.before a0 Z = true) (ws : List Jvm.Cond) (hE : Heap) (n0 : Nat) (z : n0 ≤ hE.size)  (v0 : Int32) (r : Int32) (hF : (f_HostPort_isPort v0) = some r) :
    MetFree l (⟨"com/example/oxpecker/oxpecker/model/HostPort", "isPort", "(I)Z"⟩ : MethodName) (head1 (Jvm.Cond.code (⟨"com/example/oxpecker/oxpecker/model/HostPort", "isPort", "(I)Z"⟩ : MethodName) prog_1_method_2_code 1 (some .boolean) :: ws) ({ frames := 0, cells := 0, slots := 0, locals := 0 } : Room)) (fun a U => a = #[(.int v0)] ∧ Z.Warmed39 U.vm ∧ U.heap = hE) (fun _ _ _ _ _ => True) (fun _ U o U' => ∃ v L, o = .returned v ∧ (Q_HostPort_isPort Z hE n0 r) v U'.heap L ∧ FrameEnd U o U' L ({ frames := 0, cells := 0, slots := 0, locals := 0 } : Room).cells ({ frames := 0, cells := 0, slots := 0, locals := 0 } : Room).slots) := by
  refine MetFree.of_bodySF (plainFor_of_name pn_com_example_oxpecker_oxpecker_model_HostPort) hisR ?_
  intro p e s m args below meth c s₁ Bd hml0 hP hK
  obtain ⟨rfl, hZ, hh⟩ := hP
  have X0 : Stand p l e ({ frames := 0, cells := 0, slots := 0, locals := 0 } : Room) s m #[(.int v0)] below meth c s₁ [] 0 0 := Stand.of_body Bd
  have e0 : s₁.heap = hE := by rw [← hh, Bd.state]; rfl
  have cx : Cx_HostPort_isPort p s m meth c Z a0 := ⟨Bd.exec, hZ, hw, Bd.bytes, hml0, findClass_of_methodNamed Bd.named, Bd.returns, Bd.notSynchronized, (name_of_methodNamed Bd.named Bd.method).1⟩
  show own_Goes p e below s (Q_HostPort_isPort Z hE n0 r) ({ frames := 0, cells := 0, slots := 0, locals := 0 } : Room).cells ({ frames := 0, cells := 0, slots := 0, locals := 0 } : Room).slots (s₁.setTop (entryFrame m #[(.int v0)] 1))
  rw [ef_HostPort_isPort]
  exact b_HostPort_isPort cx X0 e0 (Fr.nil n0) z v0 _ hF
/-! com/example/oxpecker/oxpecker/model/HostPortIsPortPinLaw.ref:(I)Z -/
def f_HostPortIsPortPinLaw_ref (v0 : Int32) : Option (Int32) :=
  own_lt (((v0 - (1 : Int32)).toInt64) &&& (4294967295 : Int64)) fun x10 =>
  if x10 < (65535 : Int64) then
    some (1 : Int32)
  else
    some (0 : Int32)
def Q_HostPortIsPortPinLaw_ref (Z : State) (hE : Heap) (n0 : Nat)  (r : Int32) (v : Option Value) (h : Heap) (L : List Loc) : Prop := v = some (.int r) ∧ Fr n0 L ∧ h = hE
def Cx_HostPortIsPortPinLaw_ref (p : Program) (s : State) (m : MethodId) (meth : Method) (c : Code) (Z : State) (a0 : Array Value) : Prop := p.tables.exec = Jvm.exec ∧ Z.Warmed39 s.vm ∧ (∀ d ∈ tables_1, d.before a0 Z = true) ∧ c.code = method_2_code ∧ c.maxLocals = 3 ∧ s.vm.findClass "com/example/oxpecker/oxpecker/model/HostPortIsPortPinLaw" = some m.cls ∧ meth.sig.returnType = some .boolean ∧ meth.locks = false ∧ meth.name = "ref"
set_option maxRecDepth 65536 in
set_option maxHeartbeats 40000000 in
theorem b_HostPortIsPortPinLaw_ref {p : Program} {l : Launch} {e : Env} {s : State} {m : MethodId} {args : Array Value} {below : List Frame} {meth : Method} {c : Code} {Z : State} {a0 : Array Value} {n0 : Nat} {hE : Heap} (cx : Cx_HostPortIsPortPinLaw_ref p s m meth c Z a0) :
    ∀ {T : State} {locs : List Loc} (X : Stand p l e ({ frames := 0, cells := 0, slots := 0, locals := 0 } : Room) s m args below meth c T locs 0 0) (eT : T.heap = hE) (N : Fr n0 locs) (z : n0 ≤ hE.size) (v0 : Int32) (r : Int32), f_HostPortIsPortPinLaw_ref v0 = some r → own_Goes p e below s (Q_HostPortIsPortPinLaw_ref Z hE n0 r) 0 0 (T.setTop (mkF m 0 #[.val (.int v0), .unset, .unset] [])) := by
  have cx' := cx
  obtain ⟨hx, hZ, hw, hby, hml, hown, hret, hlk, hnm⟩ := cx'
  intro T locs X eT N z v0 r hF
  unfold f_HostPortIsPortPinLaw_ref at hF
  refine own_Goes.via (B := T.setTop (mkF m 8 #[.val (.int v0), .unset, .unset] [(.long (((v0 - (1 : Int32)).toInt64) &&& (4294967295 : Int64)))])) (fun t k => ?_) ?_
  · show Steps p.tables e below (T.setTop (mkF m 0 #[.val (.int v0), .unset, .unset] [])) t
    refine XS.iloadN X.here hx rfl (hb hby dHostPortIsPortPinLaw_ref_0) rfl ?_
    show Steps p.tables e below (T.setTop (mkF m 1 #[.val (.int v0), .unset, .unset] [(.int v0)])) t
    refine XS.iconst X.here hx rfl (hb hby dHostPortIsPortPinLaw_ref_1) ?_
    show Steps p.tables e below (T.setTop (mkF m 2 #[.val (.int v0), .unset, .unset] [(.int (1 : Int32)), (.int v0)])) t
    refine XS.isub X.here hx rfl (hb hby dHostPortIsPortPinLaw_ref_2) rfl ?_
    show Steps p.tables e below (T.setTop (mkF m 3 #[.val (.int v0), .unset, .unset] [(.int (v0 - (1 : Int32)))])) t
    refine XS.i2l X.here hx rfl (hb hby dHostPortIsPortPinLaw_ref_3) rfl ?_
    show Steps p.tables e below (T.setTop (mkF m 4 #[.val (.int v0), .unset, .unset] [(.long ((v0 - (1 : Int32)).toInt64))])) t
    refine X.ldc2Long hx hown (mvT hZ (w12 hw)) (g := (mkF m 4 #[.val (.int v0), .unset, .unset] [(.long ((v0 - (1 : Int32)).toInt64))])) rfl (hb hby dHostPortIsPortPinLaw_ref_4) _ ?_
    show Steps p.tables e below (T.setTop (mkF m 7 #[.val (.int v0), .unset, .unset] [(.long (4294967295 : Int64)), (.long ((v0 - (1 : Int32)).toInt64))])) t
    refine XS.land X.here hx rfl (hb hby dHostPortIsPortPinLaw_ref_7) rfl ?_
    exact k
  obtain ⟨x10, hx10, hF⟩ := own_lt_e hF
  rw [← hx10]
  refine own_Goes.via (B := T.setTop (mkF m 14 #[.val (.int v0), .val (.long x10), .second] [(.int (lcmpW x10 (65535 : Int64)))])) (fun t k => ?_) ?_
  · show Steps p.tables e below (T.setTop (mkF m 8 #[.val (.int v0), .unset, .unset] [(.long x10)])) t
    refine XS.lstoreN X.here hx rfl (hb hby dHostPortIsPortPinLaw_ref_8) rfl (l' := #[.val (.int v0), .val (.long x10), .second]) rfl ?_
    show Steps p.tables e below (T.setTop (mkF m 9 #[.val (.int v0), .val (.long x10), .second] [])) t
    refine XS.lloadN X.here hx rfl (hb hby dHostPortIsPortPinLaw_ref_9) rfl ?_
    show Steps p.tables e below (T.setTop (mkF m 10 #[.val (.int v0), .val (.long x10), .second] [(.long x10)])) t
    refine X.ldc2Long hx hown (mvT hZ (w13 hw)) (g := (mkF m 10 #[.val (.int v0), .val (.long x10), .second] [(.long x10)])) rfl (hb hby dHostPortIsPortPinLaw_ref_10) _ ?_
    show Steps p.tables e below (T.setTop (mkF m 13 #[.val (.int v0), .val (.long x10), .second] [(.long (65535 : Int64)), (.long x10)])) t
    refine XS.lcmp X.here hx rfl (hb hby dHostPortIsPortPinLaw_ref_13) rfl ?_
    exact k
  by_cases hc14 : x10 < (65535 : Int64)
  · rw [if_pos hc14] at hF
    refine own_Goes.via (B := T.setTop (mkF m 22 #[.val (.int v0), .val (.long x10), .second] [(.int (1 : Int32))])) (fun t k => ?_) ?_
    · show Steps p.tables e below (T.setTop (mkF m 14 #[.val (.int v0), .val (.long x10), .second] [(.int (lcmpW x10 (65535 : Int64)))])) t
      refine XS.ifNo X.here hx rfl (hb hby dHostPortIsPortPinLaw_ref_14) rfl (own_tltL hc14).2 ?_
      show Steps p.tables e below (T.setTop (mkF m 17 #[.val (.int v0), .val (.long x10), .second] [])) t
      refine XS.iconst X.here hx rfl (hb hby dHostPortIsPortPinLaw_ref_17) ?_
      show Steps p.tables e below (T.setTop (mkF m 18 #[.val (.int v0), .val (.long x10), .second] [(.int (1 : Int32))])) t
      refine XS.goto X.here hx rfl (pc0 := 18) (pc' := 22) rfl (hb hby dHostPortIsPortPinLaw_ref_18) (by decide) (by decide) ?_
      exact k
    obtain rfl : (1 : Int32) = r := Option.some.inj hF
    exact own_retN X hx (t := .boolean) hret hlk (by simp) (hb hby dHostPortIsPortPinLaw_ref_22) eT (v := (1 : Int32)) (by decide) ⟨rfl, N, rfl⟩ (by decide) (by decide)
  · rw [if_neg hc14] at hF
    refine own_Goes.via (B := T.setTop (mkF m 22 #[.val (.int v0), .val (.long x10), .second] [(.int (0 : Int32))])) (fun t k => ?_) ?_
    · show Steps p.tables e below (T.setTop (mkF m 14 #[.val (.int v0), .val (.long x10), .second] [(.int (lcmpW x10 (65535 : Int64)))])) t
      refine XS.ifYes X.here hx rfl (pc0 := 14) (pc' := 21) rfl (hb hby dHostPortIsPortPinLaw_ref_14) rfl (own_fltL hc14).2 (by decide) (by decide) ?_
      show Steps p.tables e below (T.setTop (mkF m 21 #[.val (.int v0), .val (.long x10), .second] [])) t
      refine XS.iconst X.here hx rfl (hb hby dHostPortIsPortPinLaw_ref_21) ?_
      exact k
    obtain rfl : (0 : Int32) = r := Option.some.inj hF
    exact own_retN X hx (t := .boolean) hret hlk (by simp) (hb hby dHostPortIsPortPinLaw_ref_22) eT (v := (0 : Int32)) (by decide) ⟨rfl, N, rfl⟩ (by decide) (by decide)
theorem ef_HostPortIsPortPinLaw_ref (m : MethodId) (x0 : Int32) : entryFrame m #[(.int x0)] 3 = mkF m 0 #[.val (.int x0), .unset, .unset] [] := by first | (simp [entryFrame, mkF, argsToLocals, Value.category]; done) | rfl
set_option maxRecDepth 65536 in
set_option maxHeartbeats 40000000 in
theorem rm_HostPortIsPortPinLaw_ref (l : Launch) (Z : State) (a0 : Array Value) (hw : ∀ d ∈ tables_1, d.before a0 Z = true) (ws : List Jvm.Cond) (hE : Heap) (n0 : Nat) (z : n0 ≤ hE.size)  (v0 : Int32) (r : Int32) (hF : (f_HostPortIsPortPinLaw_ref v0) = some r) :
    MetFree l (⟨"com/example/oxpecker/oxpecker/model/HostPortIsPortPinLaw", "ref", "(I)Z"⟩ : MethodName) (head1 (Jvm.Cond.code (⟨"com/example/oxpecker/oxpecker/model/HostPortIsPortPinLaw", "ref", "(I)Z"⟩ : MethodName) method_2_code 3 (some .boolean) :: ws) ({ frames := 0, cells := 0, slots := 0, locals := 0 } : Room)) (fun a U => a = #[(.int v0)] ∧ Z.Warmed39 U.vm ∧ U.heap = hE) (fun _ _ _ _ _ => True) (fun _ U o U' => ∃ v L, o = .returned v ∧ (Q_HostPortIsPortPinLaw_ref Z hE n0 r) v U'.heap L ∧ FrameEnd U o U' L ({ frames := 0, cells := 0, slots := 0, locals := 0 } : Room).cells ({ frames := 0, cells := 0, slots := 0, locals := 0 } : Room).slots) := by
  refine MetFree.of_bodySF (plainFor_of_name pn_com_example_oxpecker_oxpecker_model_HostPortIsPortPinLaw) hisR ?_
  intro p e s m args below meth c s₁ Bd hml0 hP hK
  obtain ⟨rfl, hZ, hh⟩ := hP
  have X0 : Stand p l e ({ frames := 0, cells := 0, slots := 0, locals := 0 } : Room) s m #[(.int v0)] below meth c s₁ [] 0 0 := Stand.of_body Bd
  have e0 : s₁.heap = hE := by rw [← hh, Bd.state]; rfl
  have cx : Cx_HostPortIsPortPinLaw_ref p s m meth c Z a0 := ⟨Bd.exec, hZ, hw, Bd.bytes, hml0, findClass_of_methodNamed Bd.named, Bd.returns, Bd.notSynchronized, (name_of_methodNamed Bd.named Bd.method).1⟩
  show own_Goes p e below s (Q_HostPortIsPortPinLaw_ref Z hE n0 r) ({ frames := 0, cells := 0, slots := 0, locals := 0 } : Room).cells ({ frames := 0, cells := 0, slots := 0, locals := 0 } : Room).slots (s₁.setTop (entryFrame m #[(.int v0)] 3))
  rw [ef_HostPortIsPortPinLaw_ref]
  exact b_HostPortIsPortPinLaw_ref cx X0 e0 (Fr.nil n0) z v0 _ hF
/-! com/example/oxpecker/oxpecker/model/HostPortIsPortPinLaw.law:(II)Z -/
def f_law_21 (v2 : Int32) (t0 : Int32) : Option (Int32) :=
  own_bd (f_HostPort_isPort v2) fun r24 =>
  own_bd (f_HostPortIsPortPinLaw_ref v2) fun r25 =>
  if r24 = r25 then
    if t0 = (0 : Int32) then
      some (0 : Int32)
    else
      some (1 : Int32)
  else
    if t0 = (0 : Int32) then
      some (0 : Int32)
    else
      some (0 : Int32)
def f_law (v0 : Int32) (v1 : Int32) : Option (Int32) :=
  own_bd (f_HostPortIsPortPinLaw_edge v1) fun r26 =>
  own_bd (f_HostPort_isPort v0) fun r27 =>
  own_bd (f_HostPortIsPortPinLaw_ref v0) fun r28 =>
  if r27 = r28 then
    (f_law_21 r26 (1 : Int32))
  else
    (f_law_21 r26 (0 : Int32))
def Q_law (Z : State) (hE : Heap) (n0 : Nat)  (r : Int32) (v : Option Value) (h : Heap) (L : List Loc) : Prop := v = some (.int r) ∧ Fr n0 L ∧ h = hE
def Cx_law (p : Program) (s : State) (m : MethodId) (meth : Method) (c : Code) (Z : State) (a0 : Array Value) : Prop := p.tables.exec = Jvm.exec ∧ Z.Warmed39 s.vm ∧ (∀ d ∈ tables_1, d.before a0 Z = true) ∧ c.code = code ∧ c.maxLocals = 5 ∧ s.vm.findClass "com/example/oxpecker/oxpecker/model/HostPortIsPortPinLaw" = some m.cls ∧ meth.sig.returnType = some .boolean ∧ meth.locks = false ∧ meth.name = "law"
set_option maxRecDepth 65536 in
set_option maxHeartbeats 40000000 in
theorem b_law_21 {p : Program} {l : Launch} {e : Env} {s : State} {m : MethodId} {args : Array Value} {below : List Frame} {meth : Method} {c : Code} {Z : State} {a0 : Array Value} {n0 : Nat} {hE : Heap} (cx : Cx_law p s m meth c Z a0) :
    ∀ {T : State} {locs : List Loc} (X : Stand p l e room_1 s m args below meth c T locs 0 0) (eT : T.heap = hE) (N : Fr n0 locs) (z : n0 ≤ hE.size) (v2 : Int32) (t0 : Int32) (d0 : Slot) (d1 : Slot) (d3 : Slot) (d4 : Slot) (o_d0 : One d0) (o_d1 : One d1) (o_d3 : One d3) (o_d4 : One d4) (r : Int32), f_law_21 v2 t0 = some r → own_Goes p e below s (Q_law Z hE n0 r) 0 0 (T.setTop (mkF m 21 #[d0, d1, .val (.int v2), d3, d4] [(.int t0)])) := by
  have cx' := cx
  obtain ⟨hx, hZ, hw, hby, hml, hown, hret, hlk, hnm⟩ := cx'
  intro T locs X eT N z v2 t0 d0 d1 d3 d4 o_d0 o_d1 o_d3 o_d4 r hF
  unfold f_law_21 at hF
  refine own_Goes.via (B := T.setTop (mkF m 23 #[d0, d1, .val (.int v2), .val (.int t0), d4] [(.int v2)])) (fun t k => ?_) ?_
  · show Steps p.tables e below (T.setTop (mkF m 21 #[d0, d1, .val (.int v2), d3, d4] [(.int t0)])) t
    refine XS.istoreNS X.here hx rfl (hb hby at_21) rfl rfl o_d3 ?_
    show Steps p.tables e below (T.setTop (mkF m 22 #[d0, d1, .val (.int v2), .val (.int t0), d4] [])) t
    refine XS.iloadN X.here hx rfl (hb hby at_22) rfl ?_
    exact k
  obtain ⟨r24, hr24, hF⟩ := own_bd_e hF
  obtain ⟨_, _, ⟨T24, L24, k24, n24⟩, -, X24, ⟨Lc24, hQ24, l24, y24, z24⟩, st24⟩ := Jvm.LawKit.callS X hx (y := (⟨"com/example/oxpecker/oxpecker/model/HostPort", "isPort", "(I)Z"⟩ : MethodName)) hown (mvT hZ (w5 hw)) (mvT hZ (w6 hw)) (mvT hZ (w7 hw)) (mvT hZ (w8 hw)) (by decide) (backOf (W := 0) (rm_HostPort_isPort l Z a0 hw [] hE n0 z v2 r24 hr24) hZ (w8 hw) (w7 hw) (by decide) (by decide)) (g := (mkF m 23 #[d0, d1, .val (.int v2), .val (.int t0), d4] [(.int v2)])) rfl (by rw [hml]; rfl) (argsL := [(.int v2)]) (rest := []) (lenOf pd_1 rfl) rfl (by show 2 * 0 + _ ≤ _; exact Nat.le_of_eq rfl) (hb hby at_23) (fun _ _ => ⟨rfl, eT, (by decide : 0 + 0 ≤ _), (by decide : 0 + 0 ≤ _)⟩)
  dsimp only [Pt.U, Pt.locs, Pt.cells, Pt.slots] at X24 l24 y24 z24 st24 hQ24
  subst l24 y24 z24
  obtain ⟨rfl, N24q, e24⟩ := hQ24
  have N24 := Fr.app N N24q
  refine own_Goes.via st24 ?_
  show own_Goes _ _ _ _ _ _ _ (T24.setTop (mkF m 26 #[d0, d1, .val (.int v2), .val (.int t0), d4] [(.int r24)]))
  refine own_Goes.via (B := T24.setTop (mkF m 27 #[d0, d1, .val (.int v2), .val (.int t0), d4] [(.int v2), (.int r24)])) (fun t k => ?_) ?_
  · show Steps p.tables e below (T24.setTop (mkF m 26 #[d0, d1, .val (.int v2), .val (.int t0), d4] [(.int r24)])) t
    refine XS.iloadN X24.here hx rfl (hb hby at_26) rfl ?_
    exact k
  obtain ⟨r25, hr25, hF⟩ := own_bd_e hF
  obtain ⟨_, _, ⟨T25, L25, k25, n25⟩, -, X25, ⟨Lc25, hQ25, l25, y25, z25⟩, st25⟩ := Jvm.LawKit.callS X24 hx (y := (⟨"com/example/oxpecker/oxpecker/model/HostPortIsPortPinLaw", "ref", "(I)Z"⟩ : MethodName)) hown (mvT hZ (w9 hw)) (mvT hZ (w10 hw)) (mvT hZ (w2 hw)) (mvT hZ (w11 hw)) (by decide) (backOf (W := 1) (rm_HostPortIsPortPinLaw_ref l Z a0 hw [] hE n0 z v2 r25 hr25) hZ (w11 hw) (w2 hw) (by decide) (by decide)) (g := (mkF m 27 #[d0, d1, .val (.int v2), .val (.int t0), d4] [(.int v2), (.int r24)])) rfl (by rw [hml]; rfl) (argsL := [(.int v2)]) (rest := [(.int r24)]) (lenOf pd_1 rfl) rfl (by show 2 * 0 + _ ≤ _; exact Nat.le_of_eq rfl) (hb hby at_27) (fun _ _ => ⟨rfl, e24, (by decide : 0 + 0 ≤ _), (by decide : 0 + 0 ≤ _)⟩)
  dsimp only [Pt.U, Pt.locs, Pt.cells, Pt.slots] at X25 l25 y25 z25 st25 hQ25
  subst l25 y25 z25
  obtain ⟨rfl, N25q, e25⟩ := hQ25
  have N25 := Fr.app N24 N25q
  refine own_Goes.via st25 ?_
  show own_Goes _ _ _ _ _ _ _ (T25.setTop (mkF m 30 #[d0, d1, .val (.int v2), .val (.int t0), d4] [(.int r25), (.int r24)]))
  by_cases hc30 : r24 = r25
  · rw [if_pos hc30] at hF
    refine own_Goes.via (B := T25.setTop (mkF m 41 #[d0, d1, .val (.int v2), .val (.int t0), .val (.int (1 : Int32))] [(.int t0)])) (fun t k => ?_) ?_
    · show Steps p.tables e below (T25.setTop (mkF m 30 #[d0, d1, .val (.int v2), .val (.int t0), d4] [(.int r25), (.int r24)])) t
      refine XS.icmpNo X25.here hx rfl (hb hby at_30) rfl (teq hc30).2 ?_
      show Steps p.tables e below (T25.setTop (mkF m 33 #[d0, d1, .val (.int v2), .val (.int t0), d4] [])) t
      refine XS.iconst X25.here hx rfl (hb hby at_33) ?_
      show Steps p.tables e below (T25.setTop (mkF m 34 #[d0, d1, .val (.int v2), .val (.int t0), d4] [(.int (1 : Int32))])) t
      refine XS.goto X25.here hx rfl (pc0 := 34) (pc' := 38) rfl (hb hby at_34) (by decide) (by decide) ?_
      show Steps p.tables e below (T25.setTop (mkF m 38 #[d0, d1, .val (.int v2), .val (.int t0), d4] [(.int (1 : Int32))])) t
      refine XS.istoreS X25.here hx rfl (hb hby at_38) rfl rfl o_d4 ?_
      show Steps p.tables e below (T25.setTop (mkF m 40 #[d0, d1, .val (.int v2), .val (.int t0), .val (.int (1 : Int32))] [])) t
      refine XS.iloadN X25.here hx rfl (hb hby at_40) rfl ?_
      exact k
    by_cases hc41 : t0 = (0 : Int32)
    · rw [if_pos hc41] at hF
      refine own_Goes.via (B := T25.setTop (mkF m 54 #[d0, d1, .val (.int v2), .val (.int t0), .val (.int (1 : Int32))] [(.int (0 : Int32))])) (fun t k => ?_) ?_
      · show Steps p.tables e below (T25.setTop (mkF m 41 #[d0, d1, .val (.int v2), .val (.int t0), .val (.int (1 : Int32))] [(.int t0)])) t
        refine XS.ifYes X25.here hx rfl (pc0 := 41) (pc' := 53) rfl (hb hby at_41) rfl ((if0 _ _).trans (teq hc41).1) (by decide) (by decide) ?_
        show Steps p.tables e below (T25.setTop (mkF m 53 #[d0, d1, .val (.int v2), .val (.int t0), .val (.int (1 : Int32))] [])) t
        refine XS.iconst X25.here hx rfl (hb hby at_53) ?_
        exact k
      obtain rfl : (0 : Int32) = r := Option.some.inj hF
      exact own_retN X25 hx (t := .boolean) hret hlk (by simp) (hb hby at_54) e25 (v := (0 : Int32)) (by decide) ⟨rfl, N25, rfl⟩ (by decide) (by decide)
    · rw [if_neg hc41] at hF
      refine own_Goes.via (B := T25.setTop (mkF m 54 #[d0, d1, .val (.int v2), .val (.int t0), .val (.int (1 : Int32))] [(.int (1 : Int32))])) (fun t k => ?_) ?_
      · show Steps p.tables e below (T25.setTop (mkF m 41 #[d0, d1, .val (.int v2), .val (.int t0), .val (.int (1 : Int32))] [(.int t0)])) t
        refine XS.ifNo X25.here hx rfl (hb hby at_41) rfl ((if0 _ _).trans (feq hc41).1) ?_
        show Steps p.tables e below (T25.setTop (mkF m 44 #[d0, d1, .val (.int v2), .val (.int t0), .val (.int (1 : Int32))] [])) t
        refine XS.iload X25.here hx rfl (hb hby at_44) rfl ?_
        show Steps p.tables e below (T25.setTop (mkF m 46 #[d0, d1, .val (.int v2), .val (.int t0), .val (.int (1 : Int32))] [(.int (1 : Int32))])) t
        refine XS.ifNo X25.here hx rfl (hb hby at_46) rfl ((if0 _ _).trans (feq (by decide : ¬ (1 : Int32) = (0 : Int32))).1) ?_
        show Steps p.tables e below (T25.setTop (mkF m 49 #[d0, d1, .val (.int v2), .val (.int t0), .val (.int (1 : Int32))] [])) t
        refine XS.iconst X25.here hx rfl (hb hby at_49) ?_
        show Steps p.tables e below (T25.setTop (mkF m 50 #[d0, d1, .val (.int v2), .val (.int t0), .val (.int (1 : Int32))] [(.int (1 : Int32))])) t
        refine XS.goto X25.here hx rfl (pc0 := 50) (pc' := 54) rfl (hb hby at_50) (by decide) (by decide) ?_
        exact k
      obtain rfl : (1 : Int32) = r := Option.some.inj hF
      exact own_retN X25 hx (t := .boolean) hret hlk (by simp) (hb hby at_54) e25 (v := (1 : Int32)) (by decide) ⟨rfl, N25, rfl⟩ (by decide) (by decide)
  · rw [if_neg hc30] at hF
    refine own_Goes.via (B := T25.setTop (mkF m 41 #[d0, d1, .val (.int v2), .val (.int t0), .val (.int (0 : Int32))] [(.int t0)])) (fun t k => ?_) ?_
    · show Steps p.tables e below (T25.setTop (mkF m 30 #[d0, d1, .val (.int v2), .val (.int t0), d4] [(.int r25), (.int r24)])) t
      refine XS.icmpYes X25.here hx rfl (pc0 := 30) (pc' := 37) rfl (hb hby at_30) rfl (feq hc30).2 (by decide) (by decide) ?_
      show Steps p.tables e below (T25.setTop (mkF m 37 #[d0, d1, .val (.int v2), .val (.int t0), d4] [])) t
      refine XS.iconst X25.here hx rfl (hb hby at_37) ?_
      show Steps p.tables e below (T25.setTop (mkF m 38 #[d0, d1, .val (.int v2), .val (.int t0), d4] [(.int (0 : Int32))])) t
      refine XS.istoreS X25.here hx rfl (hb hby at_38) rfl rfl o_d4 ?_
      show Steps p.tables e below (T25.setTop (mkF m 40 #[d0, d1, .val (.int v2), .val (.int t0), .val (.int (0 : Int32))] [])) t
      refine XS.iloadN X25.here hx rfl (hb hby at_40) rfl ?_
      exact k
    by_cases hc41 : t0 = (0 : Int32)
    · rw [if_pos hc41] at hF
      refine own_Goes.via (B := T25.setTop (mkF m 54 #[d0, d1, .val (.int v2), .val (.int t0), .val (.int (0 : Int32))] [(.int (0 : Int32))])) (fun t k => ?_) ?_
      · show Steps p.tables e below (T25.setTop (mkF m 41 #[d0, d1, .val (.int v2), .val (.int t0), .val (.int (0 : Int32))] [(.int t0)])) t
        refine XS.ifYes X25.here hx rfl (pc0 := 41) (pc' := 53) rfl (hb hby at_41) rfl ((if0 _ _).trans (teq hc41).1) (by decide) (by decide) ?_
        show Steps p.tables e below (T25.setTop (mkF m 53 #[d0, d1, .val (.int v2), .val (.int t0), .val (.int (0 : Int32))] [])) t
        refine XS.iconst X25.here hx rfl (hb hby at_53) ?_
        exact k
      obtain rfl : (0 : Int32) = r := Option.some.inj hF
      exact own_retN X25 hx (t := .boolean) hret hlk (by simp) (hb hby at_54) e25 (v := (0 : Int32)) (by decide) ⟨rfl, N25, rfl⟩ (by decide) (by decide)
    · rw [if_neg hc41] at hF
      refine own_Goes.via (B := T25.setTop (mkF m 54 #[d0, d1, .val (.int v2), .val (.int t0), .val (.int (0 : Int32))] [(.int (0 : Int32))])) (fun t k => ?_) ?_
      · show Steps p.tables e below (T25.setTop (mkF m 41 #[d0, d1, .val (.int v2), .val (.int t0), .val (.int (0 : Int32))] [(.int t0)])) t
        refine XS.ifNo X25.here hx rfl (hb hby at_41) rfl ((if0 _ _).trans (feq hc41).1) ?_
        show Steps p.tables e below (T25.setTop (mkF m 44 #[d0, d1, .val (.int v2), .val (.int t0), .val (.int (0 : Int32))] [])) t
        refine XS.iload X25.here hx rfl (hb hby at_44) rfl ?_
        show Steps p.tables e below (T25.setTop (mkF m 46 #[d0, d1, .val (.int v2), .val (.int t0), .val (.int (0 : Int32))] [(.int (0 : Int32))])) t
        refine XS.ifYes X25.here hx rfl (pc0 := 46) (pc' := 53) rfl (hb hby at_46) rfl ((if0 _ _).trans (teq (by decide : (0 : Int32) = (0 : Int32))).1) (by decide) (by decide) ?_
        show Steps p.tables e below (T25.setTop (mkF m 53 #[d0, d1, .val (.int v2), .val (.int t0), .val (.int (0 : Int32))] [])) t
        refine XS.iconst X25.here hx rfl (hb hby at_53) ?_
        exact k
      obtain rfl : (0 : Int32) = r := Option.some.inj hF
      exact own_retN X25 hx (t := .boolean) hret hlk (by simp) (hb hby at_54) e25 (v := (0 : Int32)) (by decide) ⟨rfl, N25, rfl⟩ (by decide) (by decide)
set_option maxRecDepth 65536 in
set_option maxHeartbeats 40000000 in
theorem b_law {p : Program} {l : Launch} {e : Env} {s : State} {m : MethodId} {args : Array Value} {below : List Frame} {meth : Method} {c : Code} {Z : State} {a0 : Array Value} {n0 : Nat} {hE : Heap} (cx : Cx_law p s m meth c Z a0) :
    ∀ {T : State} {locs : List Loc} (X : Stand p l e room_1 s m args below meth c T locs 0 0) (eT : T.heap = hE) (N : Fr n0 locs) (z : n0 ≤ hE.size) (v0 : Int32) (v1 : Int32) (r : Int32), f_law v0 v1 = some r → own_Goes p e below s (Q_law Z hE n0 r) 0 0 (T.setTop (mkF m 0 #[.val (.int v0), .val (.int v1), .unset, .unset, .unset] [])) := by
  have cx' := cx
  obtain ⟨hx, hZ, hw, hby, hml, hown, hret, hlk, hnm⟩ := cx'
  intro T locs X eT N z v0 v1 r hF
  unfold f_law at hF
  refine own_Goes.via (B := T.setTop (mkF m 1 #[.val (.int v0), .val (.int v1), .unset, .unset, .unset] [(.int v1)])) (fun t k => ?_) ?_
  · show Steps p.tables e below (T.setTop (mkF m 0 #[.val (.int v0), .val (.int v1), .unset, .unset, .unset] [])) t
    refine XS.iloadN X.here hx rfl (hb hby at_0) rfl ?_
    exact k
  obtain ⟨r26, hr26, hF⟩ := own_bd_e hF
  obtain ⟨_, _, ⟨T26, L26, k26, n26⟩, -, X26, ⟨Lc26, hQ26, l26, y26, z26⟩, st26⟩ := Jvm.LawKit.callS X hx (y := (⟨"com/example/oxpecker/oxpecker/model/HostPortIsPortPinLaw", "edge", "(I)I"⟩ : MethodName)) hown (mvT hZ (w0 hw)) (mvT hZ (w1 hw)) (mvT hZ (w2 hw)) (mvT hZ (w3 hw)) (by decide) (backOf (W := 0) (rm_HostPortIsPortPinLaw_edge l Z a0 hw [] hE n0 z v1 r26 hr26) hZ (w3 hw) (w2 hw) (by decide) (by decide)) (g := (mkF m 1 #[.val (.int v0), .val (.int v1), .unset, .unset, .unset] [(.int v1)])) rfl (by rw [hml]; rfl) (argsL := [(.int v1)]) (rest := []) (lenOf pd_0 rfl) rfl (by show 2 * 0 + _ ≤ _; exact Nat.le_of_eq rfl) (hb hby at_1) (fun _ _ => ⟨rfl, eT, (by decide : 0 + 0 ≤ _), (by decide : 0 + 0 ≤ _)⟩)
  dsimp only [Pt.U, Pt.locs, Pt.cells, Pt.slots] at X26 l26 y26 z26 st26 hQ26
  subst l26 y26 z26
  obtain ⟨rfl, N26q, e26⟩ := hQ26
  have N26 := Fr.app N N26q
  refine own_Goes.via st26 ?_
  show own_Goes _ _ _ _ _ _ _ (T26.setTop (mkF m 4 #[.val (.int v0), .val (.int v1), .unset, .unset, .unset] [(.int r26)]))
  refine own_Goes.via (B := T26.setTop (mkF m 6 #[.val (.int v0), .val (.int v1), .val (.int r26), .unset, .unset] [(.int v0)])) (fun t k => ?_) ?_
  · show Steps p.tables e below (T26.setTop (mkF m 4 #[.val (.int v0), .val (.int v1), .unset, .unset, .unset] [(.int r26)])) t
    refine XS.istoreN X26.here hx rfl (hb hby at_4) rfl (l' := #[.val (.int v0), .val (.int v1), .val (.int r26), .unset, .unset]) rfl ?_
    show Steps p.tables e below (T26.setTop (mkF m 5 #[.val (.int v0), .val (.int v1), .val (.int r26), .unset, .unset] [])) t
    refine XS.iloadN X26.here hx rfl (hb hby at_5) rfl ?_
    exact k
  obtain ⟨r27, hr27, hF⟩ := own_bd_e hF
  obtain ⟨_, _, ⟨T27, L27, k27, n27⟩, -, X27, ⟨Lc27, hQ27, l27, y27, z27⟩, st27⟩ := Jvm.LawKit.callS X26 hx (y := (⟨"com/example/oxpecker/oxpecker/model/HostPort", "isPort", "(I)Z"⟩ : MethodName)) hown (mvT hZ (w5 hw)) (mvT hZ (w6 hw)) (mvT hZ (w7 hw)) (mvT hZ (w8 hw)) (by decide) (backOf (W := 0) (rm_HostPort_isPort l Z a0 hw [] hE n0 z v0 r27 hr27) hZ (w8 hw) (w7 hw) (by decide) (by decide)) (g := (mkF m 6 #[.val (.int v0), .val (.int v1), .val (.int r26), .unset, .unset] [(.int v0)])) rfl (by rw [hml]; rfl) (argsL := [(.int v0)]) (rest := []) (lenOf pd_1 rfl) rfl (by show 2 * 0 + _ ≤ _; exact Nat.le_of_eq rfl) (hb hby at_6) (fun _ _ => ⟨rfl, e26, (by decide : 0 + 0 ≤ _), (by decide : 0 + 0 ≤ _)⟩)
  dsimp only [Pt.U, Pt.locs, Pt.cells, Pt.slots] at X27 l27 y27 z27 st27 hQ27
  subst l27 y27 z27
  obtain ⟨rfl, N27q, e27⟩ := hQ27
  have N27 := Fr.app N26 N27q
  refine own_Goes.via st27 ?_
  show own_Goes _ _ _ _ _ _ _ (T27.setTop (mkF m 9 #[.val (.int v0), .val (.int v1), .val (.int r26), .unset, .unset] [(.int r27)]))
  refine own_Goes.via (B := T27.setTop (mkF m 10 #[.val (.int v0), .val (.int v1), .val (.int r26), .unset, .unset] [(.int v0), (.int r27)])) (fun t k => ?_) ?_
  · show Steps p.tables e below (T27.setTop (mkF m 9 #[.val (.int v0), .val (.int v1), .val (.int r26), .unset, .unset] [(.int r27)])) t
    refine XS.iloadN X27.here hx rfl (hb hby at_9) rfl ?_
    exact k
  obtain ⟨r28, hr28, hF⟩ := own_bd_e hF
  obtain ⟨_, _, ⟨T28, L28, k28, n28⟩, -, X28, ⟨Lc28, hQ28, l28, y28, z28⟩, st28⟩ := Jvm.LawKit.callS X27 hx (y := (⟨"com/example/oxpecker/oxpecker/model/HostPortIsPortPinLaw", "ref", "(I)Z"⟩ : MethodName)) hown (mvT hZ (w9 hw)) (mvT hZ (w10 hw)) (mvT hZ (w2 hw)) (mvT hZ (w11 hw)) (by decide) (backOf (W := 1) (rm_HostPortIsPortPinLaw_ref l Z a0 hw [] hE n0 z v0 r28 hr28) hZ (w11 hw) (w2 hw) (by decide) (by decide)) (g := (mkF m 10 #[.val (.int v0), .val (.int v1), .val (.int r26), .unset, .unset] [(.int v0), (.int r27)])) rfl (by rw [hml]; rfl) (argsL := [(.int v0)]) (rest := [(.int r27)]) (lenOf pd_1 rfl) rfl (by show 2 * 0 + _ ≤ _; exact Nat.le_of_eq rfl) (hb hby at_10) (fun _ _ => ⟨rfl, e27, (by decide : 0 + 0 ≤ _), (by decide : 0 + 0 ≤ _)⟩)
  dsimp only [Pt.U, Pt.locs, Pt.cells, Pt.slots] at X28 l28 y28 z28 st28 hQ28
  subst l28 y28 z28
  obtain ⟨rfl, N28q, e28⟩ := hQ28
  have N28 := Fr.app N27 N28q
  refine own_Goes.via st28 ?_
  show own_Goes _ _ _ _ _ _ _ (T28.setTop (mkF m 13 #[.val (.int v0), .val (.int v1), .val (.int r26), .unset, .unset] [(.int r28), (.int r27)]))
  by_cases hc13 : r27 = r28
  · rw [if_pos hc13] at hF
    refine own_Goes.via (B := T28.setTop (mkF m 21 #[.val (.int v0), .val (.int v1), .val (.int r26), .unset, .unset] [(.int (1 : Int32))])) (fun t k => ?_) ?_
    · show Steps p.tables e below (T28.setTop (mkF m 13 #[.val (.int v0), .val (.int v1), .val (.int r26), .unset, .unset] [(.int r28), (.int r27)])) t
      refine XS.icmpNo X28.here hx rfl (hb hby at_13) rfl (teq hc13).2 ?_
      show Steps p.tables e below (T28.setTop (mkF m 16 #[.val (.int v0), .val (.int v1), .val (.int r26), .unset, .unset] [])) t
      refine XS.iconst X28.here hx rfl (hb hby at_16) ?_
      show Steps p.tables e below (T28.setTop (mkF m 17 #[.val (.int v0), .val (.int v1), .val (.int r26), .unset, .unset] [(.int (1 : Int32))])) t
      refine XS.goto X28.here hx rfl (pc0 := 17) (pc' := 21) rfl (hb hby at_17) (by decide) (by decide) ?_
      exact k
    exact b_law_21 cx X28 e28 N28 z r26 (1 : Int32) (.val (.int v0)) (.val (.int v1)) (.unset) (.unset) (One.val rfl) (One.val rfl) One.u One.u _ hF
  · rw [if_neg hc13] at hF
    refine own_Goes.via (B := T28.setTop (mkF m 21 #[.val (.int v0), .val (.int v1), .val (.int r26), .unset, .unset] [(.int (0 : Int32))])) (fun t k => ?_) ?_
    · show Steps p.tables e below (T28.setTop (mkF m 13 #[.val (.int v0), .val (.int v1), .val (.int r26), .unset, .unset] [(.int r28), (.int r27)])) t
      refine XS.icmpYes X28.here hx rfl (pc0 := 13) (pc' := 20) rfl (hb hby at_13) rfl (feq hc13).2 (by decide) (by decide) ?_
      show Steps p.tables e below (T28.setTop (mkF m 20 #[.val (.int v0), .val (.int v1), .val (.int r26), .unset, .unset] [])) t
      refine XS.iconst X28.here hx rfl (hb hby at_20) ?_
      exact k
    exact b_law_21 cx X28 e28 N28 z r26 (0 : Int32) (.val (.int v0)) (.val (.int v1)) (.unset) (.unset) (One.val rfl) (One.val rfl) One.u One.u _ hF
theorem ef_law (m : MethodId) (x0 : Int32) (x1 : Int32) : entryFrame m #[(.int x0), (.int x1)] maxLocals = mkF m 0 #[.val (.int x0), .val (.int x1), .unset, .unset, .unset] [] := by first | (simp [entryFrame, mkF, argsToLocals, Value.category, maxLocals]; done) | rfl
set_option maxRecDepth 65536 in
set_option maxHeartbeats 40000000 in
theorem rm_law (l : Launch) (Z : State) (a0 : Array Value) (hw : ∀ d ∈ tables_1, d.before a0 Z = true) (ws : List Jvm.Cond) (hE : Heap) (n0 : Nat) (z : n0 ≤ hE.size)  (v0 : Int32) (v1 : Int32) (r : Int32) (hF : (f_law v0 v1) = some r) :
    MetFree l x (head1 (Jvm.Cond.code x code maxLocals ret :: ws) room_1) (fun a U => a = #[(.int v0), (.int v1)] ∧ Z.Warmed39 U.vm ∧ U.heap = hE) (fun _ _ _ _ _ => True) (fun _ U o U' => ∃ v L, o = .returned v ∧ (Q_law Z hE n0 r) v U'.heap L ∧ FrameEnd U o U' L 0 0) := by
  refine MetFree.of_bodySF (plainFor_of_name pn_com_example_oxpecker_oxpecker_model_HostPortIsPortPinLaw) hisR ?_
  intro p e s m args below meth c s₁ Bd hml0 hP hK
  obtain ⟨rfl, hZ, hh⟩ := hP
  have X0 : Stand p l e room_1 s m #[(.int v0), (.int v1)] below meth c s₁ [] 0 0 := Stand.of_body Bd
  have e0 : s₁.heap = hE := by rw [← hh, Bd.state]; rfl
  have cx : Cx_law p s m meth c Z a0 := ⟨Bd.exec, hZ, hw, Bd.bytes, hml0, findClass_of_methodNamed Bd.named, Bd.returns, Bd.notSynchronized, (name_of_methodNamed Bd.named Bd.method).1⟩
  show own_Goes p e below s (Q_law Z hE n0 r) 0 0 (s₁.setTop (entryFrame m #[(.int v0), (.int v1)] maxLocals))
  rw [ef_law]
  exact b_law cx X0 e0 (Fr.nil n0) z v0 v1 _ hF
/-! numbers: ints and longs as integers -/
theorem own_i1 (x : Int32) : -2147483648 ≤ x.toInt := Int32.le_toInt x
theorem own_i2 (x : Int32) : x.toInt < 2147483648 := Int32.toInt_lt x
theorem own_j1 (x : Int64) : -9223372036854775808 ≤ x.toInt := Int64.le_toInt x
theorem own_j2 (x : Int64) : x.toInt < 9223372036854775808 := Int64.toInt_lt x
theorem own_iadd {a b : Int32} (h1 : -2147483648 ≤ a.toInt + b.toInt) (h2 : a.toInt + b.toInt < 2147483648) : (a + b).toInt = a.toInt + b.toInt := by
  rw [Int32.toInt_add]; exact Int.bmod_eq_of_le (by omega) (by omega)
theorem own_isub {a b : Int32} (h1 : -2147483648 ≤ a.toInt - b.toInt) (h2 : a.toInt - b.toInt < 2147483648) : (a - b).toInt = a.toInt - b.toInt := by
  rw [Int32.toInt_sub]; exact Int.bmod_eq_of_le (by omega) (by omega)
theorem own_imul {a b : Int32} (h1 : -2147483648 ≤ a.toInt * b.toInt) (h2 : a.toInt * b.toInt < 2147483648) : (a * b).toInt = a.toInt * b.toInt := by
  rw [Int32.toInt_mul]; exact Int.bmod_eq_of_le (by omega) (by omega)
theorem own_ladd {a b : Int64} (h1 : -9223372036854775808 ≤ a.toInt + b.toInt) (h2 : a.toInt + b.toInt < 9223372036854775808) : (a + b).toInt = a.toInt + b.toInt := by
  rw [Int64.toInt_add]; exact Int.bmod_eq_of_le (by omega) (by omega)
theorem own_lsub {a b : Int64} (h1 : -9223372036854775808 ≤ a.toInt - b.toInt) (h2 : a.toInt - b.toInt < 9223372036854775808) : (a - b).toInt = a.toInt - b.toInt := by
  rw [Int64.toInt_sub]; exact Int.bmod_eq_of_le (by omega) (by omega)
theorem own_lmul {a b : Int64} (h1 : -9223372036854775808 ≤ a.toInt * b.toInt) (h2 : a.toInt * b.toInt < 9223372036854775808) : (a * b).toInt = a.toInt * b.toInt := by
  rw [Int64.toInt_mul]; exact Int.bmod_eq_of_le (by omega) (by omega)
theorem own_imask {x m : Int32} (k : Nat) (hk : k ≤ 31) (hm : m.toBitVec.toNat = 2 ^ k - 1) : (x &&& m).toInt = x.toInt % 2 ^ k := by
  have h1 : (x &&& m).toBitVec.toNat = x.toBitVec.toNat % 2 ^ k := by rw [Int32.toBitVec_and, BitVec.toNat_and, hm, Nat.and_two_pow_sub_one_eq_mod]
  have h3 : x.toBitVec.toNat % 2 ^ k < 2 ^ k := Nat.mod_lt _ (Nat.pow_pos (by decide))
  have h4 : (2 : Nat) ^ k ≤ 2 ^ 31 := Nat.pow_le_pow_right (by decide) hk
  have h2 : (x &&& m).toInt = ((x.toBitVec.toNat % 2 ^ k : Nat) : Int) := by
    show (x &&& m).toBitVec.toInt = _
    rw [BitVec.toInt_eq_toNat_of_lt (by rw [h1]; omega), h1]
  rw [h2]
  have h5 : x.toInt = x.toBitVec.toInt := rfl
  have h6 : ((2 : Int) ^ k) ∣ 4294967296 := by
    have : (4294967296 : Int) = 2 ^ k * 2 ^ (32 - k) := by rw [← Int.pow_add, show k + (32 - k) = 32 by omega]; rfl
    exact ⟨_, this⟩
  rw [h5, BitVec.toInt_eq_toNat_cond]
  split
  · exact Int.natCast_emod _ _
  · rw [Int.natCast_emod, show (((2 ^ 32 : Nat) : Int)) = 4294967296 from rfl, Int.sub_emod, Int.emod_eq_zero_of_dvd h6]; simp
theorem own_lmask {x m : Int64} (k : Nat) (hk : k ≤ 63) (hm : m.toBitVec.toNat = 2 ^ k - 1) : (x &&& m).toInt = x.toInt % 2 ^ k := by
  have h1 : (x &&& m).toBitVec.toNat = x.toBitVec.toNat % 2 ^ k := by rw [Int64.toBitVec_and, BitVec.toNat_and, hm, Nat.and_two_pow_sub_one_eq_mod]
  have h3 : x.toBitVec.toNat % 2 ^ k < 2 ^ k := Nat.mod_lt _ (Nat.pow_pos (by decide))
  have h4 : (2 : Nat) ^ k ≤ 2 ^ 63 := Nat.pow_le_pow_right (by decide) hk
  have h2 : (x &&& m).toInt = ((x.toBitVec.toNat % 2 ^ k : Nat) : Int) := by
    show (x &&& m).toBitVec.toInt = _
    rw [BitVec.toInt_eq_toNat_of_lt (by rw [h1]; omega), h1]
  rw [h2]
  have h5 : x.toInt = x.toBitVec.toInt := rfl
  have h6 : ((2 : Int) ^ k) ∣ 18446744073709551616 := by
    have : (18446744073709551616 : Int) = 2 ^ k * 2 ^ (64 - k) := by rw [← Int.pow_add, show k + (64 - k) = 64 by omega]; rfl
    exact ⟨_, this⟩
  rw [h5, BitVec.toInt_eq_toNat_cond]
  split
  · exact Int.natCast_emod _ _
  · rw [Int.natCast_emod, show (((2 ^ 64 : Nat) : Int)) = 18446744073709551616 from rfl, Int.sub_emod, Int.emod_eq_zero_of_dvd h6]; simp
theorem own_ports (p : Int32) : f_HostPort_isPort p = f_HostPortIsPortPinLaw_ref p := by
  have e1 : (p - 1).toInt64.toInt = (p - 1).toInt := Int32.toInt_toInt64 _
  have e2 : ((p - 1).toInt64 &&& (4294967295 : Int64)).toInt = (p - 1).toInt % 4294967296 := by
    rw [own_lmask 32 (by decide) (by decide), e1]; rfl
  have e3 : (p - 1).toInt = (p.toInt - 1).bmod 4294967296 := Int32.toInt_sub p 1
  have h1 := own_i1 p
  have h2 := own_i2 p
  have e4 : (p - 1).toInt % 4294967296 = (p.toInt - 1) % 4294967296 := by rw [e3]; exact Int.bmod_emod
  have l1 : (1 : Int32).toInt = 1 := rfl
  have l2 : (65535 : Int32).toInt = 65535 := rfl
  have l3 : (65535 : Int64).toInt = 65535 := rfl
  unfold f_HostPort_isPort f_HostPortIsPortPinLaw_ref own_lt
  simp only [Int32.lt_iff_toInt_lt, Int64.lt_iff_toInt_lt, e2, e4, l1, l2, l3]
  split
  · rw [if_neg (by omega)]
  · split
    · rw [if_neg (by omega)]
    · rw [if_pos (by omega)]
theorem own_port (p : Int32) : ∃ r, f_HostPort_isPort p = some r := by
  unfold f_HostPort_isPort
  split
  · exact ⟨_, rfl⟩
  · split <;> exact ⟨_, rfl⟩
theorem own_edge (k : Int32) : ∃ r, f_HostPortIsPortPinLaw_edge k = some r := by
  unfold f_HostPortIsPortPinLaw_edge own_lt
  dsimp only
  repeat' split
  all_goals exact ⟨_, rfl⟩
theorem own_law (p k : Int32) : f_law p k = some 1 := by
  obtain ⟨e, he⟩ := own_edge k
  obtain ⟨r, hr⟩ := own_port p
  obtain ⟨r', hr'⟩ := own_port e
  have q := own_ports p
  have q' := own_ports e
  rw [hr] at q
  rw [hr'] at q'
  simp [f_law, f_law_21, own_bd, he, hr, hr', ← q, ← q']

set_option maxRecDepth 65536 in
set_option maxHeartbeats 40000000 in
theorem comes_1 {Post : Tables → Env → Array Value → State → Outcome → State → Prop} (hpost : ∀ tb e args s v u, (limb_1_1.after args s (.returned v) u = true ∧ limb_1_2.after args s (.returned v) u = true ∧ True) → FrameEnd s (.returned v) u (Jvm.fieldLocs frame_1_writes args s ++ Jvm.arrayLocs frame_1_arrays args s ++ Jvm.staticLocs frame_1_statics s) 0 0 → Post tb e args s (.returned v) u) :
    ArmFor flags0 classFile x code maxLocals ret World_1 tables_1 room_1 Calls_1 rest_1 Pre_1 Post := by
  intro l hfl _ _ p e ha hc hk s m args below hf hA hF happ hP
  obtain ⟨hcalls, hrest, hpre⟩ := hP
  obtain ⟨-, -, -, hnamed, -, -, -, hat⟩ := (Spec.applies_iff hf).mp happ
  obtain ⟨hg, hn⟩ := and_e (Cond.before_iff.mp (show (Jvm.Cond.and given_1 narrow_1).before args s = true from hpre))
  obtain ⟨gc, g0⟩ := and_e hg
  obtain ⟨ga0, g1⟩ := and_e g0
  have ga1 := g1
  obtain ⟨w0, w1, rfl⟩ : ∃ w0 w1 : Value, args = #[w0, w1] := by
    have hs : args.size = 2 := by simpa [Cond.value, given_1] using gc
    obtain ⟨L⟩ := args
    match L, hs with
    | [w0, w1], _ => exact ⟨w0, w1, rfl⟩
  have hw := fun d (hd : d ∈ tables_1) => atoms_spec (ws := Jvm.Cond.code x code maxLocals ret :: tables_1) hat d (List.mem_cons_of_mem _ hd)
  obtain ⟨i0, ei0⟩ := is_v ga0
  obtain rfl : w0 = (.int i0) := Option.some.inj ei0
  obtain ⟨i1, ei1⟩ := is_v ga1
  obtain rfl : w1 = (.int i1) := Option.some.inj ei1
  obtain ⟨n, o, h1, h2, h3, _, L, rfl, hQ, hq⟩ := rm_law l s _ hw tables_1 s.heap s.heap.size (Nat.le_refl _) i0 i1 1 (own_law i0 i1) p e ha hc hk s m _ below hf ((Spec.applies_iff_loose hf).mp happ).1 ⟨rfl, State.Warmed39.refl s, rfl⟩ trivial
  obtain ⟨rfl, N, -⟩ := hQ
  refine ⟨n, _, h1, h2, h3, hpost _ _ _ _ _ _ ⟨Cond.after_iff.mpr rfl, Cond.after_iff.mpr (eq_i res_at (Term.int_eval (1)) rfl), trivial⟩ ⟨hq.1, hq.2.1, (hq.2.2.sift fun y hy => Or.inr (N y hy)).mono (by decide) (by decide)⟩⟩
theorem main_1_1 : Claimed_1_1 := comes_1 fun _ _ _ _ _ _ h hF => ⟨h.1, hF⟩
theorem main_1_2 : Claimed_1_2 := comes_1 fun _ _ _ _ _ _ h hF => ⟨h.2.1, hF⟩
end Jvm.Pilot.@@N@@
namespace Jvm.Pilot.@@N@@
open Jvm Jvm.ClassFile Sem Op Lib Jvm.Free Jvm.Stand Jvm.Pilot.@@N@@.Jvm.D
/-! MADE BY PROGRAM (witnessworld.py) out of the Statement's table words and the real class files: 10 classes; the members and pool entries that the words name. The judged class is class 1, her method 3. -/
namespace start1
open Jvm.ClassFile
def u (s : String) : CpInfo := .utf8 (stringToUtf16 s)
/-- a pool by its gaps: so many unusable entries, then the entry; so many at the end -/
def gap : Nat → List CpInfo → List CpInfo
  | 0, r => r
  | n + 1, r => .unusable :: gap n r
def poolList (es : List (Nat × CpInfo)) (last : Nat) : List CpInfo := es.foldr (fun e r => gap e.1 (e.2 :: r)) (gap last [])
def pool (es : List (Nat × CpInfo)) (last : Nat) : Array CpInfo := ⟨poolList es last⟩
def fileOf (pool : Array CpInfo) (this : Nat) (attrs : Array Attribute := #[]) (ms : Array MethodInfo := #[]) (fl : Nat := 33) (sup : Nat := 0) (ifs : Array Nat := #[]) (fds : Array FieldInfo := #[]) : ClassFile where
  minorVersion := 0
  majorVersion := 65
  constantPool := pool
  accessFlags := fl
  thisClass := this
  superClass := sup
  interfaces := ifs
  fields := fds
  methods := ms
  attributes := attrs
def plain (name : String) (sup : Option ClassId) : Class where
  name := name
  kind := .ordinary
  loader := none
  accessFlags := 33
  super := sup
  interfaces := #[]
  cf := none
  fields := #[]
  methods := #[]
  instanceTypes := #[]
  staticTypes := #[]
  resolved := #[]
  callSites := []
  init := .initialized
  statics := none
  mirror := none

def pool0 : Array CpInfo := pool [(5, u "<init>"), (0, u "()V"), (1, .class_ 10), (1, u "java/lang/Object")] 113

def k0m0 : Method := { name := "<init>", desc := "()V", sig := { parameters := [], returnType := none }, accessFlags := 1, code := none }
/-- java/lang/Object -/
def k0 : Class := { plain "java/lang/Object" none with
  accessFlags := 33
  interfaces := #[]
  cf := some (fileOf pool0 8 #[] #[{ accessFlags := 1, nameIndex := 5, descriptorIndex := 6, attributes := #[] }] 33 0 #[] #[])
  fields := #[]
  methods := #[k0m0]
  instanceTypes := #[]
  staticTypes := #[]
  resolved := Array.replicate 124 none
  statics := none }

def pool1 : Array CpInfo := pool [(2, .class_ 4), (1, u "java/lang/Object"), (0, u "<init>"), (0, u "()V"), (0, .long 4294967295), (1, .long 65535), (1, .integer 65535), (0, .integer 65536), (2, .integer 2147483648), (0, .integer 2147483647), (0, .methodref 18 19), (0, .class_ 20), (0, .nameAndType 21 22), (0, u "com/example/oxpecker/oxpecker/model/HostPortIsPortPinLaw"), (0, u "edge"), (0, u "(I)I"), (0, .methodref 24 25), (0, .class_ 26), (0, .nameAndType 27 28), (0, u "com/example/oxpecker/oxpecker/model/HostPort"), (0, u "isPort"), (0, u "(I)Z"), (0, .methodref 18 30), (0, .nameAndType 31 28), (0, u "ref"), (3, u "law"), (0, u "(II)Z")] 2

def k1m0 : Method := { name := "<init>", desc := "()V", sig := { parameters := [], returnType := none }, accessFlags := 2, code := none }
def k1c1 : Code := { maxStack := 4, maxLocals := 3, code := method_2_code, exceptionTable := #[], attributes := #[] }
def k1m1 : Method := { name := "ref", desc := "(I)Z", sig := { parameters := [.int], returnType := some .boolean }, accessFlags := 10, code := some k1c1 }
def k1c2 : Code := { maxStack := 2, maxLocals := 2, code := method_3_code, exceptionTable := #[], attributes := #[] }
def k1m2 : Method := { name := "edge", desc := "(I)I", sig := { parameters := [.int], returnType := some .int }, accessFlags := 10, code := some k1c2 }
def k1c3 : Code := { maxStack := 2, maxLocals := 5, code := code, exceptionTable := #[], attributes := #[] }
def k1m3 : Method := { name := "law", desc := "(II)Z", sig := { parameters := [.int, .int], returnType := some .boolean }, accessFlags := 9, code := some k1c3 }
/-- com/example/oxpecker/oxpecker/model/HostPortIsPortPinLaw -/
def k1 : Class := { plain "com/example/oxpecker/oxpecker/model/HostPortIsPortPinLaw" (some 0) with
  accessFlags := 49
  interfaces := #[]
  cf := some (fileOf pool1 18 #[] #[{ accessFlags := 2, nameIndex := 5, descriptorIndex := 6, attributes := #[] }, { accessFlags := 10, nameIndex := 31, descriptorIndex := 28, attributes := #[] }, { accessFlags := 10, nameIndex := 21, descriptorIndex := 22, attributes := #[] }, { accessFlags := 9, nameIndex := 35, descriptorIndex := 36, attributes := #[] }] 49 2 #[] #[])
  fields := #[]
  methods := #[k1m0, k1m1, k1m2, k1m3]
  instanceTypes := #[]
  staticTypes := #[]
  resolved := Array.replicate 39 none
  statics := none }

def pool2 : Array CpInfo := pool [(2, .class_ 4), (1, u "java/lang/Object"), (0, u "<init>"), (0, u "()V"), (0, .class_ 8), (0, u "java/lang/Record")] 13

def k2m0 : Method := { name := "<init>", desc := "()V", sig := { parameters := [], returnType := none }, accessFlags := 4, code := none }
/-- java/lang/Record -/
def k2 : Class := { plain "java/lang/Record" (some 0) with
  accessFlags := 1057
  interfaces := #[]
  cf := some (fileOf pool2 7 #[] #[{ accessFlags := 4, nameIndex := 5, descriptorIndex := 6, attributes := #[] }] 1057 2 #[] #[])
  fields := #[]
  methods := #[k2m0]
  instanceTypes := #[]
  staticTypes := #[]
  resolved := Array.replicate 22 none
  statics := none }

def pool3 : Array CpInfo := pool [(2, .class_ 4), (1, u "java/lang/Record"), (3, u "host"), (20, .class_ 31), (1, u "com/example/oxpecker/oxpecker/model/HostPort"), (0, u "isPort"), (0, u "(I)Z"), (6, u "Ljava/lang/String;"), (2, u "port"), (0, u "I"), (0, .integer 65535), (72, u "MAX_PORT")] 60

def k3c0 : Code := { maxStack := 2, maxLocals := 1, code := prog_1_method_2_code, exceptionTable := #[], attributes := #[] }
def k3m0 : Method := { name := "isPort", desc := "(I)Z", sig := { parameters := [.int], returnType := some .boolean }, accessFlags := 9, code := some k3c0 }
/-- com/example/oxpecker/oxpecker/model/HostPort -/
def k3 : Class := { plain "com/example/oxpecker/oxpecker/model/HostPort" (some 2) with
  accessFlags := 49
  interfaces := #[]
  cf := some (fileOf pool3 29 #[] #[{ accessFlags := 9, nameIndex := 32, descriptorIndex := 33, attributes := #[] }] 49 2 #[] #[{ accessFlags := 18, nameIndex := 8, descriptorIndex := 40, attributes := #[] }, { accessFlags := 18, nameIndex := 43, descriptorIndex := 44, attributes := #[] }, { accessFlags := 26, nameIndex := 118, descriptorIndex := 44, attributes := #[] }])
  fields := #[{ name := "host", type := (.object "java/lang/String"), accessFlags := 18, slot := 0, constantValue := 0 }, { name := "port", type := .int, accessFlags := 18, slot := 1, constantValue := 0 }, { name := "MAX_PORT", type := .int, accessFlags := 26, slot := 0, constantValue := 0 }]
  methods := #[k3m0]
  instanceTypes := #[(.object "java/lang/String"), .int]
  staticTypes := #[.int]
  resolved := Array.replicate 179 none
  statics := none }

def pool4 : Array CpInfo := pool [(1, u "java/lang/Cloneable"), (0, .class_ 1), (0, u "java/lang/Object"), (0, .class_ 3)] 3

/-- java/lang/Cloneable -/
def k4 : Class := { plain "java/lang/Cloneable" (some 0) with
  accessFlags := 1537
  interfaces := #[]
  cf := some (fileOf pool4 2 #[] #[] 1537 4 #[] #[])
  fields := #[]
  methods := #[]
  instanceTypes := #[]
  staticTypes := #[]
  resolved := Array.replicate 8 none
  statics := none }

def pool5 : Array CpInfo := pool [(1, u "java/io/Serializable"), (0, .class_ 1), (0, u "java/lang/Object"), (0, .class_ 3)] 3

/-- java/io/Serializable -/
def k5 : Class := { plain "java/io/Serializable" (some 0) with
  accessFlags := 1537
  interfaces := #[]
  cf := some (fileOf pool5 2 #[] #[] 1537 4 #[] #[])
  fields := #[]
  methods := #[]
  instanceTypes := #[]
  staticTypes := #[]
  resolved := Array.replicate 8 none
  statics := none }

/-- the primitive byte -/
def k6 : Class := { plain "byte" none with kind := .primitive 'B', accessFlags := 0x411 }
/-- [B -/
def k7 : Class := { plain "[B" (some 0) with kind := .array 6 .byte, interfaces := #[4, 5], accessFlags := 1041 }

/-- the primitive int -/
def k8 : Class := { plain "int" none with kind := .primitive 'I', accessFlags := 0x411 }
/-- [I -/
def k9 : Class := { plain "[I" (some 0) with kind := .array 8 .int, interfaces := #[4, 5], accessFlags := 1041 }

def heap : Heap := #[]
def classes : Array Class := #[k0, k1, k2, k3, k4, k5, k6, k7, k8, k9]
def interned : List (Array UInt16 × Addr) := []
def slotsUsed : Nat := 0
def theMethod : MethodId := ⟨1, 3⟩
def args0 : Array Value := #[.int 5, .int 5]
def aboutOver (below : List Frame) : State where
  vm := { classes := classes, interned := interned.toArray }
  heap := heap
  slotsUsed := slotsUsed
  threads := #[{ frames := .invoking theMethod args0 :: below }]
def below0 : List Frame := [.native { method := ⟨0, 0⟩, args := #[] }]
def about1 : State := aboutOver below0
def p0 : Program := .bare "" "" ""
def e0 : Env := launch0.env 0 0 0
theorem w_frames : about1.frames = Frame.invoking theMethod args0 :: below0 := rfl
set_option maxRecDepth 65536 in
theorem w_args : argsFit about1.vm theMethod args0 = true := by decide +kernel
set_option maxRecDepth 65536 in
theorem w_heap : heapFits about1 = true := by decide +kernel
set_option maxRecDepth 65536 in
theorem w_runnable : about1.curStatus? = some .runnable := by decide +kernel
set_option maxRecDepth 65536 in
theorem w_alone : about1.alone = true := by decide +kernel
set_option maxRecDepth 65536 in
theorem w_named : about1.methodNamed? x = some theMethod := by decide +kernel
set_option maxRecDepth 65536 in
theorem w_hears : about1.hears theMethod below0 = true := by decide +kernel
set_option maxRecDepth 65536 in
theorem w_ripe : about1.ripe theMethod args0 below0 = true := by decide +kernel
theorem w_running : about1.status = .running := rfl
set_option maxRecDepth 65536 in
theorem w_room : about1.hasRoom e0.platform room_1 = true :=
  launch0.hasRoom_least _ room_1 (by decide +kernel) (by decide +kernel) (by decide +kernel) (by decide +kernel) (by decide +kernel) (by decide +kernel)
theorem allAtoms_all (ts : List Jvm.Cond) (a : Array Jvm.Value) (st : Jvm.State) : (allAtoms ts).before a st = ts.all (fun c => c.before a st) := by
  induction ts with
  | nil => rfl
  | cons c t ih =>
    show (Jvm.Cond.and c (allAtoms t)).before a st = _
    rw [Jvm.Cond.before_and, ih, List.all_cons]
def words1 : List Jvm.Cond := Jvm.Cond.code x code maxLocals ret :: tables_1
/-- a 'code' word, met by the world's own term for the bytes: nothing is compared byte by byte -/
theorem code_word {y : MethodName} {bytes : ByteArray} {mx : Nat} {rt : Option FieldType} {a : Array Value} {s : State} {m : MethodId} {meth : Method} {c : Code} (h1 : s.methodNamed? y = some m) (h2 : s.vm.method? m = some meth) (h3 : meth.code = some c) (h4 : c.code = bytes)
    (h5 : (c.maxLocals == mx && c.exceptionTable.isEmpty && decide (c.maxStack ≤ mostOperands) && decide (meth.sig.returnType = rt) && !meth.locks && decide (parseMethodDescriptor y.desc = some meth.sig)) = true) : (Jvm.Cond.code y bytes mx rt).before a s = true := by
  simp only [Bool.and_eq_true, beq_iff_eq, Bool.not_eq_true', decide_eq_true_eq] at h5
  obtain ⟨⟨⟨⟨⟨g1, g2⟩, g3⟩, g4⟩, g5⟩, g6⟩ := h5
  simp [Cond.before, Cond.holds, Cond.value, h1, h2, h3, h4, g1, g2, g3, g4, g5, g6]
def isCode : Jvm.Cond → Bool
  | .code _ _ _ _ => true
  | _ => false
theorem all_split {L : List Jvm.Cond} {P : Jvm.Cond → Bool} (h1 : L.all (fun c => isCode c || P c) = true) (h2 : ∀ c ∈ L.filter isCode, P c = true) : L.all P = true := by
  refine List.all_eq_true.mpr fun c hc => ?_
  have h := List.all_eq_true.mp h1 c hc
  rcases Bool.eq_false_or_eq_true (isCode c) with hi | hi
  · exact h2 c (List.mem_filter.mpr ⟨hc, hi⟩)
  · simpa [hi] using h
set_option maxRecDepth 65536 in
theorem w_c0 : (Jvm.Cond.code x code maxLocals ret).before args0 about1 = true := code_word (m := ⟨1, 3⟩) (meth := k1m3) (c := k1c3) (by decide +kernel) rfl rfl rfl (by decide +kernel)
set_option maxRecDepth 65536 in
theorem w_c1 : (Jvm.Cond.code ({ cls := "com/example/oxpecker/oxpecker/model/HostPortIsPortPinLaw", name := "edge", desc := "(I)I" } : Jvm.MethodName) method_3_code (2 : Nat) (Option.some Jvm.ClassFile.FieldType.int)).before args0 about1 = true := code_word (m := ⟨1, 2⟩) (meth := k1m2) (c := k1c2) (by decide +kernel) rfl rfl rfl (by decide +kernel)
set_option maxRecDepth 65536 in
theorem w_c2 : (Jvm.Cond.code ({ cls := "com/example/oxpecker/oxpecker/model/HostPort", name := "isPort", desc := "(I)Z" } : Jvm.MethodName) prog_1_method_2_code (1 : Nat) (Option.some Jvm.ClassFile.FieldType.boolean)).before args0 about1 = true := code_word (m := ⟨3, 0⟩) (meth := k3m0) (c := k3c0) (by decide +kernel) rfl rfl rfl (by decide +kernel)
set_option maxRecDepth 65536 in
theorem w_c3 : (Jvm.Cond.code ({ cls := "com/example/oxpecker/oxpecker/model/HostPortIsPortPinLaw", name := "ref", desc := "(I)Z" } : Jvm.MethodName) method_2_code (3 : Nat) (Option.some Jvm.ClassFile.FieldType.boolean)).before args0 about1 = true := code_word (m := ⟨1, 1⟩) (meth := k1m1) (c := k1c1) (by decide +kernel) rfl rfl rfl (by decide +kernel)
def codes1 : List Jvm.Cond := [Jvm.Cond.code x code maxLocals ret, Jvm.Cond.code ({ cls := "com/example/oxpecker/oxpecker/model/HostPortIsPortPinLaw", name := "edge", desc := "(I)I" } : Jvm.MethodName) method_3_code (2 : Nat) (Option.some Jvm.ClassFile.FieldType.int), Jvm.Cond.code ({ cls := "com/example/oxpecker/oxpecker/model/HostPort", name := "isPort", desc := "(I)Z" } : Jvm.MethodName) prog_1_method_2_code (1 : Nat) (Option.some Jvm.ClassFile.FieldType.boolean), Jvm.Cond.code ({ cls := "com/example/oxpecker/oxpecker/model/HostPortIsPortPinLaw", name := "ref", desc := "(I)Z" } : Jvm.MethodName) method_2_code (3 : Nat) (Option.some Jvm.ClassFile.FieldType.boolean)]
set_option maxRecDepth 65536 in
theorem codes_eq : words1.filter isCode = codes1 := rfl
theorem w_codes : ∀ c ∈ words1.filter isCode, c.before args0 about1 = true := by
  rw [codes_eq]
  intro c hc
  simp only [codes1, List.mem_cons, List.not_mem_nil, or_false] at hc
  rcases hc with rfl | rfl | rfl | rfl
  · exact w_c0
  · exact w_c1
  · exact w_c2
  · exact w_c3
set_option maxRecDepth 65536 in
theorem w_t1 : words1.all (fun c => isCode c || c.before args0 about1) = true := by decide +kernel
theorem w_tables : (allAtoms (Jvm.Cond.code x code maxLocals ret :: tables_1)).before args0 about1 = true := by
  rw [allAtoms_all]
  show words1.all (fun c => c.before args0 about1) = true
  refine all_split ?_ w_codes
  rw [w_t1]
set_option maxRecDepth 65536 in
theorem w_case : (Jvm.Cond.and given_1 narrow_1).before args0 about1 = true := by decide +kernel
theorem w_applies : (headSpec (Jvm.Cond.code x code maxLocals ret :: tables_1) room_1).applies x e0.platform about1 = true :=
  (Spec.applies_iff w_frames).mpr ⟨w_running, w_runnable, w_alone, w_named, w_hears, w_ripe, w_room, w_tables⟩
theorem atStart : AtStart classFile x code maxLocals ret World_1 tables_1 room_1 Calls_1 rest_1 Pre_1 launch0 p0 e0 about1 theMethod args0 below0 :=
  ⟨lists_1, trivial, launch0.admits_env _ _ _, launch0.least_env, fairChoices_fair.cas, fairChoices_fair.clock, w_frames, w_args, w_heap, w_applies, trivial, trivial, w_case⟩
end start1
theorem witness_1 : WitnessClaimed_1 := ⟨start1.p0, start1.e0, start1.about1, start1.theMethod, start1.args0, start1.below0, start1.atStart⟩
end Jvm.Pilot.@@N@@
