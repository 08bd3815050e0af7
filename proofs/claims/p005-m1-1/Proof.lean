import JvmDerived
import JvmDerived.Pilot.@@N@@Statement
import JvmDerived.Pilot.@@N@@Code
set_option linter.unusedVariables false
set_option linter.unusedSimpArgs false
namespace Jvm.Pilot.@@N@@
open Jvm Jvm.ClassFile Sem Op Lib Jvm.Free Jvm.Stand Jvm.LawKit Jvm.RoadKit Bundle Jvm.Pilot.@@N@@.Jvm.D
/-! 1. the words of the mirrors: a named value, a check, a call -/
def own_lt {α β : Type} (x : α) (f : α → Option β) : Option β := f x
def own_ck {β : Type} (P : Prop) [Decidable P] (x : Option β) : Option β := if P then x else none
def own_bd {α β : Type} (x : Option α) (f : α → Option β) : Option β := x.bind f
theorem own_lt_e {α β : Type} {x : α} {f : α → Option β} {r : β} (h : own_lt x f = some r) : ∃ v, v = x ∧ f v = some r := ⟨x, rfl, h⟩
theorem own_ck_e {β : Type} {P : Prop} [Decidable P] {x : Option β} {r : β} (h : own_ck P x = some r) : P ∧ x = some r := by
  unfold own_ck at h
  by_cases q : P
  · rw [if_pos q] at h; exact ⟨q, h⟩
  · rw [if_neg q] at h; cases h
theorem own_bd_e {α β : Type} {x : Option α} {f : α → Option β} {r : β} (h : own_bd x f = some r) : ∃ v, x = some v ∧ f v = some r := by
  unfold own_bd at h
  cases x with
  | none => cases h
  | some v => exact ⟨v, rfl, h⟩
abbrev own_inb {α : Type} (bs : List α) (j : Int32) : Prop := ¬ j < 0 ∧ j.toNatClampNeg < bs.length
def own_rd {α : Type} [OfNat α 0] (bs : List α) (j : Int32) : α := bs.getD j.toNatClampNeg 0
def own_wr {α : Type} (bs : List α) (j : Int32) (v : α) : List α := bs.set j.toNatClampNeg v
def own_sz {α : Type} (bs : List α) : Int32 := bs.length.toInt32
/-! 2. a run that comes to an end as Q says -/
def own_Goes (p : Program) (e : Env) (below : List Frame) (s : State) (Q : Option Value → Heap → List Loc → Prop) (ce sl : Nat) (A : State) : Prop :=
  ∃ s₂ o, Steps p.tables e below A s₂ ∧ s₂.status = .running ∧ Ended s₂ below o ∧ ∃ v L, o = .returned v ∧ Q v s₂.heap L ∧ FrameEnd s o s₂ L ce sl
section Own
variable {p : Program} {l : Launch} {e : Env} {R : Room} {s : State} {m : MethodId} {args : Array Value} {below : List Frame} {meth : Method} {c : Code} {T : State} {locs : List Loc} {cells slots : Nat} {Z : State} {h h' : Heap} {Q : Option Value → Heap → List Loc → Prop} {ce sl : Nat}
theorem own_Goes.via {A B : State} (q : ∀ t, Steps p.tables e below B t → Steps p.tables e below A t) (g : own_Goes p e below s Q ce sl B) : own_Goes p e below s Q ce sl A := by
  obtain ⟨s₂, o, h1, r⟩ := g
  exact ⟨s₂, o, q _ h1, r⟩
theorem own_Goes.tr {A B : State} (q : Steps p.tables e below A B) (g : own_Goes p e below s Q ce sl B) : own_Goes p e below s Q ce sl A := g.via fun _ k => q.trans k
theorem own_retV (X : Stand p l e R s m args below meth c T locs cells slots) (hx : p.tables.exec = Jvm.exec) {pc : Nat} {Ls : Array Slot} (hret : meth.sig.returnType = none) (hlk : meth.locks = false) (hd : decode c.code pc = .ok (.return_, 1)) (eT : T.heap = h) (hQ : Q none h locs) (hc : cells ≤ ce) (hs : slots ≤ sl) :
    own_Goes p e below s Q ce sl (T.setTop (mkF m pc Ls [])) := by
  obtain ⟨fs, hr, hrun, hended, hW, hsame⟩ := X.leave (v := none) (fun _ => rfl) hlk
  refine ⟨_, _, ?_, hrun, hended, _, _, rfl, ?_, ⟨_, rfl⟩, hW, hsame.mono hc hs⟩
  · exact X.returnOut hx hret hd hr
  · show Q none T.heap locs
    rw [eT]; exact hQ
theorem own_retI (X : Stand p l e R s m args below meth c T locs cells slots) (hx : p.tables.exec = Jvm.exec) {pc : Nat} {Ls : Array Slot} {z : Int32} {rest : List Value} (hret : meth.sig.returnType = some .int) (hlk : meth.locks = false) (hd : decode c.code pc = .ok (.ireturn, 1)) (eT : T.heap = h) (hQ : Q (some (.int z)) h locs) (hc : cells ≤ ce) (hs : slots ≤ sl) :
    own_Goes p e below s Q ce sl (T.setTop (mkF m pc Ls (.int z :: rest))) := by
  obtain ⟨fs, hr, hrun, hended, hW, hsame⟩ := X.leave (v := some (.int z)) (fun h => by rw [hret] at h; cases h) hlk
  refine ⟨_, _, ?_, hrun, hended, _, _, rfl, ?_, ⟨_, rfl⟩, hW, hsame.mono hc hs⟩
  · exact retOut X hx hret rfl (Or.inl ⟨rfl, Or.inl rfl, z, rfl⟩) hd hr
  · show Q _ T.heap locs
    rw [eT]; exact hQ
theorem own_retJ (X : Stand p l e R s m args below meth c T locs cells slots) (hx : p.tables.exec = Jvm.exec) {pc : Nat} {Ls : Array Slot} {z : Int64} {rest : List Value} (hret : meth.sig.returnType = some .long) (hlk : meth.locks = false) (hd : decode c.code pc = .ok (.lreturn, 1)) (eT : T.heap = h) (hQ : Q (some (.long z)) h locs) (hc : cells ≤ ce) (hs : slots ≤ sl) :
    own_Goes p e below s Q ce sl (T.setTop (mkF m pc Ls (.long z :: rest))) := by
  obtain ⟨fs, hr, hrun, hended, hW, hsame⟩ := X.leave (v := some (.long z)) (fun h => by rw [hret] at h; cases h) hlk
  refine ⟨_, _, ?_, hrun, hended, _, _, rfl, ?_, ⟨_, rfl⟩, hW, hsame.mono hc hs⟩
  · exact retOut X hx hret rfl (Or.inr (Or.inl ⟨rfl, rfl, z, rfl⟩)) hd hr
  · show Q _ T.heap locs
    rw [eT]; exact hQ
theorem own_retR (X : Stand p l e R s m args below meth c T locs cells slots) (hx : p.tables.exec = Jvm.exec) {pc : Nat} {Ls : Array Slot} {t : FieldType} {w : Value} {rest : List Value} (hret : meth.sig.returnType = some t) (hlk : meth.locks = false) (hd : decode c.code pc = .ok (.areturn, 1)) (ht : t.isReference = true) (eT : T.heap = h) (hw : w.isRef = true) (hQ : Q (some w) h locs) (hc : cells ≤ ce) (hs : slots ≤ sl) :
    own_Goes p e below s Q ce sl (T.setTop (mkF m pc Ls (w :: rest))) := by
  obtain ⟨fs, hr, hrun, hended, hW, hsame⟩ := X.leave (v := some w) (fun h => by rw [hret] at h; cases h) hlk
  refine ⟨_, _, ?_, hrun, hended, _, _, rfl, ?_, ⟨_, rfl⟩, hW, hsame.mono hc hs⟩
  · exact retOut X hx hret (by cases t <;> first | (cases ht; done) | rfl) (Or.inr (Or.inr (Or.inr (Or.inr ⟨rfl, ht, hw⟩)))) hd hr
  · show Q _ T.heap locs
    rw [eT]; exact hQ
theorem own_retN (X : Stand p l e R s m args below meth c T locs cells slots) (hx : p.tables.exec = Jvm.exec) {pc : Nat} {Ls : Array Slot} {z v : Int32} {t : FieldType} {rest : List Value} (hret : meth.sig.returnType = some t) (hlk : meth.locks = false) (ht : t = .boolean ∨ t = .byte ∨ t = .char ∨ t = .short) (hd : decode c.code pc = .ok (.ireturn, 1)) (eT : T.heap = h) (hv : nar t z = v) (hQ : Q (some (.int v)) h locs) (hc : cells ≤ ce) (hs : slots ≤ sl) :
    own_Goes p e below s Q ce sl (T.setTop (mkF m pc Ls (.int z :: rest))) := by
  subst hv
  obtain ⟨fs, hr, hrun, hended, hW, hsame⟩ := X.leave (v := some (.int (nar t z))) (fun h => by rw [hret] at h; cases h) hlk
  refine ⟨_, _, ?_, hrun, hended, _, _, rfl, ?_, ⟨_, rfl⟩, hW, hsame.mono hc hs⟩
  · exact retN X hx hret ht hd hr
  · show Q _ T.heap locs
    rw [eT]; exact hQ
/-! 3. single steps -/
theorem own_irem {g : JFrame} {target : State} (X : Stand p l e R s m args below meth c T locs cells slots) (hx : p.tables.exec = Jvm.exec) (hg : g.method = m) {x y : Int32} {rest : List Value} (hd : decode c.code g.pc = .ok (.irem, 1)) (hs : g.stack = .int y :: .int x :: rest) (hy : y ≠ 0)
    (hr : Steps p.tables e below (T.setTop { g with pc := g.pc + 1, stack := .int (x % y) :: rest }) target) : Steps p.tables e below (T.setTop g) target := iremM X hx hg hd hs hy hr
theorem own_lrem {g : JFrame} {target : State} (X : Stand p l e R s m args below meth c T locs cells slots) (hx : p.tables.exec = Jvm.exec) (hg : g.method = m) {x y : Int64} {rest : List Value} (hd : decode c.code g.pc = .ok (.lrem, 1)) (hs : g.stack = .long y :: .long x :: rest) (hy : y ≠ 0)
    (hr : Steps p.tables e below (T.setTop { g with pc := g.pc + 1, stack := .long (x % y) :: rest }) target) : Steps p.tables e below (T.setTop g) target :=
  XS.lrem X.here hx hg hd hs hy (by rw [lrem_mod]; exact hr)
theorem own_tltL {x y : Int64} (q : x < y) : ifCond.holds .lt (lcmpW x y) = true ∧ ifCond.holds .ge (lcmpW x y) = false := by
  rw [if0, if0]; exact ⟨(tlt ((lw_lt x y).mpr q)).1, (tlt ((lw_lt x y).mpr q)).2.1⟩
theorem own_fltL {x y : Int64} (q : ¬ x < y) : ifCond.holds .lt (lcmpW x y) = false ∧ ifCond.holds .ge (lcmpW x y) = true := by
  rw [if0, if0]; exact ⟨(flt fun z => q ((lw_lt x y).mp z)).1, (flt fun z => q ((lw_lt x y).mp z)).2.1⟩
theorem own_tgtL {x y : Int64} (q : y < x) : ifCond.holds .gt (lcmpW x y) = true ∧ ifCond.holds .le (lcmpW x y) = false := by
  rw [if0, if0]; exact ⟨(tlt ((lw_gt x y).mpr q)).2.2.1, (tlt ((lw_gt x y).mpr q)).2.2.2⟩
theorem own_fgtL {x y : Int64} (q : ¬ y < x) : ifCond.holds .gt (lcmpW x y) = false ∧ ifCond.holds .le (lcmpW x y) = true := by
  rw [if0, if0]; exact ⟨(flt fun z => q ((lw_gt x y).mp z)).2.2.1, (flt fun z => q ((lw_gt x y).mp z)).2.2.2⟩
theorem own_teqL {x y : Int64} (q : x = y) : ifCond.holds .eq (lcmpW x y) = true ∧ ifCond.holds .ne (lcmpW x y) = false := by
  rw [if0, if0]; exact ⟨(teq ((lw_eq x y).mpr q)).1, (teq ((lw_eq x y).mpr q)).2⟩
theorem own_feqL {x y : Int64} (q : ¬ x = y) : ifCond.holds .eq (lcmpW x y) = false ∧ ifCond.holds .ne (lcmpW x y) = true := by
  rw [if0, if0]; exact ⟨(feq fun z => q ((lw_eq x y).mp z)).1, (feq fun z => q ((lw_eq x y).mp z)).2⟩
theorem own_st1 {L : Array Slot} {i : Nat} {v : Value} {o : Slot} {L' : Array Slot} (hold : L[i]? = some o) (ho : One o) (hv : v.category = 1) (hL : L.setIfInBounds i (.val v) = L' := by rfl) : storeLocals L i v = some L' := hL ▸ XS.store1 hold ho hv
theorem own_privSel {s : State} {args : Array Value} {y : MethodName} {n : Nat} (wi : (Cond.instantiable y.cls n).before args s = true) (hp : s.PrivateAt y) (hinst : (Cond.instanceMethod y).before args s = true) (hy : y.cls ≠ "java/lang/invoke/MethodHandle" ∧ y.cls ≠ "java/lang/invoke/VarHandle") : (Cond.selects y.cls y y).before args s = true := by
  obtain ⟨c, k, h1, h2, -, h3, -⟩ := Cond.instantiable_spec wi
  exact selects_self_of_private h1 h2 (Bool.or_eq_false_iff.mp h3).1 hp hinst hy
theorem own_st2 {L L' : Array Slot} {i : Nat} {x : Int64} {o1 o2 : Slot} (h1 : L[i]? = some o1) (h2 : L[i + 1]? = some o2) (q1 : One o1) (q2 : One o2) (hL : (L.setIfInBounds i (.val (.long x))).setIfInBounds (i + 1) .second = L' := by rfl) : storeLocals L i (.long x) = some L' := by
  subst hL
  obtain ⟨b1, g1⟩ := Array.getElem?_eq_some_iff.mp h1
  obtain ⟨b2, g2⟩ := Array.getElem?_eq_some_iff.mp h2
  have hc : (Value.long x).category = 2 := rfl
  rcases q1 with rfl | ⟨w, rfl, hw⟩ <;> rcases q2 with rfl | ⟨w', rfl, hw'⟩ <;> simp [storeLocals, storeSelf, setAt, hc, *]
/-! 4. arrays: what lies in them, as a list -/
def own_Ar (Z : State) (h : Heap) (a : Addr) (ty : FieldType) (vs : List Value) : Prop := ∃ c : Cell, Arr Z h a c ty ∧ c.slots.toList = vs ∧ vs.length < 2 ^ 31 ∧ ∀ v ∈ vs, fits ty v = true
variable {a b : Addr} {ty : FieldType} {vs : List Value}
theorem own_Ar.lt (F : own_Ar Z h a ty vs) : a < h.size := by obtain ⟨c, A, -⟩ := F; exact A.lt
theorem own_Ar.ext (F : own_Ar Z h a ty vs) (E : Ext h h') : own_Ar Z h' a ty vs := by obtain ⟨c, A, r⟩ := F; exact ⟨c, A.ext E, r⟩
theorem own_Ar.other {k : Nat} {v : Value} (F : own_Ar Z h b ty vs) (W : Wr h h' a k v) (q : b ≠ a) : own_Ar Z h' b ty vs := by obtain ⟨c, A, r⟩ := F; exact ⟨c, A.other W q, r⟩
theorem own_Ar.keep {ws : List Addr} (F : own_Ar Z h a ty vs) (K : Keep h h' ws) (q : a ∉ ws) : own_Ar Z h' a ty vs := by obtain ⟨c, A, r⟩ := F; exact ⟨c, ⟨K.2.1 a c A.1 q, A.2⟩, r⟩
theorem own_Ar.size {c : Cell} (q : c.slots.toList = vs) : c.slots.size = vs.length := by rw [← q]; simp
theorem own_in {c : Cell} {j : Int32} (q : c.slots.toList = vs) (hj : own_inb vs j) : ¬ (j < 0 ∨ c.slots.size ≤ j.toNatClampNeg) := by
  rw [own_Ar.size q]
  rintro (r | r)
  · exact hj.1 r
  · exact absurd hj.2 (Nat.not_lt.mpr r)
theorem own_get {c : Cell} {i : Nat} (q : c.slots.toList = vs) (d : Value) (hi : i < vs.length) : c.slots[i]? = some (vs.getD i d) := by
  have e : c.slots = vs.toArray := by rw [← q]
  rw [e]
  simp [List.getD, hi]
theorem own_set {c : Cell} {i : Nat} {v : Value} (q : c.slots.toList = vs) : (c.setSlot i v).slots.toList = vs.set i v := by
  have e : c.slots = vs.toArray := by rw [← q]
  simp [Cell.setSlot, e]
theorem own_fits {i : Nat} {v : Value} (q : ∀ v ∈ vs, fits ty v = true) (hv : fits ty v = true) : ∀ u ∈ vs.set i v, fits ty u = true := fun u hu => by
  rcases List.mem_or_eq_of_mem_set hu with r | r
  · exact q u r
  · rw [r]; exact hv
theorem own_mapGet {bs : List Int32} {i : Nat} (hi : i < bs.length) : (bs.map Value.int).getD i (.int 0) = .int (bs.getD i 0) := by simp [List.getD, hi]
theorem own_mapGetJ {bs : List Int64} {i : Nat} (hi : i < bs.length) : (bs.map Value.long).getD i (.long 0) = .long (bs.getD i 0) := by simp [List.getD, hi]
theorem own_mapSet {bs : List Int32} {i : Nat} {v : Int32} : (bs.map Value.int).set i (.int v) = (bs.set i v).map Value.int := by simp
theorem own_mapSetJ {bs : List Int64} {i : Nat} {v : Int64} : (bs.map Value.long).set i (.long v) = (bs.set i v).map Value.long := by simp
theorem own_inbM {α : Type} {f : α → Value} {bs : List α} {j : Int32} (q : own_inb bs j) : own_inb (bs.map f) j := ⟨q.1, by rw [List.length_map]; exact q.2⟩
theorem own_wrk {α : Type} {bs : List α} {j : Int32} {v : α} (k : Nat) (hk : j.toNatClampNeg = k) : own_wr bs j v = bs.set k v := by rw [own_wr, hk]
theorem own_rdk {α : Type} [OfNat α 0] {bs : List α} {j : Int32} (k : Nat) (hk : j.toNatClampNeg = k) : own_rd bs j = bs.getD k 0 := by rw [own_rd, hk]
theorem own_inbk {α : Type} {bs : List α} {j : Int32} (k n : Nat) (h0 : ¬ j < 0) (hk : j.toNatClampNeg = k) (hl : bs.length = n) (hkn : k < n) : own_inb bs j := ⟨h0, by rw [hk, hl]; exact hkn⟩
theorem own_len {α : Type} {f : α → Value} {bs : List α} (X : Stand p l e R s m args below meth c T locs cells slots) (hx : p.tables.exec = Jvm.exec) (hZ : Z.Warmed39 s.vm) (eT : T.heap = h) (A : own_Ar Z h a ty (bs.map f)) {g : JFrame} (hg : g.method = m) {rest : List Value} (hs : g.stack = .ref a :: rest) (hd : decode c.code g.pc = .ok (.arraylength, 1)) {target : State}
    (hr : Steps p.tables e below (T.setTop { g with pc := g.pc + 1, stack := .int (own_sz bs) :: rest }) target) : Steps p.tables e below (T.setTop g) target := by
  obtain ⟨cl, A, q, -⟩ := A
  refine X.arraylength hx (by rw [eT]; exact A.1) (State.isArrayOf_alike hZ.alike A.2.1) hg hs hd _ ?_
  rw [own_Ar.size q, List.length_map]; exact hr
theorem own_ldI {bs : List Int32} {j v : Int32} (X : Stand p l e R s m args below meth c T locs cells slots) (hx : p.tables.exec = Jvm.exec) (hZ : Z.Warmed39 s.vm) (eT : T.heap = h) (A : own_Ar Z h a .int (bs.map Value.int)) (hj : own_inb bs j) (hv : own_rd bs j = v) {g : JFrame} (hg : g.method = m) {rest : List Value} (hs : g.stack = .int j :: .ref a :: rest) (hd : decode c.code g.pc = .ok (.iaload, 1)) {target : State}
    (hr : Steps p.tables e below (T.setTop { g with pc := g.pc + 1, stack := .int v :: rest }) target) : Steps p.tables e below (T.setTop g) target := by
  subst hv
  obtain ⟨cl, A, q, -⟩ := A
  exact X.iaload hx (by rw [eT]; exact A.1) (State.isArrayOf_alike hZ.alike A.2.1) A.2.2 (own_in q (own_inbM hj)) ((own_get q (.int 0) (own_inbM hj).2).trans (congrArg some (own_mapGet hj.2))) hg hs hd _ hr
theorem own_ldB {bs : List Int32} {j v : Int32} (X : Stand p l e R s m args below meth c T locs cells slots) (hx : p.tables.exec = Jvm.exec) (hZ : Z.Warmed39 s.vm) (eT : T.heap = h) (A : own_Ar Z h a .byte (bs.map Value.int)) (hj : own_inb bs j) (hv : own_rd bs j = v) {g : JFrame} (hg : g.method = m) {rest : List Value} (hs : g.stack = .int j :: .ref a :: rest) (hd : decode c.code g.pc = .ok (.baload, 1)) {target : State}
    (hr : Steps p.tables e below (T.setTop { g with pc := g.pc + 1, stack := .int v :: rest }) target) : Steps p.tables e below (T.setTop g) target := by
  subst hv
  obtain ⟨cl, A, q, -⟩ := A
  exact X.baloadBytes hx (by rw [eT]; exact A.1) (State.isArrayOf_alike hZ.alike A.2.1) A.2.2 (own_in q (own_inbM hj)) ((own_get q (.int 0) (own_inbM hj).2).trans (congrArg some (own_mapGet hj.2))) hg hs hd _ hr
theorem own_ldZ {bs : List Int32} {j v : Int32} (X : Stand p l e R s m args below meth c T locs cells slots) (hx : p.tables.exec = Jvm.exec) (hZ : Z.Warmed39 s.vm) (eT : T.heap = h) (A : own_Ar Z h a .boolean (bs.map Value.int)) (hj : own_inb bs j) (hv : own_rd bs j = v) {g : JFrame} (hg : g.method = m) {rest : List Value} (hs : g.stack = .int j :: .ref a :: rest) (hd : decode c.code g.pc = .ok (.baload, 1)) {target : State}
    (hr : Steps p.tables e below (T.setTop { g with pc := g.pc + 1, stack := .int v :: rest }) target) : Steps p.tables e below (T.setTop g) target := by
  subst hv
  obtain ⟨cl, A, q, -⟩ := A
  exact X.baloadBooleans hx (by rw [eT]; exact A.1) (State.isArrayOf_alike hZ.alike A.2.1) A.2.2 (own_in q (own_inbM hj)) ((own_get q (.int 0) (own_inbM hj).2).trans (congrArg some (own_mapGet hj.2))) hg hs hd _ hr
theorem own_ldJ {bs : List Int64} {j : Int32} {v : Int64} (X : Stand p l e R s m args below meth c T locs cells slots) (hx : p.tables.exec = Jvm.exec) (hZ : Z.Warmed39 s.vm) (eT : T.heap = h) (A : own_Ar Z h a .long (bs.map Value.long)) (hj : own_inb bs j) (hv : own_rd bs j = v) {g : JFrame} (hg : g.method = m) {rest : List Value} (hs : g.stack = .int j :: .ref a :: rest) (hd : decode c.code g.pc = .ok (.laload, 1)) {target : State}
    (hr : Steps p.tables e below (T.setTop { g with pc := g.pc + 1, stack := .long v :: rest }) target) : Steps p.tables e below (T.setTop g) target := by
  subst hv
  obtain ⟨cl, A, q, -⟩ := A
  exact X.laload hx (by rw [eT]; exact A.1) (State.isArrayOf_alike hZ.alike A.2.1) A.2.2 (own_in q (own_inbM hj)) ((own_get q (.long 0) (own_inbM hj).2).trans (congrArg some (own_mapGetJ hj.2))) hg hs hd _ hr
theorem own_stI {bs : List Int32} {j x : Int32} (X : Stand p l e R s m args below meth c T locs cells slots) (hx : p.tables.exec = Jvm.exec) (hZ : Z.Warmed39 s.vm) (eT : T.heap = h) (A : own_Ar Z h a .int (bs.map Value.int)) (hj : own_inb bs j) {g : JFrame} (hg : g.method = m) {rest : List Value} (hs : g.stack = .int x :: .int j :: .ref a :: rest) (hd : decode c.code g.pc = .ok (.iastore, 1)) :
    ∃ T' h', Stand p l e R s m args below meth c T' (locs ++ [⟨a, j.toNatClampNeg⟩]) cells slots ∧ T'.heap = h' ∧ Wr h h' a j.toNatClampNeg (.int x) ∧ own_Ar Z h' a .int ((own_wr bs j x).map Value.int) ∧ ∀ target, Steps p.tables e below (T'.setTop { g with pc := g.pc + 1, stack := rest }) target → Steps p.tables e below (T.setTop g) target := by
  obtain ⟨cl, A, q, r, ft⟩ := A
  obtain ⟨T', h', X', e', W, st⟩ := stI X hx hZ eT A (own_in q (own_inbM hj)) hg hs hd
  exact ⟨T', h', X', e', W, ⟨_, A.same W, (own_set q).trans own_mapSet, by simpa [own_wr] using r, own_mapSet ▸ own_fits ft rfl⟩, st⟩
theorem own_stB {bs : List Int32} {j x : Int32} (X : Stand p l e R s m args below meth c T locs cells slots) (hx : p.tables.exec = Jvm.exec) (hZ : Z.Warmed39 s.vm) (eT : T.heap = h) (A : own_Ar Z h a .byte (bs.map Value.int)) (hj : own_inb bs j) {g : JFrame} (hg : g.method = m) {rest : List Value} (hs : g.stack = .int x :: .int j :: .ref a :: rest) (hd : decode c.code g.pc = .ok (.bastore, 1)) :
    ∃ T' h', Stand p l e R s m args below meth c T' (locs ++ [⟨a, j.toNatClampNeg⟩]) cells slots ∧ T'.heap = h' ∧ Wr h h' a j.toNatClampNeg (.int x.toInt8.toInt32) ∧ own_Ar Z h' a .byte ((own_wr bs j x.toInt8.toInt32).map Value.int) ∧ ∀ target, Steps p.tables e below (T'.setTop { g with pc := g.pc + 1, stack := rest }) target → Steps p.tables e below (T.setTop g) target := by
  obtain ⟨cl, A, q, r, ft⟩ := A
  obtain ⟨T', h', X', e', W, st⟩ := stB X hx hZ eT A (own_in q (own_inbM hj)) hg hs hd
  exact ⟨T', h', X', e', W, ⟨_, A.same W, (own_set q).trans own_mapSet, by simpa [own_wr] using r, own_mapSet ▸ own_fits ft (fits_nar_byte _)⟩, st⟩
theorem own_stZ {bs : List Int32} {j x : Int32} (X : Stand p l e R s m args below meth c T locs cells slots) (hx : p.tables.exec = Jvm.exec) (hZ : Z.Warmed39 s.vm) (eT : T.heap = h) (A : own_Ar Z h a .boolean (bs.map Value.int)) (hj : own_inb bs j) {g : JFrame} (hg : g.method = m) {rest : List Value} (hs : g.stack = .int x :: .int j :: .ref a :: rest) (hd : decode c.code g.pc = .ok (.bastore, 1)) :
    ∃ T' h', Stand p l e R s m args below meth c T' (locs ++ [⟨a, j.toNatClampNeg⟩]) cells slots ∧ T'.heap = h' ∧ Wr h h' a j.toNatClampNeg (.int (x &&& 1)) ∧ own_Ar Z h' a .boolean ((own_wr bs j (x &&& 1)).map Value.int) ∧ ∀ target, Steps p.tables e below (T'.setTop { g with pc := g.pc + 1, stack := rest }) target → Steps p.tables e below (T.setTop g) target := by
  obtain ⟨cl, A, q, r, ft⟩ := A
  obtain ⟨T', h', X', e', W, st⟩ := stZ X hx hZ eT A (own_in q (own_inbM hj)) hg hs hd
  exact ⟨T', h', X', e', W, ⟨_, A.same W, (own_set q).trans own_mapSet, by simpa [own_wr] using r, own_mapSet ▸ own_fits ft (fits_nar_bool _)⟩, st⟩
theorem own_stJ {bs : List Int64} {j : Int32} {x : Int64} (X : Stand p l e R s m args below meth c T locs cells slots) (hx : p.tables.exec = Jvm.exec) (hZ : Z.Warmed39 s.vm) (eT : T.heap = h) (A : own_Ar Z h a .long (bs.map Value.long)) (hj : own_inb bs j) {g : JFrame} (hg : g.method = m) {rest : List Value} (hs : g.stack = .long x :: .int j :: .ref a :: rest) (hd : decode c.code g.pc = .ok (.lastore, 1)) :
    ∃ T' h', Stand p l e R s m args below meth c T' (locs ++ [⟨a, j.toNatClampNeg⟩]) cells slots ∧ T'.heap = h' ∧ Wr h h' a j.toNatClampNeg (.long x) ∧ own_Ar Z h' a .long ((own_wr bs j x).map Value.long) ∧ ∀ target, Steps p.tables e below (T'.setTop { g with pc := g.pc + 1, stack := rest }) target → Steps p.tables e below (T.setTop g) target := by
  obtain ⟨cl, A, q, r, ft⟩ := A
  obtain ⟨T', h', X', e', W, st⟩ := stJ X hx hZ eT A (own_in q (own_inbM hj)) hg hs hd
  exact ⟨T', h', X', e', W, ⟨_, A.same W, (own_set q).trans own_mapSetJ, by simpa [own_wr] using r, own_mapSetJ ▸ own_fits ft rfl⟩, st⟩
theorem own_newI {k : ClassId} {n : Int32} {kk : Nat} (A : Arr Z h a (newA k ty n) ty) (q : ¬ n < 0) (hd : defaultValue ty = .int 0) (hk : n.toNatClampNeg = kk) : own_Ar Z h a ty ((List.replicate kk (0 : Int32)).map Value.int) := hk ▸
  ⟨_, A, by simp [newA, hd], by rw [List.length_map, List.length_replicate]; exact (back32 q).2, fun v hv => by
    rw [List.map_replicate] at hv
    rw [(List.mem_replicate.mp hv).2, ← hd]; cases ty <;> rfl⟩
theorem own_newJ {k : ClassId} {n : Int32} {kk : Nat} (A : Arr Z h a (newA k ty n) ty) (q : ¬ n < 0) (hd : defaultValue ty = .long 0) (hk : n.toNatClampNeg = kk) : own_Ar Z h a ty ((List.replicate kk (0 : Int64)).map Value.long) := hk ▸
  ⟨_, A, by simp [newA, hd], by rw [List.length_map, List.length_replicate]; exact (back32 q).2, fun v hv => by
    rw [List.map_replicate] at hv
    rw [(List.mem_replicate.mp hv).2, ← hd]; cases ty <;> rfl⟩
end Own
theorem w0 {a0 : Array Value} {Z : State} (hw : ∀ d ∈ tables_1, d.before a0 Z = true) : ((Jvm.Cond.arrayClass Jvm.ClassFile.FieldType.byte)).before a0 Z = true := hw _ (List.mem_of_getElem? (i := 0) rfl)
theorem w1 {a0 : Array Value} {Z : State} (hw : ∀ d ∈ tables_1, d.before a0 Z = true) : ((Jvm.Cond.methodLink "com/example/binary64/binary64/Utf8SequenceLengthPinLaw" (7 : Nat) ({ cls := "com/example/binary64/binary64/Utf8", name := "sequenceLength", desc := "([BII)I" } : Jvm.MethodName))).before a0 Z = true := hw _ (List.mem_of_getElem? (i := 1) rfl)
theorem w2 {a0 : Array Value} {Z : State} (hw : ∀ d ∈ tables_1, d.before a0 Z = true) : ((Jvm.Cond.static ({ cls := "com/example/binary64/binary64/Utf8", name := "sequenceLength", desc := "([BII)I" } : Jvm.MethodName))).before a0 Z = true := hw _ (List.mem_of_getElem? (i := 2) rfl)
theorem w3 {a0 : Array Value} {Z : State} (hw : ∀ d ∈ tables_1, d.before a0 Z = true) : ((Jvm.Cond.initialized "com/example/binary64/binary64/Utf8")).before a0 Z = true := hw _ (List.mem_of_getElem? (i := 3) rfl)
theorem w4 {a0 : Array Value} {Z : State} (hw : ∀ d ∈ tables_1, d.before a0 Z = true) : ((Jvm.Cond.code ({ cls := "com/example/binary64/binary64/Utf8", name := "sequenceLength", desc := "([BII)I" } : Jvm.MethodName) prog_50_method_2_code (7 : Nat) (Option.some Jvm.ClassFile.FieldType.int))).before a0 Z = true := hw _ (List.mem_of_getElem? (i := 4) rfl)
theorem w5 {a0 : Array Value} {Z : State} (hw : ∀ d ∈ tables_1, d.before a0 Z = true) : ((Jvm.Cond.methodLink "com/example/binary64/binary64/Utf8SequenceLengthPinLaw" (13 : Nat) ({ cls := "com/example/binary64/binary64/Utf8SequenceLengthPinLaw", name := "expected", desc := "(IIIII)I" } : Jvm.MethodName))).before a0 Z = true := hw _ (List.mem_of_getElem? (i := 5) rfl)
theorem w6 {a0 : Array Value} {Z : State} (hw : ∀ d ∈ tables_1, d.before a0 Z = true) : ((Jvm.Cond.static ({ cls := "com/example/binary64/binary64/Utf8SequenceLengthPinLaw", name := "expected", desc := "(IIIII)I" } : Jvm.MethodName))).before a0 Z = true := hw _ (List.mem_of_getElem? (i := 6) rfl)
theorem w7 {a0 : Array Value} {Z : State} (hw : ∀ d ∈ tables_1, d.before a0 Z = true) : ((Jvm.Cond.initialized "com/example/binary64/binary64/Utf8SequenceLengthPinLaw")).before a0 Z = true := hw _ (List.mem_of_getElem? (i := 7) rfl)
theorem w8 {a0 : Array Value} {Z : State} (hw : ∀ d ∈ tables_1, d.before a0 Z = true) : ((Jvm.Cond.code ({ cls := "com/example/binary64/binary64/Utf8SequenceLengthPinLaw", name := "expected", desc := "(IIIII)I" } : Jvm.MethodName) method_4_code (8 : Nat) (Option.some Jvm.ClassFile.FieldType.int))).before a0 Z = true := hw _ (List.mem_of_getElem? (i := 8) rfl)
theorem w9 {a0 : Array Value} {Z : State} (hw : ∀ d ∈ tables_1, d.before a0 Z = true) : ((Jvm.Cond.methodLink "com/example/binary64/binary64/Utf8SequenceLengthPinLaw" (19 : Nat) ({ cls := "com/example/binary64/binary64/Utf8SequenceLengthPinLaw", name := "cont", desc := "(I)Z" } : Jvm.MethodName))).before a0 Z = true := hw _ (List.mem_of_getElem? (i := 9) rfl)
theorem w10 {a0 : Array Value} {Z : State} (hw : ∀ d ∈ tables_1, d.before a0 Z = true) : ((Jvm.Cond.static ({ cls := "com/example/binary64/binary64/Utf8SequenceLengthPinLaw", name := "cont", desc := "(I)Z" } : Jvm.MethodName))).before a0 Z = true := hw _ (List.mem_of_getElem? (i := 10) rfl)
theorem w11 {a0 : Array Value} {Z : State} (hw : ∀ d ∈ tables_1, d.before a0 Z = true) : ((Jvm.Cond.code ({ cls := "com/example/binary64/binary64/Utf8SequenceLengthPinLaw", name := "cont", desc := "(I)Z" } : Jvm.MethodName) method_3_code (1 : Nat) (Option.some Jvm.ClassFile.FieldType.boolean))).before a0 Z = true := hw _ (List.mem_of_getElem? (i := 11) rfl)
theorem w12 {a0 : Array Value} {Z : State} (hw : ∀ d ∈ tables_1, d.before a0 Z = true) : ((Jvm.Cond.constant "com/example/binary64/binary64/Utf8SequenceLengthPinLaw" (23 : Nat) (55296 : Int32))).before a0 Z = true := hw _ (List.mem_of_getElem? (i := 12) rfl)
theorem w13 {a0 : Array Value} {Z : State} (hw : ∀ d ∈ tables_1, d.before a0 Z = true) : ((Jvm.Cond.constant "com/example/binary64/binary64/Utf8SequenceLengthPinLaw" (24 : Nat) (57343 : Int32))).before a0 Z = true := hw _ (List.mem_of_getElem? (i := 13) rfl)
theorem w14 {a0 : Array Value} {Z : State} (hw : ∀ d ∈ tables_1, d.before a0 Z = true) : ((Jvm.Cond.constant "com/example/binary64/binary64/Utf8SequenceLengthPinLaw" (25 : Nat) (65536 : Int32))).before a0 Z = true := hw _ (List.mem_of_getElem? (i := 14) rfl)
theorem w15 {a0 : Array Value} {Z : State} (hw : ∀ d ∈ tables_1, d.before a0 Z = true) : ((Jvm.Cond.constant "com/example/binary64/binary64/Utf8SequenceLengthPinLaw" (26 : Nat) (1114111 : Int32))).before a0 Z = true := hw _ (List.mem_of_getElem? (i := 15) rfl)
theorem pn_com_example_binary64_binary64_Utf8 : plainName "com/example/binary64/binary64/Utf8" = true := by first | (simp [plainName, overriddenIn]; done) | decide +kernel
theorem pn_com_example_binary64_binary64_Utf8SequenceLengthPinLaw : plainName "com/example/binary64/binary64/Utf8SequenceLengthPinLaw" = true := by first | (simp [plainName, overriddenIn]; done) | decide +kernel
theorem pd_0 : parseMethodDescriptor "([BII)I" = some ⟨[(.array .byte), .int, .int], some .int⟩ := by decide +kernel
theorem pd_1 : parseMethodDescriptor "(I)Z" = some ⟨[.int], some .boolean⟩ := by decide +kernel
theorem pd_2 : parseMethodDescriptor "(IIIII)I" = some ⟨[.int, .int, .int, .int, .int], some .int⟩ := by decide +kernel
theorem dUtf8_sequenceLength_0 : decode prog_50_method_2_code 0 = .ok (.aload_n 0, 1) := by decide +kernel
theorem dUtf8_sequenceLength_1 : decode prog_50_method_2_code 1 = .ok (.iload_n 1, 1) := by decide +kernel
theorem dUtf8_sequenceLength_2 : decode prog_50_method_2_code 2 = .ok (.baload, 1) := by decide +kernel
theorem dUtf8_sequenceLength_3 : decode prog_50_method_2_code 3 = .ok (.sipush 255, 3) := by decide +kernel
theorem dUtf8_sequenceLength_6 : decode prog_50_method_2_code 6 = .ok (.iand, 1) := by decide +kernel
theorem dUtf8_sequenceLength_7 : decode prog_50_method_2_code 7 = .ok (.istore_n 3, 1) := by decide +kernel
theorem dUtf8_sequenceLength_8 : decode prog_50_method_2_code 8 = .ok (.iload_n 3, 1) := by decide +kernel
theorem dUtf8_sequenceLength_9 : decode prog_50_method_2_code 9 = .ok (.sipush 128, 3) := by decide +kernel
theorem dUtf8_sequenceLength_12 : decode prog_50_method_2_code 12 = .ok (.if_icmp .ge 9, 3) := by decide +kernel
theorem dUtf8_sequenceLength_15 : decode prog_50_method_2_code 15 = .ok (.iconst 1, 1) := by decide +kernel
theorem dUtf8_sequenceLength_16 : decode prog_50_method_2_code 16 = .ok (.istore 4, 2) := by decide +kernel
theorem dUtf8_sequenceLength_18 : decode prog_50_method_2_code 18 = .ok (.goto 66, 3) := by decide +kernel
theorem dUtf8_sequenceLength_21 : decode prog_50_method_2_code 21 = .ok (.iload_n 3, 1) := by decide +kernel
theorem dUtf8_sequenceLength_22 : decode prog_50_method_2_code 22 = .ok (.sipush 192, 3) := by decide +kernel
theorem dUtf8_sequenceLength_25 : decode prog_50_method_2_code 25 = .ok (.if_icmp .ge 10, 3) := by decide +kernel
theorem dUtf8_sequenceLength_28 : decode prog_50_method_2_code 28 = .ok (.bipush (-2), 2) := by decide +kernel
theorem dUtf8_sequenceLength_30 : decode prog_50_method_2_code 30 = .ok (.istore 4, 2) := by decide +kernel
theorem dUtf8_sequenceLength_32 : decode prog_50_method_2_code 32 = .ok (.goto 52, 3) := by decide +kernel
theorem dUtf8_sequenceLength_35 : decode prog_50_method_2_code 35 = .ok (.iload_n 3, 1) := by decide +kernel
theorem dUtf8_sequenceLength_36 : decode prog_50_method_2_code 36 = .ok (.sipush 194, 3) := by decide +kernel
theorem dUtf8_sequenceLength_39 : decode prog_50_method_2_code 39 = .ok (.if_icmp .lt 10, 3) := by decide +kernel
theorem dUtf8_sequenceLength_42 : decode prog_50_method_2_code 42 = .ok (.iload_n 3, 1) := by decide +kernel
theorem dUtf8_sequenceLength_43 : decode prog_50_method_2_code 43 = .ok (.sipush 244, 3) := by decide +kernel
theorem dUtf8_sequenceLength_46 : decode prog_50_method_2_code 46 = .ok (.if_icmp .le 9, 3) := by decide +kernel
theorem dUtf8_sequenceLength_49 : decode prog_50_method_2_code 49 = .ok (.iconst (-1), 1) := by decide +kernel
theorem dUtf8_sequenceLength_50 : decode prog_50_method_2_code 50 = .ok (.istore 4, 2) := by decide +kernel
theorem dUtf8_sequenceLength_52 : decode prog_50_method_2_code 52 = .ok (.goto 32, 3) := by decide +kernel
theorem dUtf8_sequenceLength_55 : decode prog_50_method_2_code 55 = .ok (.iload_n 3, 1) := by decide +kernel
theorem dUtf8_sequenceLength_56 : decode prog_50_method_2_code 56 = .ok (.sipush 224, 3) := by decide +kernel
theorem dUtf8_sequenceLength_59 : decode prog_50_method_2_code 59 = .ok (.if_icmp .ge 9, 3) := by decide +kernel
theorem dUtf8_sequenceLength_62 : decode prog_50_method_2_code 62 = .ok (.iconst 2, 1) := by decide +kernel
theorem dUtf8_sequenceLength_63 : decode prog_50_method_2_code 63 = .ok (.istore 4, 2) := by decide +kernel
theorem dUtf8_sequenceLength_65 : decode prog_50_method_2_code 65 = .ok (.goto 19, 3) := by decide +kernel
theorem dUtf8_sequenceLength_68 : decode prog_50_method_2_code 68 = .ok (.iload_n 3, 1) := by decide +kernel
theorem dUtf8_sequenceLength_69 : decode prog_50_method_2_code 69 = .ok (.sipush 240, 3) := by decide +kernel
theorem dUtf8_sequenceLength_72 : decode prog_50_method_2_code 72 = .ok (.if_icmp .ge 9, 3) := by decide +kernel
theorem dUtf8_sequenceLength_75 : decode prog_50_method_2_code 75 = .ok (.iconst 3, 1) := by decide +kernel
theorem dUtf8_sequenceLength_76 : decode prog_50_method_2_code 76 = .ok (.istore 4, 2) := by decide +kernel
theorem dUtf8_sequenceLength_78 : decode prog_50_method_2_code 78 = .ok (.goto 6, 3) := by decide +kernel
theorem dUtf8_sequenceLength_81 : decode prog_50_method_2_code 81 = .ok (.iconst 4, 1) := by decide +kernel
theorem dUtf8_sequenceLength_82 : decode prog_50_method_2_code 82 = .ok (.istore 4, 2) := by decide +kernel
theorem dUtf8_sequenceLength_84 : decode prog_50_method_2_code 84 = .ok (.iload 4, 2) := by decide +kernel
theorem dUtf8_sequenceLength_86 : decode prog_50_method_2_code 86 = .ok (.iconst 2, 1) := by decide +kernel
theorem dUtf8_sequenceLength_87 : decode prog_50_method_2_code 87 = .ok (.if_icmp .ge 6, 3) := by decide +kernel
theorem dUtf8_sequenceLength_90 : decode prog_50_method_2_code 90 = .ok (.iload 4, 2) := by decide +kernel
theorem dUtf8_sequenceLength_92 : decode prog_50_method_2_code 92 = .ok (.ireturn, 1) := by decide +kernel
theorem dUtf8_sequenceLength_93 : decode prog_50_method_2_code 93 = .ok (.iconst 1, 1) := by decide +kernel
theorem dUtf8_sequenceLength_94 : decode prog_50_method_2_code 94 = .ok (.istore 5, 2) := by decide +kernel
theorem dUtf8_sequenceLength_96 : decode prog_50_method_2_code 96 = .ok (.iload 5, 2) := by decide +kernel
theorem dUtf8_sequenceLength_98 : decode prog_50_method_2_code 98 = .ok (.iload 4, 2) := by decide +kernel
theorem dUtf8_sequenceLength_100 : decode prog_50_method_2_code 100 = .ok (.if_icmp .ge 36, 3) := by decide +kernel
theorem dUtf8_sequenceLength_103 : decode prog_50_method_2_code 103 = .ok (.iload_n 1, 1) := by decide +kernel
theorem dUtf8_sequenceLength_104 : decode prog_50_method_2_code 104 = .ok (.iload 5, 2) := by decide +kernel
theorem dUtf8_sequenceLength_106 : decode prog_50_method_2_code 106 = .ok (.iadd, 1) := by decide +kernel
theorem dUtf8_sequenceLength_107 : decode prog_50_method_2_code 107 = .ok (.iload_n 2, 1) := by decide +kernel
theorem dUtf8_sequenceLength_108 : decode prog_50_method_2_code 108 = .ok (.if_icmp .eq 19, 3) := by decide +kernel
theorem dUtf8_sequenceLength_111 : decode prog_50_method_2_code 111 = .ok (.aload_n 0, 1) := by decide +kernel
theorem dUtf8_sequenceLength_112 : decode prog_50_method_2_code 112 = .ok (.iload_n 1, 1) := by decide +kernel
theorem dUtf8_sequenceLength_113 : decode prog_50_method_2_code 113 = .ok (.iload 5, 2) := by decide +kernel
theorem dUtf8_sequenceLength_115 : decode prog_50_method_2_code 115 = .ok (.iadd, 1) := by decide +kernel
theorem dUtf8_sequenceLength_116 : decode prog_50_method_2_code 116 = .ok (.baload, 1) := by decide +kernel
theorem dUtf8_sequenceLength_117 : decode prog_50_method_2_code 117 = .ok (.sipush 192, 3) := by decide +kernel
theorem dUtf8_sequenceLength_120 : decode prog_50_method_2_code 120 = .ok (.iand, 1) := by decide +kernel
theorem dUtf8_sequenceLength_121 : decode prog_50_method_2_code 121 = .ok (.sipush 128, 3) := by decide +kernel
theorem dUtf8_sequenceLength_124 : decode prog_50_method_2_code 124 = .ok (.if_icmp .eq 6, 3) := by decide +kernel
theorem dUtf8_sequenceLength_127 : decode prog_50_method_2_code 127 = .ok (.bipush (-3), 2) := by decide +kernel
theorem dUtf8_sequenceLength_129 : decode prog_50_method_2_code 129 = .ok (.ireturn, 1) := by decide +kernel
theorem dUtf8_sequenceLength_130 : decode prog_50_method_2_code 130 = .ok (.iinc 5 1, 3) := by decide +kernel
theorem dUtf8_sequenceLength_133 : decode prog_50_method_2_code 133 = .ok (.goto (-37), 3) := by decide +kernel
theorem dUtf8_sequenceLength_136 : decode prog_50_method_2_code 136 = .ok (.aload_n 0, 1) := by decide +kernel
theorem dUtf8_sequenceLength_137 : decode prog_50_method_2_code 137 = .ok (.iload_n 1, 1) := by decide +kernel
theorem dUtf8_sequenceLength_138 : decode prog_50_method_2_code 138 = .ok (.iconst 1, 1) := by decide +kernel
theorem dUtf8_sequenceLength_139 : decode prog_50_method_2_code 139 = .ok (.iadd, 1) := by decide +kernel
theorem dUtf8_sequenceLength_140 : decode prog_50_method_2_code 140 = .ok (.baload, 1) := by decide +kernel
theorem dUtf8_sequenceLength_141 : decode prog_50_method_2_code 141 = .ok (.sipush 255, 3) := by decide +kernel
theorem dUtf8_sequenceLength_144 : decode prog_50_method_2_code 144 = .ok (.iand, 1) := by decide +kernel
theorem dUtf8_sequenceLength_145 : decode prog_50_method_2_code 145 = .ok (.istore 5, 2) := by decide +kernel
theorem dUtf8_sequenceLength_147 : decode prog_50_method_2_code 147 = .ok (.iload_n 3, 1) := by decide +kernel
theorem dUtf8_sequenceLength_148 : decode prog_50_method_2_code 148 = .ok (.sipush 224, 3) := by decide +kernel
theorem dUtf8_sequenceLength_151 : decode prog_50_method_2_code 151 = .ok (.if_icmp .ne 11, 3) := by decide +kernel
theorem dUtf8_sequenceLength_154 : decode prog_50_method_2_code 154 = .ok (.iload 5, 2) := by decide +kernel
theorem dUtf8_sequenceLength_156 : decode prog_50_method_2_code 156 = .ok (.sipush 160, 3) := by decide +kernel
theorem dUtf8_sequenceLength_159 : decode prog_50_method_2_code 159 = .ok (.if_icmp .lt 18, 3) := by decide +kernel
theorem dUtf8_sequenceLength_162 : decode prog_50_method_2_code 162 = .ok (.iload_n 3, 1) := by decide +kernel
theorem dUtf8_sequenceLength_163 : decode prog_50_method_2_code 163 = .ok (.sipush 240, 3) := by decide +kernel
theorem dUtf8_sequenceLength_166 : decode prog_50_method_2_code 166 = .ok (.if_icmp .ne 18, 3) := by decide +kernel
theorem dUtf8_sequenceLength_169 : decode prog_50_method_2_code 169 = .ok (.iload 5, 2) := by decide +kernel
theorem dUtf8_sequenceLength_171 : decode prog_50_method_2_code 171 = .ok (.sipush 144, 3) := by decide +kernel
theorem dUtf8_sequenceLength_174 : decode prog_50_method_2_code 174 = .ok (.if_icmp .ge 10, 3) := by decide +kernel
theorem dUtf8_sequenceLength_177 : decode prog_50_method_2_code 177 = .ok (.bipush (-4), 2) := by decide +kernel
theorem dUtf8_sequenceLength_179 : decode prog_50_method_2_code 179 = .ok (.istore 6, 2) := by decide +kernel
theorem dUtf8_sequenceLength_181 : decode prog_50_method_2_code 181 = .ok (.goto 51, 3) := by decide +kernel
theorem dUtf8_sequenceLength_184 : decode prog_50_method_2_code 184 = .ok (.iload_n 3, 1) := by decide +kernel
theorem dUtf8_sequenceLength_185 : decode prog_50_method_2_code 185 = .ok (.sipush 237, 3) := by decide +kernel
theorem dUtf8_sequenceLength_188 : decode prog_50_method_2_code 188 = .ok (.if_icmp .ne 18, 3) := by decide +kernel
theorem dUtf8_sequenceLength_191 : decode prog_50_method_2_code 191 = .ok (.iload 5, 2) := by decide +kernel
theorem dUtf8_sequenceLength_193 : decode prog_50_method_2_code 193 = .ok (.sipush 159, 3) := by decide +kernel
theorem dUtf8_sequenceLength_196 : decode prog_50_method_2_code 196 = .ok (.if_icmp .le 10, 3) := by decide +kernel
theorem dUtf8_sequenceLength_199 : decode prog_50_method_2_code 199 = .ok (.bipush (-5), 2) := by decide +kernel
theorem dUtf8_sequenceLength_201 : decode prog_50_method_2_code 201 = .ok (.istore 6, 2) := by decide +kernel
theorem dUtf8_sequenceLength_203 : decode prog_50_method_2_code 203 = .ok (.goto 29, 3) := by decide +kernel
theorem dUtf8_sequenceLength_206 : decode prog_50_method_2_code 206 = .ok (.iload_n 3, 1) := by decide +kernel
theorem dUtf8_sequenceLength_207 : decode prog_50_method_2_code 207 = .ok (.sipush 244, 3) := by decide +kernel
theorem dUtf8_sequenceLength_210 : decode prog_50_method_2_code 210 = .ok (.if_icmp .ne 18, 3) := by decide +kernel
theorem dUtf8_sequenceLength_213 : decode prog_50_method_2_code 213 = .ok (.iload 5, 2) := by decide +kernel
theorem dUtf8_sequenceLength_215 : decode prog_50_method_2_code 215 = .ok (.sipush 143, 3) := by decide +kernel
theorem dUtf8_sequenceLength_218 : decode prog_50_method_2_code 218 = .ok (.if_icmp .le 10, 3) := by decide +kernel
theorem dUtf8_sequenceLength_221 : decode prog_50_method_2_code 221 = .ok (.bipush (-6), 2) := by decide +kernel
theorem dUtf8_sequenceLength_223 : decode prog_50_method_2_code 223 = .ok (.istore 6, 2) := by decide +kernel
theorem dUtf8_sequenceLength_225 : decode prog_50_method_2_code 225 = .ok (.goto 7, 3) := by decide +kernel
theorem dUtf8_sequenceLength_228 : decode prog_50_method_2_code 228 = .ok (.iload 4, 2) := by decide +kernel
theorem dUtf8_sequenceLength_230 : decode prog_50_method_2_code 230 = .ok (.istore 6, 2) := by decide +kernel
theorem dUtf8_sequenceLength_232 : decode prog_50_method_2_code 232 = .ok (.iload 6, 2) := by decide +kernel
theorem dUtf8_sequenceLength_234 : decode prog_50_method_2_code 234 = .ok (.ireturn, 1) := by decide +kernel
theorem dUtf8SequenceLengthPinLaw_expected_0 : decode method_4_code 0 = .ok (.iload_n 0, 1) := by decide +kernel
theorem dUtf8SequenceLengthPinLaw_expected_1 : decode method_4_code 1 = .ok (.bipush 7, 2) := by decide +kernel
theorem dUtf8SequenceLengthPinLaw_expected_3 : decode method_4_code 3 = .ok (.iushr, 1) := by decide +kernel
theorem dUtf8SequenceLengthPinLaw_expected_4 : decode method_4_code 4 = .ok (.ifCond .ne 5, 3) := by decide +kernel
theorem dUtf8SequenceLengthPinLaw_expected_7 : decode method_4_code 7 = .ok (.iconst 1, 1) := by decide +kernel
theorem dUtf8SequenceLengthPinLaw_expected_8 : decode method_4_code 8 = .ok (.ireturn, 1) := by decide +kernel
theorem dUtf8SequenceLengthPinLaw_expected_9 : decode method_4_code 9 = .ok (.iload_n 0, 1) := by decide +kernel
theorem dUtf8SequenceLengthPinLaw_expected_10 : decode method_4_code 10 = .ok (.bipush 6, 2) := by decide +kernel
theorem dUtf8SequenceLengthPinLaw_expected_12 : decode method_4_code 12 = .ok (.iushr, 1) := by decide +kernel
theorem dUtf8SequenceLengthPinLaw_expected_13 : decode method_4_code 13 = .ok (.iconst 2, 1) := by decide +kernel
theorem dUtf8SequenceLengthPinLaw_expected_14 : decode method_4_code 14 = .ok (.if_icmp .ne 6, 3) := by decide +kernel
theorem dUtf8SequenceLengthPinLaw_expected_17 : decode method_4_code 17 = .ok (.bipush (-2), 2) := by decide +kernel
theorem dUtf8SequenceLengthPinLaw_expected_19 : decode method_4_code 19 = .ok (.ireturn, 1) := by decide +kernel
theorem dUtf8SequenceLengthPinLaw_expected_20 : decode method_4_code 20 = .ok (.iload_n 0, 1) := by decide +kernel
theorem dUtf8SequenceLengthPinLaw_expected_21 : decode method_4_code 21 = .ok (.sipush 192, 3) := by decide +kernel
theorem dUtf8SequenceLengthPinLaw_expected_24 : decode method_4_code 24 = .ok (.if_icmp .eq 17, 3) := by decide +kernel
theorem dUtf8SequenceLengthPinLaw_expected_27 : decode method_4_code 27 = .ok (.iload_n 0, 1) := by decide +kernel
theorem dUtf8SequenceLengthPinLaw_expected_28 : decode method_4_code 28 = .ok (.sipush 193, 3) := by decide +kernel
theorem dUtf8SequenceLengthPinLaw_expected_31 : decode method_4_code 31 = .ok (.if_icmp .eq 10, 3) := by decide +kernel
theorem dUtf8SequenceLengthPinLaw_expected_34 : decode method_4_code 34 = .ok (.iload_n 0, 1) := by decide +kernel
theorem dUtf8SequenceLengthPinLaw_expected_35 : decode method_4_code 35 = .ok (.sipush 245, 3) := by decide +kernel
theorem dUtf8SequenceLengthPinLaw_expected_38 : decode method_4_code 38 = .ok (.if_icmp .lt 5, 3) := by decide +kernel
theorem dUtf8SequenceLengthPinLaw_expected_41 : decode method_4_code 41 = .ok (.iconst (-1), 1) := by decide +kernel
theorem dUtf8SequenceLengthPinLaw_expected_42 : decode method_4_code 42 = .ok (.ireturn, 1) := by decide +kernel
theorem dUtf8SequenceLengthPinLaw_expected_43 : decode method_4_code 43 = .ok (.iload_n 0, 1) := by decide +kernel
theorem dUtf8SequenceLengthPinLaw_expected_44 : decode method_4_code 44 = .ok (.iconst 5, 1) := by decide +kernel
theorem dUtf8SequenceLengthPinLaw_expected_45 : decode method_4_code 45 = .ok (.iushr, 1) := by decide +kernel
theorem dUtf8SequenceLengthPinLaw_expected_46 : decode method_4_code 46 = .ok (.bipush 6, 2) := by decide +kernel
theorem dUtf8SequenceLengthPinLaw_expected_48 : decode method_4_code 48 = .ok (.if_icmp .ne 9, 3) := by decide +kernel
theorem dUtf8SequenceLengthPinLaw_expected_51 : decode method_4_code 51 = .ok (.iconst 2, 1) := by decide +kernel
theorem dUtf8SequenceLengthPinLaw_expected_52 : decode method_4_code 52 = .ok (.istore 5, 2) := by decide +kernel
theorem dUtf8SequenceLengthPinLaw_expected_54 : decode method_4_code 54 = .ok (.goto 20, 3) := by decide +kernel
theorem dUtf8SequenceLengthPinLaw_expected_57 : decode method_4_code 57 = .ok (.iload_n 0, 1) := by decide +kernel
theorem dUtf8SequenceLengthPinLaw_expected_58 : decode method_4_code 58 = .ok (.iconst 4, 1) := by decide +kernel
theorem dUtf8SequenceLengthPinLaw_expected_59 : decode method_4_code 59 = .ok (.iushr, 1) := by decide +kernel
theorem dUtf8SequenceLengthPinLaw_expected_60 : decode method_4_code 60 = .ok (.bipush 14, 2) := by decide +kernel
theorem dUtf8SequenceLengthPinLaw_expected_62 : decode method_4_code 62 = .ok (.if_icmp .ne 9, 3) := by decide +kernel
theorem dUtf8SequenceLengthPinLaw_expected_65 : decode method_4_code 65 = .ok (.iconst 3, 1) := by decide +kernel
theorem dUtf8SequenceLengthPinLaw_expected_66 : decode method_4_code 66 = .ok (.istore 5, 2) := by decide +kernel
theorem dUtf8SequenceLengthPinLaw_expected_68 : decode method_4_code 68 = .ok (.goto 6, 3) := by decide +kernel
theorem dUtf8SequenceLengthPinLaw_expected_71 : decode method_4_code 71 = .ok (.iconst 4, 1) := by decide +kernel
theorem dUtf8SequenceLengthPinLaw_expected_72 : decode method_4_code 72 = .ok (.istore 5, 2) := by decide +kernel
theorem dUtf8SequenceLengthPinLaw_expected_74 : decode method_4_code 74 = .ok (.iload 4, 2) := by decide +kernel
theorem dUtf8SequenceLengthPinLaw_expected_76 : decode method_4_code 76 = .ok (.iconst 1, 1) := by decide +kernel
theorem dUtf8SequenceLengthPinLaw_expected_77 : decode method_4_code 77 = .ok (.if_icmp .le 52, 3) := by decide +kernel
theorem dUtf8SequenceLengthPinLaw_expected_80 : decode method_4_code 80 = .ok (.iload_n 1, 1) := by decide +kernel
theorem dUtf8SequenceLengthPinLaw_expected_81 : decode method_4_code 81 = .ok (.invokestatic 19, 3) := by decide +kernel
theorem dUtf8SequenceLengthPinLaw_expected_84 : decode method_4_code 84 = .ok (.ifCond .eq 45, 3) := by decide +kernel
theorem dUtf8SequenceLengthPinLaw_expected_87 : decode method_4_code 87 = .ok (.iload 5, 2) := by decide +kernel
theorem dUtf8SequenceLengthPinLaw_expected_89 : decode method_4_code 89 = .ok (.iconst 3, 1) := by decide +kernel
theorem dUtf8SequenceLengthPinLaw_expected_90 : decode method_4_code 90 = .ok (.if_icmp .lt 16, 3) := by decide +kernel
theorem dUtf8SequenceLengthPinLaw_expected_93 : decode method_4_code 93 = .ok (.iload 4, 2) := by decide +kernel
theorem dUtf8SequenceLengthPinLaw_expected_95 : decode method_4_code 95 = .ok (.iconst 2, 1) := by decide +kernel
theorem dUtf8SequenceLengthPinLaw_expected_96 : decode method_4_code 96 = .ok (.if_icmp .le 33, 3) := by decide +kernel
theorem dUtf8SequenceLengthPinLaw_expected_99 : decode method_4_code 99 = .ok (.iload_n 2, 1) := by decide +kernel
theorem dUtf8SequenceLengthPinLaw_expected_100 : decode method_4_code 100 = .ok (.invokestatic 19, 3) := by decide +kernel
theorem dUtf8SequenceLengthPinLaw_expected_103 : decode method_4_code 103 = .ok (.ifCond .eq 26, 3) := by decide +kernel
theorem dUtf8SequenceLengthPinLaw_expected_106 : decode method_4_code 106 = .ok (.iload 5, 2) := by decide +kernel
theorem dUtf8SequenceLengthPinLaw_expected_108 : decode method_4_code 108 = .ok (.iconst 4, 1) := by decide +kernel
theorem dUtf8SequenceLengthPinLaw_expected_109 : decode method_4_code 109 = .ok (.if_icmp .lt 16, 3) := by decide +kernel
theorem dUtf8SequenceLengthPinLaw_expected_112 : decode method_4_code 112 = .ok (.iload 4, 2) := by decide +kernel
theorem dUtf8SequenceLengthPinLaw_expected_114 : decode method_4_code 114 = .ok (.iconst 3, 1) := by decide +kernel
theorem dUtf8SequenceLengthPinLaw_expected_115 : decode method_4_code 115 = .ok (.if_icmp .le 14, 3) := by decide +kernel
theorem dUtf8SequenceLengthPinLaw_expected_118 : decode method_4_code 118 = .ok (.iload_n 3, 1) := by decide +kernel
theorem dUtf8SequenceLengthPinLaw_expected_119 : decode method_4_code 119 = .ok (.invokestatic 19, 3) := by decide +kernel
theorem dUtf8SequenceLengthPinLaw_expected_122 : decode method_4_code 122 = .ok (.ifCond .eq 7, 3) := by decide +kernel
theorem dUtf8SequenceLengthPinLaw_expected_125 : decode method_4_code 125 = .ok (.iconst 1, 1) := by decide +kernel
theorem dUtf8SequenceLengthPinLaw_expected_126 : decode method_4_code 126 = .ok (.goto 4, 3) := by decide +kernel
theorem dUtf8SequenceLengthPinLaw_expected_129 : decode method_4_code 129 = .ok (.iconst 0, 1) := by decide +kernel
theorem dUtf8SequenceLengthPinLaw_expected_130 : decode method_4_code 130 = .ok (.istore 6, 2) := by decide +kernel
theorem dUtf8SequenceLengthPinLaw_expected_132 : decode method_4_code 132 = .ok (.iload 6, 2) := by decide +kernel
theorem dUtf8SequenceLengthPinLaw_expected_134 : decode method_4_code 134 = .ok (.ifCond .ne 6, 3) := by decide +kernel
theorem dUtf8SequenceLengthPinLaw_expected_137 : decode method_4_code 137 = .ok (.bipush (-3), 2) := by decide +kernel
theorem dUtf8SequenceLengthPinLaw_expected_139 : decode method_4_code 139 = .ok (.ireturn, 1) := by decide +kernel
theorem dUtf8SequenceLengthPinLaw_expected_140 : decode method_4_code 140 = .ok (.iload 5, 2) := by decide +kernel
theorem dUtf8SequenceLengthPinLaw_expected_142 : decode method_4_code 142 = .ok (.iconst 2, 1) := by decide +kernel
theorem dUtf8SequenceLengthPinLaw_expected_143 : decode method_4_code 143 = .ok (.if_icmp .ne 5, 3) := by decide +kernel
theorem dUtf8SequenceLengthPinLaw_expected_146 : decode method_4_code 146 = .ok (.iconst 2, 1) := by decide +kernel
theorem dUtf8SequenceLengthPinLaw_expected_147 : decode method_4_code 147 = .ok (.ireturn, 1) := by decide +kernel
theorem dUtf8SequenceLengthPinLaw_expected_148 : decode method_4_code 148 = .ok (.iload 5, 2) := by decide +kernel
theorem dUtf8SequenceLengthPinLaw_expected_150 : decode method_4_code 150 = .ok (.iconst 3, 1) := by decide +kernel
theorem dUtf8SequenceLengthPinLaw_expected_151 : decode method_4_code 151 = .ok (.if_icmp .ne 55, 3) := by decide +kernel
theorem dUtf8SequenceLengthPinLaw_expected_154 : decode method_4_code 154 = .ok (.iload_n 0, 1) := by decide +kernel
theorem dUtf8SequenceLengthPinLaw_expected_155 : decode method_4_code 155 = .ok (.bipush 15, 2) := by decide +kernel
theorem dUtf8SequenceLengthPinLaw_expected_157 : decode method_4_code 157 = .ok (.iand, 1) := by decide +kernel
theorem dUtf8SequenceLengthPinLaw_expected_158 : decode method_4_code 158 = .ok (.bipush 12, 2) := by decide +kernel
theorem dUtf8SequenceLengthPinLaw_expected_160 : decode method_4_code 160 = .ok (.ishl, 1) := by decide +kernel
theorem dUtf8SequenceLengthPinLaw_expected_161 : decode method_4_code 161 = .ok (.iload_n 1, 1) := by decide +kernel
theorem dUtf8SequenceLengthPinLaw_expected_162 : decode method_4_code 162 = .ok (.bipush 63, 2) := by decide +kernel
theorem dUtf8SequenceLengthPinLaw_expected_164 : decode method_4_code 164 = .ok (.iand, 1) := by decide +kernel
theorem dUtf8SequenceLengthPinLaw_expected_165 : decode method_4_code 165 = .ok (.bipush 6, 2) := by decide +kernel
theorem dUtf8SequenceLengthPinLaw_expected_167 : decode method_4_code 167 = .ok (.ishl, 1) := by decide +kernel
theorem dUtf8SequenceLengthPinLaw_expected_168 : decode method_4_code 168 = .ok (.ior, 1) := by decide +kernel
theorem dUtf8SequenceLengthPinLaw_expected_169 : decode method_4_code 169 = .ok (.iload_n 2, 1) := by decide +kernel
theorem dUtf8SequenceLengthPinLaw_expected_170 : decode method_4_code 170 = .ok (.bipush 63, 2) := by decide +kernel
theorem dUtf8SequenceLengthPinLaw_expected_172 : decode method_4_code 172 = .ok (.iand, 1) := by decide +kernel
theorem dUtf8SequenceLengthPinLaw_expected_173 : decode method_4_code 173 = .ok (.ior, 1) := by decide +kernel
theorem dUtf8SequenceLengthPinLaw_expected_174 : decode method_4_code 174 = .ok (.istore 7, 2) := by decide +kernel
theorem dUtf8SequenceLengthPinLaw_expected_176 : decode method_4_code 176 = .ok (.iload 7, 2) := by decide +kernel
theorem dUtf8SequenceLengthPinLaw_expected_178 : decode method_4_code 178 = .ok (.sipush 2048, 3) := by decide +kernel
theorem dUtf8SequenceLengthPinLaw_expected_181 : decode method_4_code 181 = .ok (.if_icmp .ge 6, 3) := by decide +kernel
theorem dUtf8SequenceLengthPinLaw_expected_184 : decode method_4_code 184 = .ok (.bipush (-4), 2) := by decide +kernel
theorem dUtf8SequenceLengthPinLaw_expected_186 : decode method_4_code 186 = .ok (.ireturn, 1) := by decide +kernel
theorem dUtf8SequenceLengthPinLaw_expected_187 : decode method_4_code 187 = .ok (.iload 7, 2) := by decide +kernel
theorem dUtf8SequenceLengthPinLaw_expected_189 : decode method_4_code 189 = .ok (.ldc 23, 2) := by decide +kernel
theorem dUtf8SequenceLengthPinLaw_expected_191 : decode method_4_code 191 = .ok (.if_icmp .lt 13, 3) := by decide +kernel
theorem dUtf8SequenceLengthPinLaw_expected_194 : decode method_4_code 194 = .ok (.iload 7, 2) := by decide +kernel
theorem dUtf8SequenceLengthPinLaw_expected_196 : decode method_4_code 196 = .ok (.ldc 24, 2) := by decide +kernel
theorem dUtf8SequenceLengthPinLaw_expected_198 : decode method_4_code 198 = .ok (.if_icmp .gt 6, 3) := by decide +kernel
theorem dUtf8SequenceLengthPinLaw_expected_201 : decode method_4_code 201 = .ok (.bipush (-5), 2) := by decide +kernel
theorem dUtf8SequenceLengthPinLaw_expected_203 : decode method_4_code 203 = .ok (.ireturn, 1) := by decide +kernel
theorem dUtf8SequenceLengthPinLaw_expected_204 : decode method_4_code 204 = .ok (.iconst 3, 1) := by decide +kernel
theorem dUtf8SequenceLengthPinLaw_expected_205 : decode method_4_code 205 = .ok (.ireturn, 1) := by decide +kernel
theorem dUtf8SequenceLengthPinLaw_expected_206 : decode method_4_code 206 = .ok (.iload_n 0, 1) := by decide +kernel
theorem dUtf8SequenceLengthPinLaw_expected_207 : decode method_4_code 207 = .ok (.bipush 7, 2) := by decide +kernel
theorem dUtf8SequenceLengthPinLaw_expected_209 : decode method_4_code 209 = .ok (.iand, 1) := by decide +kernel
theorem dUtf8SequenceLengthPinLaw_expected_210 : decode method_4_code 210 = .ok (.bipush 18, 2) := by decide +kernel
theorem dUtf8SequenceLengthPinLaw_expected_212 : decode method_4_code 212 = .ok (.ishl, 1) := by decide +kernel
theorem dUtf8SequenceLengthPinLaw_expected_213 : decode method_4_code 213 = .ok (.iload_n 1, 1) := by decide +kernel
theorem dUtf8SequenceLengthPinLaw_expected_214 : decode method_4_code 214 = .ok (.bipush 63, 2) := by decide +kernel
theorem dUtf8SequenceLengthPinLaw_expected_216 : decode method_4_code 216 = .ok (.iand, 1) := by decide +kernel
theorem dUtf8SequenceLengthPinLaw_expected_217 : decode method_4_code 217 = .ok (.bipush 12, 2) := by decide +kernel
theorem dUtf8SequenceLengthPinLaw_expected_219 : decode method_4_code 219 = .ok (.ishl, 1) := by decide +kernel
theorem dUtf8SequenceLengthPinLaw_expected_220 : decode method_4_code 220 = .ok (.ior, 1) := by decide +kernel
theorem dUtf8SequenceLengthPinLaw_expected_221 : decode method_4_code 221 = .ok (.iload_n 2, 1) := by decide +kernel
theorem dUtf8SequenceLengthPinLaw_expected_222 : decode method_4_code 222 = .ok (.bipush 63, 2) := by decide +kernel
theorem dUtf8SequenceLengthPinLaw_expected_224 : decode method_4_code 224 = .ok (.iand, 1) := by decide +kernel
theorem dUtf8SequenceLengthPinLaw_expected_225 : decode method_4_code 225 = .ok (.bipush 6, 2) := by decide +kernel
theorem dUtf8SequenceLengthPinLaw_expected_227 : decode method_4_code 227 = .ok (.ishl, 1) := by decide +kernel
theorem dUtf8SequenceLengthPinLaw_expected_228 : decode method_4_code 228 = .ok (.ior, 1) := by decide +kernel
theorem dUtf8SequenceLengthPinLaw_expected_229 : decode method_4_code 229 = .ok (.iload_n 3, 1) := by decide +kernel
theorem dUtf8SequenceLengthPinLaw_expected_230 : decode method_4_code 230 = .ok (.bipush 63, 2) := by decide +kernel
theorem dUtf8SequenceLengthPinLaw_expected_232 : decode method_4_code 232 = .ok (.iand, 1) := by decide +kernel
theorem dUtf8SequenceLengthPinLaw_expected_233 : decode method_4_code 233 = .ok (.ior, 1) := by decide +kernel
theorem dUtf8SequenceLengthPinLaw_expected_234 : decode method_4_code 234 = .ok (.istore 7, 2) := by decide +kernel
theorem dUtf8SequenceLengthPinLaw_expected_236 : decode method_4_code 236 = .ok (.iload 7, 2) := by decide +kernel
theorem dUtf8SequenceLengthPinLaw_expected_238 : decode method_4_code 238 = .ok (.ldc 25, 2) := by decide +kernel
theorem dUtf8SequenceLengthPinLaw_expected_240 : decode method_4_code 240 = .ok (.if_icmp .ge 6, 3) := by decide +kernel
theorem dUtf8SequenceLengthPinLaw_expected_243 : decode method_4_code 243 = .ok (.bipush (-4), 2) := by decide +kernel
theorem dUtf8SequenceLengthPinLaw_expected_245 : decode method_4_code 245 = .ok (.ireturn, 1) := by decide +kernel
theorem dUtf8SequenceLengthPinLaw_expected_246 : decode method_4_code 246 = .ok (.iload 7, 2) := by decide +kernel
theorem dUtf8SequenceLengthPinLaw_expected_248 : decode method_4_code 248 = .ok (.ldc 26, 2) := by decide +kernel
theorem dUtf8SequenceLengthPinLaw_expected_250 : decode method_4_code 250 = .ok (.if_icmp .le 6, 3) := by decide +kernel
theorem dUtf8SequenceLengthPinLaw_expected_253 : decode method_4_code 253 = .ok (.bipush (-6), 2) := by decide +kernel
theorem dUtf8SequenceLengthPinLaw_expected_255 : decode method_4_code 255 = .ok (.ireturn, 1) := by decide +kernel
theorem dUtf8SequenceLengthPinLaw_expected_256 : decode method_4_code 256 = .ok (.iconst 4, 1) := by decide +kernel
theorem dUtf8SequenceLengthPinLaw_expected_257 : decode method_4_code 257 = .ok (.ireturn, 1) := by decide +kernel
theorem dUtf8SequenceLengthPinLaw_cont_0 : decode method_3_code 0 = .ok (.iload_n 0, 1) := by decide +kernel
theorem dUtf8SequenceLengthPinLaw_cont_1 : decode method_3_code 1 = .ok (.bipush 6, 2) := by decide +kernel
theorem dUtf8SequenceLengthPinLaw_cont_3 : decode method_3_code 3 = .ok (.iushr, 1) := by decide +kernel
theorem dUtf8SequenceLengthPinLaw_cont_4 : decode method_3_code 4 = .ok (.iconst 2, 1) := by decide +kernel
theorem dUtf8SequenceLengthPinLaw_cont_5 : decode method_3_code 5 = .ok (.if_icmp .ne 7, 3) := by decide +kernel
theorem dUtf8SequenceLengthPinLaw_cont_8 : decode method_3_code 8 = .ok (.iconst 1, 1) := by decide +kernel
theorem dUtf8SequenceLengthPinLaw_cont_9 : decode method_3_code 9 = .ok (.goto 4, 3) := by decide +kernel
theorem dUtf8SequenceLengthPinLaw_cont_12 : decode method_3_code 12 = .ok (.iconst 0, 1) := by decide +kernel
theorem dUtf8SequenceLengthPinLaw_cont_13 : decode method_3_code 13 = .ok (.ireturn, 1) := by decide +kernel
/-! com/example/binary64/binary64/Utf8.sequenceLength:([BII)I -/
def f_Utf8_sequenceLength_206 (v3 : Int32) (v4 : Int32) (v5 : Int32) (bs_a1 : List Int32) : Option (Int32) :=
  if v3 = (244 : Int32) then
    if (143 : Int32) < v5 then
      some (-6 : Int32)
    else
      some v4
  else
    some v4
def f_Utf8_sequenceLength_162 (v3 : Int32) (v4 : Int32) (v5 : Int32) (bs_a1 : List Int32) : Option (Int32) :=
  if v3 = (240 : Int32) then
    if v5 < (144 : Int32) then
      some (-4 : Int32)
    else
      if v3 = (237 : Int32) then
        if (159 : Int32) < v5 then
          some (-5 : Int32)
        else
          (f_Utf8_sequenceLength_206 v3 v4 v5 bs_a1)
      else
        (f_Utf8_sequenceLength_206 v3 v4 v5 bs_a1)
  else
    if v3 = (237 : Int32) then
      if (159 : Int32) < v5 then
        some (-5 : Int32)
      else
        (f_Utf8_sequenceLength_206 v3 v4 v5 bs_a1)
    else
      (f_Utf8_sequenceLength_206 v3 v4 v5 bs_a1)
def f_Utf8_sequenceLength_96 : Nat → Int32 → Int32 → Int32 → Int32 → Int32 → (List Int32) → Option (Int32)
  | 0, _, _, _, _, _, _ => none
  | n + 1, v1, v2, v3, v4, v5, bs_a1 =>
    if v5 < v4 then
      if (v1 + v5) = v2 then
        some (-3 : Int32)
      else
        own_lt (v1 + v5) fun x38 =>
        own_ck (own_inb bs_a1 x38) <|
        if ((own_rd bs_a1 x38) &&& (192 : Int32)) = (128 : Int32) then
          own_lt (v5 + (1 : Int32)) fun x39 =>
          (f_Utf8_sequenceLength_96 n) v1 v2 v3 v4 x39 bs_a1
        else
          some (-3 : Int32)
    else
      own_lt (v1 + (1 : Int32)) fun x40 =>
      own_ck (own_inb bs_a1 x40) <|
      own_lt ((own_rd bs_a1 x40) &&& (255 : Int32)) fun x41 =>
      if v3 = (224 : Int32) then
        if x41 < (160 : Int32) then
          some (-4 : Int32)
        else
          (f_Utf8_sequenceLength_162 v3 v4 x41 bs_a1)
      else
        (f_Utf8_sequenceLength_162 v3 v4 x41 bs_a1)
def f_Utf8_sequenceLength (v1 : Int32) (v2 : Int32) (bs_a1 : List Int32) : Option (Int32) :=
  own_ck (own_inb bs_a1 v1) <|
  own_lt ((own_rd bs_a1 v1) &&& (255 : Int32)) fun x42 =>
  if x42 < (128 : Int32) then
    some (1 : Int32)
  else
    if x42 < (192 : Int32) then
      some (-2 : Int32)
    else
      if x42 < (194 : Int32) then
        some (-1 : Int32)
      else
        if (244 : Int32) < x42 then
          some (-1 : Int32)
        else
          if x42 < (224 : Int32) then
            (f_Utf8_sequenceLength_96 100 v1 v2 x42 (2 : Int32) (1 : Int32) bs_a1)
          else
            if x42 < (240 : Int32) then
              (f_Utf8_sequenceLength_96 100 v1 v2 x42 (3 : Int32) (1 : Int32) bs_a1)
            else
              (f_Utf8_sequenceLength_96 100 v1 v2 x42 (4 : Int32) (1 : Int32) bs_a1)
def Q_Utf8_sequenceLength (Z : State) (hE : Heap) (n0 : Nat) (a1 : Addr) (r : Int32) (v : Option Value) (h : Heap) (L : List Loc) : Prop := v = some (.int r) ∧ Fr n0 L ∧ h = hE
def Cx_Utf8_sequenceLength (p : Program) (s : State) (m : MethodId) (meth : Method) (c : Code) (Z : State) (a0 : Array Value) : Prop := p.tables.exec = Jvm.exec ∧ Z.Warmed39 s.vm ∧ (∀ d ∈ tables_1, d.before a0 Z = true) ∧ c.code = prog_50_method_2_code ∧ c.maxLocals = 7 ∧ s.vm.findClass "com/example/binary64/binary64/Utf8" = some m.cls ∧ meth.sig.returnType = some .int ∧ meth.locks = false ∧ meth.name = "sequenceLength"
set_option maxRecDepth 65536 in
set_option maxHeartbeats 4000000 in
theorem b_Utf8_sequenceLength_206 {p : Program} {l : Launch} {e : Env} {s : State} {m : MethodId} {args : Array Value} {below : List Frame} {meth : Method} {c : Code} {Z : State} {a0 : Array Value} {n0 : Nat} {hE : Heap} (cx : Cx_Utf8_sequenceLength p s m meth c Z a0) (a1 : Addr) :
    ∀ {T : State} {locs : List Loc} (X : Stand p l e ({ frames := 0, cells := 0, slots := 0, locals := 0 } : Room) s m args below meth c T locs 0 0) (eT : T.heap = hE) (N : Fr n0 locs) (z : n0 ≤ hE.size) (v3 : Int32) (v4 : Int32) (v5 : Int32) (bs_a1 : List Int32) (d0 : Slot) (d1 : Slot) (d2 : Slot) (d6 : Slot) (o_d0 : One d0) (o_d1 : One d1) (o_d2 : One d2) (o_d6 : One d6) (A_a1 : own_Ar Z hE a1 .byte (bs_a1.map Value.int)) (g_a1 : n0 ≤ a1) (r : Int32), f_Utf8_sequenceLength_206 v3 v4 v5 bs_a1 = some r → own_Goes p e below s (Q_Utf8_sequenceLength Z hE n0 a1 r) 0 0 (T.setTop (mkF m 206 #[d0, d1, d2, .val (.int v3), .val (.int v4), .val (.int v5), d6] [])) := by
  have cx' := cx
  obtain ⟨hx, hZ, hw, hby, hml, hown, hret, hlk, hnm⟩ := cx'
  intro T locs X eT N z v3 v4 v5 bs_a1 d0 d1 d2 d6 o_d0 o_d1 o_d2 o_d6 A_a1 g_a1 r hF
  unfold f_Utf8_sequenceLength_206 at hF
  refine own_Goes.via (B := T.setTop (mkF m 210 #[d0, d1, d2, .val (.int v3), .val (.int v4), .val (.int v5), d6] [(.int (244 : Int32)), (.int v3)])) (fun t k => ?_) ?_
  · show Steps p.tables e below (T.setTop (mkF m 206 #[d0, d1, d2, .val (.int v3), .val (.int v4), .val (.int v5), d6] [])) t
    refine XS.iloadN X.here hx rfl (hb hby dUtf8_sequenceLength_206) rfl ?_
    show Steps p.tables e below (T.setTop (mkF m 207 #[d0, d1, d2, .val (.int v3), .val (.int v4), .val (.int v5), d6] [(.int v3)])) t
    refine XS.sipush X.here hx rfl (hb hby dUtf8_sequenceLength_207) ?_
    exact k
  by_cases hc210 : v3 = (244 : Int32)
  · rw [if_pos hc210] at hF
    refine own_Goes.via (B := T.setTop (mkF m 218 #[d0, d1, d2, .val (.int v3), .val (.int v4), .val (.int v5), d6] [(.int (143 : Int32)), (.int v5)])) (fun t k => ?_) ?_
    · show Steps p.tables e below (T.setTop (mkF m 210 #[d0, d1, d2, .val (.int v3), .val (.int v4), .val (.int v5), d6] [(.int (244 : Int32)), (.int v3)])) t
      refine XS.icmpNo X.here hx rfl (hb hby dUtf8_sequenceLength_210) rfl (teq hc210).2 ?_
      show Steps p.tables e below (T.setTop (mkF m 213 #[d0, d1, d2, .val (.int v3), .val (.int v4), .val (.int v5), d6] [])) t
      refine XS.iload X.here hx rfl (hb hby dUtf8_sequenceLength_213) rfl ?_
      show Steps p.tables e below (T.setTop (mkF m 215 #[d0, d1, d2, .val (.int v3), .val (.int v4), .val (.int v5), d6] [(.int v5)])) t
      refine XS.sipush X.here hx rfl (hb hby dUtf8_sequenceLength_215) ?_
      exact k
    by_cases hc218 : (143 : Int32) < v5
    · rw [if_pos hc218] at hF
      refine own_Goes.via (B := T.setTop (mkF m 234 #[d0, d1, d2, .val (.int v3), .val (.int v4), .val (.int v5), .val (.int (-6 : Int32))] [(.int (-6 : Int32))])) (fun t k => ?_) ?_
      · show Steps p.tables e below (T.setTop (mkF m 218 #[d0, d1, d2, .val (.int v3), .val (.int v4), .val (.int v5), d6] [(.int (143 : Int32)), (.int v5)])) t
        refine XS.icmpNo X.here hx rfl (hb hby dUtf8_sequenceLength_218) rfl (tlt hc218).2.2.2 ?_
        show Steps p.tables e below (T.setTop (mkF m 221 #[d0, d1, d2, .val (.int v3), .val (.int v4), .val (.int v5), d6] [])) t
        refine XS.bipush X.here hx rfl (hb hby dUtf8_sequenceLength_221) ?_
        show Steps p.tables e below (T.setTop (mkF m 223 #[d0, d1, d2, .val (.int v3), .val (.int v4), .val (.int v5), d6] [(.int (-6 : Int32))])) t
        refine XS.istoreS X.here hx rfl (hb hby dUtf8_sequenceLength_223) rfl rfl o_d6 ?_
        show Steps p.tables e below (T.setTop (mkF m 225 #[d0, d1, d2, .val (.int v3), .val (.int v4), .val (.int v5), .val (.int (-6 : Int32))] [])) t
        refine XS.goto X.here hx rfl (pc0 := 225) (pc' := 232) rfl (hb hby dUtf8_sequenceLength_225) (by decide) (by decide) ?_
        show Steps p.tables e below (T.setTop (mkF m 232 #[d0, d1, d2, .val (.int v3), .val (.int v4), .val (.int v5), .val (.int (-6 : Int32))] [])) t
        refine XS.iload X.here hx rfl (hb hby dUtf8_sequenceLength_232) rfl ?_
        exact k
      obtain rfl : (-6 : Int32) = r := Option.some.inj hF
      exact own_retI X hx hret hlk (hb hby dUtf8_sequenceLength_234) eT ⟨rfl, N, rfl⟩ (by decide) (by decide)
    · rw [if_neg hc218] at hF
      refine own_Goes.via (B := T.setTop (mkF m 234 #[d0, d1, d2, .val (.int v3), .val (.int v4), .val (.int v5), .val (.int v4)] [(.int v4)])) (fun t k => ?_) ?_
      · show Steps p.tables e below (T.setTop (mkF m 218 #[d0, d1, d2, .val (.int v3), .val (.int v4), .val (.int v5), d6] [(.int (143 : Int32)), (.int v5)])) t
        refine XS.icmpYes X.here hx rfl (pc0 := 218) (pc' := 228) rfl (hb hby dUtf8_sequenceLength_218) rfl (flt hc218).2.2.2 (by decide) (by decide) ?_
        show Steps p.tables e below (T.setTop (mkF m 228 #[d0, d1, d2, .val (.int v3), .val (.int v4), .val (.int v5), d6] [])) t
        refine XS.iload X.here hx rfl (hb hby dUtf8_sequenceLength_228) rfl ?_
        show Steps p.tables e below (T.setTop (mkF m 230 #[d0, d1, d2, .val (.int v3), .val (.int v4), .val (.int v5), d6] [(.int v4)])) t
        refine XS.istoreS X.here hx rfl (hb hby dUtf8_sequenceLength_230) rfl rfl o_d6 ?_
        show Steps p.tables e below (T.setTop (mkF m 232 #[d0, d1, d2, .val (.int v3), .val (.int v4), .val (.int v5), .val (.int v4)] [])) t
        refine XS.iload X.here hx rfl (hb hby dUtf8_sequenceLength_232) rfl ?_
        exact k
      obtain rfl : v4 = r := Option.some.inj hF
      exact own_retI X hx hret hlk (hb hby dUtf8_sequenceLength_234) eT ⟨rfl, N, rfl⟩ (by decide) (by decide)
  · rw [if_neg hc210] at hF
    refine own_Goes.via (B := T.setTop (mkF m 234 #[d0, d1, d2, .val (.int v3), .val (.int v4), .val (.int v5), .val (.int v4)] [(.int v4)])) (fun t k => ?_) ?_
    · show Steps p.tables e below (T.setTop (mkF m 210 #[d0, d1, d2, .val (.int v3), .val (.int v4), .val (.int v5), d6] [(.int (244 : Int32)), (.int v3)])) t
      refine XS.icmpYes X.here hx rfl (pc0 := 210) (pc' := 228) rfl (hb hby dUtf8_sequenceLength_210) rfl (feq hc210).2 (by decide) (by decide) ?_
      show Steps p.tables e below (T.setTop (mkF m 228 #[d0, d1, d2, .val (.int v3), .val (.int v4), .val (.int v5), d6] [])) t
      refine XS.iload X.here hx rfl (hb hby dUtf8_sequenceLength_228) rfl ?_
      show Steps p.tables e below (T.setTop (mkF m 230 #[d0, d1, d2, .val (.int v3), .val (.int v4), .val (.int v5), d6] [(.int v4)])) t
      refine XS.istoreS X.here hx rfl (hb hby dUtf8_sequenceLength_230) rfl rfl o_d6 ?_
      show Steps p.tables e below (T.setTop (mkF m 232 #[d0, d1, d2, .val (.int v3), .val (.int v4), .val (.int v5), .val (.int v4)] [])) t
      refine XS.iload X.here hx rfl (hb hby dUtf8_sequenceLength_232) rfl ?_
      exact k
    obtain rfl : v4 = r := Option.some.inj hF
    exact own_retI X hx hret hlk (hb hby dUtf8_sequenceLength_234) eT ⟨rfl, N, rfl⟩ (by decide) (by decide)
set_option maxRecDepth 65536 in
set_option maxHeartbeats 4000000 in
theorem b_Utf8_sequenceLength_162 {p : Program} {l : Launch} {e : Env} {s : State} {m : MethodId} {args : Array Value} {below : List Frame} {meth : Method} {c : Code} {Z : State} {a0 : Array Value} {n0 : Nat} {hE : Heap} (cx : Cx_Utf8_sequenceLength p s m meth c Z a0) (a1 : Addr) :
    ∀ {T : State} {locs : List Loc} (X : Stand p l e ({ frames := 0, cells := 0, slots := 0, locals := 0 } : Room) s m args below meth c T locs 0 0) (eT : T.heap = hE) (N : Fr n0 locs) (z : n0 ≤ hE.size) (v3 : Int32) (v4 : Int32) (v5 : Int32) (bs_a1 : List Int32) (d0 : Slot) (d1 : Slot) (d2 : Slot) (d6 : Slot) (o_d0 : One d0) (o_d1 : One d1) (o_d2 : One d2) (o_d6 : One d6) (A_a1 : own_Ar Z hE a1 .byte (bs_a1.map Value.int)) (g_a1 : n0 ≤ a1) (r : Int32), f_Utf8_sequenceLength_162 v3 v4 v5 bs_a1 = some r → own_Goes p e below s (Q_Utf8_sequenceLength Z hE n0 a1 r) 0 0 (T.setTop (mkF m 162 #[d0, d1, d2, .val (.int v3), .val (.int v4), .val (.int v5), d6] [])) := by
  have cx' := cx
  obtain ⟨hx, hZ, hw, hby, hml, hown, hret, hlk, hnm⟩ := cx'
  intro T locs X eT N z v3 v4 v5 bs_a1 d0 d1 d2 d6 o_d0 o_d1 o_d2 o_d6 A_a1 g_a1 r hF
  unfold f_Utf8_sequenceLength_162 at hF
  refine own_Goes.via (B := T.setTop (mkF m 166 #[d0, d1, d2, .val (.int v3), .val (.int v4), .val (.int v5), d6] [(.int (240 : Int32)), (.int v3)])) (fun t k => ?_) ?_
  · show Steps p.tables e below (T.setTop (mkF m 162 #[d0, d1, d2, .val (.int v3), .val (.int v4), .val (.int v5), d6] [])) t
    refine XS.iloadN X.here hx rfl (hb hby dUtf8_sequenceLength_162) rfl ?_
    show Steps p.tables e below (T.setTop (mkF m 163 #[d0, d1, d2, .val (.int v3), .val (.int v4), .val (.int v5), d6] [(.int v3)])) t
    refine XS.sipush X.here hx rfl (hb hby dUtf8_sequenceLength_163) ?_
    exact k
  by_cases hc166 : v3 = (240 : Int32)
  · rw [if_pos hc166] at hF
    refine own_Goes.via (B := T.setTop (mkF m 174 #[d0, d1, d2, .val (.int v3), .val (.int v4), .val (.int v5), d6] [(.int (144 : Int32)), (.int v5)])) (fun t k => ?_) ?_
    · show Steps p.tables e below (T.setTop (mkF m 166 #[d0, d1, d2, .val (.int v3), .val (.int v4), .val (.int v5), d6] [(.int (240 : Int32)), (.int v3)])) t
      refine XS.icmpNo X.here hx rfl (hb hby dUtf8_sequenceLength_166) rfl (teq hc166).2 ?_
      show Steps p.tables e below (T.setTop (mkF m 169 #[d0, d1, d2, .val (.int v3), .val (.int v4), .val (.int v5), d6] [])) t
      refine XS.iload X.here hx rfl (hb hby dUtf8_sequenceLength_169) rfl ?_
      show Steps p.tables e below (T.setTop (mkF m 171 #[d0, d1, d2, .val (.int v3), .val (.int v4), .val (.int v5), d6] [(.int v5)])) t
      refine XS.sipush X.here hx rfl (hb hby dUtf8_sequenceLength_171) ?_
      exact k
    by_cases hc174 : v5 < (144 : Int32)
    · rw [if_pos hc174] at hF
      refine own_Goes.via (B := T.setTop (mkF m 234 #[d0, d1, d2, .val (.int v3), .val (.int v4), .val (.int v5), .val (.int (-4 : Int32))] [(.int (-4 : Int32))])) (fun t k => ?_) ?_
      · show Steps p.tables e below (T.setTop (mkF m 174 #[d0, d1, d2, .val (.int v3), .val (.int v4), .val (.int v5), d6] [(.int (144 : Int32)), (.int v5)])) t
        refine XS.icmpNo X.here hx rfl (hb hby dUtf8_sequenceLength_174) rfl (tlt hc174).2.1 ?_
        show Steps p.tables e below (T.setTop (mkF m 177 #[d0, d1, d2, .val (.int v3), .val (.int v4), .val (.int v5), d6] [])) t
        refine XS.bipush X.here hx rfl (hb hby dUtf8_sequenceLength_177) ?_
        show Steps p.tables e below (T.setTop (mkF m 179 #[d0, d1, d2, .val (.int v3), .val (.int v4), .val (.int v5), d6] [(.int (-4 : Int32))])) t
        refine XS.istoreS X.here hx rfl (hb hby dUtf8_sequenceLength_179) rfl rfl o_d6 ?_
        show Steps p.tables e below (T.setTop (mkF m 181 #[d0, d1, d2, .val (.int v3), .val (.int v4), .val (.int v5), .val (.int (-4 : Int32))] [])) t
        refine XS.goto X.here hx rfl (pc0 := 181) (pc' := 232) rfl (hb hby dUtf8_sequenceLength_181) (by decide) (by decide) ?_
        show Steps p.tables e below (T.setTop (mkF m 232 #[d0, d1, d2, .val (.int v3), .val (.int v4), .val (.int v5), .val (.int (-4 : Int32))] [])) t
        refine XS.iload X.here hx rfl (hb hby dUtf8_sequenceLength_232) rfl ?_
        exact k
      obtain rfl : (-4 : Int32) = r := Option.some.inj hF
      exact own_retI X hx hret hlk (hb hby dUtf8_sequenceLength_234) eT ⟨rfl, N, rfl⟩ (by decide) (by decide)
    · rw [if_neg hc174] at hF
      refine own_Goes.via (B := T.setTop (mkF m 188 #[d0, d1, d2, .val (.int v3), .val (.int v4), .val (.int v5), d6] [(.int (237 : Int32)), (.int v3)])) (fun t k => ?_) ?_
      · show Steps p.tables e below (T.setTop (mkF m 174 #[d0, d1, d2, .val (.int v3), .val (.int v4), .val (.int v5), d6] [(.int (144 : Int32)), (.int v5)])) t
        refine XS.icmpYes X.here hx rfl (pc0 := 174) (pc' := 184) rfl (hb hby dUtf8_sequenceLength_174) rfl (flt hc174).2.1 (by decide) (by decide) ?_
        show Steps p.tables e below (T.setTop (mkF m 184 #[d0, d1, d2, .val (.int v3), .val (.int v4), .val (.int v5), d6] [])) t
        refine XS.iloadN X.here hx rfl (hb hby dUtf8_sequenceLength_184) rfl ?_
        show Steps p.tables e below (T.setTop (mkF m 185 #[d0, d1, d2, .val (.int v3), .val (.int v4), .val (.int v5), d6] [(.int v3)])) t
        refine XS.sipush X.here hx rfl (hb hby dUtf8_sequenceLength_185) ?_
        exact k
      by_cases hc188 : v3 = (237 : Int32)
      · rw [if_pos hc188] at hF
        refine own_Goes.via (B := T.setTop (mkF m 196 #[d0, d1, d2, .val (.int v3), .val (.int v4), .val (.int v5), d6] [(.int (159 : Int32)), (.int v5)])) (fun t k => ?_) ?_
        · show Steps p.tables e below (T.setTop (mkF m 188 #[d0, d1, d2, .val (.int v3), .val (.int v4), .val (.int v5), d6] [(.int (237 : Int32)), (.int v3)])) t
          refine XS.icmpNo X.here hx rfl (hb hby dUtf8_sequenceLength_188) rfl (teq hc188).2 ?_
          show Steps p.tables e below (T.setTop (mkF m 191 #[d0, d1, d2, .val (.int v3), .val (.int v4), .val (.int v5), d6] [])) t
          refine XS.iload X.here hx rfl (hb hby dUtf8_sequenceLength_191) rfl ?_
          show Steps p.tables e below (T.setTop (mkF m 193 #[d0, d1, d2, .val (.int v3), .val (.int v4), .val (.int v5), d6] [(.int v5)])) t
          refine XS.sipush X.here hx rfl (hb hby dUtf8_sequenceLength_193) ?_
          exact k
        by_cases hc196 : (159 : Int32) < v5
        · rw [if_pos hc196] at hF
          refine own_Goes.via (B := T.setTop (mkF m 234 #[d0, d1, d2, .val (.int v3), .val (.int v4), .val (.int v5), .val (.int (-5 : Int32))] [(.int (-5 : Int32))])) (fun t k => ?_) ?_
          · show Steps p.tables e below (T.setTop (mkF m 196 #[d0, d1, d2, .val (.int v3), .val (.int v4), .val (.int v5), d6] [(.int (159 : Int32)), (.int v5)])) t
            refine XS.icmpNo X.here hx rfl (hb hby dUtf8_sequenceLength_196) rfl (tlt hc196).2.2.2 ?_
            show Steps p.tables e below (T.setTop (mkF m 199 #[d0, d1, d2, .val (.int v3), .val (.int v4), .val (.int v5), d6] [])) t
            refine XS.bipush X.here hx rfl (hb hby dUtf8_sequenceLength_199) ?_
            show Steps p.tables e below (T.setTop (mkF m 201 #[d0, d1, d2, .val (.int v3), .val (.int v4), .val (.int v5), d6] [(.int (-5 : Int32))])) t
            refine XS.istoreS X.here hx rfl (hb hby dUtf8_sequenceLength_201) rfl rfl o_d6 ?_
            show Steps p.tables e below (T.setTop (mkF m 203 #[d0, d1, d2, .val (.int v3), .val (.int v4), .val (.int v5), .val (.int (-5 : Int32))] [])) t
            refine XS.goto X.here hx rfl (pc0 := 203) (pc' := 232) rfl (hb hby dUtf8_sequenceLength_203) (by decide) (by decide) ?_
            show Steps p.tables e below (T.setTop (mkF m 232 #[d0, d1, d2, .val (.int v3), .val (.int v4), .val (.int v5), .val (.int (-5 : Int32))] [])) t
            refine XS.iload X.here hx rfl (hb hby dUtf8_sequenceLength_232) rfl ?_
            exact k
          obtain rfl : (-5 : Int32) = r := Option.some.inj hF
          exact own_retI X hx hret hlk (hb hby dUtf8_sequenceLength_234) eT ⟨rfl, N, rfl⟩ (by decide) (by decide)
        · rw [if_neg hc196] at hF
          refine own_Goes.via (B := T.setTop (mkF m 206 #[d0, d1, d2, .val (.int v3), .val (.int v4), .val (.int v5), d6] [])) (fun t k => ?_) ?_
          · show Steps p.tables e below (T.setTop (mkF m 196 #[d0, d1, d2, .val (.int v3), .val (.int v4), .val (.int v5), d6] [(.int (159 : Int32)), (.int v5)])) t
            refine XS.icmpYes X.here hx rfl (pc0 := 196) (pc' := 206) rfl (hb hby dUtf8_sequenceLength_196) rfl (flt hc196).2.2.2 (by decide) (by decide) ?_
            exact k
          exact b_Utf8_sequenceLength_206 cx a1 X eT N z v3 v4 v5 bs_a1 d0 d1 d2 d6 o_d0 o_d1 o_d2 o_d6 A_a1 g_a1 _ hF
      · rw [if_neg hc188] at hF
        refine own_Goes.via (B := T.setTop (mkF m 206 #[d0, d1, d2, .val (.int v3), .val (.int v4), .val (.int v5), d6] [])) (fun t k => ?_) ?_
        · show Steps p.tables e below (T.setTop (mkF m 188 #[d0, d1, d2, .val (.int v3), .val (.int v4), .val (.int v5), d6] [(.int (237 : Int32)), (.int v3)])) t
          refine XS.icmpYes X.here hx rfl (pc0 := 188) (pc' := 206) rfl (hb hby dUtf8_sequenceLength_188) rfl (feq hc188).2 (by decide) (by decide) ?_
          exact k
        exact b_Utf8_sequenceLength_206 cx a1 X eT N z v3 v4 v5 bs_a1 d0 d1 d2 d6 o_d0 o_d1 o_d2 o_d6 A_a1 g_a1 _ hF
  · rw [if_neg hc166] at hF
    refine own_Goes.via (B := T.setTop (mkF m 188 #[d0, d1, d2, .val (.int v3), .val (.int v4), .val (.int v5), d6] [(.int (237 : Int32)), (.int v3)])) (fun t k => ?_) ?_
    · show Steps p.tables e below (T.setTop (mkF m 166 #[d0, d1, d2, .val (.int v3), .val (.int v4), .val (.int v5), d6] [(.int (240 : Int32)), (.int v3)])) t
      refine XS.icmpYes X.here hx rfl (pc0 := 166) (pc' := 184) rfl (hb hby dUtf8_sequenceLength_166) rfl (feq hc166).2 (by decide) (by decide) ?_
      show Steps p.tables e below (T.setTop (mkF m 184 #[d0, d1, d2, .val (.int v3), .val (.int v4), .val (.int v5), d6] [])) t
      refine XS.iloadN X.here hx rfl (hb hby dUtf8_sequenceLength_184) rfl ?_
      show Steps p.tables e below (T.setTop (mkF m 185 #[d0, d1, d2, .val (.int v3), .val (.int v4), .val (.int v5), d6] [(.int v3)])) t
      refine XS.sipush X.here hx rfl (hb hby dUtf8_sequenceLength_185) ?_
      exact k
    by_cases hc188 : v3 = (237 : Int32)
    · rw [if_pos hc188] at hF
      refine own_Goes.via (B := T.setTop (mkF m 196 #[d0, d1, d2, .val (.int v3), .val (.int v4), .val (.int v5), d6] [(.int (159 : Int32)), (.int v5)])) (fun t k => ?_) ?_
      · show Steps p.tables e below (T.setTop (mkF m 188 #[d0, d1, d2, .val (.int v3), .val (.int v4), .val (.int v5), d6] [(.int (237 : Int32)), (.int v3)])) t
        refine XS.icmpNo X.here hx rfl (hb hby dUtf8_sequenceLength_188) rfl (teq hc188).2 ?_
        show Steps p.tables e below (T.setTop (mkF m 191 #[d0, d1, d2, .val (.int v3), .val (.int v4), .val (.int v5), d6] [])) t
        refine XS.iload X.here hx rfl (hb hby dUtf8_sequenceLength_191) rfl ?_
        show Steps p.tables e below (T.setTop (mkF m 193 #[d0, d1, d2, .val (.int v3), .val (.int v4), .val (.int v5), d6] [(.int v5)])) t
        refine XS.sipush X.here hx rfl (hb hby dUtf8_sequenceLength_193) ?_
        exact k
      by_cases hc196 : (159 : Int32) < v5
      · rw [if_pos hc196] at hF
        refine own_Goes.via (B := T.setTop (mkF m 234 #[d0, d1, d2, .val (.int v3), .val (.int v4), .val (.int v5), .val (.int (-5 : Int32))] [(.int (-5 : Int32))])) (fun t k => ?_) ?_
        · show Steps p.tables e below (T.setTop (mkF m 196 #[d0, d1, d2, .val (.int v3), .val (.int v4), .val (.int v5), d6] [(.int (159 : Int32)), (.int v5)])) t
          refine XS.icmpNo X.here hx rfl (hb hby dUtf8_sequenceLength_196) rfl (tlt hc196).2.2.2 ?_
          show Steps p.tables e below (T.setTop (mkF m 199 #[d0, d1, d2, .val (.int v3), .val (.int v4), .val (.int v5), d6] [])) t
          refine XS.bipush X.here hx rfl (hb hby dUtf8_sequenceLength_199) ?_
          show Steps p.tables e below (T.setTop (mkF m 201 #[d0, d1, d2, .val (.int v3), .val (.int v4), .val (.int v5), d6] [(.int (-5 : Int32))])) t
          refine XS.istoreS X.here hx rfl (hb hby dUtf8_sequenceLength_201) rfl rfl o_d6 ?_
          show Steps p.tables e below (T.setTop (mkF m 203 #[d0, d1, d2, .val (.int v3), .val (.int v4), .val (.int v5), .val (.int (-5 : Int32))] [])) t
          refine XS.goto X.here hx rfl (pc0 := 203) (pc' := 232) rfl (hb hby dUtf8_sequenceLength_203) (by decide) (by decide) ?_
          show Steps p.tables e below (T.setTop (mkF m 232 #[d0, d1, d2, .val (.int v3), .val (.int v4), .val (.int v5), .val (.int (-5 : Int32))] [])) t
          refine XS.iload X.here hx rfl (hb hby dUtf8_sequenceLength_232) rfl ?_
          exact k
        obtain rfl : (-5 : Int32) = r := Option.some.inj hF
        exact own_retI X hx hret hlk (hb hby dUtf8_sequenceLength_234) eT ⟨rfl, N, rfl⟩ (by decide) (by decide)
      · rw [if_neg hc196] at hF
        refine own_Goes.via (B := T.setTop (mkF m 206 #[d0, d1, d2, .val (.int v3), .val (.int v4), .val (.int v5), d6] [])) (fun t k => ?_) ?_
        · show Steps p.tables e below (T.setTop (mkF m 196 #[d0, d1, d2, .val (.int v3), .val (.int v4), .val (.int v5), d6] [(.int (159 : Int32)), (.int v5)])) t
          refine XS.icmpYes X.here hx rfl (pc0 := 196) (pc' := 206) rfl (hb hby dUtf8_sequenceLength_196) rfl (flt hc196).2.2.2 (by decide) (by decide) ?_
          exact k
        exact b_Utf8_sequenceLength_206 cx a1 X eT N z v3 v4 v5 bs_a1 d0 d1 d2 d6 o_d0 o_d1 o_d2 o_d6 A_a1 g_a1 _ hF
    · rw [if_neg hc188] at hF
      refine own_Goes.via (B := T.setTop (mkF m 206 #[d0, d1, d2, .val (.int v3), .val (.int v4), .val (.int v5), d6] [])) (fun t k => ?_) ?_
      · show Steps p.tables e below (T.setTop (mkF m 188 #[d0, d1, d2, .val (.int v3), .val (.int v4), .val (.int v5), d6] [(.int (237 : Int32)), (.int v3)])) t
        refine XS.icmpYes X.here hx rfl (pc0 := 188) (pc' := 206) rfl (hb hby dUtf8_sequenceLength_188) rfl (feq hc188).2 (by decide) (by decide) ?_
        exact k
      exact b_Utf8_sequenceLength_206 cx a1 X eT N z v3 v4 v5 bs_a1 d0 d1 d2 d6 o_d0 o_d1 o_d2 o_d6 A_a1 g_a1 _ hF
set_option maxRecDepth 65536 in
set_option maxHeartbeats 4000000 in
theorem b_Utf8_sequenceLength_96 {p : Program} {l : Launch} {e : Env} {s : State} {m : MethodId} {args : Array Value} {below : List Frame} {meth : Method} {c : Code} {Z : State} {a0 : Array Value} {n0 : Nat} {hE : Heap} (cx : Cx_Utf8_sequenceLength p s m meth c Z a0) (a1 : Addr) (n : Nat) :
    ∀ {T : State} {locs : List Loc} (X : Stand p l e ({ frames := 0, cells := 0, slots := 0, locals := 0 } : Room) s m args below meth c T locs 0 0) (eT : T.heap = hE) (N : Fr n0 locs) (z : n0 ≤ hE.size) (v1 : Int32) (v2 : Int32) (v3 : Int32) (v4 : Int32) (v5 : Int32) (bs_a1 : List Int32) (d6 : Slot) (o_d6 : One d6) (A_a1 : own_Ar Z hE a1 .byte (bs_a1.map Value.int)) (g_a1 : n0 ≤ a1) (r : Int32), f_Utf8_sequenceLength_96 n v1 v2 v3 v4 v5 bs_a1 = some r → own_Goes p e below s (Q_Utf8_sequenceLength Z hE n0 a1 r) 0 0 (T.setTop (mkF m 96 #[.val (.ref a1), .val (.int v1), .val (.int v2), .val (.int v3), .val (.int v4), .val (.int v5), d6] [])) := by
  have cx' := cx
  obtain ⟨hx, hZ, hw, hby, hml, hown, hret, hlk, hnm⟩ := cx'
  induction n with
  | zero =>
    intro T locs X eT N z v1 v2 v3 v4 v5 bs_a1 d6 o_d6 A_a1 g_a1 r hF
    cases hF
  | succ n ih =>
    intro T locs X eT N z v1 v2 v3 v4 v5 bs_a1 d6 o_d6 A_a1 g_a1 r hF
    rw [f_Utf8_sequenceLength_96] at hF
    refine own_Goes.via (B := T.setTop (mkF m 100 #[.val (.ref a1), .val (.int v1), .val (.int v2), .val (.int v3), .val (.int v4), .val (.int v5), d6] [(.int v4), (.int v5)])) (fun t k => ?_) ?_
    · show Steps p.tables e below (T.setTop (mkF m 96 #[.val (.ref a1), .val (.int v1), .val (.int v2), .val (.int v3), .val (.int v4), .val (.int v5), d6] [])) t
      refine XS.iload X.here hx rfl (hb hby dUtf8_sequenceLength_96) rfl ?_
      show Steps p.tables e below (T.setTop (mkF m 98 #[.val (.ref a1), .val (.int v1), .val (.int v2), .val (.int v3), .val (.int v4), .val (.int v5), d6] [(.int v5)])) t
      refine XS.iload X.here hx rfl (hb hby dUtf8_sequenceLength_98) rfl ?_
      exact k
    by_cases hc100 : v5 < v4
    · rw [if_pos hc100] at hF
      refine own_Goes.via (B := T.setTop (mkF m 108 #[.val (.ref a1), .val (.int v1), .val (.int v2), .val (.int v3), .val (.int v4), .val (.int v5), d6] [(.int v2), (.int (v1 + v5))])) (fun t k => ?_) ?_
      · show Steps p.tables e below (T.setTop (mkF m 100 #[.val (.ref a1), .val (.int v1), .val (.int v2), .val (.int v3), .val (.int v4), .val (.int v5), d6] [(.int v4), (.int v5)])) t
        refine XS.icmpNo X.here hx rfl (hb hby dUtf8_sequenceLength_100) rfl (tlt hc100).2.1 ?_
        show Steps p.tables e below (T.setTop (mkF m 103 #[.val (.ref a1), .val (.int v1), .val (.int v2), .val (.int v3), .val (.int v4), .val (.int v5), d6] [])) t
        refine XS.iloadN X.here hx rfl (hb hby dUtf8_sequenceLength_103) rfl ?_
        show Steps p.tables e below (T.setTop (mkF m 104 #[.val (.ref a1), .val (.int v1), .val (.int v2), .val (.int v3), .val (.int v4), .val (.int v5), d6] [(.int v1)])) t
        refine XS.iload X.here hx rfl (hb hby dUtf8_sequenceLength_104) rfl ?_
        show Steps p.tables e below (T.setTop (mkF m 106 #[.val (.ref a1), .val (.int v1), .val (.int v2), .val (.int v3), .val (.int v4), .val (.int v5), d6] [(.int v5), (.int v1)])) t
        refine XS.iadd X.here hx rfl (hb hby dUtf8_sequenceLength_106) rfl ?_
        show Steps p.tables e below (T.setTop (mkF m 107 #[.val (.ref a1), .val (.int v1), .val (.int v2), .val (.int v3), .val (.int v4), .val (.int v5), d6] [(.int (v1 + v5))])) t
        refine XS.iloadN X.here hx rfl (hb hby dUtf8_sequenceLength_107) rfl ?_
        exact k
      by_cases hc108 : (v1 + v5) = v2
      · rw [if_pos hc108] at hF
        refine own_Goes.via (B := T.setTop (mkF m 129 #[.val (.ref a1), .val (.int v1), .val (.int v2), .val (.int v3), .val (.int v4), .val (.int v5), d6] [(.int (-3 : Int32))])) (fun t k => ?_) ?_
        · show Steps p.tables e below (T.setTop (mkF m 108 #[.val (.ref a1), .val (.int v1), .val (.int v2), .val (.int v3), .val (.int v4), .val (.int v5), d6] [(.int v2), (.int (v1 + v5))])) t
          refine XS.icmpYes X.here hx rfl (pc0 := 108) (pc' := 127) rfl (hb hby dUtf8_sequenceLength_108) rfl (teq hc108).1 (by decide) (by decide) ?_
          show Steps p.tables e below (T.setTop (mkF m 127 #[.val (.ref a1), .val (.int v1), .val (.int v2), .val (.int v3), .val (.int v4), .val (.int v5), d6] [])) t
          refine XS.bipush X.here hx rfl (hb hby dUtf8_sequenceLength_127) ?_
          exact k
        obtain rfl : (-3 : Int32) = r := Option.some.inj hF
        exact own_retI X hx hret hlk (hb hby dUtf8_sequenceLength_129) eT ⟨rfl, N, rfl⟩ (by decide) (by decide)
      · rw [if_neg hc108] at hF
        refine own_Goes.via (B := T.setTop (mkF m 116 #[.val (.ref a1), .val (.int v1), .val (.int v2), .val (.int v3), .val (.int v4), .val (.int v5), d6] [(.int (v1 + v5)), (.ref a1)])) (fun t k => ?_) ?_
        · show Steps p.tables e below (T.setTop (mkF m 108 #[.val (.ref a1), .val (.int v1), .val (.int v2), .val (.int v3), .val (.int v4), .val (.int v5), d6] [(.int v2), (.int (v1 + v5))])) t
          refine XS.icmpNo X.here hx rfl (hb hby dUtf8_sequenceLength_108) rfl (feq hc108).1 ?_
          show Steps p.tables e below (T.setTop (mkF m 111 #[.val (.ref a1), .val (.int v1), .val (.int v2), .val (.int v3), .val (.int v4), .val (.int v5), d6] [])) t
          refine XS.aloadN X.here hx rfl (hb hby dUtf8_sequenceLength_111) rfl rfl ?_
          show Steps p.tables e below (T.setTop (mkF m 112 #[.val (.ref a1), .val (.int v1), .val (.int v2), .val (.int v3), .val (.int v4), .val (.int v5), d6] [(.ref a1)])) t
          refine XS.iloadN X.here hx rfl (hb hby dUtf8_sequenceLength_112) rfl ?_
          show Steps p.tables e below (T.setTop (mkF m 113 #[.val (.ref a1), .val (.int v1), .val (.int v2), .val (.int v3), .val (.int v4), .val (.int v5), d6] [(.int v1), (.ref a1)])) t
          refine XS.iload X.here hx rfl (hb hby dUtf8_sequenceLength_113) rfl ?_
          show Steps p.tables e below (T.setTop (mkF m 115 #[.val (.ref a1), .val (.int v1), .val (.int v2), .val (.int v3), .val (.int v4), .val (.int v5), d6] [(.int v5), (.int v1), (.ref a1)])) t
          refine XS.iadd X.here hx rfl (hb hby dUtf8_sequenceLength_115) rfl ?_
          exact k
        obtain ⟨x38, hx38, hF⟩ := own_lt_e hF
        rw [← hx38]
        obtain ⟨hi116, hF⟩ := own_ck_e hF
        refine own_Goes.via (B := T.setTop (mkF m 124 #[.val (.ref a1), .val (.int v1), .val (.int v2), .val (.int v3), .val (.int v4), .val (.int v5), d6] [(.int (128 : Int32)), (.int ((own_rd bs_a1 x38) &&& (192 : Int32)))])) (fun t k => ?_) ?_
        · show Steps p.tables e below (T.setTop (mkF m 116 #[.val (.ref a1), .val (.int v1), .val (.int v2), .val (.int v3), .val (.int v4), .val (.int v5), d6] [(.int x38), (.ref a1)])) t
          refine own_ldB X hx hZ eT A_a1 hi116 rfl (g := (mkF m 116 #[.val (.ref a1), .val (.int v1), .val (.int v2), .val (.int v3), .val (.int v4), .val (.int v5), d6] [(.int x38), (.ref a1)])) rfl rfl (hb hby dUtf8_sequenceLength_116) ?_
          show Steps p.tables e below (T.setTop (mkF m 117 #[.val (.ref a1), .val (.int v1), .val (.int v2), .val (.int v3), .val (.int v4), .val (.int v5), d6] [(.int (own_rd bs_a1 x38))])) t
          refine XS.sipush X.here hx rfl (hb hby dUtf8_sequenceLength_117) ?_
          show Steps p.tables e below (T.setTop (mkF m 120 #[.val (.ref a1), .val (.int v1), .val (.int v2), .val (.int v3), .val (.int v4), .val (.int v5), d6] [(.int (192 : Int32)), (.int (own_rd bs_a1 x38))])) t
          refine XS.iand X.here hx rfl (hb hby dUtf8_sequenceLength_120) rfl ?_
          show Steps p.tables e below (T.setTop (mkF m 121 #[.val (.ref a1), .val (.int v1), .val (.int v2), .val (.int v3), .val (.int v4), .val (.int v5), d6] [(.int ((own_rd bs_a1 x38) &&& (192 : Int32)))])) t
          refine XS.sipush X.here hx rfl (hb hby dUtf8_sequenceLength_121) ?_
          exact k
        by_cases hc124 : ((own_rd bs_a1 x38) &&& (192 : Int32)) = (128 : Int32)
        · rw [if_pos hc124] at hF
          refine own_Goes.via (B := T.setTop (mkF m 133 #[.val (.ref a1), .val (.int v1), .val (.int v2), .val (.int v3), .val (.int v4), .val (.int (v5 + (1 : Int32))), d6] [])) (fun t k => ?_) ?_
          · show Steps p.tables e below (T.setTop (mkF m 124 #[.val (.ref a1), .val (.int v1), .val (.int v2), .val (.int v3), .val (.int v4), .val (.int v5), d6] [(.int (128 : Int32)), (.int ((own_rd bs_a1 x38) &&& (192 : Int32)))])) t
            refine XS.icmpYes X.here hx rfl (pc0 := 124) (pc' := 130) rfl (hb hby dUtf8_sequenceLength_124) rfl (teq hc124).1 (by decide) (by decide) ?_
            show Steps p.tables e below (T.setTop (mkF m 130 #[.val (.ref a1), .val (.int v1), .val (.int v2), .val (.int v3), .val (.int v4), .val (.int v5), d6] [])) t
            refine XS.iinc X.here hx rfl (hb hby dUtf8_sequenceLength_130) rfl (l' := #[.val (.ref a1), .val (.int v1), .val (.int v2), .val (.int v3), .val (.int v4), .val (.int (v5 + (1 : Int32))), d6]) rfl ?_
            exact k
          obtain ⟨x39, hx39, hF⟩ := own_lt_e hF
          rw [← hx39]
          refine own_Goes.via (B := T.setTop (mkF m 96 #[.val (.ref a1), .val (.int v1), .val (.int v2), .val (.int v3), .val (.int v4), .val (.int x39), d6] [])) (fun t k => ?_) ?_
          · show Steps p.tables e below (T.setTop (mkF m 133 #[.val (.ref a1), .val (.int v1), .val (.int v2), .val (.int v3), .val (.int v4), .val (.int x39), d6] [])) t
            refine XS.goto X.here hx rfl (pc0 := 133) (pc' := 96) rfl (hb hby dUtf8_sequenceLength_133) (by decide) (by decide) ?_
            exact k
          exact ih X eT N z v1 v2 v3 v4 x39 bs_a1 d6 o_d6 A_a1 g_a1 _ hF
        · rw [if_neg hc124] at hF
          refine own_Goes.via (B := T.setTop (mkF m 129 #[.val (.ref a1), .val (.int v1), .val (.int v2), .val (.int v3), .val (.int v4), .val (.int v5), d6] [(.int (-3 : Int32))])) (fun t k => ?_) ?_
          · show Steps p.tables e below (T.setTop (mkF m 124 #[.val (.ref a1), .val (.int v1), .val (.int v2), .val (.int v3), .val (.int v4), .val (.int v5), d6] [(.int (128 : Int32)), (.int ((own_rd bs_a1 x38) &&& (192 : Int32)))])) t
            refine XS.icmpNo X.here hx rfl (hb hby dUtf8_sequenceLength_124) rfl (feq hc124).1 ?_
            show Steps p.tables e below (T.setTop (mkF m 127 #[.val (.ref a1), .val (.int v1), .val (.int v2), .val (.int v3), .val (.int v4), .val (.int v5), d6] [])) t
            refine XS.bipush X.here hx rfl (hb hby dUtf8_sequenceLength_127) ?_
            exact k
          obtain rfl : (-3 : Int32) = r := Option.some.inj hF
          exact own_retI X hx hret hlk (hb hby dUtf8_sequenceLength_129) eT ⟨rfl, N, rfl⟩ (by decide) (by decide)
    · rw [if_neg hc100] at hF
      refine own_Goes.via (B := T.setTop (mkF m 140 #[.val (.ref a1), .val (.int v1), .val (.int v2), .val (.int v3), .val (.int v4), .val (.int v5), d6] [(.int (v1 + (1 : Int32))), (.ref a1)])) (fun t k => ?_) ?_
      · show Steps p.tables e below (T.setTop (mkF m 100 #[.val (.ref a1), .val (.int v1), .val (.int v2), .val (.int v3), .val (.int v4), .val (.int v5), d6] [(.int v4), (.int v5)])) t
        refine XS.icmpYes X.here hx rfl (pc0 := 100) (pc' := 136) rfl (hb hby dUtf8_sequenceLength_100) rfl (flt hc100).2.1 (by decide) (by decide) ?_
        show Steps p.tables e below (T.setTop (mkF m 136 #[.val (.ref a1), .val (.int v1), .val (.int v2), .val (.int v3), .val (.int v4), .val (.int v5), d6] [])) t
        refine XS.aloadN X.here hx rfl (hb hby dUtf8_sequenceLength_136) rfl rfl ?_
        show Steps p.tables e below (T.setTop (mkF m 137 #[.val (.ref a1), .val (.int v1), .val (.int v2), .val (.int v3), .val (.int v4), .val (.int v5), d6] [(.ref a1)])) t
        refine XS.iloadN X.here hx rfl (hb hby dUtf8_sequenceLength_137) rfl ?_
        show Steps p.tables e below (T.setTop (mkF m 138 #[.val (.ref a1), .val (.int v1), .val (.int v2), .val (.int v3), .val (.int v4), .val (.int v5), d6] [(.int v1), (.ref a1)])) t
        refine XS.iconst X.here hx rfl (hb hby dUtf8_sequenceLength_138) ?_
        show Steps p.tables e below (T.setTop (mkF m 139 #[.val (.ref a1), .val (.int v1), .val (.int v2), .val (.int v3), .val (.int v4), .val (.int v5), d6] [(.int (1 : Int32)), (.int v1), (.ref a1)])) t
        refine XS.iadd X.here hx rfl (hb hby dUtf8_sequenceLength_139) rfl ?_
        exact k
      obtain ⟨x40, hx40, hF⟩ := own_lt_e hF
      rw [← hx40]
      obtain ⟨hi140, hF⟩ := own_ck_e hF
      refine own_Goes.via (B := T.setTop (mkF m 145 #[.val (.ref a1), .val (.int v1), .val (.int v2), .val (.int v3), .val (.int v4), .val (.int v5), d6] [(.int ((own_rd bs_a1 x40) &&& (255 : Int32)))])) (fun t k => ?_) ?_
      · show Steps p.tables e below (T.setTop (mkF m 140 #[.val (.ref a1), .val (.int v1), .val (.int v2), .val (.int v3), .val (.int v4), .val (.int v5), d6] [(.int x40), (.ref a1)])) t
        refine own_ldB X hx hZ eT A_a1 hi140 rfl (g := (mkF m 140 #[.val (.ref a1), .val (.int v1), .val (.int v2), .val (.int v3), .val (.int v4), .val (.int v5), d6] [(.int x40), (.ref a1)])) rfl rfl (hb hby dUtf8_sequenceLength_140) ?_
        show Steps p.tables e below (T.setTop (mkF m 141 #[.val (.ref a1), .val (.int v1), .val (.int v2), .val (.int v3), .val (.int v4), .val (.int v5), d6] [(.int (own_rd bs_a1 x40))])) t
        refine XS.sipush X.here hx rfl (hb hby dUtf8_sequenceLength_141) ?_
        show Steps p.tables e below (T.setTop (mkF m 144 #[.val (.ref a1), .val (.int v1), .val (.int v2), .val (.int v3), .val (.int v4), .val (.int v5), d6] [(.int (255 : Int32)), (.int (own_rd bs_a1 x40))])) t
        refine XS.iand X.here hx rfl (hb hby dUtf8_sequenceLength_144) rfl ?_
        exact k
      obtain ⟨x41, hx41, hF⟩ := own_lt_e hF
      rw [← hx41]
      refine own_Goes.via (B := T.setTop (mkF m 151 #[.val (.ref a1), .val (.int v1), .val (.int v2), .val (.int v3), .val (.int v4), .val (.int x41), d6] [(.int (224 : Int32)), (.int v3)])) (fun t k => ?_) ?_
      · show Steps p.tables e below (T.setTop (mkF m 145 #[.val (.ref a1), .val (.int v1), .val (.int v2), .val (.int v3), .val (.int v4), .val (.int v5), d6] [(.int x41)])) t
        refine XS.istore X.here hx rfl (hb hby dUtf8_sequenceLength_145) rfl (l' := #[.val (.ref a1), .val (.int v1), .val (.int v2), .val (.int v3), .val (.int v4), .val (.int x41), d6]) rfl ?_
        show Steps p.tables e below (T.setTop (mkF m 147 #[.val (.ref a1), .val (.int v1), .val (.int v2), .val (.int v3), .val (.int v4), .val (.int x41), d6] [])) t
        refine XS.iloadN X.here hx rfl (hb hby dUtf8_sequenceLength_147) rfl ?_
        show Steps p.tables e below (T.setTop (mkF m 148 #[.val (.ref a1), .val (.int v1), .val (.int v2), .val (.int v3), .val (.int v4), .val (.int x41), d6] [(.int v3)])) t
        refine XS.sipush X.here hx rfl (hb hby dUtf8_sequenceLength_148) ?_
        exact k
      by_cases hc151 : v3 = (224 : Int32)
      · rw [if_pos hc151] at hF
        refine own_Goes.via (B := T.setTop (mkF m 159 #[.val (.ref a1), .val (.int v1), .val (.int v2), .val (.int v3), .val (.int v4), .val (.int x41), d6] [(.int (160 : Int32)), (.int x41)])) (fun t k => ?_) ?_
        · show Steps p.tables e below (T.setTop (mkF m 151 #[.val (.ref a1), .val (.int v1), .val (.int v2), .val (.int v3), .val (.int v4), .val (.int x41), d6] [(.int (224 : Int32)), (.int v3)])) t
          refine XS.icmpNo X.here hx rfl (hb hby dUtf8_sequenceLength_151) rfl (teq hc151).2 ?_
          show Steps p.tables e below (T.setTop (mkF m 154 #[.val (.ref a1), .val (.int v1), .val (.int v2), .val (.int v3), .val (.int v4), .val (.int x41), d6] [])) t
          refine XS.iload X.here hx rfl (hb hby dUtf8_sequenceLength_154) rfl ?_
          show Steps p.tables e below (T.setTop (mkF m 156 #[.val (.ref a1), .val (.int v1), .val (.int v2), .val (.int v3), .val (.int v4), .val (.int x41), d6] [(.int x41)])) t
          refine XS.sipush X.here hx rfl (hb hby dUtf8_sequenceLength_156) ?_
          exact k
        by_cases hc159 : x41 < (160 : Int32)
        · rw [if_pos hc159] at hF
          refine own_Goes.via (B := T.setTop (mkF m 234 #[.val (.ref a1), .val (.int v1), .val (.int v2), .val (.int v3), .val (.int v4), .val (.int x41), .val (.int (-4 : Int32))] [(.int (-4 : Int32))])) (fun t k => ?_) ?_
          · show Steps p.tables e below (T.setTop (mkF m 159 #[.val (.ref a1), .val (.int v1), .val (.int v2), .val (.int v3), .val (.int v4), .val (.int x41), d6] [(.int (160 : Int32)), (.int x41)])) t
            refine XS.icmpYes X.here hx rfl (pc0 := 159) (pc' := 177) rfl (hb hby dUtf8_sequenceLength_159) rfl (tlt hc159).1 (by decide) (by decide) ?_
            show Steps p.tables e below (T.setTop (mkF m 177 #[.val (.ref a1), .val (.int v1), .val (.int v2), .val (.int v3), .val (.int v4), .val (.int x41), d6] [])) t
            refine XS.bipush X.here hx rfl (hb hby dUtf8_sequenceLength_177) ?_
            show Steps p.tables e below (T.setTop (mkF m 179 #[.val (.ref a1), .val (.int v1), .val (.int v2), .val (.int v3), .val (.int v4), .val (.int x41), d6] [(.int (-4 : Int32))])) t
            refine XS.istoreS X.here hx rfl (hb hby dUtf8_sequenceLength_179) rfl rfl o_d6 ?_
            show Steps p.tables e below (T.setTop (mkF m 181 #[.val (.ref a1), .val (.int v1), .val (.int v2), .val (.int v3), .val (.int v4), .val (.int x41), .val (.int (-4 : Int32))] [])) t
            refine XS.goto X.here hx rfl (pc0 := 181) (pc' := 232) rfl (hb hby dUtf8_sequenceLength_181) (by decide) (by decide) ?_
            show Steps p.tables e below (T.setTop (mkF m 232 #[.val (.ref a1), .val (.int v1), .val (.int v2), .val (.int v3), .val (.int v4), .val (.int x41), .val (.int (-4 : Int32))] [])) t
            refine XS.iload X.here hx rfl (hb hby dUtf8_sequenceLength_232) rfl ?_
            exact k
          obtain rfl : (-4 : Int32) = r := Option.some.inj hF
          exact own_retI X hx hret hlk (hb hby dUtf8_sequenceLength_234) eT ⟨rfl, N, rfl⟩ (by decide) (by decide)
        · rw [if_neg hc159] at hF
          refine own_Goes.via (B := T.setTop (mkF m 162 #[.val (.ref a1), .val (.int v1), .val (.int v2), .val (.int v3), .val (.int v4), .val (.int x41), d6] [])) (fun t k => ?_) ?_
          · show Steps p.tables e below (T.setTop (mkF m 159 #[.val (.ref a1), .val (.int v1), .val (.int v2), .val (.int v3), .val (.int v4), .val (.int x41), d6] [(.int (160 : Int32)), (.int x41)])) t
            refine XS.icmpNo X.here hx rfl (hb hby dUtf8_sequenceLength_159) rfl (flt hc159).1 ?_
            exact k
          exact b_Utf8_sequenceLength_162 cx a1 X eT N z v3 v4 x41 bs_a1 (.val (.ref a1)) (.val (.int v1)) (.val (.int v2)) d6 (One.val rfl) (One.val rfl) (One.val rfl) o_d6 A_a1 g_a1 _ hF
      · rw [if_neg hc151] at hF
        refine own_Goes.via (B := T.setTop (mkF m 162 #[.val (.ref a1), .val (.int v1), .val (.int v2), .val (.int v3), .val (.int v4), .val (.int x41), d6] [])) (fun t k => ?_) ?_
        · show Steps p.tables e below (T.setTop (mkF m 151 #[.val (.ref a1), .val (.int v1), .val (.int v2), .val (.int v3), .val (.int v4), .val (.int x41), d6] [(.int (224 : Int32)), (.int v3)])) t
          refine XS.icmpYes X.here hx rfl (pc0 := 151) (pc' := 162) rfl (hb hby dUtf8_sequenceLength_151) rfl (feq hc151).2 (by decide) (by decide) ?_
          exact k
        exact b_Utf8_sequenceLength_162 cx a1 X eT N z v3 v4 x41 bs_a1 (.val (.ref a1)) (.val (.int v1)) (.val (.int v2)) d6 (One.val rfl) (One.val rfl) (One.val rfl) o_d6 A_a1 g_a1 _ hF
set_option maxRecDepth 65536 in
set_option maxHeartbeats 4000000 in
theorem b_Utf8_sequenceLength {p : Program} {l : Launch} {e : Env} {s : State} {m : MethodId} {args : Array Value} {below : List Frame} {meth : Method} {c : Code} {Z : State} {a0 : Array Value} {n0 : Nat} {hE : Heap} (cx : Cx_Utf8_sequenceLength p s m meth c Z a0) (a1 : Addr) :
    ∀ {T : State} {locs : List Loc} (X : Stand p l e ({ frames := 0, cells := 0, slots := 0, locals := 0 } : Room) s m args below meth c T locs 0 0) (eT : T.heap = hE) (N : Fr n0 locs) (z : n0 ≤ hE.size) (v1 : Int32) (v2 : Int32) (bs_a1 : List Int32) (A_a1 : own_Ar Z hE a1 .byte (bs_a1.map Value.int)) (g_a1 : n0 ≤ a1) (r : Int32), f_Utf8_sequenceLength v1 v2 bs_a1 = some r → own_Goes p e below s (Q_Utf8_sequenceLength Z hE n0 a1 r) 0 0 (T.setTop (mkF m 0 #[.val (.ref a1), .val (.int v1), .val (.int v2), .unset, .unset, .unset, .unset] [])) := by
  have cx' := cx
  obtain ⟨hx, hZ, hw, hby, hml, hown, hret, hlk, hnm⟩ := cx'
  intro T locs X eT N z v1 v2 bs_a1 A_a1 g_a1 r hF
  unfold f_Utf8_sequenceLength at hF
  refine own_Goes.via (B := T.setTop (mkF m 2 #[.val (.ref a1), .val (.int v1), .val (.int v2), .unset, .unset, .unset, .unset] [(.int v1), (.ref a1)])) (fun t k => ?_) ?_
  · show Steps p.tables e below (T.setTop (mkF m 0 #[.val (.ref a1), .val (.int v1), .val (.int v2), .unset, .unset, .unset, .unset] [])) t
    refine XS.aloadN X.here hx rfl (hb hby dUtf8_sequenceLength_0) rfl rfl ?_
    show Steps p.tables e below (T.setTop (mkF m 1 #[.val (.ref a1), .val (.int v1), .val (.int v2), .unset, .unset, .unset, .unset] [(.ref a1)])) t
    refine XS.iloadN X.here hx rfl (hb hby dUtf8_sequenceLength_1) rfl ?_
    exact k
  obtain ⟨hi2, hF⟩ := own_ck_e hF
  refine own_Goes.via (B := T.setTop (mkF m 7 #[.val (.ref a1), .val (.int v1), .val (.int v2), .unset, .unset, .unset, .unset] [(.int ((own_rd bs_a1 v1) &&& (255 : Int32)))])) (fun t k => ?_) ?_
  · show Steps p.tables e below (T.setTop (mkF m 2 #[.val (.ref a1), .val (.int v1), .val (.int v2), .unset, .unset, .unset, .unset] [(.int v1), (.ref a1)])) t
    refine own_ldB X hx hZ eT A_a1 hi2 rfl (g := (mkF m 2 #[.val (.ref a1), .val (.int v1), .val (.int v2), .unset, .unset, .unset, .unset] [(.int v1), (.ref a1)])) rfl rfl (hb hby dUtf8_sequenceLength_2) ?_
    show Steps p.tables e below (T.setTop (mkF m 3 #[.val (.ref a1), .val (.int v1), .val (.int v2), .unset, .unset, .unset, .unset] [(.int (own_rd bs_a1 v1))])) t
    refine XS.sipush X.here hx rfl (hb hby dUtf8_sequenceLength_3) ?_
    show Steps p.tables e below (T.setTop (mkF m 6 #[.val (.ref a1), .val (.int v1), .val (.int v2), .unset, .unset, .unset, .unset] [(.int (255 : Int32)), (.int (own_rd bs_a1 v1))])) t
    refine XS.iand X.here hx rfl (hb hby dUtf8_sequenceLength_6) rfl ?_
    exact k
  obtain ⟨x42, hx42, hF⟩ := own_lt_e hF
  rw [← hx42]
  refine own_Goes.via (B := T.setTop (mkF m 12 #[.val (.ref a1), .val (.int v1), .val (.int v2), .val (.int x42), .unset, .unset, .unset] [(.int (128 : Int32)), (.int x42)])) (fun t k => ?_) ?_
  · show Steps p.tables e below (T.setTop (mkF m 7 #[.val (.ref a1), .val (.int v1), .val (.int v2), .unset, .unset, .unset, .unset] [(.int x42)])) t
    refine XS.istoreN X.here hx rfl (hb hby dUtf8_sequenceLength_7) rfl (l' := #[.val (.ref a1), .val (.int v1), .val (.int v2), .val (.int x42), .unset, .unset, .unset]) rfl ?_
    show Steps p.tables e below (T.setTop (mkF m 8 #[.val (.ref a1), .val (.int v1), .val (.int v2), .val (.int x42), .unset, .unset, .unset] [])) t
    refine XS.iloadN X.here hx rfl (hb hby dUtf8_sequenceLength_8) rfl ?_
    show Steps p.tables e below (T.setTop (mkF m 9 #[.val (.ref a1), .val (.int v1), .val (.int v2), .val (.int x42), .unset, .unset, .unset] [(.int x42)])) t
    refine XS.sipush X.here hx rfl (hb hby dUtf8_sequenceLength_9) ?_
    exact k
  by_cases hc12 : x42 < (128 : Int32)
  · rw [if_pos hc12] at hF
    refine own_Goes.via (B := T.setTop (mkF m 92 #[.val (.ref a1), .val (.int v1), .val (.int v2), .val (.int x42), .val (.int (1 : Int32)), .unset, .unset] [(.int (1 : Int32))])) (fun t k => ?_) ?_
    · show Steps p.tables e below (T.setTop (mkF m 12 #[.val (.ref a1), .val (.int v1), .val (.int v2), .val (.int x42), .unset, .unset, .unset] [(.int (128 : Int32)), (.int x42)])) t
      refine XS.icmpNo X.here hx rfl (hb hby dUtf8_sequenceLength_12) rfl (tlt hc12).2.1 ?_
      show Steps p.tables e below (T.setTop (mkF m 15 #[.val (.ref a1), .val (.int v1), .val (.int v2), .val (.int x42), .unset, .unset, .unset] [])) t
      refine XS.iconst X.here hx rfl (hb hby dUtf8_sequenceLength_15) ?_
      show Steps p.tables e below (T.setTop (mkF m 16 #[.val (.ref a1), .val (.int v1), .val (.int v2), .val (.int x42), .unset, .unset, .unset] [(.int (1 : Int32))])) t
      refine XS.istore X.here hx rfl (hb hby dUtf8_sequenceLength_16) rfl (l' := #[.val (.ref a1), .val (.int v1), .val (.int v2), .val (.int x42), .val (.int (1 : Int32)), .unset, .unset]) rfl ?_
      show Steps p.tables e below (T.setTop (mkF m 18 #[.val (.ref a1), .val (.int v1), .val (.int v2), .val (.int x42), .val (.int (1 : Int32)), .unset, .unset] [])) t
      refine XS.goto X.here hx rfl (pc0 := 18) (pc' := 84) rfl (hb hby dUtf8_sequenceLength_18) (by decide) (by decide) ?_
      show Steps p.tables e below (T.setTop (mkF m 84 #[.val (.ref a1), .val (.int v1), .val (.int v2), .val (.int x42), .val (.int (1 : Int32)), .unset, .unset] [])) t
      refine XS.iload X.here hx rfl (hb hby dUtf8_sequenceLength_84) rfl ?_
      show Steps p.tables e below (T.setTop (mkF m 86 #[.val (.ref a1), .val (.int v1), .val (.int v2), .val (.int x42), .val (.int (1 : Int32)), .unset, .unset] [(.int (1 : Int32))])) t
      refine XS.iconst X.here hx rfl (hb hby dUtf8_sequenceLength_86) ?_
      show Steps p.tables e below (T.setTop (mkF m 87 #[.val (.ref a1), .val (.int v1), .val (.int v2), .val (.int x42), .val (.int (1 : Int32)), .unset, .unset] [(.int (2 : Int32)), (.int (1 : Int32))])) t
      refine XS.icmpNo X.here hx rfl (hb hby dUtf8_sequenceLength_87) rfl (tlt (by decide : (1 : Int32) < (2 : Int32))).2.1 ?_
      show Steps p.tables e below (T.setTop (mkF m 90 #[.val (.ref a1), .val (.int v1), .val (.int v2), .val (.int x42), .val (.int (1 : Int32)), .unset, .unset] [])) t
      refine XS.iload X.here hx rfl (hb hby dUtf8_sequenceLength_90) rfl ?_
      exact k
    obtain rfl : (1 : Int32) = r := Option.some.inj hF
    exact own_retI X hx hret hlk (hb hby dUtf8_sequenceLength_92) eT ⟨rfl, N, rfl⟩ (by decide) (by decide)
  · rw [if_neg hc12] at hF
    refine own_Goes.via (B := T.setTop (mkF m 25 #[.val (.ref a1), .val (.int v1), .val (.int v2), .val (.int x42), .unset, .unset, .unset] [(.int (192 : Int32)), (.int x42)])) (fun t k => ?_) ?_
    · show Steps p.tables e below (T.setTop (mkF m 12 #[.val (.ref a1), .val (.int v1), .val (.int v2), .val (.int x42), .unset, .unset, .unset] [(.int (128 : Int32)), (.int x42)])) t
      refine XS.icmpYes X.here hx rfl (pc0 := 12) (pc' := 21) rfl (hb hby dUtf8_sequenceLength_12) rfl (flt hc12).2.1 (by decide) (by decide) ?_
      show Steps p.tables e below (T.setTop (mkF m 21 #[.val (.ref a1), .val (.int v1), .val (.int v2), .val (.int x42), .unset, .unset, .unset] [])) t
      refine XS.iloadN X.here hx rfl (hb hby dUtf8_sequenceLength_21) rfl ?_
      show Steps p.tables e below (T.setTop (mkF m 22 #[.val (.ref a1), .val (.int v1), .val (.int v2), .val (.int x42), .unset, .unset, .unset] [(.int x42)])) t
      refine XS.sipush X.here hx rfl (hb hby dUtf8_sequenceLength_22) ?_
      exact k
    by_cases hc25 : x42 < (192 : Int32)
    · rw [if_pos hc25] at hF
      refine own_Goes.via (B := T.setTop (mkF m 92 #[.val (.ref a1), .val (.int v1), .val (.int v2), .val (.int x42), .val (.int (-2 : Int32)), .unset, .unset] [(.int (-2 : Int32))])) (fun t k => ?_) ?_
      · show Steps p.tables e below (T.setTop (mkF m 25 #[.val (.ref a1), .val (.int v1), .val (.int v2), .val (.int x42), .unset, .unset, .unset] [(.int (192 : Int32)), (.int x42)])) t
        refine XS.icmpNo X.here hx rfl (hb hby dUtf8_sequenceLength_25) rfl (tlt hc25).2.1 ?_
        show Steps p.tables e below (T.setTop (mkF m 28 #[.val (.ref a1), .val (.int v1), .val (.int v2), .val (.int x42), .unset, .unset, .unset] [])) t
        refine XS.bipush X.here hx rfl (hb hby dUtf8_sequenceLength_28) ?_
        show Steps p.tables e below (T.setTop (mkF m 30 #[.val (.ref a1), .val (.int v1), .val (.int v2), .val (.int x42), .unset, .unset, .unset] [(.int (-2 : Int32))])) t
        refine XS.istore X.here hx rfl (hb hby dUtf8_sequenceLength_30) rfl (l' := #[.val (.ref a1), .val (.int v1), .val (.int v2), .val (.int x42), .val (.int (-2 : Int32)), .unset, .unset]) rfl ?_
        show Steps p.tables e below (T.setTop (mkF m 32 #[.val (.ref a1), .val (.int v1), .val (.int v2), .val (.int x42), .val (.int (-2 : Int32)), .unset, .unset] [])) t
        refine XS.goto X.here hx rfl (pc0 := 32) (pc' := 84) rfl (hb hby dUtf8_sequenceLength_32) (by decide) (by decide) ?_
        show Steps p.tables e below (T.setTop (mkF m 84 #[.val (.ref a1), .val (.int v1), .val (.int v2), .val (.int x42), .val (.int (-2 : Int32)), .unset, .unset] [])) t
        refine XS.iload X.here hx rfl (hb hby dUtf8_sequenceLength_84) rfl ?_
        show Steps p.tables e below (T.setTop (mkF m 86 #[.val (.ref a1), .val (.int v1), .val (.int v2), .val (.int x42), .val (.int (-2 : Int32)), .unset, .unset] [(.int (-2 : Int32))])) t
        refine XS.iconst X.here hx rfl (hb hby dUtf8_sequenceLength_86) ?_
        show Steps p.tables e below (T.setTop (mkF m 87 #[.val (.ref a1), .val (.int v1), .val (.int v2), .val (.int x42), .val (.int (-2 : Int32)), .unset, .unset] [(.int (2 : Int32)), (.int (-2 : Int32))])) t
        refine XS.icmpNo X.here hx rfl (hb hby dUtf8_sequenceLength_87) rfl (tlt (by decide : (-2 : Int32) < (2 : Int32))).2.1 ?_
        show Steps p.tables e below (T.setTop (mkF m 90 #[.val (.ref a1), .val (.int v1), .val (.int v2), .val (.int x42), .val (.int (-2 : Int32)), .unset, .unset] [])) t
        refine XS.iload X.here hx rfl (hb hby dUtf8_sequenceLength_90) rfl ?_
        exact k
      obtain rfl : (-2 : Int32) = r := Option.some.inj hF
      exact own_retI X hx hret hlk (hb hby dUtf8_sequenceLength_92) eT ⟨rfl, N, rfl⟩ (by decide) (by decide)
    · rw [if_neg hc25] at hF
      refine own_Goes.via (B := T.setTop (mkF m 39 #[.val (.ref a1), .val (.int v1), .val (.int v2), .val (.int x42), .unset, .unset, .unset] [(.int (194 : Int32)), (.int x42)])) (fun t k => ?_) ?_
      · show Steps p.tables e below (T.setTop (mkF m 25 #[.val (.ref a1), .val (.int v1), .val (.int v2), .val (.int x42), .unset, .unset, .unset] [(.int (192 : Int32)), (.int x42)])) t
        refine XS.icmpYes X.here hx rfl (pc0 := 25) (pc' := 35) rfl (hb hby dUtf8_sequenceLength_25) rfl (flt hc25).2.1 (by decide) (by decide) ?_
        show Steps p.tables e below (T.setTop (mkF m 35 #[.val (.ref a1), .val (.int v1), .val (.int v2), .val (.int x42), .unset, .unset, .unset] [])) t
        refine XS.iloadN X.here hx rfl (hb hby dUtf8_sequenceLength_35) rfl ?_
        show Steps p.tables e below (T.setTop (mkF m 36 #[.val (.ref a1), .val (.int v1), .val (.int v2), .val (.int x42), .unset, .unset, .unset] [(.int x42)])) t
        refine XS.sipush X.here hx rfl (hb hby dUtf8_sequenceLength_36) ?_
        exact k
      by_cases hc39 : x42 < (194 : Int32)
      · rw [if_pos hc39] at hF
        refine own_Goes.via (B := T.setTop (mkF m 92 #[.val (.ref a1), .val (.int v1), .val (.int v2), .val (.int x42), .val (.int (-1 : Int32)), .unset, .unset] [(.int (-1 : Int32))])) (fun t k => ?_) ?_
        · show Steps p.tables e below (T.setTop (mkF m 39 #[.val (.ref a1), .val (.int v1), .val (.int v2), .val (.int x42), .unset, .unset, .unset] [(.int (194 : Int32)), (.int x42)])) t
          refine XS.icmpYes X.here hx rfl (pc0 := 39) (pc' := 49) rfl (hb hby dUtf8_sequenceLength_39) rfl (tlt hc39).1 (by decide) (by decide) ?_
          show Steps p.tables e below (T.setTop (mkF m 49 #[.val (.ref a1), .val (.int v1), .val (.int v2), .val (.int x42), .unset, .unset, .unset] [])) t
          refine XS.iconst X.here hx rfl (hb hby dUtf8_sequenceLength_49) ?_
          show Steps p.tables e below (T.setTop (mkF m 50 #[.val (.ref a1), .val (.int v1), .val (.int v2), .val (.int x42), .unset, .unset, .unset] [(.int (-1 : Int32))])) t
          refine XS.istore X.here hx rfl (hb hby dUtf8_sequenceLength_50) rfl (l' := #[.val (.ref a1), .val (.int v1), .val (.int v2), .val (.int x42), .val (.int (-1 : Int32)), .unset, .unset]) rfl ?_
          show Steps p.tables e below (T.setTop (mkF m 52 #[.val (.ref a1), .val (.int v1), .val (.int v2), .val (.int x42), .val (.int (-1 : Int32)), .unset, .unset] [])) t
          refine XS.goto X.here hx rfl (pc0 := 52) (pc' := 84) rfl (hb hby dUtf8_sequenceLength_52) (by decide) (by decide) ?_
          show Steps p.tables e below (T.setTop (mkF m 84 #[.val (.ref a1), .val (.int v1), .val (.int v2), .val (.int x42), .val (.int (-1 : Int32)), .unset, .unset] [])) t
          refine XS.iload X.here hx rfl (hb hby dUtf8_sequenceLength_84) rfl ?_
          show Steps p.tables e below (T.setTop (mkF m 86 #[.val (.ref a1), .val (.int v1), .val (.int v2), .val (.int x42), .val (.int (-1 : Int32)), .unset, .unset] [(.int (-1 : Int32))])) t
          refine XS.iconst X.here hx rfl (hb hby dUtf8_sequenceLength_86) ?_
          show Steps p.tables e below (T.setTop (mkF m 87 #[.val (.ref a1), .val (.int v1), .val (.int v2), .val (.int x42), .val (.int (-1 : Int32)), .unset, .unset] [(.int (2 : Int32)), (.int (-1 : Int32))])) t
          refine XS.icmpNo X.here hx rfl (hb hby dUtf8_sequenceLength_87) rfl (tlt (by decide : (-1 : Int32) < (2 : Int32))).2.1 ?_
          show Steps p.tables e below (T.setTop (mkF m 90 #[.val (.ref a1), .val (.int v1), .val (.int v2), .val (.int x42), .val (.int (-1 : Int32)), .unset, .unset] [])) t
          refine XS.iload X.here hx rfl (hb hby dUtf8_sequenceLength_90) rfl ?_
          exact k
        obtain rfl : (-1 : Int32) = r := Option.some.inj hF
        exact own_retI X hx hret hlk (hb hby dUtf8_sequenceLength_92) eT ⟨rfl, N, rfl⟩ (by decide) (by decide)
      · rw [if_neg hc39] at hF
        refine own_Goes.via (B := T.setTop (mkF m 46 #[.val (.ref a1), .val (.int v1), .val (.int v2), .val (.int x42), .unset, .unset, .unset] [(.int (244 : Int32)), (.int x42)])) (fun t k => ?_) ?_
        · show Steps p.tables e below (T.setTop (mkF m 39 #[.val (.ref a1), .val (.int v1), .val (.int v2), .val (.int x42), .unset, .unset, .unset] [(.int (194 : Int32)), (.int x42)])) t
          refine XS.icmpNo X.here hx rfl (hb hby dUtf8_sequenceLength_39) rfl (flt hc39).1 ?_
          show Steps p.tables e below (T.setTop (mkF m 42 #[.val (.ref a1), .val (.int v1), .val (.int v2), .val (.int x42), .unset, .unset, .unset] [])) t
          refine XS.iloadN X.here hx rfl (hb hby dUtf8_sequenceLength_42) rfl ?_
          show Steps p.tables e below (T.setTop (mkF m 43 #[.val (.ref a1), .val (.int v1), .val (.int v2), .val (.int x42), .unset, .unset, .unset] [(.int x42)])) t
          refine XS.sipush X.here hx rfl (hb hby dUtf8_sequenceLength_43) ?_
          exact k
        by_cases hc46 : (244 : Int32) < x42
        · rw [if_pos hc46] at hF
          refine own_Goes.via (B := T.setTop (mkF m 92 #[.val (.ref a1), .val (.int v1), .val (.int v2), .val (.int x42), .val (.int (-1 : Int32)), .unset, .unset] [(.int (-1 : Int32))])) (fun t k => ?_) ?_
          · show Steps p.tables e below (T.setTop (mkF m 46 #[.val (.ref a1), .val (.int v1), .val (.int v2), .val (.int x42), .unset, .unset, .unset] [(.int (244 : Int32)), (.int x42)])) t
            refine XS.icmpNo X.here hx rfl (hb hby dUtf8_sequenceLength_46) rfl (tlt hc46).2.2.2 ?_
            show Steps p.tables e below (T.setTop (mkF m 49 #[.val (.ref a1), .val (.int v1), .val (.int v2), .val (.int x42), .unset, .unset, .unset] [])) t
            refine XS.iconst X.here hx rfl (hb hby dUtf8_sequenceLength_49) ?_
            show Steps p.tables e below (T.setTop (mkF m 50 #[.val (.ref a1), .val (.int v1), .val (.int v2), .val (.int x42), .unset, .unset, .unset] [(.int (-1 : Int32))])) t
            refine XS.istore X.here hx rfl (hb hby dUtf8_sequenceLength_50) rfl (l' := #[.val (.ref a1), .val (.int v1), .val (.int v2), .val (.int x42), .val (.int (-1 : Int32)), .unset, .unset]) rfl ?_
            show Steps p.tables e below (T.setTop (mkF m 52 #[.val (.ref a1), .val (.int v1), .val (.int v2), .val (.int x42), .val (.int (-1 : Int32)), .unset, .unset] [])) t
            refine XS.goto X.here hx rfl (pc0 := 52) (pc' := 84) rfl (hb hby dUtf8_sequenceLength_52) (by decide) (by decide) ?_
            show Steps p.tables e below (T.setTop (mkF m 84 #[.val (.ref a1), .val (.int v1), .val (.int v2), .val (.int x42), .val (.int (-1 : Int32)), .unset, .unset] [])) t
            refine XS.iload X.here hx rfl (hb hby dUtf8_sequenceLength_84) rfl ?_
            show Steps p.tables e below (T.setTop (mkF m 86 #[.val (.ref a1), .val (.int v1), .val (.int v2), .val (.int x42), .val (.int (-1 : Int32)), .unset, .unset] [(.int (-1 : Int32))])) t
            refine XS.iconst X.here hx rfl (hb hby dUtf8_sequenceLength_86) ?_
            show Steps p.tables e below (T.setTop (mkF m 87 #[.val (.ref a1), .val (.int v1), .val (.int v2), .val (.int x42), .val (.int (-1 : Int32)), .unset, .unset] [(.int (2 : Int32)), (.int (-1 : Int32))])) t
            refine XS.icmpNo X.here hx rfl (hb hby dUtf8_sequenceLength_87) rfl (tlt (by decide : (-1 : Int32) < (2 : Int32))).2.1 ?_
            show Steps p.tables e below (T.setTop (mkF m 90 #[.val (.ref a1), .val (.int v1), .val (.int v2), .val (.int x42), .val (.int (-1 : Int32)), .unset, .unset] [])) t
            refine XS.iload X.here hx rfl (hb hby dUtf8_sequenceLength_90) rfl ?_
            exact k
          obtain rfl : (-1 : Int32) = r := Option.some.inj hF
          exact own_retI X hx hret hlk (hb hby dUtf8_sequenceLength_92) eT ⟨rfl, N, rfl⟩ (by decide) (by decide)
        · rw [if_neg hc46] at hF
          refine own_Goes.via (B := T.setTop (mkF m 59 #[.val (.ref a1), .val (.int v1), .val (.int v2), .val (.int x42), .unset, .unset, .unset] [(.int (224 : Int32)), (.int x42)])) (fun t k => ?_) ?_
          · show Steps p.tables e below (T.setTop (mkF m 46 #[.val (.ref a1), .val (.int v1), .val (.int v2), .val (.int x42), .unset, .unset, .unset] [(.int (244 : Int32)), (.int x42)])) t
            refine XS.icmpYes X.here hx rfl (pc0 := 46) (pc' := 55) rfl (hb hby dUtf8_sequenceLength_46) rfl (flt hc46).2.2.2 (by decide) (by decide) ?_
            show Steps p.tables e below (T.setTop (mkF m 55 #[.val (.ref a1), .val (.int v1), .val (.int v2), .val (.int x42), .unset, .unset, .unset] [])) t
            refine XS.iloadN X.here hx rfl (hb hby dUtf8_sequenceLength_55) rfl ?_
            show Steps p.tables e below (T.setTop (mkF m 56 #[.val (.ref a1), .val (.int v1), .val (.int v2), .val (.int x42), .unset, .unset, .unset] [(.int x42)])) t
            refine XS.sipush X.here hx rfl (hb hby dUtf8_sequenceLength_56) ?_
            exact k
          by_cases hc59 : x42 < (224 : Int32)
          · rw [if_pos hc59] at hF
            refine own_Goes.via (B := T.setTop (mkF m 96 #[.val (.ref a1), .val (.int v1), .val (.int v2), .val (.int x42), .val (.int (2 : Int32)), .val (.int (1 : Int32)), .unset] [])) (fun t k => ?_) ?_
            · show Steps p.tables e below (T.setTop (mkF m 59 #[.val (.ref a1), .val (.int v1), .val (.int v2), .val (.int x42), .unset, .unset, .unset] [(.int (224 : Int32)), (.int x42)])) t
              refine XS.icmpNo X.here hx rfl (hb hby dUtf8_sequenceLength_59) rfl (tlt hc59).2.1 ?_
              show Steps p.tables e below (T.setTop (mkF m 62 #[.val (.ref a1), .val (.int v1), .val (.int v2), .val (.int x42), .unset, .unset, .unset] [])) t
              refine XS.iconst X.here hx rfl (hb hby dUtf8_sequenceLength_62) ?_
              show Steps p.tables e below (T.setTop (mkF m 63 #[.val (.ref a1), .val (.int v1), .val (.int v2), .val (.int x42), .unset, .unset, .unset] [(.int (2 : Int32))])) t
              refine XS.istore X.here hx rfl (hb hby dUtf8_sequenceLength_63) rfl (l' := #[.val (.ref a1), .val (.int v1), .val (.int v2), .val (.int x42), .val (.int (2 : Int32)), .unset, .unset]) rfl ?_
              show Steps p.tables e below (T.setTop (mkF m 65 #[.val (.ref a1), .val (.int v1), .val (.int v2), .val (.int x42), .val (.int (2 : Int32)), .unset, .unset] [])) t
              refine XS.goto X.here hx rfl (pc0 := 65) (pc' := 84) rfl (hb hby dUtf8_sequenceLength_65) (by decide) (by decide) ?_
              show Steps p.tables e below (T.setTop (mkF m 84 #[.val (.ref a1), .val (.int v1), .val (.int v2), .val (.int x42), .val (.int (2 : Int32)), .unset, .unset] [])) t
              refine XS.iload X.here hx rfl (hb hby dUtf8_sequenceLength_84) rfl ?_
              show Steps p.tables e below (T.setTop (mkF m 86 #[.val (.ref a1), .val (.int v1), .val (.int v2), .val (.int x42), .val (.int (2 : Int32)), .unset, .unset] [(.int (2 : Int32))])) t
              refine XS.iconst X.here hx rfl (hb hby dUtf8_sequenceLength_86) ?_
              show Steps p.tables e below (T.setTop (mkF m 87 #[.val (.ref a1), .val (.int v1), .val (.int v2), .val (.int x42), .val (.int (2 : Int32)), .unset, .unset] [(.int (2 : Int32)), (.int (2 : Int32))])) t
              refine XS.icmpYes X.here hx rfl (pc0 := 87) (pc' := 93) rfl (hb hby dUtf8_sequenceLength_87) rfl (flt (by decide : ¬ (2 : Int32) < (2 : Int32))).2.1 (by decide) (by decide) ?_
              show Steps p.tables e below (T.setTop (mkF m 93 #[.val (.ref a1), .val (.int v1), .val (.int v2), .val (.int x42), .val (.int (2 : Int32)), .unset, .unset] [])) t
              refine XS.iconst X.here hx rfl (hb hby dUtf8_sequenceLength_93) ?_
              show Steps p.tables e below (T.setTop (mkF m 94 #[.val (.ref a1), .val (.int v1), .val (.int v2), .val (.int x42), .val (.int (2 : Int32)), .unset, .unset] [(.int (1 : Int32))])) t
              refine XS.istore X.here hx rfl (hb hby dUtf8_sequenceLength_94) rfl (l' := #[.val (.ref a1), .val (.int v1), .val (.int v2), .val (.int x42), .val (.int (2 : Int32)), .val (.int (1 : Int32)), .unset]) rfl ?_
              exact k
            exact b_Utf8_sequenceLength_96 cx a1 _ X eT N z v1 v2 x42 (2 : Int32) (1 : Int32) bs_a1 (.unset) One.u A_a1 g_a1 _ hF
          · rw [if_neg hc59] at hF
            refine own_Goes.via (B := T.setTop (mkF m 72 #[.val (.ref a1), .val (.int v1), .val (.int v2), .val (.int x42), .unset, .unset, .unset] [(.int (240 : Int32)), (.int x42)])) (fun t k => ?_) ?_
            · show Steps p.tables e below (T.setTop (mkF m 59 #[.val (.ref a1), .val (.int v1), .val (.int v2), .val (.int x42), .unset, .unset, .unset] [(.int (224 : Int32)), (.int x42)])) t
              refine XS.icmpYes X.here hx rfl (pc0 := 59) (pc' := 68) rfl (hb hby dUtf8_sequenceLength_59) rfl (flt hc59).2.1 (by decide) (by decide) ?_
              show Steps p.tables e below (T.setTop (mkF m 68 #[.val (.ref a1), .val (.int v1), .val (.int v2), .val (.int x42), .unset, .unset, .unset] [])) t
              refine XS.iloadN X.here hx rfl (hb hby dUtf8_sequenceLength_68) rfl ?_
              show Steps p.tables e below (T.setTop (mkF m 69 #[.val (.ref a1), .val (.int v1), .val (.int v2), .val (.int x42), .unset, .unset, .unset] [(.int x42)])) t
              refine XS.sipush X.here hx rfl (hb hby dUtf8_sequenceLength_69) ?_
              exact k
            by_cases hc72 : x42 < (240 : Int32)
            · rw [if_pos hc72] at hF
              refine own_Goes.via (B := T.setTop (mkF m 96 #[.val (.ref a1), .val (.int v1), .val (.int v2), .val (.int x42), .val (.int (3 : Int32)), .val (.int (1 : Int32)), .unset] [])) (fun t k => ?_) ?_
              · show Steps p.tables e below (T.setTop (mkF m 72 #[.val (.ref a1), .val (.int v1), .val (.int v2), .val (.int x42), .unset, .unset, .unset] [(.int (240 : Int32)), (.int x42)])) t
                refine XS.icmpNo X.here hx rfl (hb hby dUtf8_sequenceLength_72) rfl (tlt hc72).2.1 ?_
                show Steps p.tables e below (T.setTop (mkF m 75 #[.val (.ref a1), .val (.int v1), .val (.int v2), .val (.int x42), .unset, .unset, .unset] [])) t
                refine XS.iconst X.here hx rfl (hb hby dUtf8_sequenceLength_75) ?_
                show Steps p.tables e below (T.setTop (mkF m 76 #[.val (.ref a1), .val (.int v1), .val (.int v2), .val (.int x42), .unset, .unset, .unset] [(.int (3 : Int32))])) t
                refine XS.istore X.here hx rfl (hb hby dUtf8_sequenceLength_76) rfl (l' := #[.val (.ref a1), .val (.int v1), .val (.int v2), .val (.int x42), .val (.int (3 : Int32)), .unset, .unset]) rfl ?_
                show Steps p.tables e below (T.setTop (mkF m 78 #[.val (.ref a1), .val (.int v1), .val (.int v2), .val (.int x42), .val (.int (3 : Int32)), .unset, .unset] [])) t
                refine XS.goto X.here hx rfl (pc0 := 78) (pc' := 84) rfl (hb hby dUtf8_sequenceLength_78) (by decide) (by decide) ?_
                show Steps p.tables e below (T.setTop (mkF m 84 #[.val (.ref a1), .val (.int v1), .val (.int v2), .val (.int x42), .val (.int (3 : Int32)), .unset, .unset] [])) t
                refine XS.iload X.here hx rfl (hb hby dUtf8_sequenceLength_84) rfl ?_
                show Steps p.tables e below (T.setTop (mkF m 86 #[.val (.ref a1), .val (.int v1), .val (.int v2), .val (.int x42), .val (.int (3 : Int32)), .unset, .unset] [(.int (3 : Int32))])) t
                refine XS.iconst X.here hx rfl (hb hby dUtf8_sequenceLength_86) ?_
                show Steps p.tables e below (T.setTop (mkF m 87 #[.val (.ref a1), .val (.int v1), .val (.int v2), .val (.int x42), .val (.int (3 : Int32)), .unset, .unset] [(.int (2 : Int32)), (.int (3 : Int32))])) t
                refine XS.icmpYes X.here hx rfl (pc0 := 87) (pc' := 93) rfl (hb hby dUtf8_sequenceLength_87) rfl (flt (by decide : ¬ (3 : Int32) < (2 : Int32))).2.1 (by decide) (by decide) ?_
                show Steps p.tables e below (T.setTop (mkF m 93 #[.val (.ref a1), .val (.int v1), .val (.int v2), .val (.int x42), .val (.int (3 : Int32)), .unset, .unset] [])) t
                refine XS.iconst X.here hx rfl (hb hby dUtf8_sequenceLength_93) ?_
                show Steps p.tables e below (T.setTop (mkF m 94 #[.val (.ref a1), .val (.int v1), .val (.int v2), .val (.int x42), .val (.int (3 : Int32)), .unset, .unset] [(.int (1 : Int32))])) t
                refine XS.istore X.here hx rfl (hb hby dUtf8_sequenceLength_94) rfl (l' := #[.val (.ref a1), .val (.int v1), .val (.int v2), .val (.int x42), .val (.int (3 : Int32)), .val (.int (1 : Int32)), .unset]) rfl ?_
                exact k
              exact b_Utf8_sequenceLength_96 cx a1 _ X eT N z v1 v2 x42 (3 : Int32) (1 : Int32) bs_a1 (.unset) One.u A_a1 g_a1 _ hF
            · rw [if_neg hc72] at hF
              refine own_Goes.via (B := T.setTop (mkF m 96 #[.val (.ref a1), .val (.int v1), .val (.int v2), .val (.int x42), .val (.int (4 : Int32)), .val (.int (1 : Int32)), .unset] [])) (fun t k => ?_) ?_
              · show Steps p.tables e below (T.setTop (mkF m 72 #[.val (.ref a1), .val (.int v1), .val (.int v2), .val (.int x42), .unset, .unset, .unset] [(.int (240 : Int32)), (.int x42)])) t
                refine XS.icmpYes X.here hx rfl (pc0 := 72) (pc' := 81) rfl (hb hby dUtf8_sequenceLength_72) rfl (flt hc72).2.1 (by decide) (by decide) ?_
                show Steps p.tables e below (T.setTop (mkF m 81 #[.val (.ref a1), .val (.int v1), .val (.int v2), .val (.int x42), .unset, .unset, .unset] [])) t
                refine XS.iconst X.here hx rfl (hb hby dUtf8_sequenceLength_81) ?_
                show Steps p.tables e below (T.setTop (mkF m 82 #[.val (.ref a1), .val (.int v1), .val (.int v2), .val (.int x42), .unset, .unset, .unset] [(.int (4 : Int32))])) t
                refine XS.istore X.here hx rfl (hb hby dUtf8_sequenceLength_82) rfl (l' := #[.val (.ref a1), .val (.int v1), .val (.int v2), .val (.int x42), .val (.int (4 : Int32)), .unset, .unset]) rfl ?_
                show Steps p.tables e below (T.setTop (mkF m 84 #[.val (.ref a1), .val (.int v1), .val (.int v2), .val (.int x42), .val (.int (4 : Int32)), .unset, .unset] [])) t
                refine XS.iload X.here hx rfl (hb hby dUtf8_sequenceLength_84) rfl ?_
                show Steps p.tables e below (T.setTop (mkF m 86 #[.val (.ref a1), .val (.int v1), .val (.int v2), .val (.int x42), .val (.int (4 : Int32)), .unset, .unset] [(.int (4 : Int32))])) t
                refine XS.iconst X.here hx rfl (hb hby dUtf8_sequenceLength_86) ?_
                show Steps p.tables e below (T.setTop (mkF m 87 #[.val (.ref a1), .val (.int v1), .val (.int v2), .val (.int x42), .val (.int (4 : Int32)), .unset, .unset] [(.int (2 : Int32)), (.int (4 : Int32))])) t
                refine XS.icmpYes X.here hx rfl (pc0 := 87) (pc' := 93) rfl (hb hby dUtf8_sequenceLength_87) rfl (flt (by decide : ¬ (4 : Int32) < (2 : Int32))).2.1 (by decide) (by decide) ?_
                show Steps p.tables e below (T.setTop (mkF m 93 #[.val (.ref a1), .val (.int v1), .val (.int v2), .val (.int x42), .val (.int (4 : Int32)), .unset, .unset] [])) t
                refine XS.iconst X.here hx rfl (hb hby dUtf8_sequenceLength_93) ?_
                show Steps p.tables e below (T.setTop (mkF m 94 #[.val (.ref a1), .val (.int v1), .val (.int v2), .val (.int x42), .val (.int (4 : Int32)), .unset, .unset] [(.int (1 : Int32))])) t
                refine XS.istore X.here hx rfl (hb hby dUtf8_sequenceLength_94) rfl (l' := #[.val (.ref a1), .val (.int v1), .val (.int v2), .val (.int x42), .val (.int (4 : Int32)), .val (.int (1 : Int32)), .unset]) rfl ?_
                exact k
              exact b_Utf8_sequenceLength_96 cx a1 _ X eT N z v1 v2 x42 (4 : Int32) (1 : Int32) bs_a1 (.unset) One.u A_a1 g_a1 _ hF
theorem ef_Utf8_sequenceLength (m : MethodId) (x0 : Addr) (x1 : Int32) (x2 : Int32) : entryFrame m #[(.ref x0), (.int x1), (.int x2)] 7 = mkF m 0 #[.val (.ref x0), .val (.int x1), .val (.int x2), .unset, .unset, .unset, .unset] [] := by first | (simp [entryFrame, mkF, argsToLocals, Value.category]; done) | rfl
set_option maxRecDepth 65536 in
set_option maxHeartbeats 4000000 in
theorem rm_Utf8_sequenceLength (l : Launch) (Z : State) (a0 : Array Value) (hw : ∀ d ∈ tables_1, d.before a0 Z = true) (ws : List Jvm.Cond) (hE : Heap) (n0 : Nat) (z : n0 ≤ hE.size) (a1 : Addr) (v1 : Int32) (v2 : Int32) (bs_a1 : List Int32) (A_a1 : own_Ar Z hE a1 .byte (bs_a1.map Value.int)) (g_a1 : n0 ≤ a1) (r : Int32) (hF : (f_Utf8_sequenceLength v1 v2 bs_a1) = some r) :
    MetFree l (⟨"com/example/binary64/binary64/Utf8", "sequenceLength", "([BII)I"⟩ : MethodName) (head1 (Jvm.Cond.code (⟨"com/example/binary64/binary64/Utf8", "sequenceLength", "([BII)I"⟩ : MethodName) prog_50_method_2_code 7 (some .int) :: ws) ({ frames := 0, cells := 0, slots := 0, locals := 0 } : Room)) (fun a U => a = #[(.ref a1), (.int v1), (.int v2)] ∧ Z.Warmed39 U.vm ∧ U.heap = hE) (fun _ _ _ _ _ => True) (fun _ U o U' => ∃ v L, o = .returned v ∧ (Q_Utf8_sequenceLength Z hE n0 a1 r) v U'.heap L ∧ FrameEnd U o U' L ({ frames := 0, cells := 0, slots := 0, locals := 0 } : Room).cells ({ frames := 0, cells := 0, slots := 0, locals := 0 } : Room).slots) := by
  refine MetFree.of_bodySF (plainFor_of_name pn_com_example_binary64_binary64_Utf8) hisR ?_
  intro p e s m args below meth c s₁ Bd hml0 hP hK
  obtain ⟨rfl, hZ, hh⟩ := hP
  have X0 : Stand p l e ({ frames := 0, cells := 0, slots := 0, locals := 0 } : Room) s m #[(.ref a1), (.int v1), (.int v2)] below meth c s₁ [] 0 0 := Stand.of_body Bd
  have e0 : s₁.heap = hE := by rw [← hh, Bd.state]; rfl
  have cx : Cx_Utf8_sequenceLength p s m meth c Z a0 := ⟨Bd.exec, hZ, hw, Bd.bytes, hml0, findClass_of_methodNamed Bd.named, Bd.returns, Bd.notSynchronized, (name_of_methodNamed Bd.named Bd.method).1⟩
  show own_Goes p e below s (Q_Utf8_sequenceLength Z hE n0 a1 r) ({ frames := 0, cells := 0, slots := 0, locals := 0 } : Room).cells ({ frames := 0, cells := 0, slots := 0, locals := 0 } : Room).slots (s₁.setTop (entryFrame m #[(.ref a1), (.int v1), (.int v2)] 7))
  rw [ef_Utf8_sequenceLength]
  exact b_Utf8_sequenceLength cx a1 X0 e0 (Fr.nil n0) z v1 v2 bs_a1 A_a1 g_a1 _ hF
/-! com/example/binary64/binary64/Utf8SequenceLengthPinLaw.cont:(I)Z -/
def f_Utf8SequenceLengthPinLaw_cont (v0 : Int32) : Option (Int32) :=
  if ((v0.toUInt32 >>> ((6 : Int32) &&& 31).toUInt32).toInt32) = (2 : Int32) then
    some (1 : Int32)
  else
    some (0 : Int32)
def Q_Utf8SequenceLengthPinLaw_cont (Z : State) (hE : Heap) (n0 : Nat)  (r : Int32) (v : Option Value) (h : Heap) (L : List Loc) : Prop := v = some (.int r) ∧ Fr n0 L ∧ h = hE
def Cx_Utf8SequenceLengthPinLaw_cont (p : Program) (s : State) (m : MethodId) (meth : Method) (c : Code) (Z : State) (a0 : Array Value) : Prop := p.tables.exec = Jvm.exec ∧ Z.Warmed39 s.vm ∧ (∀ d ∈ tables_1, d.before a0 Z = true) ∧ c.code = method_3_code ∧ c.maxLocals = 1 ∧ s.vm.findClass "com/example/binary64/binary64/Utf8SequenceLengthPinLaw" = some m.cls ∧ meth.sig.returnType = some .boolean ∧ meth.locks = false ∧ meth.name = "cont"
set_option maxRecDepth 65536 in
set_option maxHeartbeats 4000000 in
theorem b_Utf8SequenceLengthPinLaw_cont {p : Program} {l : Launch} {e : Env} {s : State} {m : MethodId} {args : Array Value} {below : List Frame} {meth : Method} {c : Code} {Z : State} {a0 : Array Value} {n0 : Nat} {hE : Heap} (cx : Cx_Utf8SequenceLengthPinLaw_cont p s m meth c Z a0) :
    ∀ {T : State} {locs : List Loc} (X : Stand p l e ({ frames := 0, cells := 0, slots := 0, locals := 0 } : Room) s m args below meth c T locs 0 0) (eT : T.heap = hE) (N : Fr n0 locs) (z : n0 ≤ hE.size) (v0 : Int32) (r : Int32), f_Utf8SequenceLengthPinLaw_cont v0 = some r → own_Goes p e below s (Q_Utf8SequenceLengthPinLaw_cont Z hE n0 r) 0 0 (T.setTop (mkF m 0 #[.val (.int v0)] [])) := by
  have cx' := cx
  obtain ⟨hx, hZ, hw, hby, hml, hown, hret, hlk, hnm⟩ := cx'
  intro T locs X eT N z v0 r hF
  unfold f_Utf8SequenceLengthPinLaw_cont at hF
  refine own_Goes.via (B := T.setTop (mkF m 5 #[.val (.int v0)] [(.int (2 : Int32)), (.int ((v0.toUInt32 >>> ((6 : Int32) &&& 31).toUInt32).toInt32))])) (fun t k => ?_) ?_
  · show Steps p.tables e below (T.setTop (mkF m 0 #[.val (.int v0)] [])) t
    refine XS.iloadN X.here hx rfl (hb hby dUtf8SequenceLengthPinLaw_cont_0) rfl ?_
    show Steps p.tables e below (T.setTop (mkF m 1 #[.val (.int v0)] [(.int v0)])) t
    refine XS.bipush X.here hx rfl (hb hby dUtf8SequenceLengthPinLaw_cont_1) ?_
    show Steps p.tables e below (T.setTop (mkF m 3 #[.val (.int v0)] [(.int (6 : Int32)), (.int v0)])) t
    refine XS.iushr X.here hx rfl (hb hby dUtf8SequenceLengthPinLaw_cont_3) rfl ?_
    show Steps p.tables e below (T.setTop (mkF m 4 #[.val (.int v0)] [(.int ((v0.toUInt32 >>> ((6 : Int32) &&& 31).toUInt32).toInt32))])) t
    refine XS.iconst X.here hx rfl (hb hby dUtf8SequenceLengthPinLaw_cont_4) ?_
    exact k
  by_cases hc5 : ((v0.toUInt32 >>> ((6 : Int32) &&& 31).toUInt32).toInt32) = (2 : Int32)
  · rw [if_pos hc5] at hF
    refine own_Goes.via (B := T.setTop (mkF m 13 #[.val (.int v0)] [(.int (1 : Int32))])) (fun t k => ?_) ?_
    · show Steps p.tables e below (T.setTop (mkF m 5 #[.val (.int v0)] [(.int (2 : Int32)), (.int ((v0.toUInt32 >>> ((6 : Int32) &&& 31).toUInt32).toInt32))])) t
      refine XS.icmpNo X.here hx rfl (hb hby dUtf8SequenceLengthPinLaw_cont_5) rfl (teq hc5).2 ?_
      show Steps p.tables e below (T.setTop (mkF m 8 #[.val (.int v0)] [])) t
      refine XS.iconst X.here hx rfl (hb hby dUtf8SequenceLengthPinLaw_cont_8) ?_
      show Steps p.tables e below (T.setTop (mkF m 9 #[.val (.int v0)] [(.int (1 : Int32))])) t
      refine XS.goto X.here hx rfl (pc0 := 9) (pc' := 13) rfl (hb hby dUtf8SequenceLengthPinLaw_cont_9) (by decide) (by decide) ?_
      exact k
    obtain rfl : (1 : Int32) = r := Option.some.inj hF
    exact own_retN X hx (t := .boolean) hret hlk (by simp) (hb hby dUtf8SequenceLengthPinLaw_cont_13) eT (v := (1 : Int32)) (by decide) ⟨rfl, N, rfl⟩ (by decide) (by decide)
  · rw [if_neg hc5] at hF
    refine own_Goes.via (B := T.setTop (mkF m 13 #[.val (.int v0)] [(.int (0 : Int32))])) (fun t k => ?_) ?_
    · show Steps p.tables e below (T.setTop (mkF m 5 #[.val (.int v0)] [(.int (2 : Int32)), (.int ((v0.toUInt32 >>> ((6 : Int32) &&& 31).toUInt32).toInt32))])) t
      refine XS.icmpYes X.here hx rfl (pc0 := 5) (pc' := 12) rfl (hb hby dUtf8SequenceLengthPinLaw_cont_5) rfl (feq hc5).2 (by decide) (by decide) ?_
      show Steps p.tables e below (T.setTop (mkF m 12 #[.val (.int v0)] [])) t
      refine XS.iconst X.here hx rfl (hb hby dUtf8SequenceLengthPinLaw_cont_12) ?_
      exact k
    obtain rfl : (0 : Int32) = r := Option.some.inj hF
    exact own_retN X hx (t := .boolean) hret hlk (by simp) (hb hby dUtf8SequenceLengthPinLaw_cont_13) eT (v := (0 : Int32)) (by decide) ⟨rfl, N, rfl⟩ (by decide) (by decide)
theorem ef_Utf8SequenceLengthPinLaw_cont (m : MethodId) (x0 : Int32) : entryFrame m #[(.int x0)] 1 = mkF m 0 #[.val (.int x0)] [] := by first | (simp [entryFrame, mkF, argsToLocals, Value.category]; done) | rfl
set_option maxRecDepth 65536 in
set_option maxHeartbeats 4000000 in
theorem rm_Utf8SequenceLengthPinLaw_cont (l : Launch) (Z : State) (a0 : Array Value) (hw : ∀ d ∈ tables_1, d.before a0 Z = true) (ws : List Jvm.Cond) (hE : Heap) (n0 : Nat) (z : n0 ≤ hE.size)  (v0 : Int32) (r : Int32) (hF : (f_Utf8SequenceLengthPinLaw_cont v0) = some r) :
    MetFree l (⟨"com/example/binary64/binary64/Utf8SequenceLengthPinLaw", "cont", "(I)Z"⟩ : MethodName) (head1 (Jvm.Cond.code (⟨"com/example/binary64/binary64/Utf8SequenceLengthPinLaw", "cont", "(I)Z"⟩ : MethodName) method_3_code 1 (some .boolean) :: ws) ({ frames := 0, cells := 0, slots := 0, locals := 0 } : Room)) (fun a U => a = #[(.int v0)] ∧ Z.Warmed39 U.vm ∧ U.heap = hE) (fun _ _ _ _ _ => True) (fun _ U o U' => ∃ v L, o = .returned v ∧ (Q_Utf8SequenceLengthPinLaw_cont Z hE n0 r) v U'.heap L ∧ FrameEnd U o U' L ({ frames := 0, cells := 0, slots := 0, locals := 0 } : Room).cells ({ frames := 0, cells := 0, slots := 0, locals := 0 } : Room).slots) := by
  refine MetFree.of_bodySF (plainFor_of_name pn_com_example_binary64_binary64_Utf8SequenceLengthPinLaw) hisR ?_
  intro p e s m args below meth c s₁ Bd hml0 hP hK
  obtain ⟨rfl, hZ, hh⟩ := hP
  have X0 : Stand p l e ({ frames := 0, cells := 0, slots := 0, locals := 0 } : Room) s m #[(.int v0)] below meth c s₁ [] 0 0 := Stand.of_body Bd
  have e0 : s₁.heap = hE := by rw [← hh, Bd.state]; rfl
  have cx : Cx_Utf8SequenceLengthPinLaw_cont p s m meth c Z a0 := ⟨Bd.exec, hZ, hw, Bd.bytes, hml0, findClass_of_methodNamed Bd.named, Bd.returns, Bd.notSynchronized, (name_of_methodNamed Bd.named Bd.method).1⟩
  show own_Goes p e below s (Q_Utf8SequenceLengthPinLaw_cont Z hE n0 r) ({ frames := 0, cells := 0, slots := 0, locals := 0 } : Room).cells ({ frames := 0, cells := 0, slots := 0, locals := 0 } : Room).slots (s₁.setTop (entryFrame m #[(.int v0)] 1))
  rw [ef_Utf8SequenceLengthPinLaw_cont]
  exact b_Utf8SequenceLengthPinLaw_cont cx X0 e0 (Fr.nil n0) z v0 _ hF
/-! com/example/binary64/binary64/Utf8SequenceLengthPinLaw.expected:(IIIII)I -/
def f_Utf8SequenceLengthPinLaw_expected_130 (v0 : Int32) (v1 : Int32) (v2 : Int32) (v3 : Int32) (v5 : Int32) (t0 : Int32) : Option (Int32) :=
  if t0 = (0 : Int32) then
    some (-3 : Int32)
  else
    if v5 = (2 : Int32) then
      some (2 : Int32)
    else
      if v5 = (3 : Int32) then
        own_lt ((((v0 &&& (15 : Int32)) <<< ((12 : Int32) &&& 31)) ||| ((v1 &&& (63 : Int32)) <<< ((6 : Int32) &&& 31))) ||| (v2 &&& (63 : Int32))) fun x61 =>
        if x61 < (2048 : Int32) then
          some (-4 : Int32)
        else
          if x61 < (55296 : Int32) then
            some (3 : Int32)
          else
            if (57343 : Int32) < x61 then
              some (3 : Int32)
            else
              some (-5 : Int32)
      else
        own_lt (((((v0 &&& (7 : Int32)) <<< ((18 : Int32) &&& 31)) ||| ((v1 &&& (63 : Int32)) <<< ((12 : Int32) &&& 31))) ||| ((v2 &&& (63 : Int32)) <<< ((6 : Int32) &&& 31))) ||| (v3 &&& (63 : Int32))) fun x62 =>
        if x62 < (65536 : Int32) then
          some (-4 : Int32)
        else
          if (1114111 : Int32) < x62 then
            some (-6 : Int32)
          else
            some (4 : Int32)
def f_Utf8SequenceLengthPinLaw_expected_106 (v0 : Int32) (v1 : Int32) (v2 : Int32) (v3 : Int32) (v4 : Int32) (v5 : Int32) : Option (Int32) :=
  if v5 < (4 : Int32) then
    (f_Utf8SequenceLengthPinLaw_expected_130 v0 v1 v2 v3 v5 (1 : Int32))
  else
    if (3 : Int32) < v4 then
      own_bd (f_Utf8SequenceLengthPinLaw_cont v3) fun r64 =>
      if r64 = (0 : Int32) then
        (f_Utf8SequenceLengthPinLaw_expected_130 v0 v1 v2 v3 v5 (0 : Int32))
      else
        (f_Utf8SequenceLengthPinLaw_expected_130 v0 v1 v2 v3 v5 (1 : Int32))
    else
      (f_Utf8SequenceLengthPinLaw_expected_130 v0 v1 v2 v3 v5 (0 : Int32))
def f_Utf8SequenceLengthPinLaw_expected_74 (v0 : Int32) (v1 : Int32) (v2 : Int32) (v3 : Int32) (v4 : Int32) (v5 : Int32) : Option (Int32) :=
  if (1 : Int32) < v4 then
    own_bd (f_Utf8SequenceLengthPinLaw_cont v1) fun r66 =>
    if r66 = (0 : Int32) then
      (f_Utf8SequenceLengthPinLaw_expected_130 v0 v1 v2 v3 v5 (0 : Int32))
    else
      if v5 < (3 : Int32) then
        (f_Utf8SequenceLengthPinLaw_expected_106 v0 v1 v2 v3 v4 v5)
      else
        if (2 : Int32) < v4 then
          own_bd (f_Utf8SequenceLengthPinLaw_cont v2) fun r67 =>
          if r67 = (0 : Int32) then
            (f_Utf8SequenceLengthPinLaw_expected_130 v0 v1 v2 v3 v5 (0 : Int32))
          else
            (f_Utf8SequenceLengthPinLaw_expected_106 v0 v1 v2 v3 v4 v5)
        else
          (f_Utf8SequenceLengthPinLaw_expected_130 v0 v1 v2 v3 v5 (0 : Int32))
  else
    (f_Utf8SequenceLengthPinLaw_expected_130 v0 v1 v2 v3 v5 (0 : Int32))
def f_Utf8SequenceLengthPinLaw_expected (v0 : Int32) (v1 : Int32) (v2 : Int32) (v3 : Int32) (v4 : Int32) : Option (Int32) :=
  if ((v0.toUInt32 >>> ((7 : Int32) &&& 31).toUInt32).toInt32) = (0 : Int32) then
    some (1 : Int32)
  else
    if ((v0.toUInt32 >>> ((6 : Int32) &&& 31).toUInt32).toInt32) = (2 : Int32) then
      some (-2 : Int32)
    else
      if v0 = (192 : Int32) then
        some (-1 : Int32)
      else
        if v0 = (193 : Int32) then
          some (-1 : Int32)
        else
          if v0 < (245 : Int32) then
            if ((v0.toUInt32 >>> ((5 : Int32) &&& 31).toUInt32).toInt32) = (6 : Int32) then
              (f_Utf8SequenceLengthPinLaw_expected_74 v0 v1 v2 v3 v4 (2 : Int32))
            else
              if ((v0.toUInt32 >>> ((4 : Int32) &&& 31).toUInt32).toInt32) = (14 : Int32) then
                (f_Utf8SequenceLengthPinLaw_expected_74 v0 v1 v2 v3 v4 (3 : Int32))
              else
                (f_Utf8SequenceLengthPinLaw_expected_74 v0 v1 v2 v3 v4 (4 : Int32))
          else
            some (-1 : Int32)
def Q_Utf8SequenceLengthPinLaw_expected (Z : State) (hE : Heap) (n0 : Nat)  (r : Int32) (v : Option Value) (h : Heap) (L : List Loc) : Prop := v = some (.int r) ∧ Fr n0 L ∧ h = hE
def Cx_Utf8SequenceLengthPinLaw_expected (p : Program) (s : State) (m : MethodId) (meth : Method) (c : Code) (Z : State) (a0 : Array Value) : Prop := p.tables.exec = Jvm.exec ∧ Z.Warmed39 s.vm ∧ (∀ d ∈ tables_1, d.before a0 Z = true) ∧ c.code = method_4_code ∧ c.maxLocals = 8 ∧ s.vm.findClass "com/example/binary64/binary64/Utf8SequenceLengthPinLaw" = some m.cls ∧ meth.sig.returnType = some .int ∧ meth.locks = false ∧ meth.name = "expected"
set_option maxRecDepth 65536 in
set_option maxHeartbeats 4000000 in
theorem b_Utf8SequenceLengthPinLaw_expected_130 {p : Program} {l : Launch} {e : Env} {s : State} {m : MethodId} {args : Array Value} {below : List Frame} {meth : Method} {c : Code} {Z : State} {a0 : Array Value} {n0 : Nat} {hE : Heap} (cx : Cx_Utf8SequenceLengthPinLaw_expected p s m meth c Z a0) :
    ∀ {T : State} {locs : List Loc} (X : Stand p l e ({ frames := 1, cells := 0, slots := 0, locals := 12 } : Room) s m args below meth c T locs 0 0) (eT : T.heap = hE) (N : Fr n0 locs) (z : n0 ≤ hE.size) (v0 : Int32) (v1 : Int32) (v2 : Int32) (v3 : Int32) (v5 : Int32) (t0 : Int32) (d4 : Slot) (d6 : Slot) (d7 : Slot) (o_d4 : One d4) (o_d6 : One d6) (o_d7 : One d7) (r : Int32), f_Utf8SequenceLengthPinLaw_expected_130 v0 v1 v2 v3 v5 t0 = some r → own_Goes p e below s (Q_Utf8SequenceLengthPinLaw_expected Z hE n0 r) 0 0 (T.setTop (mkF m 130 #[.val (.int v0), .val (.int v1), .val (.int v2), .val (.int v3), d4, .val (.int v5), d6, d7] [(.int t0)])) := by
  have cx' := cx
  obtain ⟨hx, hZ, hw, hby, hml, hown, hret, hlk, hnm⟩ := cx'
  intro T locs X eT N z v0 v1 v2 v3 v5 t0 d4 d6 d7 o_d4 o_d6 o_d7 r hF
  unfold f_Utf8SequenceLengthPinLaw_expected_130 at hF
  refine own_Goes.via (B := T.setTop (mkF m 134 #[.val (.int v0), .val (.int v1), .val (.int v2), .val (.int v3), d4, .val (.int v5), .val (.int t0), d7] [(.int t0)])) (fun t k => ?_) ?_
  · show Steps p.tables e below (T.setTop (mkF m 130 #[.val (.int v0), .val (.int v1), .val (.int v2), .val (.int v3), d4, .val (.int v5), d6, d7] [(.int t0)])) t
    refine XS.istoreS X.here hx rfl (hb hby dUtf8SequenceLengthPinLaw_expected_130) rfl rfl o_d6 ?_
    show Steps p.tables e below (T.setTop (mkF m 132 #[.val (.int v0), .val (.int v1), .val (.int v2), .val (.int v3), d4, .val (.int v5), .val (.int t0), d7] [])) t
    refine XS.iload X.here hx rfl (hb hby dUtf8SequenceLengthPinLaw_expected_132) rfl ?_
    exact k
  by_cases hc134 : t0 = (0 : Int32)
  · rw [if_pos hc134] at hF
    refine own_Goes.via (B := T.setTop (mkF m 139 #[.val (.int v0), .val (.int v1), .val (.int v2), .val (.int v3), d4, .val (.int v5), .val (.int t0), d7] [(.int (-3 : Int32))])) (fun t k => ?_) ?_
    · show Steps p.tables e below (T.setTop (mkF m 134 #[.val (.int v0), .val (.int v1), .val (.int v2), .val (.int v3), d4, .val (.int v5), .val (.int t0), d7] [(.int t0)])) t
      refine XS.ifNo X.here hx rfl (hb hby dUtf8SequenceLengthPinLaw_expected_134) rfl ((if0 _ _).trans (teq hc134).2) ?_
      show Steps p.tables e below (T.setTop (mkF m 137 #[.val (.int v0), .val (.int v1), .val (.int v2), .val (.int v3), d4, .val (.int v5), .val (.int t0), d7] [])) t
      refine XS.bipush X.here hx rfl (hb hby dUtf8SequenceLengthPinLaw_expected_137) ?_
      exact k
    obtain rfl : (-3 : Int32) = r := Option.some.inj hF
    exact own_retI X hx hret hlk (hb hby dUtf8SequenceLengthPinLaw_expected_139) eT ⟨rfl, N, rfl⟩ (by decide) (by decide)
  · rw [if_neg hc134] at hF
    refine own_Goes.via (B := T.setTop (mkF m 143 #[.val (.int v0), .val (.int v1), .val (.int v2), .val (.int v3), d4, .val (.int v5), .val (.int t0), d7] [(.int (2 : Int32)), (.int v5)])) (fun t k => ?_) ?_
    · show Steps p.tables e below (T.setTop (mkF m 134 #[.val (.int v0), .val (.int v1), .val (.int v2), .val (.int v3), d4, .val (.int v5), .val (.int t0), d7] [(.int t0)])) t
      refine XS.ifYes X.here hx rfl (pc0 := 134) (pc' := 140) rfl (hb hby dUtf8SequenceLengthPinLaw_expected_134) rfl ((if0 _ _).trans (feq hc134).2) (by decide) (by decide) ?_
      show Steps p.tables e below (T.setTop (mkF m 140 #[.val (.int v0), .val (.int v1), .val (.int v2), .val (.int v3), d4, .val (.int v5), .val (.int t0), d7] [])) t
      refine XS.iload X.here hx rfl (hb hby dUtf8SequenceLengthPinLaw_expected_140) rfl ?_
      show Steps p.tables e below (T.setTop (mkF m 142 #[.val (.int v0), .val (.int v1), .val (.int v2), .val (.int v3), d4, .val (.int v5), .val (.int t0), d7] [(.int v5)])) t
      refine XS.iconst X.here hx rfl (hb hby dUtf8SequenceLengthPinLaw_expected_142) ?_
      exact k
    by_cases hc143 : v5 = (2 : Int32)
    · rw [if_pos hc143] at hF
      refine own_Goes.via (B := T.setTop (mkF m 147 #[.val (.int v0), .val (.int v1), .val (.int v2), .val (.int v3), d4, .val (.int v5), .val (.int t0), d7] [(.int (2 : Int32))])) (fun t k => ?_) ?_
      · show Steps p.tables e below (T.setTop (mkF m 143 #[.val (.int v0), .val (.int v1), .val (.int v2), .val (.int v3), d4, .val (.int v5), .val (.int t0), d7] [(.int (2 : Int32)), (.int v5)])) t
        refine XS.icmpNo X.here hx rfl (hb hby dUtf8SequenceLengthPinLaw_expected_143) rfl (teq hc143).2 ?_
        show Steps p.tables e below (T.setTop (mkF m 146 #[.val (.int v0), .val (.int v1), .val (.int v2), .val (.int v3), d4, .val (.int v5), .val (.int t0), d7] [])) t
        refine XS.iconst X.here hx rfl (hb hby dUtf8SequenceLengthPinLaw_expected_146) ?_
        exact k
      obtain rfl : (2 : Int32) = r := Option.some.inj hF
      exact own_retI X hx hret hlk (hb hby dUtf8SequenceLengthPinLaw_expected_147) eT ⟨rfl, N, rfl⟩ (by decide) (by decide)
    · rw [if_neg hc143] at hF
      refine own_Goes.via (B := T.setTop (mkF m 151 #[.val (.int v0), .val (.int v1), .val (.int v2), .val (.int v3), d4, .val (.int v5), .val (.int t0), d7] [(.int (3 : Int32)), (.int v5)])) (fun t k => ?_) ?_
      · show Steps p.tables e below (T.setTop (mkF m 143 #[.val (.int v0), .val (.int v1), .val (.int v2), .val (.int v3), d4, .val (.int v5), .val (.int t0), d7] [(.int (2 : Int32)), (.int v5)])) t
        refine XS.icmpYes X.here hx rfl (pc0 := 143) (pc' := 148) rfl (hb hby dUtf8SequenceLengthPinLaw_expected_143) rfl (feq hc143).2 (by decide) (by decide) ?_
        show Steps p.tables e below (T.setTop (mkF m 148 #[.val (.int v0), .val (.int v1), .val (.int v2), .val (.int v3), d4, .val (.int v5), .val (.int t0), d7] [])) t
        refine XS.iload X.here hx rfl (hb hby dUtf8SequenceLengthPinLaw_expected_148) rfl ?_
        show Steps p.tables e below (T.setTop (mkF m 150 #[.val (.int v0), .val (.int v1), .val (.int v2), .val (.int v3), d4, .val (.int v5), .val (.int t0), d7] [(.int v5)])) t
        refine XS.iconst X.here hx rfl (hb hby dUtf8SequenceLengthPinLaw_expected_150) ?_
        exact k
      by_cases hc151 : v5 = (3 : Int32)
      · rw [if_pos hc151] at hF
        refine own_Goes.via (B := T.setTop (mkF m 174 #[.val (.int v0), .val (.int v1), .val (.int v2), .val (.int v3), d4, .val (.int v5), .val (.int t0), d7] [(.int ((((v0 &&& (15 : Int32)) <<< ((12 : Int32) &&& 31)) ||| ((v1 &&& (63 : Int32)) <<< ((6 : Int32) &&& 31))) ||| (v2 &&& (63 : Int32))))])) (fun t k => ?_) ?_
        · show Steps p.tables e below (T.setTop (mkF m 151 #[.val (.int v0), .val (.int v1), .val (.int v2), .val (.int v3), d4, .val (.int v5), .val (.int t0), d7] [(.int (3 : Int32)), (.int v5)])) t
          refine XS.icmpNo X.here hx rfl (hb hby dUtf8SequenceLengthPinLaw_expected_151) rfl (teq hc151).2 ?_
          show Steps p.tables e below (T.setTop (mkF m 154 #[.val (.int v0), .val (.int v1), .val (.int v2), .val (.int v3), d4, .val (.int v5), .val (.int t0), d7] [])) t
          refine XS.iloadN X.here hx rfl (hb hby dUtf8SequenceLengthPinLaw_expected_154) rfl ?_
          show Steps p.tables e below (T.setTop (mkF m 155 #[.val (.int v0), .val (.int v1), .val (.int v2), .val (.int v3), d4, .val (.int v5), .val (.int t0), d7] [(.int v0)])) t
          refine XS.bipush X.here hx rfl (hb hby dUtf8SequenceLengthPinLaw_expected_155) ?_
          show Steps p.tables e below (T.setTop (mkF m 157 #[.val (.int v0), .val (.int v1), .val (.int v2), .val (.int v3), d4, .val (.int v5), .val (.int t0), d7] [(.int (15 : Int32)), (.int v0)])) t
          refine XS.iand X.here hx rfl (hb hby dUtf8SequenceLengthPinLaw_expected_157) rfl ?_
          show Steps p.tables e below (T.setTop (mkF m 158 #[.val (.int v0), .val (.int v1), .val (.int v2), .val (.int v3), d4, .val (.int v5), .val (.int t0), d7] [(.int (v0 &&& (15 : Int32)))])) t
          refine XS.bipush X.here hx rfl (hb hby dUtf8SequenceLengthPinLaw_expected_158) ?_
          show Steps p.tables e below (T.setTop (mkF m 160 #[.val (.int v0), .val (.int v1), .val (.int v2), .val (.int v3), d4, .val (.int v5), .val (.int t0), d7] [(.int (12 : Int32)), (.int (v0 &&& (15 : Int32)))])) t
          refine XS.ishl X.here hx rfl (hb hby dUtf8SequenceLengthPinLaw_expected_160) rfl ?_
          show Steps p.tables e below (T.setTop (mkF m 161 #[.val (.int v0), .val (.int v1), .val (.int v2), .val (.int v3), d4, .val (.int v5), .val (.int t0), d7] [(.int ((v0 &&& (15 : Int32)) <<< ((12 : Int32) &&& 31)))])) t
          refine XS.iloadN X.here hx rfl (hb hby dUtf8SequenceLengthPinLaw_expected_161) rfl ?_
          show Steps p.tables e below (T.setTop (mkF m 162 #[.val (.int v0), .val (.int v1), .val (.int v2), .val (.int v3), d4, .val (.int v5), .val (.int t0), d7] [(.int v1), (.int ((v0 &&& (15 : Int32)) <<< ((12 : Int32) &&& 31)))])) t
          refine XS.bipush X.here hx rfl (hb hby dUtf8SequenceLengthPinLaw_expected_162) ?_
          show Steps p.tables e below (T.setTop (mkF m 164 #[.val (.int v0), .val (.int v1), .val (.int v2), .val (.int v3), d4, .val (.int v5), .val (.int t0), d7] [(.int (63 : Int32)), (.int v1), (.int ((v0 &&& (15 : Int32)) <<< ((12 : Int32) &&& 31)))])) t
          refine XS.iand X.here hx rfl (hb hby dUtf8SequenceLengthPinLaw_expected_164) rfl ?_
          show Steps p.tables e below (T.setTop (mkF m 165 #[.val (.int v0), .val (.int v1), .val (.int v2), .val (.int v3), d4, .val (.int v5), .val (.int t0), d7] [(.int (v1 &&& (63 : Int32))), (.int ((v0 &&& (15 : Int32)) <<< ((12 : Int32) &&& 31)))])) t
          refine XS.bipush X.here hx rfl (hb hby dUtf8SequenceLengthPinLaw_expected_165) ?_
          show Steps p.tables e below (T.setTop (mkF m 167 #[.val (.int v0), .val (.int v1), .val (.int v2), .val (.int v3), d4, .val (.int v5), .val (.int t0), d7] [(.int (6 : Int32)), (.int (v1 &&& (63 : Int32))), (.int ((v0 &&& (15 : Int32)) <<< ((12 : Int32) &&& 31)))])) t
          refine XS.ishl X.here hx rfl (hb hby dUtf8SequenceLengthPinLaw_expected_167) rfl ?_
          show Steps p.tables e below (T.setTop (mkF m 168 #[.val (.int v0), .val (.int v1), .val (.int v2), .val (.int v3), d4, .val (.int v5), .val (.int t0), d7] [(.int ((v1 &&& (63 : Int32)) <<< ((6 : Int32) &&& 31))), (.int ((v0 &&& (15 : Int32)) <<< ((12 : Int32) &&& 31)))])) t
          refine XS.ior X.here hx rfl (hb hby dUtf8SequenceLengthPinLaw_expected_168) rfl ?_
          show Steps p.tables e below (T.setTop (mkF m 169 #[.val (.int v0), .val (.int v1), .val (.int v2), .val (.int v3), d4, .val (.int v5), .val (.int t0), d7] [(.int (((v0 &&& (15 : Int32)) <<< ((12 : Int32) &&& 31)) ||| ((v1 &&& (63 : Int32)) <<< ((6 : Int32) &&& 31))))])) t
          refine XS.iloadN X.here hx rfl (hb hby dUtf8SequenceLengthPinLaw_expected_169) rfl ?_
          show Steps p.tables e below (T.setTop (mkF m 170 #[.val (.int v0), .val (.int v1), .val (.int v2), .val (.int v3), d4, .val (.int v5), .val (.int t0), d7] [(.int v2), (.int (((v0 &&& (15 : Int32)) <<< ((12 : Int32) &&& 31)) ||| ((v1 &&& (63 : Int32)) <<< ((6 : Int32) &&& 31))))])) t
          refine XS.bipush X.here hx rfl (hb hby dUtf8SequenceLengthPinLaw_expected_170) ?_
          show Steps p.tables e below (T.setTop (mkF m 172 #[.val (.int v0), .val (.int v1), .val (.int v2), .val (.int v3), d4, .val (.int v5), .val (.int t0), d7] [(.int (63 : Int32)), (.int v2), (.int (((v0 &&& (15 : Int32)) <<< ((12 : Int32) &&& 31)) ||| ((v1 &&& (63 : Int32)) <<< ((6 : Int32) &&& 31))))])) t
          refine XS.iand X.here hx rfl (hb hby dUtf8SequenceLengthPinLaw_expected_172) rfl ?_
          show Steps p.tables e below (T.setTop (mkF m 173 #[.val (.int v0), .val (.int v1), .val (.int v2), .val (.int v3), d4, .val (.int v5), .val (.int t0), d7] [(.int (v2 &&& (63 : Int32))), (.int (((v0 &&& (15 : Int32)) <<< ((12 : Int32) &&& 31)) ||| ((v1 &&& (63 : Int32)) <<< ((6 : Int32) &&& 31))))])) t
          refine XS.ior X.here hx rfl (hb hby dUtf8SequenceLengthPinLaw_expected_173) rfl ?_
          exact k
        obtain ⟨x61, hx61, hF⟩ := own_lt_e hF
        rw [← hx61]
        refine own_Goes.via (B := T.setTop (mkF m 181 #[.val (.int v0), .val (.int v1), .val (.int v2), .val (.int v3), d4, .val (.int v5), .val (.int t0), .val (.int x61)] [(.int (2048 : Int32)), (.int x61)])) (fun t k => ?_) ?_
        · show Steps p.tables e below (T.setTop (mkF m 174 #[.val (.int v0), .val (.int v1), .val (.int v2), .val (.int v3), d4, .val (.int v5), .val (.int t0), d7] [(.int x61)])) t
          refine XS.istoreS X.here hx rfl (hb hby dUtf8SequenceLengthPinLaw_expected_174) rfl rfl o_d7 ?_
          show Steps p.tables e below (T.setTop (mkF m 176 #[.val (.int v0), .val (.int v1), .val (.int v2), .val (.int v3), d4, .val (.int v5), .val (.int t0), .val (.int x61)] [])) t
          refine XS.iload X.here hx rfl (hb hby dUtf8SequenceLengthPinLaw_expected_176) rfl ?_
          show Steps p.tables e below (T.setTop (mkF m 178 #[.val (.int v0), .val (.int v1), .val (.int v2), .val (.int v3), d4, .val (.int v5), .val (.int t0), .val (.int x61)] [(.int x61)])) t
          refine XS.sipush X.here hx rfl (hb hby dUtf8SequenceLengthPinLaw_expected_178) ?_
          exact k
        by_cases hc181 : x61 < (2048 : Int32)
        · rw [if_pos hc181] at hF
          refine own_Goes.via (B := T.setTop (mkF m 186 #[.val (.int v0), .val (.int v1), .val (.int v2), .val (.int v3), d4, .val (.int v5), .val (.int t0), .val (.int x61)] [(.int (-4 : Int32))])) (fun t k => ?_) ?_
          · show Steps p.tables e below (T.setTop (mkF m 181 #[.val (.int v0), .val (.int v1), .val (.int v2), .val (.int v3), d4, .val (.int v5), .val (.int t0), .val (.int x61)] [(.int (2048 : Int32)), (.int x61)])) t
            refine XS.icmpNo X.here hx rfl (hb hby dUtf8SequenceLengthPinLaw_expected_181) rfl (tlt hc181).2.1 ?_
            show Steps p.tables e below (T.setTop (mkF m 184 #[.val (.int v0), .val (.int v1), .val (.int v2), .val (.int v3), d4, .val (.int v5), .val (.int t0), .val (.int x61)] [])) t
            refine XS.bipush X.here hx rfl (hb hby dUtf8SequenceLengthPinLaw_expected_184) ?_
            exact k
          obtain rfl : (-4 : Int32) = r := Option.some.inj hF
          exact own_retI X hx hret hlk (hb hby dUtf8SequenceLengthPinLaw_expected_186) eT ⟨rfl, N, rfl⟩ (by decide) (by decide)
        · rw [if_neg hc181] at hF
          refine own_Goes.via (B := T.setTop (mkF m 191 #[.val (.int v0), .val (.int v1), .val (.int v2), .val (.int v3), d4, .val (.int v5), .val (.int t0), .val (.int x61)] [(.int (55296 : Int32)), (.int x61)])) (fun t k => ?_) ?_
          · show Steps p.tables e below (T.setTop (mkF m 181 #[.val (.int v0), .val (.int v1), .val (.int v2), .val (.int v3), d4, .val (.int v5), .val (.int t0), .val (.int x61)] [(.int (2048 : Int32)), (.int x61)])) t
            refine XS.icmpYes X.here hx rfl (pc0 := 181) (pc' := 187) rfl (hb hby dUtf8SequenceLengthPinLaw_expected_181) rfl (flt hc181).2.1 (by decide) (by decide) ?_
            show Steps p.tables e below (T.setTop (mkF m 187 #[.val (.int v0), .val (.int v1), .val (.int v2), .val (.int v3), d4, .val (.int v5), .val (.int t0), .val (.int x61)] [])) t
            refine XS.iload X.here hx rfl (hb hby dUtf8SequenceLengthPinLaw_expected_187) rfl ?_
            show Steps p.tables e below (T.setTop (mkF m 189 #[.val (.int v0), .val (.int v1), .val (.int v2), .val (.int v3), d4, .val (.int v5), .val (.int t0), .val (.int x61)] [(.int x61)])) t
            refine X.ldcInt hx hown (mvT hZ (w12 hw)) (g := (mkF m 189 #[.val (.int v0), .val (.int v1), .val (.int v2), .val (.int v3), d4, .val (.int v5), .val (.int t0), .val (.int x61)] [(.int x61)])) rfl (hb hby dUtf8SequenceLengthPinLaw_expected_189) _ ?_
            exact k
          by_cases hc191 : x61 < (55296 : Int32)
          · rw [if_pos hc191] at hF
            refine own_Goes.via (B := T.setTop (mkF m 205 #[.val (.int v0), .val (.int v1), .val (.int v2), .val (.int v3), d4, .val (.int v5), .val (.int t0), .val (.int x61)] [(.int (3 : Int32))])) (fun t k => ?_) ?_
            · show Steps p.tables e below (T.setTop (mkF m 191 #[.val (.int v0), .val (.int v1), .val (.int v2), .val (.int v3), d4, .val (.int v5), .val (.int t0), .val (.int x61)] [(.int (55296 : Int32)), (.int x61)])) t
              refine XS.icmpYes X.here hx rfl (pc0 := 191) (pc' := 204) rfl (hb hby dUtf8SequenceLengthPinLaw_expected_191) rfl (tlt hc191).1 (by decide) (by decide) ?_
              show Steps p.tables e below (T.setTop (mkF m 204 #[.val (.int v0), .val (.int v1), .val (.int v2), .val (.int v3), d4, .val (.int v5), .val (.int t0), .val (.int x61)] [])) t
              refine XS.iconst X.here hx rfl (hb hby dUtf8SequenceLengthPinLaw_expected_204) ?_
              exact k
            obtain rfl : (3 : Int32) = r := Option.some.inj hF
            exact own_retI X hx hret hlk (hb hby dUtf8SequenceLengthPinLaw_expected_205) eT ⟨rfl, N, rfl⟩ (by decide) (by decide)
          · rw [if_neg hc191] at hF
            refine own_Goes.via (B := T.setTop (mkF m 198 #[.val (.int v0), .val (.int v1), .val (.int v2), .val (.int v3), d4, .val (.int v5), .val (.int t0), .val (.int x61)] [(.int (57343 : Int32)), (.int x61)])) (fun t k => ?_) ?_
            · show Steps p.tables e below (T.setTop (mkF m 191 #[.val (.int v0), .val (.int v1), .val (.int v2), .val (.int v3), d4, .val (.int v5), .val (.int t0), .val (.int x61)] [(.int (55296 : Int32)), (.int x61)])) t
              refine XS.icmpNo X.here hx rfl (hb hby dUtf8SequenceLengthPinLaw_expected_191) rfl (flt hc191).1 ?_
              show Steps p.tables e below (T.setTop (mkF m 194 #[.val (.int v0), .val (.int v1), .val (.int v2), .val (.int v3), d4, .val (.int v5), .val (.int t0), .val (.int x61)] [])) t
              refine XS.iload X.here hx rfl (hb hby dUtf8SequenceLengthPinLaw_expected_194) rfl ?_
              show Steps p.tables e below (T.setTop (mkF m 196 #[.val (.int v0), .val (.int v1), .val (.int v2), .val (.int v3), d4, .val (.int v5), .val (.int t0), .val (.int x61)] [(.int x61)])) t
              refine X.ldcInt hx hown (mvT hZ (w13 hw)) (g := (mkF m 196 #[.val (.int v0), .val (.int v1), .val (.int v2), .val (.int v3), d4, .val (.int v5), .val (.int t0), .val (.int x61)] [(.int x61)])) rfl (hb hby dUtf8SequenceLengthPinLaw_expected_196) _ ?_
              exact k
            by_cases hc198 : (57343 : Int32) < x61
            · rw [if_pos hc198] at hF
              refine own_Goes.via (B := T.setTop (mkF m 205 #[.val (.int v0), .val (.int v1), .val (.int v2), .val (.int v3), d4, .val (.int v5), .val (.int t0), .val (.int x61)] [(.int (3 : Int32))])) (fun t k => ?_) ?_
              · show Steps p.tables e below (T.setTop (mkF m 198 #[.val (.int v0), .val (.int v1), .val (.int v2), .val (.int v3), d4, .val (.int v5), .val (.int t0), .val (.int x61)] [(.int (57343 : Int32)), (.int x61)])) t
                refine XS.icmpYes X.here hx rfl (pc0 := 198) (pc' := 204) rfl (hb hby dUtf8SequenceLengthPinLaw_expected_198) rfl (tlt hc198).2.2.1 (by decide) (by decide) ?_
                show Steps p.tables e below (T.setTop (mkF m 204 #[.val (.int v0), .val (.int v1), .val (.int v2), .val (.int v3), d4, .val (.int v5), .val (.int t0), .val (.int x61)] [])) t
                refine XS.iconst X.here hx rfl (hb hby dUtf8SequenceLengthPinLaw_expected_204) ?_
                exact k
              obtain rfl : (3 : Int32) = r := Option.some.inj hF
              exact own_retI X hx hret hlk (hb hby dUtf8SequenceLengthPinLaw_expected_205) eT ⟨rfl, N, rfl⟩ (by decide) (by decide)
            · rw [if_neg hc198] at hF
              refine own_Goes.via (B := T.setTop (mkF m 203 #[.val (.int v0), .val (.int v1), .val (.int v2), .val (.int v3), d4, .val (.int v5), .val (.int t0), .val (.int x61)] [(.int (-5 : Int32))])) (fun t k => ?_) ?_
              · show Steps p.tables e below (T.setTop (mkF m 198 #[.val (.int v0), .val (.int v1), .val (.int v2), .val (.int v3), d4, .val (.int v5), .val (.int t0), .val (.int x61)] [(.int (57343 : Int32)), (.int x61)])) t
                refine XS.icmpNo X.here hx rfl (hb hby dUtf8SequenceLengthPinLaw_expected_198) rfl (flt hc198).2.2.1 ?_
                show Steps p.tables e below (T.setTop (mkF m 201 #[.val (.int v0), .val (.int v1), .val (.int v2), .val (.int v3), d4, .val (.int v5), .val (.int t0), .val (.int x61)] [])) t
                refine XS.bipush X.here hx rfl (hb hby dUtf8SequenceLengthPinLaw_expected_201) ?_
                exact k
              obtain rfl : (-5 : Int32) = r := Option.some.inj hF
              exact own_retI X hx hret hlk (hb hby dUtf8SequenceLengthPinLaw_expected_203) eT ⟨rfl, N, rfl⟩ (by decide) (by decide)
      · rw [if_neg hc151] at hF
        refine own_Goes.via (B := T.setTop (mkF m 234 #[.val (.int v0), .val (.int v1), .val (.int v2), .val (.int v3), d4, .val (.int v5), .val (.int t0), d7] [(.int (((((v0 &&& (7 : Int32)) <<< ((18 : Int32) &&& 31)) ||| ((v1 &&& (63 : Int32)) <<< ((12 : Int32) &&& 31))) ||| ((v2 &&& (63 : Int32)) <<< ((6 : Int32) &&& 31))) ||| (v3 &&& (63 : Int32))))])) (fun t k => ?_) ?_
        · show Steps p.tables e below (T.setTop (mkF m 151 #[.val (.int v0), .val (.int v1), .val (.int v2), .val (.int v3), d4, .val (.int v5), .val (.int t0), d7] [(.int (3 : Int32)), (.int v5)])) t
          refine XS.icmpYes X.here hx rfl (pc0 := 151) (pc' := 206) rfl (hb hby dUtf8SequenceLengthPinLaw_expected_151) rfl (feq hc151).2 (by decide) (by decide) ?_
          show Steps p.tables e below (T.setTop (mkF m 206 #[.val (.int v0), .val (.int v1), .val (.int v2), .val (.int v3), d4, .val (.int v5), .val (.int t0), d7] [])) t
          refine XS.iloadN X.here hx rfl (hb hby dUtf8SequenceLengthPinLaw_expected_206) rfl ?_
          show Steps p.tables e below (T.setTop (mkF m 207 #[.val (.int v0), .val (.int v1), .val (.int v2), .val (.int v3), d4, .val (.int v5), .val (.int t0), d7] [(.int v0)])) t
          refine XS.bipush X.here hx rfl (hb hby dUtf8SequenceLengthPinLaw_expected_207) ?_
          show Steps p.tables e below (T.setTop (mkF m 209 #[.val (.int v0), .val (.int v1), .val (.int v2), .val (.int v3), d4, .val (.int v5), .val (.int t0), d7] [(.int (7 : Int32)), (.int v0)])) t
          refine XS.iand X.here hx rfl (hb hby dUtf8SequenceLengthPinLaw_expected_209) rfl ?_
          show Steps p.tables e below (T.setTop (mkF m 210 #[.val (.int v0), .val (.int v1), .val (.int v2), .val (.int v3), d4, .val (.int v5), .val (.int t0), d7] [(.int (v0 &&& (7 : Int32)))])) t
          refine XS.bipush X.here hx rfl (hb hby dUtf8SequenceLengthPinLaw_expected_210) ?_
          show Steps p.tables e below (T.setTop (mkF m 212 #[.val (.int v0), .val (.int v1), .val (.int v2), .val (.int v3), d4, .val (.int v5), .val (.int t0), d7] [(.int (18 : Int32)), (.int (v0 &&& (7 : Int32)))])) t
          refine XS.ishl X.here hx rfl (hb hby dUtf8SequenceLengthPinLaw_expected_212) rfl ?_
          show Steps p.tables e below (T.setTop (mkF m 213 #[.val (.int v0), .val (.int v1), .val (.int v2), .val (.int v3), d4, .val (.int v5), .val (.int t0), d7] [(.int ((v0 &&& (7 : Int32)) <<< ((18 : Int32) &&& 31)))])) t
          refine XS.iloadN X.here hx rfl (hb hby dUtf8SequenceLengthPinLaw_expected_213) rfl ?_
          show Steps p.tables e below (T.setTop (mkF m 214 #[.val (.int v0), .val (.int v1), .val (.int v2), .val (.int v3), d4, .val (.int v5), .val (.int t0), d7] [(.int v1), (.int ((v0 &&& (7 : Int32)) <<< ((18 : Int32) &&& 31)))])) t
          refine XS.bipush X.here hx rfl (hb hby dUtf8SequenceLengthPinLaw_expected_214) ?_
          show Steps p.tables e below (T.setTop (mkF m 216 #[.val (.int v0), .val (.int v1), .val (.int v2), .val (.int v3), d4, .val (.int v5), .val (.int t0), d7] [(.int (63 : Int32)), (.int v1), (.int ((v0 &&& (7 : Int32)) <<< ((18 : Int32) &&& 31)))])) t
          refine XS.iand X.here hx rfl (hb hby dUtf8SequenceLengthPinLaw_expected_216) rfl ?_
          show Steps p.tables e below (T.setTop (mkF m 217 #[.val (.int v0), .val (.int v1), .val (.int v2), .val (.int v3), d4, .val (.int v5), .val (.int t0), d7] [(.int (v1 &&& (63 : Int32))), (.int ((v0 &&& (7 : Int32)) <<< ((18 : Int32) &&& 31)))])) t
          refine XS.bipush X.here hx rfl (hb hby dUtf8SequenceLengthPinLaw_expected_217) ?_
          show Steps p.tables e below (T.setTop (mkF m 219 #[.val (.int v0), .val (.int v1), .val (.int v2), .val (.int v3), d4, .val (.int v5), .val (.int t0), d7] [(.int (12 : Int32)), (.int (v1 &&& (63 : Int32))), (.int ((v0 &&& (7 : Int32)) <<< ((18 : Int32) &&& 31)))])) t
          refine XS.ishl X.here hx rfl (hb hby dUtf8SequenceLengthPinLaw_expected_219) rfl ?_
          show Steps p.tables e below (T.setTop (mkF m 220 #[.val (.int v0), .val (.int v1), .val (.int v2), .val (.int v3), d4, .val (.int v5), .val (.int t0), d7] [(.int ((v1 &&& (63 : Int32)) <<< ((12 : Int32) &&& 31))), (.int ((v0 &&& (7 : Int32)) <<< ((18 : Int32) &&& 31)))])) t
          refine XS.ior X.here hx rfl (hb hby dUtf8SequenceLengthPinLaw_expected_220) rfl ?_
          show Steps p.tables e below (T.setTop (mkF m 221 #[.val (.int v0), .val (.int v1), .val (.int v2), .val (.int v3), d4, .val (.int v5), .val (.int t0), d7] [(.int (((v0 &&& (7 : Int32)) <<< ((18 : Int32) &&& 31)) ||| ((v1 &&& (63 : Int32)) <<< ((12 : Int32) &&& 31))))])) t
          refine XS.iloadN X.here hx rfl (hb hby dUtf8SequenceLengthPinLaw_expected_221) rfl ?_
          show Steps p.tables e below (T.setTop (mkF m 222 #[.val (.int v0), .val (.int v1), .val (.int v2), .val (.int v3), d4, .val (.int v5), .val (.int t0), d7] [(.int v2), (.int (((v0 &&& (7 : Int32)) <<< ((18 : Int32) &&& 31)) ||| ((v1 &&& (63 : Int32)) <<< ((12 : Int32) &&& 31))))])) t
          refine XS.bipush X.here hx rfl (hb hby dUtf8SequenceLengthPinLaw_expected_222) ?_
          show Steps p.tables e below (T.setTop (mkF m 224 #[.val (.int v0), .val (.int v1), .val (.int v2), .val (.int v3), d4, .val (.int v5), .val (.int t0), d7] [(.int (63 : Int32)), (.int v2), (.int (((v0 &&& (7 : Int32)) <<< ((18 : Int32) &&& 31)) ||| ((v1 &&& (63 : Int32)) <<< ((12 : Int32) &&& 31))))])) t
          refine XS.iand X.here hx rfl (hb hby dUtf8SequenceLengthPinLaw_expected_224) rfl ?_
          show Steps p.tables e below (T.setTop (mkF m 225 #[.val (.int v0), .val (.int v1), .val (.int v2), .val (.int v3), d4, .val (.int v5), .val (.int t0), d7] [(.int (v2 &&& (63 : Int32))), (.int (((v0 &&& (7 : Int32)) <<< ((18 : Int32) &&& 31)) ||| ((v1 &&& (63 : Int32)) <<< ((12 : Int32) &&& 31))))])) t
          refine XS.bipush X.here hx rfl (hb hby dUtf8SequenceLengthPinLaw_expected_225) ?_
          show Steps p.tables e below (T.setTop (mkF m 227 #[.val (.int v0), .val (.int v1), .val (.int v2), .val (.int v3), d4, .val (.int v5), .val (.int t0), d7] [(.int (6 : Int32)), (.int (v2 &&& (63 : Int32))), (.int (((v0 &&& (7 : Int32)) <<< ((18 : Int32) &&& 31)) ||| ((v1 &&& (63 : Int32)) <<< ((12 : Int32) &&& 31))))])) t
          refine XS.ishl X.here hx rfl (hb hby dUtf8SequenceLengthPinLaw_expected_227) rfl ?_
          show Steps p.tables e below (T.setTop (mkF m 228 #[.val (.int v0), .val (.int v1), .val (.int v2), .val (.int v3), d4, .val (.int v5), .val (.int t0), d7] [(.int ((v2 &&& (63 : Int32)) <<< ((6 : Int32) &&& 31))), (.int (((v0 &&& (7 : Int32)) <<< ((18 : Int32) &&& 31)) ||| ((v1 &&& (63 : Int32)) <<< ((12 : Int32) &&& 31))))])) t
          refine XS.ior X.here hx rfl (hb hby dUtf8SequenceLengthPinLaw_expected_228) rfl ?_
          show Steps p.tables e below (T.setTop (mkF m 229 #[.val (.int v0), .val (.int v1), .val (.int v2), .val (.int v3), d4, .val (.int v5), .val (.int t0), d7] [(.int ((((v0 &&& (7 : Int32)) <<< ((18 : Int32) &&& 31)) ||| ((v1 &&& (63 : Int32)) <<< ((12 : Int32) &&& 31))) ||| ((v2 &&& (63 : Int32)) <<< ((6 : Int32) &&& 31))))])) t
          refine XS.iloadN X.here hx rfl (hb hby dUtf8SequenceLengthPinLaw_expected_229) rfl ?_
          show Steps p.tables e below (T.setTop (mkF m 230 #[.val (.int v0), .val (.int v1), .val (.int v2), .val (.int v3), d4, .val (.int v5), .val (.int t0), d7] [(.int v3), (.int ((((v0 &&& (7 : Int32)) <<< ((18 : Int32) &&& 31)) ||| ((v1 &&& (63 : Int32)) <<< ((12 : Int32) &&& 31))) ||| ((v2 &&& (63 : Int32)) <<< ((6 : Int32) &&& 31))))])) t
          refine XS.bipush X.here hx rfl (hb hby dUtf8SequenceLengthPinLaw_expected_230) ?_
          show Steps p.tables e below (T.setTop (mkF m 232 #[.val (.int v0), .val (.int v1), .val (.int v2), .val (.int v3), d4, .val (.int v5), .val (.int t0), d7] [(.int (63 : Int32)), (.int v3), (.int ((((v0 &&& (7 : Int32)) <<< ((18 : Int32) &&& 31)) ||| ((v1 &&& (63 : Int32)) <<< ((12 : Int32) &&& 31))) ||| ((v2 &&& (63 : Int32)) <<< ((6 : Int32) &&& 31))))])) t
          refine XS.iand X.here hx rfl (hb hby dUtf8SequenceLengthPinLaw_expected_232) rfl ?_
          show Steps p.tables e below (T.setTop (mkF m 233 #[.val (.int v0), .val (.int v1), .val (.int v2), .val (.int v3), d4, .val (.int v5), .val (.int t0), d7] [(.int (v3 &&& (63 : Int32))), (.int ((((v0 &&& (7 : Int32)) <<< ((18 : Int32) &&& 31)) ||| ((v1 &&& (63 : Int32)) <<< ((12 : Int32) &&& 31))) ||| ((v2 &&& (63 : Int32)) <<< ((6 : Int32) &&& 31))))])) t
          refine XS.ior X.here hx rfl (hb hby dUtf8SequenceLengthPinLaw_expected_233) rfl ?_
          exact k
        obtain ⟨x62, hx62, hF⟩ := own_lt_e hF
        rw [← hx62]
        refine own_Goes.via (B := T.setTop (mkF m 240 #[.val (.int v0), .val (.int v1), .val (.int v2), .val (.int v3), d4, .val (.int v5), .val (.int t0), .val (.int x62)] [(.int (65536 : Int32)), (.int x62)])) (fun t k => ?_) ?_
        · show Steps p.tables e below (T.setTop (mkF m 234 #[.val (.int v0), .val (.int v1), .val (.int v2), .val (.int v3), d4, .val (.int v5), .val (.int t0), d7] [(.int x62)])) t
          refine XS.istoreS X.here hx rfl (hb hby dUtf8SequenceLengthPinLaw_expected_234) rfl rfl o_d7 ?_
          show Steps p.tables e below (T.setTop (mkF m 236 #[.val (.int v0), .val (.int v1), .val (.int v2), .val (.int v3), d4, .val (.int v5), .val (.int t0), .val (.int x62)] [])) t
          refine XS.iload X.here hx rfl (hb hby dUtf8SequenceLengthPinLaw_expected_236) rfl ?_
          show Steps p.tables e below (T.setTop (mkF m 238 #[.val (.int v0), .val (.int v1), .val (.int v2), .val (.int v3), d4, .val (.int v5), .val (.int t0), .val (.int x62)] [(.int x62)])) t
          refine X.ldcInt hx hown (mvT hZ (w14 hw)) (g := (mkF m 238 #[.val (.int v0), .val (.int v1), .val (.int v2), .val (.int v3), d4, .val (.int v5), .val (.int t0), .val (.int x62)] [(.int x62)])) rfl (hb hby dUtf8SequenceLengthPinLaw_expected_238) _ ?_
          exact k
        by_cases hc240 : x62 < (65536 : Int32)
        · rw [if_pos hc240] at hF
          refine own_Goes.via (B := T.setTop (mkF m 245 #[.val (.int v0), .val (.int v1), .val (.int v2), .val (.int v3), d4, .val (.int v5), .val (.int t0), .val (.int x62)] [(.int (-4 : Int32))])) (fun t k => ?_) ?_
          · show Steps p.tables e below (T.setTop (mkF m 240 #[.val (.int v0), .val (.int v1), .val (.int v2), .val (.int v3), d4, .val (.int v5), .val (.int t0), .val (.int x62)] [(.int (65536 : Int32)), (.int x62)])) t
            refine XS.icmpNo X.here hx rfl (hb hby dUtf8SequenceLengthPinLaw_expected_240) rfl (tlt hc240).2.1 ?_
            show Steps p.tables e below (T.setTop (mkF m 243 #[.val (.int v0), .val (.int v1), .val (.int v2), .val (.int v3), d4, .val (.int v5), .val (.int t0), .val (.int x62)] [])) t
            refine XS.bipush X.here hx rfl (hb hby dUtf8SequenceLengthPinLaw_expected_243) ?_
            exact k
          obtain rfl : (-4 : Int32) = r := Option.some.inj hF
          exact own_retI X hx hret hlk (hb hby dUtf8SequenceLengthPinLaw_expected_245) eT ⟨rfl, N, rfl⟩ (by decide) (by decide)
        · rw [if_neg hc240] at hF
          refine own_Goes.via (B := T.setTop (mkF m 250 #[.val (.int v0), .val (.int v1), .val (.int v2), .val (.int v3), d4, .val (.int v5), .val (.int t0), .val (.int x62)] [(.int (1114111 : Int32)), (.int x62)])) (fun t k => ?_) ?_
          · show Steps p.tables e below (T.setTop (mkF m 240 #[.val (.int v0), .val (.int v1), .val (.int v2), .val (.int v3), d4, .val (.int v5), .val (.int t0), .val (.int x62)] [(.int (65536 : Int32)), (.int x62)])) t
            refine XS.icmpYes X.here hx rfl (pc0 := 240) (pc' := 246) rfl (hb hby dUtf8SequenceLengthPinLaw_expected_240) rfl (flt hc240).2.1 (by decide) (by decide) ?_
            show Steps p.tables e below (T.setTop (mkF m 246 #[.val (.int v0), .val (.int v1), .val (.int v2), .val (.int v3), d4, .val (.int v5), .val (.int t0), .val (.int x62)] [])) t
            refine XS.iload X.here hx rfl (hb hby dUtf8SequenceLengthPinLaw_expected_246) rfl ?_
            show Steps p.tables e below (T.setTop (mkF m 248 #[.val (.int v0), .val (.int v1), .val (.int v2), .val (.int v3), d4, .val (.int v5), .val (.int t0), .val (.int x62)] [(.int x62)])) t
            refine X.ldcInt hx hown (mvT hZ (w15 hw)) (g := (mkF m 248 #[.val (.int v0), .val (.int v1), .val (.int v2), .val (.int v3), d4, .val (.int v5), .val (.int t0), .val (.int x62)] [(.int x62)])) rfl (hb hby dUtf8SequenceLengthPinLaw_expected_248) _ ?_
            exact k
          by_cases hc250 : (1114111 : Int32) < x62
          · rw [if_pos hc250] at hF
            refine own_Goes.via (B := T.setTop (mkF m 255 #[.val (.int v0), .val (.int v1), .val (.int v2), .val (.int v3), d4, .val (.int v5), .val (.int t0), .val (.int x62)] [(.int (-6 : Int32))])) (fun t k => ?_) ?_
            · show Steps p.tables e below (T.setTop (mkF m 250 #[.val (.int v0), .val (.int v1), .val (.int v2), .val (.int v3), d4, .val (.int v5), .val (.int t0), .val (.int x62)] [(.int (1114111 : Int32)), (.int x62)])) t
              refine XS.icmpNo X.here hx rfl (hb hby dUtf8SequenceLengthPinLaw_expected_250) rfl (tlt hc250).2.2.2 ?_
              show Steps p.tables e below (T.setTop (mkF m 253 #[.val (.int v0), .val (.int v1), .val (.int v2), .val (.int v3), d4, .val (.int v5), .val (.int t0), .val (.int x62)] [])) t
              refine XS.bipush X.here hx rfl (hb hby dUtf8SequenceLengthPinLaw_expected_253) ?_
              exact k
            obtain rfl : (-6 : Int32) = r := Option.some.inj hF
            exact own_retI X hx hret hlk (hb hby dUtf8SequenceLengthPinLaw_expected_255) eT ⟨rfl, N, rfl⟩ (by decide) (by decide)
          · rw [if_neg hc250] at hF
            refine own_Goes.via (B := T.setTop (mkF m 257 #[.val (.int v0), .val (.int v1), .val (.int v2), .val (.int v3), d4, .val (.int v5), .val (.int t0), .val (.int x62)] [(.int (4 : Int32))])) (fun t k => ?_) ?_
            · show Steps p.tables e below (T.setTop (mkF m 250 #[.val (.int v0), .val (.int v1), .val (.int v2), .val (.int v3), d4, .val (.int v5), .val (.int t0), .val (.int x62)] [(.int (1114111 : Int32)), (.int x62)])) t
              refine XS.icmpYes X.here hx rfl (pc0 := 250) (pc' := 256) rfl (hb hby dUtf8SequenceLengthPinLaw_expected_250) rfl (flt hc250).2.2.2 (by decide) (by decide) ?_
              show Steps p.tables e below (T.setTop (mkF m 256 #[.val (.int v0), .val (.int v1), .val (.int v2), .val (.int v3), d4, .val (.int v5), .val (.int t0), .val (.int x62)] [])) t
              refine XS.iconst X.here hx rfl (hb hby dUtf8SequenceLengthPinLaw_expected_256) ?_
              exact k
            obtain rfl : (4 : Int32) = r := Option.some.inj hF
            exact own_retI X hx hret hlk (hb hby dUtf8SequenceLengthPinLaw_expected_257) eT ⟨rfl, N, rfl⟩ (by decide) (by decide)
set_option maxRecDepth 65536 in
set_option maxHeartbeats 4000000 in
theorem b_Utf8SequenceLengthPinLaw_expected_106 {p : Program} {l : Launch} {e : Env} {s : State} {m : MethodId} {args : Array Value} {below : List Frame} {meth : Method} {c : Code} {Z : State} {a0 : Array Value} {n0 : Nat} {hE : Heap} (cx : Cx_Utf8SequenceLengthPinLaw_expected p s m meth c Z a0) :
    ∀ {T : State} {locs : List Loc} (X : Stand p l e ({ frames := 1, cells := 0, slots := 0, locals := 12 } : Room) s m args below meth c T locs 0 0) (eT : T.heap = hE) (N : Fr n0 locs) (z : n0 ≤ hE.size) (v0 : Int32) (v1 : Int32) (v2 : Int32) (v3 : Int32) (v4 : Int32) (v5 : Int32) (d6 : Slot) (d7 : Slot) (o_d6 : One d6) (o_d7 : One d7) (r : Int32), f_Utf8SequenceLengthPinLaw_expected_106 v0 v1 v2 v3 v4 v5 = some r → own_Goes p e below s (Q_Utf8SequenceLengthPinLaw_expected Z hE n0 r) 0 0 (T.setTop (mkF m 106 #[.val (.int v0), .val (.int v1), .val (.int v2), .val (.int v3), .val (.int v4), .val (.int v5), d6, d7] [])) := by
  have cx' := cx
  obtain ⟨hx, hZ, hw, hby, hml, hown, hret, hlk, hnm⟩ := cx'
  intro T locs X eT N z v0 v1 v2 v3 v4 v5 d6 d7 o_d6 o_d7 r hF
  unfold f_Utf8SequenceLengthPinLaw_expected_106 at hF
  refine own_Goes.via (B := T.setTop (mkF m 109 #[.val (.int v0), .val (.int v1), .val (.int v2), .val (.int v3), .val (.int v4), .val (.int v5), d6, d7] [(.int (4 : Int32)), (.int v5)])) (fun t k => ?_) ?_
  · show Steps p.tables e below (T.setTop (mkF m 106 #[.val (.int v0), .val (.int v1), .val (.int v2), .val (.int v3), .val (.int v4), .val (.int v5), d6, d7] [])) t
    refine XS.iload X.here hx rfl (hb hby dUtf8SequenceLengthPinLaw_expected_106) rfl ?_
    show Steps p.tables e below (T.setTop (mkF m 108 #[.val (.int v0), .val (.int v1), .val (.int v2), .val (.int v3), .val (.int v4), .val (.int v5), d6, d7] [(.int v5)])) t
    refine XS.iconst X.here hx rfl (hb hby dUtf8SequenceLengthPinLaw_expected_108) ?_
    exact k
  by_cases hc109 : v5 < (4 : Int32)
  · rw [if_pos hc109] at hF
    refine own_Goes.via (B := T.setTop (mkF m 130 #[.val (.int v0), .val (.int v1), .val (.int v2), .val (.int v3), .val (.int v4), .val (.int v5), d6, d7] [(.int (1 : Int32))])) (fun t k => ?_) ?_
    · show Steps p.tables e below (T.setTop (mkF m 109 #[.val (.int v0), .val (.int v1), .val (.int v2), .val (.int v3), .val (.int v4), .val (.int v5), d6, d7] [(.int (4 : Int32)), (.int v5)])) t
      refine XS.icmpYes X.here hx rfl (pc0 := 109) (pc' := 125) rfl (hb hby dUtf8SequenceLengthPinLaw_expected_109) rfl (tlt hc109).1 (by decide) (by decide) ?_
      show Steps p.tables e below (T.setTop (mkF m 125 #[.val (.int v0), .val (.int v1), .val (.int v2), .val (.int v3), .val (.int v4), .val (.int v5), d6, d7] [])) t
      refine XS.iconst X.here hx rfl (hb hby dUtf8SequenceLengthPinLaw_expected_125) ?_
      show Steps p.tables e below (T.setTop (mkF m 126 #[.val (.int v0), .val (.int v1), .val (.int v2), .val (.int v3), .val (.int v4), .val (.int v5), d6, d7] [(.int (1 : Int32))])) t
      refine XS.goto X.here hx rfl (pc0 := 126) (pc' := 130) rfl (hb hby dUtf8SequenceLengthPinLaw_expected_126) (by decide) (by decide) ?_
      exact k
    exact b_Utf8SequenceLengthPinLaw_expected_130 cx X eT N z v0 v1 v2 v3 v5 (1 : Int32) (.val (.int v4)) d6 d7 (One.val rfl) o_d6 o_d7 _ hF
  · rw [if_neg hc109] at hF
    refine own_Goes.via (B := T.setTop (mkF m 115 #[.val (.int v0), .val (.int v1), .val (.int v2), .val (.int v3), .val (.int v4), .val (.int v5), d6, d7] [(.int (3 : Int32)), (.int v4)])) (fun t k => ?_) ?_
    · show Steps p.tables e below (T.setTop (mkF m 109 #[.val (.int v0), .val (.int v1), .val (.int v2), .val (.int v3), .val (.int v4), .val (.int v5), d6, d7] [(.int (4 : Int32)), (.int v5)])) t
      refine XS.icmpNo X.here hx rfl (hb hby dUtf8SequenceLengthPinLaw_expected_109) rfl (flt hc109).1 ?_
      show Steps p.tables e below (T.setTop (mkF m 112 #[.val (.int v0), .val (.int v1), .val (.int v2), .val (.int v3), .val (.int v4), .val (.int v5), d6, d7] [])) t
      refine XS.iload X.here hx rfl (hb hby dUtf8SequenceLengthPinLaw_expected_112) rfl ?_
      show Steps p.tables e below (T.setTop (mkF m 114 #[.val (.int v0), .val (.int v1), .val (.int v2), .val (.int v3), .val (.int v4), .val (.int v5), d6, d7] [(.int v4)])) t
      refine XS.iconst X.here hx rfl (hb hby dUtf8SequenceLengthPinLaw_expected_114) ?_
      exact k
    by_cases hc115 : (3 : Int32) < v4
    · rw [if_pos hc115] at hF
      refine own_Goes.via (B := T.setTop (mkF m 119 #[.val (.int v0), .val (.int v1), .val (.int v2), .val (.int v3), .val (.int v4), .val (.int v5), d6, d7] [(.int v3)])) (fun t k => ?_) ?_
      · show Steps p.tables e below (T.setTop (mkF m 115 #[.val (.int v0), .val (.int v1), .val (.int v2), .val (.int v3), .val (.int v4), .val (.int v5), d6, d7] [(.int (3 : Int32)), (.int v4)])) t
        refine XS.icmpNo X.here hx rfl (hb hby dUtf8SequenceLengthPinLaw_expected_115) rfl (tlt hc115).2.2.2 ?_
        show Steps p.tables e below (T.setTop (mkF m 118 #[.val (.int v0), .val (.int v1), .val (.int v2), .val (.int v3), .val (.int v4), .val (.int v5), d6, d7] [])) t
        refine XS.iloadN X.here hx rfl (hb hby dUtf8SequenceLengthPinLaw_expected_118) rfl ?_
        exact k
      obtain ⟨r64, hr64, hF⟩ := own_bd_e hF
      obtain ⟨_, _, ⟨T64, L64, k64, n64⟩, -, X64, ⟨Lc64, hQ64, l64, y64, z64⟩, st64⟩ := Jvm.LawKit.callS X hx (y := (⟨"com/example/binary64/binary64/Utf8SequenceLengthPinLaw", "cont", "(I)Z"⟩ : MethodName)) hown (mvT hZ (w9 hw)) (mvT hZ (w10 hw)) (mvT hZ (w7 hw)) (mvT hZ (w11 hw)) (by decide) (backOf (W := 0) (rm_Utf8SequenceLengthPinLaw_cont l Z a0 hw [] hE n0 z v3 r64 hr64) hZ (w11 hw) (w7 hw) (by decide) (by decide)) (g := (mkF m 119 #[.val (.int v0), .val (.int v1), .val (.int v2), .val (.int v3), .val (.int v4), .val (.int v5), d6, d7] [(.int v3)])) rfl (by rw [hml]; rfl) (argsL := [(.int v3)]) (rest := []) (lenOf pd_1 rfl) rfl (by show 2 * 0 + _ ≤ _; exact Nat.le_of_eq rfl) (hb hby dUtf8SequenceLengthPinLaw_expected_119) (fun _ _ => ⟨rfl, eT, (by decide : 0 + 0 ≤ _), (by decide : 0 + 0 ≤ _)⟩)
      dsimp only [Pt.U, Pt.locs, Pt.cells, Pt.slots] at X64 l64 y64 z64 st64 hQ64
      subst l64 y64 z64
      obtain ⟨rfl, N64q, e64⟩ := hQ64
      have N64 := Fr.app N N64q
      refine own_Goes.via st64 ?_
      show own_Goes _ _ _ _ _ _ _ (T64.setTop (mkF m 122 #[.val (.int v0), .val (.int v1), .val (.int v2), .val (.int v3), .val (.int v4), .val (.int v5), d6, d7] [(.int r64)]))
      by_cases hc122 : r64 = (0 : Int32)
      · rw [if_pos hc122] at hF
        refine own_Goes.via (B := T64.setTop (mkF m 130 #[.val (.int v0), .val (.int v1), .val (.int v2), .val (.int v3), .val (.int v4), .val (.int v5), d6, d7] [(.int (0 : Int32))])) (fun t k => ?_) ?_
        · show Steps p.tables e below (T64.setTop (mkF m 122 #[.val (.int v0), .val (.int v1), .val (.int v2), .val (.int v3), .val (.int v4), .val (.int v5), d6, d7] [(.int r64)])) t
          refine XS.ifYes X64.here hx rfl (pc0 := 122) (pc' := 129) rfl (hb hby dUtf8SequenceLengthPinLaw_expected_122) rfl ((if0 _ _).trans (teq hc122).1) (by decide) (by decide) ?_
          show Steps p.tables e below (T64.setTop (mkF m 129 #[.val (.int v0), .val (.int v1), .val (.int v2), .val (.int v3), .val (.int v4), .val (.int v5), d6, d7] [])) t
          refine XS.iconst X64.here hx rfl (hb hby dUtf8SequenceLengthPinLaw_expected_129) ?_
          exact k
        exact b_Utf8SequenceLengthPinLaw_expected_130 cx X64 e64 N64 z v0 v1 v2 v3 v5 (0 : Int32) (.val (.int v4)) d6 d7 (One.val rfl) o_d6 o_d7 _ hF
      · rw [if_neg hc122] at hF
        refine own_Goes.via (B := T64.setTop (mkF m 130 #[.val (.int v0), .val (.int v1), .val (.int v2), .val (.int v3), .val (.int v4), .val (.int v5), d6, d7] [(.int (1 : Int32))])) (fun t k => ?_) ?_
        · show Steps p.tables e below (T64.setTop (mkF m 122 #[.val (.int v0), .val (.int v1), .val (.int v2), .val (.int v3), .val (.int v4), .val (.int v5), d6, d7] [(.int r64)])) t
          refine XS.ifNo X64.here hx rfl (hb hby dUtf8SequenceLengthPinLaw_expected_122) rfl ((if0 _ _).trans (feq hc122).1) ?_
          show Steps p.tables e below (T64.setTop (mkF m 125 #[.val (.int v0), .val (.int v1), .val (.int v2), .val (.int v3), .val (.int v4), .val (.int v5), d6, d7] [])) t
          refine XS.iconst X64.here hx rfl (hb hby dUtf8SequenceLengthPinLaw_expected_125) ?_
          show Steps p.tables e below (T64.setTop (mkF m 126 #[.val (.int v0), .val (.int v1), .val (.int v2), .val (.int v3), .val (.int v4), .val (.int v5), d6, d7] [(.int (1 : Int32))])) t
          refine XS.goto X64.here hx rfl (pc0 := 126) (pc' := 130) rfl (hb hby dUtf8SequenceLengthPinLaw_expected_126) (by decide) (by decide) ?_
          exact k
        exact b_Utf8SequenceLengthPinLaw_expected_130 cx X64 e64 N64 z v0 v1 v2 v3 v5 (1 : Int32) (.val (.int v4)) d6 d7 (One.val rfl) o_d6 o_d7 _ hF
    · rw [if_neg hc115] at hF
      refine own_Goes.via (B := T.setTop (mkF m 130 #[.val (.int v0), .val (.int v1), .val (.int v2), .val (.int v3), .val (.int v4), .val (.int v5), d6, d7] [(.int (0 : Int32))])) (fun t k => ?_) ?_
      · show Steps p.tables e below (T.setTop (mkF m 115 #[.val (.int v0), .val (.int v1), .val (.int v2), .val (.int v3), .val (.int v4), .val (.int v5), d6, d7] [(.int (3 : Int32)), (.int v4)])) t
        refine XS.icmpYes X.here hx rfl (pc0 := 115) (pc' := 129) rfl (hb hby dUtf8SequenceLengthPinLaw_expected_115) rfl (flt hc115).2.2.2 (by decide) (by decide) ?_
        show Steps p.tables e below (T.setTop (mkF m 129 #[.val (.int v0), .val (.int v1), .val (.int v2), .val (.int v3), .val (.int v4), .val (.int v5), d6, d7] [])) t
        refine XS.iconst X.here hx rfl (hb hby dUtf8SequenceLengthPinLaw_expected_129) ?_
        exact k
      exact b_Utf8SequenceLengthPinLaw_expected_130 cx X eT N z v0 v1 v2 v3 v5 (0 : Int32) (.val (.int v4)) d6 d7 (One.val rfl) o_d6 o_d7 _ hF
set_option maxRecDepth 65536 in
set_option maxHeartbeats 4000000 in
theorem b_Utf8SequenceLengthPinLaw_expected_74 {p : Program} {l : Launch} {e : Env} {s : State} {m : MethodId} {args : Array Value} {below : List Frame} {meth : Method} {c : Code} {Z : State} {a0 : Array Value} {n0 : Nat} {hE : Heap} (cx : Cx_Utf8SequenceLengthPinLaw_expected p s m meth c Z a0) :
    ∀ {T : State} {locs : List Loc} (X : Stand p l e ({ frames := 1, cells := 0, slots := 0, locals := 12 } : Room) s m args below meth c T locs 0 0) (eT : T.heap = hE) (N : Fr n0 locs) (z : n0 ≤ hE.size) (v0 : Int32) (v1 : Int32) (v2 : Int32) (v3 : Int32) (v4 : Int32) (v5 : Int32) (d6 : Slot) (d7 : Slot) (o_d6 : One d6) (o_d7 : One d7) (r : Int32), f_Utf8SequenceLengthPinLaw_expected_74 v0 v1 v2 v3 v4 v5 = some r → own_Goes p e below s (Q_Utf8SequenceLengthPinLaw_expected Z hE n0 r) 0 0 (T.setTop (mkF m 74 #[.val (.int v0), .val (.int v1), .val (.int v2), .val (.int v3), .val (.int v4), .val (.int v5), d6, d7] [])) := by
  have cx' := cx
  obtain ⟨hx, hZ, hw, hby, hml, hown, hret, hlk, hnm⟩ := cx'
  intro T locs X eT N z v0 v1 v2 v3 v4 v5 d6 d7 o_d6 o_d7 r hF
  unfold f_Utf8SequenceLengthPinLaw_expected_74 at hF
  refine own_Goes.via (B := T.setTop (mkF m 77 #[.val (.int v0), .val (.int v1), .val (.int v2), .val (.int v3), .val (.int v4), .val (.int v5), d6, d7] [(.int (1 : Int32)), (.int v4)])) (fun t k => ?_) ?_
  · show Steps p.tables e below (T.setTop (mkF m 74 #[.val (.int v0), .val (.int v1), .val (.int v2), .val (.int v3), .val (.int v4), .val (.int v5), d6, d7] [])) t
    refine XS.iload X.here hx rfl (hb hby dUtf8SequenceLengthPinLaw_expected_74) rfl ?_
    show Steps p.tables e below (T.setTop (mkF m 76 #[.val (.int v0), .val (.int v1), .val (.int v2), .val (.int v3), .val (.int v4), .val (.int v5), d6, d7] [(.int v4)])) t
    refine XS.iconst X.here hx rfl (hb hby dUtf8SequenceLengthPinLaw_expected_76) ?_
    exact k
  by_cases hc77 : (1 : Int32) < v4
  · rw [if_pos hc77] at hF
    refine own_Goes.via (B := T.setTop (mkF m 81 #[.val (.int v0), .val (.int v1), .val (.int v2), .val (.int v3), .val (.int v4), .val (.int v5), d6, d7] [(.int v1)])) (fun t k => ?_) ?_
    · show Steps p.tables e below (T.setTop (mkF m 77 #[.val (.int v0), .val (.int v1), .val (.int v2), .val (.int v3), .val (.int v4), .val (.int v5), d6, d7] [(.int (1 : Int32)), (.int v4)])) t
      refine XS.icmpNo X.here hx rfl (hb hby dUtf8SequenceLengthPinLaw_expected_77) rfl (tlt hc77).2.2.2 ?_
      show Steps p.tables e below (T.setTop (mkF m 80 #[.val (.int v0), .val (.int v1), .val (.int v2), .val (.int v3), .val (.int v4), .val (.int v5), d6, d7] [])) t
      refine XS.iloadN X.here hx rfl (hb hby dUtf8SequenceLengthPinLaw_expected_80) rfl ?_
      exact k
    obtain ⟨r66, hr66, hF⟩ := own_bd_e hF
    obtain ⟨_, _, ⟨T66, L66, k66, n66⟩, -, X66, ⟨Lc66, hQ66, l66, y66, z66⟩, st66⟩ := Jvm.LawKit.callS X hx (y := (⟨"com/example/binary64/binary64/Utf8SequenceLengthPinLaw", "cont", "(I)Z"⟩ : MethodName)) hown (mvT hZ (w9 hw)) (mvT hZ (w10 hw)) (mvT hZ (w7 hw)) (mvT hZ (w11 hw)) (by decide) (backOf (W := 0) (rm_Utf8SequenceLengthPinLaw_cont l Z a0 hw [] hE n0 z v1 r66 hr66) hZ (w11 hw) (w7 hw) (by decide) (by decide)) (g := (mkF m 81 #[.val (.int v0), .val (.int v1), .val (.int v2), .val (.int v3), .val (.int v4), .val (.int v5), d6, d7] [(.int v1)])) rfl (by rw [hml]; rfl) (argsL := [(.int v1)]) (rest := []) (lenOf pd_1 rfl) rfl (by show 2 * 0 + _ ≤ _; exact Nat.le_of_eq rfl) (hb hby dUtf8SequenceLengthPinLaw_expected_81) (fun _ _ => ⟨rfl, eT, (by decide : 0 + 0 ≤ _), (by decide : 0 + 0 ≤ _)⟩)
    dsimp only [Pt.U, Pt.locs, Pt.cells, Pt.slots] at X66 l66 y66 z66 st66 hQ66
    subst l66 y66 z66
    obtain ⟨rfl, N66q, e66⟩ := hQ66
    have N66 := Fr.app N N66q
    refine own_Goes.via st66 ?_
    show own_Goes _ _ _ _ _ _ _ (T66.setTop (mkF m 84 #[.val (.int v0), .val (.int v1), .val (.int v2), .val (.int v3), .val (.int v4), .val (.int v5), d6, d7] [(.int r66)]))
    by_cases hc84 : r66 = (0 : Int32)
    · rw [if_pos hc84] at hF
      refine own_Goes.via (B := T66.setTop (mkF m 130 #[.val (.int v0), .val (.int v1), .val (.int v2), .val (.int v3), .val (.int v4), .val (.int v5), d6, d7] [(.int (0 : Int32))])) (fun t k => ?_) ?_
      · show Steps p.tables e below (T66.setTop (mkF m 84 #[.val (.int v0), .val (.int v1), .val (.int v2), .val (.int v3), .val (.int v4), .val (.int v5), d6, d7] [(.int r66)])) t
        refine XS.ifYes X66.here hx rfl (pc0 := 84) (pc' := 129) rfl (hb hby dUtf8SequenceLengthPinLaw_expected_84) rfl ((if0 _ _).trans (teq hc84).1) (by decide) (by decide) ?_
        show Steps p.tables e below (T66.setTop (mkF m 129 #[.val (.int v0), .val (.int v1), .val (.int v2), .val (.int v3), .val (.int v4), .val (.int v5), d6, d7] [])) t
        refine XS.iconst X66.here hx rfl (hb hby dUtf8SequenceLengthPinLaw_expected_129) ?_
        exact k
      exact b_Utf8SequenceLengthPinLaw_expected_130 cx X66 e66 N66 z v0 v1 v2 v3 v5 (0 : Int32) (.val (.int v4)) d6 d7 (One.val rfl) o_d6 o_d7 _ hF
    · rw [if_neg hc84] at hF
      refine own_Goes.via (B := T66.setTop (mkF m 90 #[.val (.int v0), .val (.int v1), .val (.int v2), .val (.int v3), .val (.int v4), .val (.int v5), d6, d7] [(.int (3 : Int32)), (.int v5)])) (fun t k => ?_) ?_
      · show Steps p.tables e below (T66.setTop (mkF m 84 #[.val (.int v0), .val (.int v1), .val (.int v2), .val (.int v3), .val (.int v4), .val (.int v5), d6, d7] [(.int r66)])) t
        refine XS.ifNo X66.here hx rfl (hb hby dUtf8SequenceLengthPinLaw_expected_84) rfl ((if0 _ _).trans (feq hc84).1) ?_
        show Steps p.tables e below (T66.setTop (mkF m 87 #[.val (.int v0), .val (.int v1), .val (.int v2), .val (.int v3), .val (.int v4), .val (.int v5), d6, d7] [])) t
        refine XS.iload X66.here hx rfl (hb hby dUtf8SequenceLengthPinLaw_expected_87) rfl ?_
        show Steps p.tables e below (T66.setTop (mkF m 89 #[.val (.int v0), .val (.int v1), .val (.int v2), .val (.int v3), .val (.int v4), .val (.int v5), d6, d7] [(.int v5)])) t
        refine XS.iconst X66.here hx rfl (hb hby dUtf8SequenceLengthPinLaw_expected_89) ?_
        exact k
      by_cases hc90 : v5 < (3 : Int32)
      · rw [if_pos hc90] at hF
        refine own_Goes.via (B := T66.setTop (mkF m 106 #[.val (.int v0), .val (.int v1), .val (.int v2), .val (.int v3), .val (.int v4), .val (.int v5), d6, d7] [])) (fun t k => ?_) ?_
        · show Steps p.tables e below (T66.setTop (mkF m 90 #[.val (.int v0), .val (.int v1), .val (.int v2), .val (.int v3), .val (.int v4), .val (.int v5), d6, d7] [(.int (3 : Int32)), (.int v5)])) t
          refine XS.icmpYes X66.here hx rfl (pc0 := 90) (pc' := 106) rfl (hb hby dUtf8SequenceLengthPinLaw_expected_90) rfl (tlt hc90).1 (by decide) (by decide) ?_
          exact k
        exact b_Utf8SequenceLengthPinLaw_expected_106 cx X66 e66 N66 z v0 v1 v2 v3 v4 v5 d6 d7 o_d6 o_d7 _ hF
      · rw [if_neg hc90] at hF
        refine own_Goes.via (B := T66.setTop (mkF m 96 #[.val (.int v0), .val (.int v1), .val (.int v2), .val (.int v3), .val (.int v4), .val (.int v5), d6, d7] [(.int (2 : Int32)), (.int v4)])) (fun t k => ?_) ?_
        · show Steps p.tables e below (T66.setTop (mkF m 90 #[.val (.int v0), .val (.int v1), .val (.int v2), .val (.int v3), .val (.int v4), .val (.int v5), d6, d7] [(.int (3 : Int32)), (.int v5)])) t
          refine XS.icmpNo X66.here hx rfl (hb hby dUtf8SequenceLengthPinLaw_expected_90) rfl (flt hc90).1 ?_
          show Steps p.tables e below (T66.setTop (mkF m 93 #[.val (.int v0), .val (.int v1), .val (.int v2), .val (.int v3), .val (.int v4), .val (.int v5), d6, d7] [])) t
          refine XS.iload X66.here hx rfl (hb hby dUtf8SequenceLengthPinLaw_expected_93) rfl ?_
          show Steps p.tables e below (T66.setTop (mkF m 95 #[.val (.int v0), .val (.int v1), .val (.int v2), .val (.int v3), .val (.int v4), .val (.int v5), d6, d7] [(.int v4)])) t
          refine XS.iconst X66.here hx rfl (hb hby dUtf8SequenceLengthPinLaw_expected_95) ?_
          exact k
        by_cases hc96 : (2 : Int32) < v4
        · rw [if_pos hc96] at hF
          refine own_Goes.via (B := T66.setTop (mkF m 100 #[.val (.int v0), .val (.int v1), .val (.int v2), .val (.int v3), .val (.int v4), .val (.int v5), d6, d7] [(.int v2)])) (fun t k => ?_) ?_
          · show Steps p.tables e below (T66.setTop (mkF m 96 #[.val (.int v0), .val (.int v1), .val (.int v2), .val (.int v3), .val (.int v4), .val (.int v5), d6, d7] [(.int (2 : Int32)), (.int v4)])) t
            refine XS.icmpNo X66.here hx rfl (hb hby dUtf8SequenceLengthPinLaw_expected_96) rfl (tlt hc96).2.2.2 ?_
            show Steps p.tables e below (T66.setTop (mkF m 99 #[.val (.int v0), .val (.int v1), .val (.int v2), .val (.int v3), .val (.int v4), .val (.int v5), d6, d7] [])) t
            refine XS.iloadN X66.here hx rfl (hb hby dUtf8SequenceLengthPinLaw_expected_99) rfl ?_
            exact k
          obtain ⟨r67, hr67, hF⟩ := own_bd_e hF
          obtain ⟨_, _, ⟨T67, L67, k67, n67⟩, -, X67, ⟨Lc67, hQ67, l67, y67, z67⟩, st67⟩ := Jvm.LawKit.callS X66 hx (y := (⟨"com/example/binary64/binary64/Utf8SequenceLengthPinLaw", "cont", "(I)Z"⟩ : MethodName)) hown (mvT hZ (w9 hw)) (mvT hZ (w10 hw)) (mvT hZ (w7 hw)) (mvT hZ (w11 hw)) (by decide) (backOf (W := 0) (rm_Utf8SequenceLengthPinLaw_cont l Z a0 hw [] hE n0 z v2 r67 hr67) hZ (w11 hw) (w7 hw) (by decide) (by decide)) (g := (mkF m 100 #[.val (.int v0), .val (.int v1), .val (.int v2), .val (.int v3), .val (.int v4), .val (.int v5), d6, d7] [(.int v2)])) rfl (by rw [hml]; rfl) (argsL := [(.int v2)]) (rest := []) (lenOf pd_1 rfl) rfl (by show 2 * 0 + _ ≤ _; exact Nat.le_of_eq rfl) (hb hby dUtf8SequenceLengthPinLaw_expected_100) (fun _ _ => ⟨rfl, e66, (by decide : 0 + 0 ≤ _), (by decide : 0 + 0 ≤ _)⟩)
          dsimp only [Pt.U, Pt.locs, Pt.cells, Pt.slots] at X67 l67 y67 z67 st67 hQ67
          subst l67 y67 z67
          obtain ⟨rfl, N67q, e67⟩ := hQ67
          have N67 := Fr.app N66 N67q
          refine own_Goes.via st67 ?_
          show own_Goes _ _ _ _ _ _ _ (T67.setTop (mkF m 103 #[.val (.int v0), .val (.int v1), .val (.int v2), .val (.int v3), .val (.int v4), .val (.int v5), d6, d7] [(.int r67)]))
          by_cases hc103 : r67 = (0 : Int32)
          · rw [if_pos hc103] at hF
            refine own_Goes.via (B := T67.setTop (mkF m 130 #[.val (.int v0), .val (.int v1), .val (.int v2), .val (.int v3), .val (.int v4), .val (.int v5), d6, d7] [(.int (0 : Int32))])) (fun t k => ?_) ?_
            · show Steps p.tables e below (T67.setTop (mkF m 103 #[.val (.int v0), .val (.int v1), .val (.int v2), .val (.int v3), .val (.int v4), .val (.int v5), d6, d7] [(.int r67)])) t
              refine XS.ifYes X67.here hx rfl (pc0 := 103) (pc' := 129) rfl (hb hby dUtf8SequenceLengthPinLaw_expected_103) rfl ((if0 _ _).trans (teq hc103).1) (by decide) (by decide) ?_
              show Steps p.tables e below (T67.setTop (mkF m 129 #[.val (.int v0), .val (.int v1), .val (.int v2), .val (.int v3), .val (.int v4), .val (.int v5), d6, d7] [])) t
              refine XS.iconst X67.here hx rfl (hb hby dUtf8SequenceLengthPinLaw_expected_129) ?_
              exact k
            exact b_Utf8SequenceLengthPinLaw_expected_130 cx X67 e67 N67 z v0 v1 v2 v3 v5 (0 : Int32) (.val (.int v4)) d6 d7 (One.val rfl) o_d6 o_d7 _ hF
          · rw [if_neg hc103] at hF
            refine own_Goes.via (B := T67.setTop (mkF m 106 #[.val (.int v0), .val (.int v1), .val (.int v2), .val (.int v3), .val (.int v4), .val (.int v5), d6, d7] [])) (fun t k => ?_) ?_
            · show Steps p.tables e below (T67.setTop (mkF m 103 #[.val (.int v0), .val (.int v1), .val (.int v2), .val (.int v3), .val (.int v4), .val (.int v5), d6, d7] [(.int r67)])) t
              refine XS.ifNo X67.here hx rfl (hb hby dUtf8SequenceLengthPinLaw_expected_103) rfl ((if0 _ _).trans (feq hc103).1) ?_
              exact k
            exact b_Utf8SequenceLengthPinLaw_expected_106 cx X67 e67 N67 z v0 v1 v2 v3 v4 v5 d6 d7 o_d6 o_d7 _ hF
        · rw [if_neg hc96] at hF
          refine own_Goes.via (B := T66.setTop (mkF m 130 #[.val (.int v0), .val (.int v1), .val (.int v2), .val (.int v3), .val (.int v4), .val (.int v5), d6, d7] [(.int (0 : Int32))])) (fun t k => ?_) ?_
          · show Steps p.tables e below (T66.setTop (mkF m 96 #[.val (.int v0), .val (.int v1), .val (.int v2), .val (.int v3), .val (.int v4), .val (.int v5), d6, d7] [(.int (2 : Int32)), (.int v4)])) t
            refine XS.icmpYes X66.here hx rfl (pc0 := 96) (pc' := 129) rfl (hb hby dUtf8SequenceLengthPinLaw_expected_96) rfl (flt hc96).2.2.2 (by decide) (by decide) ?_
            show Steps p.tables e below (T66.setTop (mkF m 129 #[.val (.int v0), .val (.int v1), .val (.int v2), .val (.int v3), .val (.int v4), .val (.int v5), d6, d7] [])) t
            refine XS.iconst X66.here hx rfl (hb hby dUtf8SequenceLengthPinLaw_expected_129) ?_
            exact k
          exact b_Utf8SequenceLengthPinLaw_expected_130 cx X66 e66 N66 z v0 v1 v2 v3 v5 (0 : Int32) (.val (.int v4)) d6 d7 (One.val rfl) o_d6 o_d7 _ hF
  · rw [if_neg hc77] at hF
    refine own_Goes.via (B := T.setTop (mkF m 130 #[.val (.int v0), .val (.int v1), .val (.int v2), .val (.int v3), .val (.int v4), .val (.int v5), d6, d7] [(.int (0 : Int32))])) (fun t k => ?_) ?_
    · show Steps p.tables e below (T.setTop (mkF m 77 #[.val (.int v0), .val (.int v1), .val (.int v2), .val (.int v3), .val (.int v4), .val (.int v5), d6, d7] [(.int (1 : Int32)), (.int v4)])) t
      refine XS.icmpYes X.here hx rfl (pc0 := 77) (pc' := 129) rfl (hb hby dUtf8SequenceLengthPinLaw_expected_77) rfl (flt hc77).2.2.2 (by decide) (by decide) ?_
      show Steps p.tables e below (T.setTop (mkF m 129 #[.val (.int v0), .val (.int v1), .val (.int v2), .val (.int v3), .val (.int v4), .val (.int v5), d6, d7] [])) t
      refine XS.iconst X.here hx rfl (hb hby dUtf8SequenceLengthPinLaw_expected_129) ?_
      exact k
    exact b_Utf8SequenceLengthPinLaw_expected_130 cx X eT N z v0 v1 v2 v3 v5 (0 : Int32) (.val (.int v4)) d6 d7 (One.val rfl) o_d6 o_d7 _ hF
set_option maxRecDepth 65536 in
set_option maxHeartbeats 4000000 in
theorem b_Utf8SequenceLengthPinLaw_expected {p : Program} {l : Launch} {e : Env} {s : State} {m : MethodId} {args : Array Value} {below : List Frame} {meth : Method} {c : Code} {Z : State} {a0 : Array Value} {n0 : Nat} {hE : Heap} (cx : Cx_Utf8SequenceLengthPinLaw_expected p s m meth c Z a0) :
    ∀ {T : State} {locs : List Loc} (X : Stand p l e ({ frames := 1, cells := 0, slots := 0, locals := 12 } : Room) s m args below meth c T locs 0 0) (eT : T.heap = hE) (N : Fr n0 locs) (z : n0 ≤ hE.size) (v0 : Int32) (v1 : Int32) (v2 : Int32) (v3 : Int32) (v4 : Int32) (r : Int32), f_Utf8SequenceLengthPinLaw_expected v0 v1 v2 v3 v4 = some r → own_Goes p e below s (Q_Utf8SequenceLengthPinLaw_expected Z hE n0 r) 0 0 (T.setTop (mkF m 0 #[.val (.int v0), .val (.int v1), .val (.int v2), .val (.int v3), .val (.int v4), .unset, .unset, .unset] [])) := by
  have cx' := cx
  obtain ⟨hx, hZ, hw, hby, hml, hown, hret, hlk, hnm⟩ := cx'
  intro T locs X eT N z v0 v1 v2 v3 v4 r hF
  unfold f_Utf8SequenceLengthPinLaw_expected at hF
  refine own_Goes.via (B := T.setTop (mkF m 4 #[.val (.int v0), .val (.int v1), .val (.int v2), .val (.int v3), .val (.int v4), .unset, .unset, .unset] [(.int ((v0.toUInt32 >>> ((7 : Int32) &&& 31).toUInt32).toInt32))])) (fun t k => ?_) ?_
  · show Steps p.tables e below (T.setTop (mkF m 0 #[.val (.int v0), .val (.int v1), .val (.int v2), .val (.int v3), .val (.int v4), .unset, .unset, .unset] [])) t
    refine XS.iloadN X.here hx rfl (hb hby dUtf8SequenceLengthPinLaw_expected_0) rfl ?_
    show Steps p.tables e below (T.setTop (mkF m 1 #[.val (.int v0), .val (.int v1), .val (.int v2), .val (.int v3), .val (.int v4), .unset, .unset, .unset] [(.int v0)])) t
    refine XS.bipush X.here hx rfl (hb hby dUtf8SequenceLengthPinLaw_expected_1) ?_
    show Steps p.tables e below (T.setTop (mkF m 3 #[.val (.int v0), .val (.int v1), .val (.int v2), .val (.int v3), .val (.int v4), .unset, .unset, .unset] [(.int (7 : Int32)), (.int v0)])) t
    refine XS.iushr X.here hx rfl (hb hby dUtf8SequenceLengthPinLaw_expected_3) rfl ?_
    exact k
  by_cases hc4 : ((v0.toUInt32 >>> ((7 : Int32) &&& 31).toUInt32).toInt32) = (0 : Int32)
  · rw [if_pos hc4] at hF
    refine own_Goes.via (B := T.setTop (mkF m 8 #[.val (.int v0), .val (.int v1), .val (.int v2), .val (.int v3), .val (.int v4), .unset, .unset, .unset] [(.int (1 : Int32))])) (fun t k => ?_) ?_
    · show Steps p.tables e below (T.setTop (mkF m 4 #[.val (.int v0), .val (.int v1), .val (.int v2), .val (.int v3), .val (.int v4), .unset, .unset, .unset] [(.int ((v0.toUInt32 >>> ((7 : Int32) &&& 31).toUInt32).toInt32))])) t
      refine XS.ifNo X.here hx rfl (hb hby dUtf8SequenceLengthPinLaw_expected_4) rfl ((if0 _ _).trans (teq hc4).2) ?_
      show Steps p.tables e below (T.setTop (mkF m 7 #[.val (.int v0), .val (.int v1), .val (.int v2), .val (.int v3), .val (.int v4), .unset, .unset, .unset] [])) t
      refine XS.iconst X.here hx rfl (hb hby dUtf8SequenceLengthPinLaw_expected_7) ?_
      exact k
    obtain rfl : (1 : Int32) = r := Option.some.inj hF
    exact own_retI X hx hret hlk (hb hby dUtf8SequenceLengthPinLaw_expected_8) eT ⟨rfl, N, rfl⟩ (by decide) (by decide)
  · rw [if_neg hc4] at hF
    refine own_Goes.via (B := T.setTop (mkF m 14 #[.val (.int v0), .val (.int v1), .val (.int v2), .val (.int v3), .val (.int v4), .unset, .unset, .unset] [(.int (2 : Int32)), (.int ((v0.toUInt32 >>> ((6 : Int32) &&& 31).toUInt32).toInt32))])) (fun t k => ?_) ?_
    · show Steps p.tables e below (T.setTop (mkF m 4 #[.val (.int v0), .val (.int v1), .val (.int v2), .val (.int v3), .val (.int v4), .unset, .unset, .unset] [(.int ((v0.toUInt32 >>> ((7 : Int32) &&& 31).toUInt32).toInt32))])) t
      refine XS.ifYes X.here hx rfl (pc0 := 4) (pc' := 9) rfl (hb hby dUtf8SequenceLengthPinLaw_expected_4) rfl ((if0 _ _).trans (feq hc4).2) (by decide) (by decide) ?_
      show Steps p.tables e below (T.setTop (mkF m 9 #[.val (.int v0), .val (.int v1), .val (.int v2), .val (.int v3), .val (.int v4), .unset, .unset, .unset] [])) t
      refine XS.iloadN X.here hx rfl (hb hby dUtf8SequenceLengthPinLaw_expected_9) rfl ?_
      show Steps p.tables e below (T.setTop (mkF m 10 #[.val (.int v0), .val (.int v1), .val (.int v2), .val (.int v3), .val (.int v4), .unset, .unset, .unset] [(.int v0)])) t
      refine XS.bipush X.here hx rfl (hb hby dUtf8SequenceLengthPinLaw_expected_10) ?_
      show Steps p.tables e below (T.setTop (mkF m 12 #[.val (.int v0), .val (.int v1), .val (.int v2), .val (.int v3), .val (.int v4), .unset, .unset, .unset] [(.int (6 : Int32)), (.int v0)])) t
      refine XS.iushr X.here hx rfl (hb hby dUtf8SequenceLengthPinLaw_expected_12) rfl ?_
      show Steps p.tables e below (T.setTop (mkF m 13 #[.val (.int v0), .val (.int v1), .val (.int v2), .val (.int v3), .val (.int v4), .unset, .unset, .unset] [(.int ((v0.toUInt32 >>> ((6 : Int32) &&& 31).toUInt32).toInt32))])) t
      refine XS.iconst X.here hx rfl (hb hby dUtf8SequenceLengthPinLaw_expected_13) ?_
      exact k
    by_cases hc14 : ((v0.toUInt32 >>> ((6 : Int32) &&& 31).toUInt32).toInt32) = (2 : Int32)
    · rw [if_pos hc14] at hF
      refine own_Goes.via (B := T.setTop (mkF m 19 #[.val (.int v0), .val (.int v1), .val (.int v2), .val (.int v3), .val (.int v4), .unset, .unset, .unset] [(.int (-2 : Int32))])) (fun t k => ?_) ?_
      · show Steps p.tables e below (T.setTop (mkF m 14 #[.val (.int v0), .val (.int v1), .val (.int v2), .val (.int v3), .val (.int v4), .unset, .unset, .unset] [(.int (2 : Int32)), (.int ((v0.toUInt32 >>> ((6 : Int32) &&& 31).toUInt32).toInt32))])) t
        refine XS.icmpNo X.here hx rfl (hb hby dUtf8SequenceLengthPinLaw_expected_14) rfl (teq hc14).2 ?_
        show Steps p.tables e below (T.setTop (mkF m 17 #[.val (.int v0), .val (.int v1), .val (.int v2), .val (.int v3), .val (.int v4), .unset, .unset, .unset] [])) t
        refine XS.bipush X.here hx rfl (hb hby dUtf8SequenceLengthPinLaw_expected_17) ?_
        exact k
      obtain rfl : (-2 : Int32) = r := Option.some.inj hF
      exact own_retI X hx hret hlk (hb hby dUtf8SequenceLengthPinLaw_expected_19) eT ⟨rfl, N, rfl⟩ (by decide) (by decide)
    · rw [if_neg hc14] at hF
      refine own_Goes.via (B := T.setTop (mkF m 24 #[.val (.int v0), .val (.int v1), .val (.int v2), .val (.int v3), .val (.int v4), .unset, .unset, .unset] [(.int (192 : Int32)), (.int v0)])) (fun t k => ?_) ?_
      · show Steps p.tables e below (T.setTop (mkF m 14 #[.val (.int v0), .val (.int v1), .val (.int v2), .val (.int v3), .val (.int v4), .unset, .unset, .unset] [(.int (2 : Int32)), (.int ((v0.toUInt32 >>> ((6 : Int32) &&& 31).toUInt32).toInt32))])) t
        refine XS.icmpYes X.here hx rfl (pc0 := 14) (pc' := 20) rfl (hb hby dUtf8SequenceLengthPinLaw_expected_14) rfl (feq hc14).2 (by decide) (by decide) ?_
        show Steps p.tables e below (T.setTop (mkF m 20 #[.val (.int v0), .val (.int v1), .val (.int v2), .val (.int v3), .val (.int v4), .unset, .unset, .unset] [])) t
        refine XS.iloadN X.here hx rfl (hb hby dUtf8SequenceLengthPinLaw_expected_20) rfl ?_
        show Steps p.tables e below (T.setTop (mkF m 21 #[.val (.int v0), .val (.int v1), .val (.int v2), .val (.int v3), .val (.int v4), .unset, .unset, .unset] [(.int v0)])) t
        refine XS.sipush X.here hx rfl (hb hby dUtf8SequenceLengthPinLaw_expected_21) ?_
        exact k
      by_cases hc24 : v0 = (192 : Int32)
      · rw [if_pos hc24] at hF
        refine own_Goes.via (B := T.setTop (mkF m 42 #[.val (.int v0), .val (.int v1), .val (.int v2), .val (.int v3), .val (.int v4), .unset, .unset, .unset] [(.int (-1 : Int32))])) (fun t k => ?_) ?_
        · show Steps p.tables e below (T.setTop (mkF m 24 #[.val (.int v0), .val (.int v1), .val (.int v2), .val (.int v3), .val (.int v4), .unset, .unset, .unset] [(.int (192 : Int32)), (.int v0)])) t
          refine XS.icmpYes X.here hx rfl (pc0 := 24) (pc' := 41) rfl (hb hby dUtf8SequenceLengthPinLaw_expected_24) rfl (teq hc24).1 (by decide) (by decide) ?_
          show Steps p.tables e below (T.setTop (mkF m 41 #[.val (.int v0), .val (.int v1), .val (.int v2), .val (.int v3), .val (.int v4), .unset, .unset, .unset] [])) t
          refine XS.iconst X.here hx rfl (hb hby dUtf8SequenceLengthPinLaw_expected_41) ?_
          exact k
        obtain rfl : (-1 : Int32) = r := Option.some.inj hF
        exact own_retI X hx hret hlk (hb hby dUtf8SequenceLengthPinLaw_expected_42) eT ⟨rfl, N, rfl⟩ (by decide) (by decide)
      · rw [if_neg hc24] at hF
        refine own_Goes.via (B := T.setTop (mkF m 31 #[.val (.int v0), .val (.int v1), .val (.int v2), .val (.int v3), .val (.int v4), .unset, .unset, .unset] [(.int (193 : Int32)), (.int v0)])) (fun t k => ?_) ?_
        · show Steps p.tables e below (T.setTop (mkF m 24 #[.val (.int v0), .val (.int v1), .val (.int v2), .val (.int v3), .val (.int v4), .unset, .unset, .unset] [(.int (192 : Int32)), (.int v0)])) t
          refine XS.icmpNo X.here hx rfl (hb hby dUtf8SequenceLengthPinLaw_expected_24) rfl (feq hc24).1 ?_
          show Steps p.tables e below (T.setTop (mkF m 27 #[.val (.int v0), .val (.int v1), .val (.int v2), .val (.int v3), .val (.int v4), .unset, .unset, .unset] [])) t
          refine XS.iloadN X.here hx rfl (hb hby dUtf8SequenceLengthPinLaw_expected_27) rfl ?_
          show Steps p.tables e below (T.setTop (mkF m 28 #[.val (.int v0), .val (.int v1), .val (.int v2), .val (.int v3), .val (.int v4), .unset, .unset, .unset] [(.int v0)])) t
          refine XS.sipush X.here hx rfl (hb hby dUtf8SequenceLengthPinLaw_expected_28) ?_
          exact k
        by_cases hc31 : v0 = (193 : Int32)
        · rw [if_pos hc31] at hF
          refine own_Goes.via (B := T.setTop (mkF m 42 #[.val (.int v0), .val (.int v1), .val (.int v2), .val (.int v3), .val (.int v4), .unset, .unset, .unset] [(.int (-1 : Int32))])) (fun t k => ?_) ?_
          · show Steps p.tables e below (T.setTop (mkF m 31 #[.val (.int v0), .val (.int v1), .val (.int v2), .val (.int v3), .val (.int v4), .unset, .unset, .unset] [(.int (193 : Int32)), (.int v0)])) t
            refine XS.icmpYes X.here hx rfl (pc0 := 31) (pc' := 41) rfl (hb hby dUtf8SequenceLengthPinLaw_expected_31) rfl (teq hc31).1 (by decide) (by decide) ?_
            show Steps p.tables e below (T.setTop (mkF m 41 #[.val (.int v0), .val (.int v1), .val (.int v2), .val (.int v3), .val (.int v4), .unset, .unset, .unset] [])) t
            refine XS.iconst X.here hx rfl (hb hby dUtf8SequenceLengthPinLaw_expected_41) ?_
            exact k
          obtain rfl : (-1 : Int32) = r := Option.some.inj hF
          exact own_retI X hx hret hlk (hb hby dUtf8SequenceLengthPinLaw_expected_42) eT ⟨rfl, N, rfl⟩ (by decide) (by decide)
        · rw [if_neg hc31] at hF
          refine own_Goes.via (B := T.setTop (mkF m 38 #[.val (.int v0), .val (.int v1), .val (.int v2), .val (.int v3), .val (.int v4), .unset, .unset, .unset] [(.int (245 : Int32)), (.int v0)])) (fun t k => ?_) ?_
          · show Steps p.tables e below (T.setTop (mkF m 31 #[.val (.int v0), .val (.int v1), .val (.int v2), .val (.int v3), .val (.int v4), .unset, .unset, .unset] [(.int (193 : Int32)), (.int v0)])) t
            refine XS.icmpNo X.here hx rfl (hb hby dUtf8SequenceLengthPinLaw_expected_31) rfl (feq hc31).1 ?_
            show Steps p.tables e below (T.setTop (mkF m 34 #[.val (.int v0), .val (.int v1), .val (.int v2), .val (.int v3), .val (.int v4), .unset, .unset, .unset] [])) t
            refine XS.iloadN X.here hx rfl (hb hby dUtf8SequenceLengthPinLaw_expected_34) rfl ?_
            show Steps p.tables e below (T.setTop (mkF m 35 #[.val (.int v0), .val (.int v1), .val (.int v2), .val (.int v3), .val (.int v4), .unset, .unset, .unset] [(.int v0)])) t
            refine XS.sipush X.here hx rfl (hb hby dUtf8SequenceLengthPinLaw_expected_35) ?_
            exact k
          by_cases hc38 : v0 < (245 : Int32)
          · rw [if_pos hc38] at hF
            refine own_Goes.via (B := T.setTop (mkF m 48 #[.val (.int v0), .val (.int v1), .val (.int v2), .val (.int v3), .val (.int v4), .unset, .unset, .unset] [(.int (6 : Int32)), (.int ((v0.toUInt32 >>> ((5 : Int32) &&& 31).toUInt32).toInt32))])) (fun t k => ?_) ?_
            · show Steps p.tables e below (T.setTop (mkF m 38 #[.val (.int v0), .val (.int v1), .val (.int v2), .val (.int v3), .val (.int v4), .unset, .unset, .unset] [(.int (245 : Int32)), (.int v0)])) t
              refine XS.icmpYes X.here hx rfl (pc0 := 38) (pc' := 43) rfl (hb hby dUtf8SequenceLengthPinLaw_expected_38) rfl (tlt hc38).1 (by decide) (by decide) ?_
              show Steps p.tables e below (T.setTop (mkF m 43 #[.val (.int v0), .val (.int v1), .val (.int v2), .val (.int v3), .val (.int v4), .unset, .unset, .unset] [])) t
              refine XS.iloadN X.here hx rfl (hb hby dUtf8SequenceLengthPinLaw_expected_43) rfl ?_
              show Steps p.tables e below (T.setTop (mkF m 44 #[.val (.int v0), .val (.int v1), .val (.int v2), .val (.int v3), .val (.int v4), .unset, .unset, .unset] [(.int v0)])) t
              refine XS.iconst X.here hx rfl (hb hby dUtf8SequenceLengthPinLaw_expected_44) ?_
              show Steps p.tables e below (T.setTop (mkF m 45 #[.val (.int v0), .val (.int v1), .val (.int v2), .val (.int v3), .val (.int v4), .unset, .unset, .unset] [(.int (5 : Int32)), (.int v0)])) t
              refine XS.iushr X.here hx rfl (hb hby dUtf8SequenceLengthPinLaw_expected_45) rfl ?_
              show Steps p.tables e below (T.setTop (mkF m 46 #[.val (.int v0), .val (.int v1), .val (.int v2), .val (.int v3), .val (.int v4), .unset, .unset, .unset] [(.int ((v0.toUInt32 >>> ((5 : Int32) &&& 31).toUInt32).toInt32))])) t
              refine XS.bipush X.here hx rfl (hb hby dUtf8SequenceLengthPinLaw_expected_46) ?_
              exact k
            by_cases hc48 : ((v0.toUInt32 >>> ((5 : Int32) &&& 31).toUInt32).toInt32) = (6 : Int32)
            · rw [if_pos hc48] at hF
              refine own_Goes.via (B := T.setTop (mkF m 74 #[.val (.int v0), .val (.int v1), .val (.int v2), .val (.int v3), .val (.int v4), .val (.int (2 : Int32)), .unset, .unset] [])) (fun t k => ?_) ?_
              · show Steps p.tables e below (T.setTop (mkF m 48 #[.val (.int v0), .val (.int v1), .val (.int v2), .val (.int v3), .val (.int v4), .unset, .unset, .unset] [(.int (6 : Int32)), (.int ((v0.toUInt32 >>> ((5 : Int32) &&& 31).toUInt32).toInt32))])) t
                refine XS.icmpNo X.here hx rfl (hb hby dUtf8SequenceLengthPinLaw_expected_48) rfl (teq hc48).2 ?_
                show Steps p.tables e below (T.setTop (mkF m 51 #[.val (.int v0), .val (.int v1), .val (.int v2), .val (.int v3), .val (.int v4), .unset, .unset, .unset] [])) t
                refine XS.iconst X.here hx rfl (hb hby dUtf8SequenceLengthPinLaw_expected_51) ?_
                show Steps p.tables e below (T.setTop (mkF m 52 #[.val (.int v0), .val (.int v1), .val (.int v2), .val (.int v3), .val (.int v4), .unset, .unset, .unset] [(.int (2 : Int32))])) t
                refine XS.istore X.here hx rfl (hb hby dUtf8SequenceLengthPinLaw_expected_52) rfl (l' := #[.val (.int v0), .val (.int v1), .val (.int v2), .val (.int v3), .val (.int v4), .val (.int (2 : Int32)), .unset, .unset]) rfl ?_
                show Steps p.tables e below (T.setTop (mkF m 54 #[.val (.int v0), .val (.int v1), .val (.int v2), .val (.int v3), .val (.int v4), .val (.int (2 : Int32)), .unset, .unset] [])) t
                refine XS.goto X.here hx rfl (pc0 := 54) (pc' := 74) rfl (hb hby dUtf8SequenceLengthPinLaw_expected_54) (by decide) (by decide) ?_
                exact k
              exact b_Utf8SequenceLengthPinLaw_expected_74 cx X eT N z v0 v1 v2 v3 v4 (2 : Int32) (.unset) (.unset) One.u One.u _ hF
            · rw [if_neg hc48] at hF
              refine own_Goes.via (B := T.setTop (mkF m 62 #[.val (.int v0), .val (.int v1), .val (.int v2), .val (.int v3), .val (.int v4), .unset, .unset, .unset] [(.int (14 : Int32)), (.int ((v0.toUInt32 >>> ((4 : Int32) &&& 31).toUInt32).toInt32))])) (fun t k => ?_) ?_
              · show Steps p.tables e below (T.setTop (mkF m 48 #[.val (.int v0), .val (.int v1), .val (.int v2), .val (.int v3), .val (.int v4), .unset, .unset, .unset] [(.int (6 : Int32)), (.int ((v0.toUInt32 >>> ((5 : Int32) &&& 31).toUInt32).toInt32))])) t
                refine XS.icmpYes X.here hx rfl (pc0 := 48) (pc' := 57) rfl (hb hby dUtf8SequenceLengthPinLaw_expected_48) rfl (feq hc48).2 (by decide) (by decide) ?_
                show Steps p.tables e below (T.setTop (mkF m 57 #[.val (.int v0), .val (.int v1), .val (.int v2), .val (.int v3), .val (.int v4), .unset, .unset, .unset] [])) t
                refine XS.iloadN X.here hx rfl (hb hby dUtf8SequenceLengthPinLaw_expected_57) rfl ?_
                show Steps p.tables e below (T.setTop (mkF m 58 #[.val (.int v0), .val (.int v1), .val (.int v2), .val (.int v3), .val (.int v4), .unset, .unset, .unset] [(.int v0)])) t
                refine XS.iconst X.here hx rfl (hb hby dUtf8SequenceLengthPinLaw_expected_58) ?_
                show Steps p.tables e below (T.setTop (mkF m 59 #[.val (.int v0), .val (.int v1), .val (.int v2), .val (.int v3), .val (.int v4), .unset, .unset, .unset] [(.int (4 : Int32)), (.int v0)])) t
                refine XS.iushr X.here hx rfl (hb hby dUtf8SequenceLengthPinLaw_expected_59) rfl ?_
                show Steps p.tables e below (T.setTop (mkF m 60 #[.val (.int v0), .val (.int v1), .val (.int v2), .val (.int v3), .val (.int v4), .unset, .unset, .unset] [(.int ((v0.toUInt32 >>> ((4 : Int32) &&& 31).toUInt32).toInt32))])) t
                refine XS.bipush X.here hx rfl (hb hby dUtf8SequenceLengthPinLaw_expected_60) ?_
                exact k
              by_cases hc62 : ((v0.toUInt32 >>> ((4 : Int32) &&& 31).toUInt32).toInt32) = (14 : Int32)
              · rw [if_pos hc62] at hF
                refine own_Goes.via (B := T.setTop (mkF m 74 #[.val (.int v0), .val (.int v1), .val (.int v2), .val (.int v3), .val (.int v4), .val (.int (3 : Int32)), .unset, .unset] [])) (fun t k => ?_) ?_
                · show Steps p.tables e below (T.setTop (mkF m 62 #[.val (.int v0), .val (.int v1), .val (.int v2), .val (.int v3), .val (.int v4), .unset, .unset, .unset] [(.int (14 : Int32)), (.int ((v0.toUInt32 >>> ((4 : Int32) &&& 31).toUInt32).toInt32))])) t
                  refine XS.icmpNo X.here hx rfl (hb hby dUtf8SequenceLengthPinLaw_expected_62) rfl (teq hc62).2 ?_
                  show Steps p.tables e below (T.setTop (mkF m 65 #[.val (.int v0), .val (.int v1), .val (.int v2), .val (.int v3), .val (.int v4), .unset, .unset, .unset] [])) t
                  refine XS.iconst X.here hx rfl (hb hby dUtf8SequenceLengthPinLaw_expected_65) ?_
                  show Steps p.tables e below (T.setTop (mkF m 66 #[.val (.int v0), .val (.int v1), .val (.int v2), .val (.int v3), .val (.int v4), .unset, .unset, .unset] [(.int (3 : Int32))])) t
                  refine XS.istore X.here hx rfl (hb hby dUtf8SequenceLengthPinLaw_expected_66) rfl (l' := #[.val (.int v0), .val (.int v1), .val (.int v2), .val (.int v3), .val (.int v4), .val (.int (3 : Int32)), .unset, .unset]) rfl ?_
                  show Steps p.tables e below (T.setTop (mkF m 68 #[.val (.int v0), .val (.int v1), .val (.int v2), .val (.int v3), .val (.int v4), .val (.int (3 : Int32)), .unset, .unset] [])) t
                  refine XS.goto X.here hx rfl (pc0 := 68) (pc' := 74) rfl (hb hby dUtf8SequenceLengthPinLaw_expected_68) (by decide) (by decide) ?_
                  exact k
                exact b_Utf8SequenceLengthPinLaw_expected_74 cx X eT N z v0 v1 v2 v3 v4 (3 : Int32) (.unset) (.unset) One.u One.u _ hF
              · rw [if_neg hc62] at hF
                refine own_Goes.via (B := T.setTop (mkF m 74 #[.val (.int v0), .val (.int v1), .val (.int v2), .val (.int v3), .val (.int v4), .val (.int (4 : Int32)), .unset, .unset] [])) (fun t k => ?_) ?_
                · show Steps p.tables e below (T.setTop (mkF m 62 #[.val (.int v0), .val (.int v1), .val (.int v2), .val (.int v3), .val (.int v4), .unset, .unset, .unset] [(.int (14 : Int32)), (.int ((v0.toUInt32 >>> ((4 : Int32) &&& 31).toUInt32).toInt32))])) t
                  refine XS.icmpYes X.here hx rfl (pc0 := 62) (pc' := 71) rfl (hb hby dUtf8SequenceLengthPinLaw_expected_62) rfl (feq hc62).2 (by decide) (by decide) ?_
                  show Steps p.tables e below (T.setTop (mkF m 71 #[.val (.int v0), .val (.int v1), .val (.int v2), .val (.int v3), .val (.int v4), .unset, .unset, .unset] [])) t
                  refine XS.iconst X.here hx rfl (hb hby dUtf8SequenceLengthPinLaw_expected_71) ?_
                  show Steps p.tables e below (T.setTop (mkF m 72 #[.val (.int v0), .val (.int v1), .val (.int v2), .val (.int v3), .val (.int v4), .unset, .unset, .unset] [(.int (4 : Int32))])) t
                  refine XS.istore X.here hx rfl (hb hby dUtf8SequenceLengthPinLaw_expected_72) rfl (l' := #[.val (.int v0), .val (.int v1), .val (.int v2), .val (.int v3), .val (.int v4), .val (.int (4 : Int32)), .unset, .unset]) rfl ?_
                  exact k
                exact b_Utf8SequenceLengthPinLaw_expected_74 cx X eT N z v0 v1 v2 v3 v4 (4 : Int32) (.unset) (.unset) One.u One.u _ hF
          · rw [if_neg hc38] at hF
            refine own_Goes.via (B := T.setTop (mkF m 42 #[.val (.int v0), .val (.int v1), .val (.int v2), .val (.int v3), .val (.int v4), .unset, .unset, .unset] [(.int (-1 : Int32))])) (fun t k => ?_) ?_
            · show Steps p.tables e below (T.setTop (mkF m 38 #[.val (.int v0), .val (.int v1), .val (.int v2), .val (.int v3), .val (.int v4), .unset, .unset, .unset] [(.int (245 : Int32)), (.int v0)])) t
              refine XS.icmpNo X.here hx rfl (hb hby dUtf8SequenceLengthPinLaw_expected_38) rfl (flt hc38).1 ?_
              show Steps p.tables e below (T.setTop (mkF m 41 #[.val (.int v0), .val (.int v1), .val (.int v2), .val (.int v3), .val (.int v4), .unset, .unset, .unset] [])) t
              refine XS.iconst X.here hx rfl (hb hby dUtf8SequenceLengthPinLaw_expected_41) ?_
              exact k
            obtain rfl : (-1 : Int32) = r := Option.some.inj hF
            exact own_retI X hx hret hlk (hb hby dUtf8SequenceLengthPinLaw_expected_42) eT ⟨rfl, N, rfl⟩ (by decide) (by decide)
theorem ef_Utf8SequenceLengthPinLaw_expected (m : MethodId) (x0 : Int32) (x1 : Int32) (x2 : Int32) (x3 : Int32) (x4 : Int32) : entryFrame m #[(.int x0), (.int x1), (.int x2), (.int x3), (.int x4)] 8 = mkF m 0 #[.val (.int x0), .val (.int x1), .val (.int x2), .val (.int x3), .val (.int x4), .unset, .unset, .unset] [] := by first | (simp [entryFrame, mkF, argsToLocals, Value.category]; done) | rfl
set_option maxRecDepth 65536 in
set_option maxHeartbeats 4000000 in
theorem rm_Utf8SequenceLengthPinLaw_expected (l : Launch) (Z : State) (a0 : Array Value) (hw : ∀ d ∈ tables_1, d.before a0 Z = true) (ws : List Jvm.Cond) (hE : Heap) (n0 : Nat) (z : n0 ≤ hE.size)  (v0 : Int32) (v1 : Int32) (v2 : Int32) (v3 : Int32) (v4 : Int32) (r : Int32) (hF : (f_Utf8SequenceLengthPinLaw_expected v0 v1 v2 v3 v4) = some r) :
    MetFree l (⟨"com/example/binary64/binary64/Utf8SequenceLengthPinLaw", "expected", "(IIIII)I"⟩ : MethodName) (head1 (Jvm.Cond.code (⟨"com/example/binary64/binary64/Utf8SequenceLengthPinLaw", "expected", "(IIIII)I"⟩ : MethodName) method_4_code 8 (some .int) :: ws) ({ frames := 1, cells := 0, slots := 0, locals := 12 } : Room)) (fun a U => a = #[(.int v0), (.int v1), (.int v2), (.int v3), (.int v4)] ∧ Z.Warmed39 U.vm ∧ U.heap = hE) (fun _ _ _ _ _ => True) (fun _ U o U' => ∃ v L, o = .returned v ∧ (Q_Utf8SequenceLengthPinLaw_expected Z hE n0 r) v U'.heap L ∧ FrameEnd U o U' L ({ frames := 1, cells := 0, slots := 0, locals := 12 } : Room).cells ({ frames := 1, cells := 0, slots := 0, locals := 12 } : Room).slots) := by
  refine MetFree.of_bodySF (plainFor_of_name pn_com_example_binary64_binary64_Utf8SequenceLengthPinLaw) hisR ?_
  intro p e s m args below meth c s₁ Bd hml0 hP hK
  obtain ⟨rfl, hZ, hh⟩ := hP
  have X0 : Stand p l e ({ frames := 1, cells := 0, slots := 0, locals := 12 } : Room) s m #[(.int v0), (.int v1), (.int v2), (.int v3), (.int v4)] below meth c s₁ [] 0 0 := Stand.of_body Bd
  have e0 : s₁.heap = hE := by rw [← hh, Bd.state]; rfl
  have cx : Cx_Utf8SequenceLengthPinLaw_expected p s m meth c Z a0 := ⟨Bd.exec, hZ, hw, Bd.bytes, hml0, findClass_of_methodNamed Bd.named, Bd.returns, Bd.notSynchronized, (name_of_methodNamed Bd.named Bd.method).1⟩
  show own_Goes p e below s (Q_Utf8SequenceLengthPinLaw_expected Z hE n0 r) ({ frames := 1, cells := 0, slots := 0, locals := 12 } : Room).cells ({ frames := 1, cells := 0, slots := 0, locals := 12 } : Room).slots (s₁.setTop (entryFrame m #[(.int v0), (.int v1), (.int v2), (.int v3), (.int v4)] 8))
  rw [ef_Utf8SequenceLengthPinLaw_expected]
  exact b_Utf8SequenceLengthPinLaw_expected cx X0 e0 (Fr.nil n0) z v0 v1 v2 v3 v4 _ hF
/-! com/example/binary64/binary64/Utf8SequenceLengthPinLaw.law:(IIIII)Z -/
def f_law_74 (v0 : Int32) (v1 : Int32) (v2 : Int32) (v3 : Int32) (v4 : Int32) (v5 : Int32) (v6 : Int32) (v7 : Int32) (t0 : Int32) (bs_b1 : List Int32) : Option (Int32) :=
  own_lt (((v4.toUInt32 >>> ((3 : Int32) &&& 31).toUInt32).toInt32).toInt8.toInt32) fun x125 =>
  own_ck (own_inb bs_b1 t0) <|
  own_lt (own_wr bs_b1 t0 (x125.toInt8.toInt32)) fun bs127 =>
  own_bd (f_Utf8_sequenceLength v5 v7 bs127) fun r128 =>
  own_lt (v3 &&& (255 : Int32)) fun x129 =>
  own_lt (v2 &&& (255 : Int32)) fun x130 =>
  own_lt (v1 &&& (255 : Int32)) fun x131 =>
  own_lt (v0 &&& (255 : Int32)) fun x132 =>
  own_bd (f_Utf8SequenceLengthPinLaw_expected x132 x131 x130 x129 v6) fun r133 =>
  if r128 = r133 then
    some (1 : Int32)
  else
    some (0 : Int32)
def f_law (v0 : Int32) (v1 : Int32) (v2 : Int32) (v3 : Int32) (v4 : Int32) : Option (Int32) :=
  own_lt (v4 &&& (1 : Int32)) fun x134 =>
  own_lt ((((v4.toUInt32 >>> ((1 : Int32) &&& 31).toUInt32).toInt32) &&& (3 : Int32)) + (1 : Int32)) fun x135 =>
  own_lt (x134 + x135) fun x136 =>
  own_lt (v0.toInt8.toInt32) fun x138 =>
  own_ck (own_inb ([(0 : Int32), (0 : Int32), (0 : Int32), (0 : Int32), (0 : Int32)] : List Int32) x134) <|
  own_lt (own_wr ([(0 : Int32), (0 : Int32), (0 : Int32), (0 : Int32), (0 : Int32)] : List Int32) x134 (x138.toInt8.toInt32)) fun bs140 =>
  own_lt (v1.toInt8.toInt32) fun x141 =>
  own_lt (x134 + (1 : Int32)) fun x142 =>
  own_ck (own_inb bs140 x142) <|
  own_lt (own_wr bs140 x142 (x141.toInt8.toInt32)) fun bs144 =>
  own_lt (v2.toInt8.toInt32) fun x145 =>
  own_lt (x134 + (2 : Int32)) fun x146 =>
  own_ck (own_inb bs144 x146) <|
  own_lt (own_wr bs144 x146 (x145.toInt8.toInt32)) fun bs148 =>
  own_lt (v3.toInt8.toInt32) fun x149 =>
  own_lt (x134 + (3 : Int32)) fun x150 =>
  own_ck (own_inb bs148 x150) <|
  own_lt (own_wr bs148 x150 (x149.toInt8.toInt32)) fun bs152 =>
  if x134 = (0 : Int32) then
    (f_law_74 v0 v1 v2 v3 v4 x134 x135 x136 (4 : Int32) bs152)
  else
    (f_law_74 v0 v1 v2 v3 v4 x134 x135 x136 (0 : Int32) bs152)
def Q_law (Z : State) (hE : Heap) (n0 : Nat)  (r : Int32) (v : Option Value) (h : Heap) (L : List Loc) : Prop := v = some (.int r) ∧ Fr n0 L ∧ Keep hE h []
def Cx_law (p : Program) (s : State) (m : MethodId) (meth : Method) (c : Code) (Z : State) (a0 : Array Value) : Prop := p.tables.exec = Jvm.exec ∧ Z.Warmed39 s.vm ∧ (∀ d ∈ tables_1, d.before a0 Z = true) ∧ c.code = code ∧ c.maxLocals = 10 ∧ s.vm.findClass "com/example/binary64/binary64/Utf8SequenceLengthPinLaw" = some m.cls ∧ meth.sig.returnType = some .boolean ∧ meth.locks = false ∧ meth.name = "law"
set_option maxRecDepth 65536 in
set_option maxHeartbeats 4000000 in
theorem b_law_74 {p : Program} {l : Launch} {e : Env} {s : State} {m : MethodId} {args : Array Value} {below : List Frame} {meth : Method} {c : Code} {Z : State} {a0 : Array Value} {n0 : Nat} {hE : Heap} (cx : Cx_law p s m meth c Z a0) :
    ∀ {T : State} {locs : List Loc} {h : Heap} (X : Stand p l e room_1 s m args below meth c T locs 1 5) (eT : T.heap = h) (N : Fr n0 locs) (K : Keep hE h []) (z : n0 ≤ h.size) (b1 : Addr) (v0 : Int32) (v1 : Int32) (v2 : Int32) (v3 : Int32) (v4 : Int32) (v5 : Int32) (v6 : Int32) (v7 : Int32) (t0 : Int32) (bs_b1 : List Int32) (d9 : Slot) (o_d9 : One d9) (A_b1 : own_Ar Z h b1 .byte (bs_b1.map Value.int)) (g_b1 : n0 ≤ b1) (nE_b1 : hE.size ≤ b1) (r : Int32), f_law_74 v0 v1 v2 v3 v4 v5 v6 v7 t0 bs_b1 = some r → own_Goes p e below s (Q_law Z hE n0 r) 1 5 (T.setTop (mkF m 74 #[.val (.int v0), .val (.int v1), .val (.int v2), .val (.int v3), .val (.int v4), .val (.int v5), .val (.int v6), .val (.int v7), .val (.ref b1), d9] [(.int t0), (.ref b1)])) := by
  have cx' := cx
  obtain ⟨hx, hZ, hw, hby, hml, hown, hret, hlk, hnm⟩ := cx'
  intro T locs h X eT N K z b1 v0 v1 v2 v3 v4 v5 v6 v7 t0 bs_b1 d9 o_d9 A_b1 g_b1 nE_b1 r hF
  unfold f_law_74 at hF
  refine own_Goes.via (B := T.setTop (mkF m 79 #[.val (.int v0), .val (.int v1), .val (.int v2), .val (.int v3), .val (.int v4), .val (.int v5), .val (.int v6), .val (.int v7), .val (.ref b1), d9] [(.int (((v4.toUInt32 >>> ((3 : Int32) &&& 31).toUInt32).toInt32).toInt8.toInt32)), (.int t0), (.ref b1)])) (fun t k => ?_) ?_
  · show Steps p.tables e below (T.setTop (mkF m 74 #[.val (.int v0), .val (.int v1), .val (.int v2), .val (.int v3), .val (.int v4), .val (.int v5), .val (.int v6), .val (.int v7), .val (.ref b1), d9] [(.int t0), (.ref b1)])) t
    refine XS.iload X.here hx rfl (hb hby at_74) rfl ?_
    show Steps p.tables e below (T.setTop (mkF m 76 #[.val (.int v0), .val (.int v1), .val (.int v2), .val (.int v3), .val (.int v4), .val (.int v5), .val (.int v6), .val (.int v7), .val (.ref b1), d9] [(.int v4), (.int t0), (.ref b1)])) t
    refine XS.iconst X.here hx rfl (hb hby at_76) ?_
    show Steps p.tables e below (T.setTop (mkF m 77 #[.val (.int v0), .val (.int v1), .val (.int v2), .val (.int v3), .val (.int v4), .val (.int v5), .val (.int v6), .val (.int v7), .val (.ref b1), d9] [(.int (3 : Int32)), (.int v4), (.int t0), (.ref b1)])) t
    refine XS.iushr X.here hx rfl (hb hby at_77) rfl ?_
    show Steps p.tables e below (T.setTop (mkF m 78 #[.val (.int v0), .val (.int v1), .val (.int v2), .val (.int v3), .val (.int v4), .val (.int v5), .val (.int v6), .val (.int v7), .val (.ref b1), d9] [(.int ((v4.toUInt32 >>> ((3 : Int32) &&& 31).toUInt32).toInt32)), (.int t0), (.ref b1)])) t
    refine XS.i2b X.here hx rfl (hb hby at_78) rfl ?_
    exact k
  obtain ⟨x125, hx125, hF⟩ := own_lt_e hF
  rw [← hx125]
  obtain ⟨hi79, hF⟩ := own_ck_e hF
  obtain ⟨T126, h126, X126, e126, W126, A126_b1, st126⟩ := own_stB X hx hZ eT A_b1 hi79 (g := (mkF m 79 #[.val (.int v0), .val (.int v1), .val (.int v2), .val (.int v3), .val (.int v4), .val (.int v5), .val (.int v6), .val (.int v7), .val (.ref b1), d9] [(.int x125), (.int t0), (.ref b1)])) rfl rfl (hb hby at_79)
  refine own_Goes.via st126 ?_
  have z126 := Nat.le_trans z (Keep.of_wr W126).1
  have K126_ := K.wr W126 (Or.inr nE_b1)
  have N126 := Fr.snoc X126 N g_b1
  have A126_b1 : own_Ar Z h126 b1 .byte ((own_wr bs_b1 t0 (x125.toInt8.toInt32)).map Value.int) := A126_b1
  show own_Goes _ _ _ _ _ _ _ (T126.setTop (mkF m 80 #[.val (.int v0), .val (.int v1), .val (.int v2), .val (.int v3), .val (.int v4), .val (.int v5), .val (.int v6), .val (.int v7), .val (.ref b1), d9] []))
  obtain ⟨bs127, hbs127, hF⟩ := own_lt_e hF
  rw [← hbs127] at A126_b1
  refine own_Goes.via (B := T126.setTop (mkF m 86 #[.val (.int v0), .val (.int v1), .val (.int v2), .val (.int v3), .val (.int v4), .val (.int v5), .val (.int v6), .val (.int v7), .val (.ref b1), d9] [(.int v7), (.int v5), (.ref b1)])) (fun t k => ?_) ?_
  · show Steps p.tables e below (T126.setTop (mkF m 80 #[.val (.int v0), .val (.int v1), .val (.int v2), .val (.int v3), .val (.int v4), .val (.int v5), .val (.int v6), .val (.int v7), .val (.ref b1), d9] [])) t
    refine XS.aload X126.here hx rfl (hb hby at_80) rfl rfl ?_
    show Steps p.tables e below (T126.setTop (mkF m 82 #[.val (.int v0), .val (.int v1), .val (.int v2), .val (.int v3), .val (.int v4), .val (.int v5), .val (.int v6), .val (.int v7), .val (.ref b1), d9] [(.ref b1)])) t
    refine XS.iload X126.here hx rfl (hb hby at_82) rfl ?_
    show Steps p.tables e below (T126.setTop (mkF m 84 #[.val (.int v0), .val (.int v1), .val (.int v2), .val (.int v3), .val (.int v4), .val (.int v5), .val (.int v6), .val (.int v7), .val (.ref b1), d9] [(.int v5), (.ref b1)])) t
    refine XS.iload X126.here hx rfl (hb hby at_84) rfl ?_
    exact k
  obtain ⟨r128, hr128, hF⟩ := own_bd_e hF
  obtain ⟨_, _, ⟨T128, L128, k128, n128⟩, -, X128, ⟨Lc128, hQ128, l128, y128, z128⟩, st128⟩ := Jvm.LawKit.callS X126 hx (y := (⟨"com/example/binary64/binary64/Utf8", "sequenceLength", "([BII)I"⟩ : MethodName)) hown (mvT hZ (w1 hw)) (mvT hZ (w2 hw)) (mvT hZ (w3 hw)) (mvT hZ (w4 hw)) (by decide) (backOf (W := 0) (rm_Utf8_sequenceLength l Z a0 hw [] h126 n0 z126 b1 v5 v7 bs127 A126_b1 g_b1 r128 hr128) hZ (w4 hw) (w3 hw) (by decide) (by decide)) (g := (mkF m 86 #[.val (.int v0), .val (.int v1), .val (.int v2), .val (.int v3), .val (.int v4), .val (.int v5), .val (.int v6), .val (.int v7), .val (.ref b1), d9] [(.int v7), (.int v5), (.ref b1)])) rfl (by rw [hml]; rfl) (argsL := [(.ref b1), (.int v5), (.int v7)]) (rest := []) (lenOf pd_0 rfl) rfl (by show 2 * 0 + _ ≤ _; exact Nat.le_of_eq rfl) (hb hby at_86) (fun _ _ => ⟨rfl, e126, (by decide : 1 + 0 ≤ _), (by decide : 5 + 0 ≤ _)⟩)
  dsimp only [Pt.U, Pt.locs, Pt.cells, Pt.slots] at X128 l128 y128 z128 st128 hQ128
  subst l128 y128 z128
  obtain ⟨rfl, N128q, e128⟩ := hQ128
  have N128 := Fr.app N126 N128q
  refine own_Goes.via st128 ?_
  show own_Goes _ _ _ _ _ _ _ (T128.setTop (mkF m 89 #[.val (.int v0), .val (.int v1), .val (.int v2), .val (.int v3), .val (.int v4), .val (.int v5), .val (.int v6), .val (.int v7), .val (.ref b1), d9] [(.int r128)]))
  refine own_Goes.via (B := T128.setTop (mkF m 115 #[.val (.int v0), .val (.int v1), .val (.int v2), .val (.int v3), .val (.int v4), .val (.int v5), .val (.int v6), .val (.int v7), .val (.ref b1), .val (.int r128)] [(.int v6), (.int (v3 &&& (255 : Int32))), (.int (v2 &&& (255 : Int32))), (.int (v1 &&& (255 : Int32))), (.int (v0 &&& (255 : Int32))), (.int r128)])) (fun t k => ?_) ?_
  · show Steps p.tables e below (T128.setTop (mkF m 89 #[.val (.int v0), .val (.int v1), .val (.int v2), .val (.int v3), .val (.int v4), .val (.int v5), .val (.int v6), .val (.int v7), .val (.ref b1), d9] [(.int r128)])) t
    refine XS.istoreS X128.here hx rfl (hb hby at_89) rfl rfl o_d9 ?_
    show Steps p.tables e below (T128.setTop (mkF m 91 #[.val (.int v0), .val (.int v1), .val (.int v2), .val (.int v3), .val (.int v4), .val (.int v5), .val (.int v6), .val (.int v7), .val (.ref b1), .val (.int r128)] [])) t
    refine XS.iload X128.here hx rfl (hb hby at_91) rfl ?_
    show Steps p.tables e below (T128.setTop (mkF m 93 #[.val (.int v0), .val (.int v1), .val (.int v2), .val (.int v3), .val (.int v4), .val (.int v5), .val (.int v6), .val (.int v7), .val (.ref b1), .val (.int r128)] [(.int r128)])) t
    refine XS.iloadN X128.here hx rfl (hb hby at_93) rfl ?_
    show Steps p.tables e below (T128.setTop (mkF m 94 #[.val (.int v0), .val (.int v1), .val (.int v2), .val (.int v3), .val (.int v4), .val (.int v5), .val (.int v6), .val (.int v7), .val (.ref b1), .val (.int r128)] [(.int v0), (.int r128)])) t
    refine XS.sipush X128.here hx rfl (hb hby at_94) ?_
    show Steps p.tables e below (T128.setTop (mkF m 97 #[.val (.int v0), .val (.int v1), .val (.int v2), .val (.int v3), .val (.int v4), .val (.int v5), .val (.int v6), .val (.int v7), .val (.ref b1), .val (.int r128)] [(.int (255 : Int32)), (.int v0), (.int r128)])) t
    refine XS.iand X128.here hx rfl (hb hby at_97) rfl ?_
    show Steps p.tables e below (T128.setTop (mkF m 98 #[.val (.int v0), .val (.int v1), .val (.int v2), .val (.int v3), .val (.int v4), .val (.int v5), .val (.int v6), .val (.int v7), .val (.ref b1), .val (.int r128)] [(.int (v0 &&& (255 : Int32))), (.int r128)])) t
    refine XS.iloadN X128.here hx rfl (hb hby at_98) rfl ?_
    show Steps p.tables e below (T128.setTop (mkF m 99 #[.val (.int v0), .val (.int v1), .val (.int v2), .val (.int v3), .val (.int v4), .val (.int v5), .val (.int v6), .val (.int v7), .val (.ref b1), .val (.int r128)] [(.int v1), (.int (v0 &&& (255 : Int32))), (.int r128)])) t
    refine XS.sipush X128.here hx rfl (hb hby at_99) ?_
    show Steps p.tables e below (T128.setTop (mkF m 102 #[.val (.int v0), .val (.int v1), .val (.int v2), .val (.int v3), .val (.int v4), .val (.int v5), .val (.int v6), .val (.int v7), .val (.ref b1), .val (.int r128)] [(.int (255 : Int32)), (.int v1), (.int (v0 &&& (255 : Int32))), (.int r128)])) t
    refine XS.iand X128.here hx rfl (hb hby at_102) rfl ?_
    show Steps p.tables e below (T128.setTop (mkF m 103 #[.val (.int v0), .val (.int v1), .val (.int v2), .val (.int v3), .val (.int v4), .val (.int v5), .val (.int v6), .val (.int v7), .val (.ref b1), .val (.int r128)] [(.int (v1 &&& (255 : Int32))), (.int (v0 &&& (255 : Int32))), (.int r128)])) t
    refine XS.iloadN X128.here hx rfl (hb hby at_103) rfl ?_
    show Steps p.tables e below (T128.setTop (mkF m 104 #[.val (.int v0), .val (.int v1), .val (.int v2), .val (.int v3), .val (.int v4), .val (.int v5), .val (.int v6), .val (.int v7), .val (.ref b1), .val (.int r128)] [(.int v2), (.int (v1 &&& (255 : Int32))), (.int (v0 &&& (255 : Int32))), (.int r128)])) t
    refine XS.sipush X128.here hx rfl (hb hby at_104) ?_
    show Steps p.tables e below (T128.setTop (mkF m 107 #[.val (.int v0), .val (.int v1), .val (.int v2), .val (.int v3), .val (.int v4), .val (.int v5), .val (.int v6), .val (.int v7), .val (.ref b1), .val (.int r128)] [(.int (255 : Int32)), (.int v2), (.int (v1 &&& (255 : Int32))), (.int (v0 &&& (255 : Int32))), (.int r128)])) t
    refine XS.iand X128.here hx rfl (hb hby at_107) rfl ?_
    show Steps p.tables e below (T128.setTop (mkF m 108 #[.val (.int v0), .val (.int v1), .val (.int v2), .val (.int v3), .val (.int v4), .val (.int v5), .val (.int v6), .val (.int v7), .val (.ref b1), .val (.int r128)] [(.int (v2 &&& (255 : Int32))), (.int (v1 &&& (255 : Int32))), (.int (v0 &&& (255 : Int32))), (.int r128)])) t
    refine XS.iloadN X128.here hx rfl (hb hby at_108) rfl ?_
    show Steps p.tables e below (T128.setTop (mkF m 109 #[.val (.int v0), .val (.int v1), .val (.int v2), .val (.int v3), .val (.int v4), .val (.int v5), .val (.int v6), .val (.int v7), .val (.ref b1), .val (.int r128)] [(.int v3), (.int (v2 &&& (255 : Int32))), (.int (v1 &&& (255 : Int32))), (.int (v0 &&& (255 : Int32))), (.int r128)])) t
    refine XS.sipush X128.here hx rfl (hb hby at_109) ?_
    show Steps p.tables e below (T128.setTop (mkF m 112 #[.val (.int v0), .val (.int v1), .val (.int v2), .val (.int v3), .val (.int v4), .val (.int v5), .val (.int v6), .val (.int v7), .val (.ref b1), .val (.int r128)] [(.int (255 : Int32)), (.int v3), (.int (v2 &&& (255 : Int32))), (.int (v1 &&& (255 : Int32))), (.int (v0 &&& (255 : Int32))), (.int r128)])) t
    refine XS.iand X128.here hx rfl (hb hby at_112) rfl ?_
    show Steps p.tables e below (T128.setTop (mkF m 113 #[.val (.int v0), .val (.int v1), .val (.int v2), .val (.int v3), .val (.int v4), .val (.int v5), .val (.int v6), .val (.int v7), .val (.ref b1), .val (.int r128)] [(.int (v3 &&& (255 : Int32))), (.int (v2 &&& (255 : Int32))), (.int (v1 &&& (255 : Int32))), (.int (v0 &&& (255 : Int32))), (.int r128)])) t
    refine XS.iload X128.here hx rfl (hb hby at_113) rfl ?_
    exact k
  obtain ⟨x129, hx129, hF⟩ := own_lt_e hF
  rw [← hx129]
  obtain ⟨x130, hx130, hF⟩ := own_lt_e hF
  rw [← hx130]
  obtain ⟨x131, hx131, hF⟩ := own_lt_e hF
  rw [← hx131]
  obtain ⟨x132, hx132, hF⟩ := own_lt_e hF
  rw [← hx132]
  obtain ⟨r133, hr133, hF⟩ := own_bd_e hF
  obtain ⟨_, _, ⟨T133, L133, k133, n133⟩, -, X133, ⟨Lc133, hQ133, l133, y133, z133⟩, st133⟩ := Jvm.LawKit.callS X128 hx (y := (⟨"com/example/binary64/binary64/Utf8SequenceLengthPinLaw", "expected", "(IIIII)I"⟩ : MethodName)) hown (mvT hZ (w5 hw)) (mvT hZ (w6 hw)) (mvT hZ (w7 hw)) (mvT hZ (w8 hw)) (by decide) (backOf (W := 1) (rm_Utf8SequenceLengthPinLaw_expected l Z a0 hw [] h126 n0 z126 x132 x131 x130 x129 v6 r133 hr133) hZ (w8 hw) (w7 hw) (by decide) (by decide)) (g := (mkF m 115 #[.val (.int v0), .val (.int v1), .val (.int v2), .val (.int v3), .val (.int v4), .val (.int v5), .val (.int v6), .val (.int v7), .val (.ref b1), .val (.int r128)] [(.int v6), (.int x129), (.int x130), (.int x131), (.int x132), (.int r128)])) rfl (by rw [hml]; rfl) (argsL := [(.int x132), (.int x131), (.int x130), (.int x129), (.int v6)]) (rest := [(.int r128)]) (lenOf pd_2 rfl) rfl (by show 2 * 0 + _ ≤ _; exact Nat.le_of_eq rfl) (hb hby at_115) (fun _ _ => ⟨rfl, e128, (by decide : 1 + 0 ≤ _), (by decide : 5 + 0 ≤ _)⟩)
  dsimp only [Pt.U, Pt.locs, Pt.cells, Pt.slots] at X133 l133 y133 z133 st133 hQ133
  subst l133 y133 z133
  obtain ⟨rfl, N133q, e133⟩ := hQ133
  have N133 := Fr.app N128 N133q
  refine own_Goes.via st133 ?_
  show own_Goes _ _ _ _ _ _ _ (T133.setTop (mkF m 118 #[.val (.int v0), .val (.int v1), .val (.int v2), .val (.int v3), .val (.int v4), .val (.int v5), .val (.int v6), .val (.int v7), .val (.ref b1), .val (.int r128)] [(.int r133), (.int r128)]))
  by_cases hc118 : r128 = r133
  · rw [if_pos hc118] at hF
    refine own_Goes.via (B := T133.setTop (mkF m 126 #[.val (.int v0), .val (.int v1), .val (.int v2), .val (.int v3), .val (.int v4), .val (.int v5), .val (.int v6), .val (.int v7), .val (.ref b1), .val (.int r128)] [(.int (1 : Int32))])) (fun t k => ?_) ?_
    · show Steps p.tables e below (T133.setTop (mkF m 118 #[.val (.int v0), .val (.int v1), .val (.int v2), .val (.int v3), .val (.int v4), .val (.int v5), .val (.int v6), .val (.int v7), .val (.ref b1), .val (.int r128)] [(.int r133), (.int r128)])) t
      refine XS.icmpNo X133.here hx rfl (hb hby at_118) rfl (teq hc118).2 ?_
      show Steps p.tables e below (T133.setTop (mkF m 121 #[.val (.int v0), .val (.int v1), .val (.int v2), .val (.int v3), .val (.int v4), .val (.int v5), .val (.int v6), .val (.int v7), .val (.ref b1), .val (.int r128)] [])) t
      refine XS.iconst X133.here hx rfl (hb hby at_121) ?_
      show Steps p.tables e below (T133.setTop (mkF m 122 #[.val (.int v0), .val (.int v1), .val (.int v2), .val (.int v3), .val (.int v4), .val (.int v5), .val (.int v6), .val (.int v7), .val (.ref b1), .val (.int r128)] [(.int (1 : Int32))])) t
      refine XS.goto X133.here hx rfl (pc0 := 122) (pc' := 126) rfl (hb hby at_122) (by decide) (by decide) ?_
      exact k
    obtain rfl : (1 : Int32) = r := Option.some.inj hF
    exact own_retN X133 hx (t := .boolean) hret hlk (by simp) (hb hby at_126) e133 (v := (1 : Int32)) (by decide) ⟨rfl, N133, K126_⟩ (by decide) (by decide)
  · rw [if_neg hc118] at hF
    refine own_Goes.via (B := T133.setTop (mkF m 126 #[.val (.int v0), .val (.int v1), .val (.int v2), .val (.int v3), .val (.int v4), .val (.int v5), .val (.int v6), .val (.int v7), .val (.ref b1), .val (.int r128)] [(.int (0 : Int32))])) (fun t k => ?_) ?_
    · show Steps p.tables e below (T133.setTop (mkF m 118 #[.val (.int v0), .val (.int v1), .val (.int v2), .val (.int v3), .val (.int v4), .val (.int v5), .val (.int v6), .val (.int v7), .val (.ref b1), .val (.int r128)] [(.int r133), (.int r128)])) t
      refine XS.icmpYes X133.here hx rfl (pc0 := 118) (pc' := 125) rfl (hb hby at_118) rfl (feq hc118).2 (by decide) (by decide) ?_
      show Steps p.tables e below (T133.setTop (mkF m 125 #[.val (.int v0), .val (.int v1), .val (.int v2), .val (.int v3), .val (.int v4), .val (.int v5), .val (.int v6), .val (.int v7), .val (.ref b1), .val (.int r128)] [])) t
      refine XS.iconst X133.here hx rfl (hb hby at_125) ?_
      exact k
    obtain rfl : (0 : Int32) = r := Option.some.inj hF
    exact own_retN X133 hx (t := .boolean) hret hlk (by simp) (hb hby at_126) e133 (v := (0 : Int32)) (by decide) ⟨rfl, N133, K126_⟩ (by decide) (by decide)
set_option maxRecDepth 65536 in
set_option maxHeartbeats 4000000 in
theorem b_law {p : Program} {l : Launch} {e : Env} {s : State} {m : MethodId} {args : Array Value} {below : List Frame} {meth : Method} {c : Code} {Z : State} {a0 : Array Value} {n0 : Nat} {hE : Heap} (cx : Cx_law p s m meth c Z a0) :
    ∀ {T : State} {locs : List Loc} {h : Heap} (X : Stand p l e room_1 s m args below meth c T locs 0 0) (eT : T.heap = h) (N : Fr n0 locs) (K : Keep hE h []) (z : n0 ≤ h.size) (v0 : Int32) (v1 : Int32) (v2 : Int32) (v3 : Int32) (v4 : Int32) (r : Int32), f_law v0 v1 v2 v3 v4 = some r → own_Goes p e below s (Q_law Z hE n0 r) 1 5 (T.setTop (mkF m 0 #[.val (.int v0), .val (.int v1), .val (.int v2), .val (.int v3), .val (.int v4), .unset, .unset, .unset, .unset, .unset] [])) := by
  have cx' := cx
  obtain ⟨hx, hZ, hw, hby, hml, hown, hret, hlk, hnm⟩ := cx'
  intro T locs h X eT N K z v0 v1 v2 v3 v4 r hF
  unfold f_law at hF
  refine own_Goes.via (B := T.setTop (mkF m 4 #[.val (.int v0), .val (.int v1), .val (.int v2), .val (.int v3), .val (.int v4), .unset, .unset, .unset, .unset, .unset] [(.int (v4 &&& (1 : Int32)))])) (fun t k => ?_) ?_
  · show Steps p.tables e below (T.setTop (mkF m 0 #[.val (.int v0), .val (.int v1), .val (.int v2), .val (.int v3), .val (.int v4), .unset, .unset, .unset, .unset, .unset] [])) t
    refine XS.iload X.here hx rfl (hb hby at_0) rfl ?_
    show Steps p.tables e below (T.setTop (mkF m 2 #[.val (.int v0), .val (.int v1), .val (.int v2), .val (.int v3), .val (.int v4), .unset, .unset, .unset, .unset, .unset] [(.int v4)])) t
    refine XS.iconst X.here hx rfl (hb hby at_2) ?_
    show Steps p.tables e below (T.setTop (mkF m 3 #[.val (.int v0), .val (.int v1), .val (.int v2), .val (.int v3), .val (.int v4), .unset, .unset, .unset, .unset, .unset] [(.int (1 : Int32)), (.int v4)])) t
    refine XS.iand X.here hx rfl (hb hby at_3) rfl ?_
    exact k
  obtain ⟨x134, hx134, hF⟩ := own_lt_e hF
  rw [← hx134]
  refine own_Goes.via (B := T.setTop (mkF m 14 #[.val (.int v0), .val (.int v1), .val (.int v2), .val (.int v3), .val (.int v4), .val (.int x134), .unset, .unset, .unset, .unset] [(.int ((((v4.toUInt32 >>> ((1 : Int32) &&& 31).toUInt32).toInt32) &&& (3 : Int32)) + (1 : Int32)))])) (fun t k => ?_) ?_
  · show Steps p.tables e below (T.setTop (mkF m 4 #[.val (.int v0), .val (.int v1), .val (.int v2), .val (.int v3), .val (.int v4), .unset, .unset, .unset, .unset, .unset] [(.int x134)])) t
    refine XS.istore X.here hx rfl (hb hby at_4) rfl (l' := #[.val (.int v0), .val (.int v1), .val (.int v2), .val (.int v3), .val (.int v4), .val (.int x134), .unset, .unset, .unset, .unset]) rfl ?_
    show Steps p.tables e below (T.setTop (mkF m 6 #[.val (.int v0), .val (.int v1), .val (.int v2), .val (.int v3), .val (.int v4), .val (.int x134), .unset, .unset, .unset, .unset] [])) t
    refine XS.iload X.here hx rfl (hb hby at_6) rfl ?_
    show Steps p.tables e below (T.setTop (mkF m 8 #[.val (.int v0), .val (.int v1), .val (.int v2), .val (.int v3), .val (.int v4), .val (.int x134), .unset, .unset, .unset, .unset] [(.int v4)])) t
    refine XS.iconst X.here hx rfl (hb hby at_8) ?_
    show Steps p.tables e below (T.setTop (mkF m 9 #[.val (.int v0), .val (.int v1), .val (.int v2), .val (.int v3), .val (.int v4), .val (.int x134), .unset, .unset, .unset, .unset] [(.int (1 : Int32)), (.int v4)])) t
    refine XS.iushr X.here hx rfl (hb hby at_9) rfl ?_
    show Steps p.tables e below (T.setTop (mkF m 10 #[.val (.int v0), .val (.int v1), .val (.int v2), .val (.int v3), .val (.int v4), .val (.int x134), .unset, .unset, .unset, .unset] [(.int ((v4.toUInt32 >>> ((1 : Int32) &&& 31).toUInt32).toInt32))])) t
    refine XS.iconst X.here hx rfl (hb hby at_10) ?_
    show Steps p.tables e below (T.setTop (mkF m 11 #[.val (.int v0), .val (.int v1), .val (.int v2), .val (.int v3), .val (.int v4), .val (.int x134), .unset, .unset, .unset, .unset] [(.int (3 : Int32)), (.int ((v4.toUInt32 >>> ((1 : Int32) &&& 31).toUInt32).toInt32))])) t
    refine XS.iand X.here hx rfl (hb hby at_11) rfl ?_
    show Steps p.tables e below (T.setTop (mkF m 12 #[.val (.int v0), .val (.int v1), .val (.int v2), .val (.int v3), .val (.int v4), .val (.int x134), .unset, .unset, .unset, .unset] [(.int (((v4.toUInt32 >>> ((1 : Int32) &&& 31).toUInt32).toInt32) &&& (3 : Int32)))])) t
    refine XS.iconst X.here hx rfl (hb hby at_12) ?_
    show Steps p.tables e below (T.setTop (mkF m 13 #[.val (.int v0), .val (.int v1), .val (.int v2), .val (.int v3), .val (.int v4), .val (.int x134), .unset, .unset, .unset, .unset] [(.int (1 : Int32)), (.int (((v4.toUInt32 >>> ((1 : Int32) &&& 31).toUInt32).toInt32) &&& (3 : Int32)))])) t
    refine XS.iadd X.here hx rfl (hb hby at_13) rfl ?_
    exact k
  obtain ⟨x135, hx135, hF⟩ := own_lt_e hF
  rw [← hx135]
  refine own_Goes.via (B := T.setTop (mkF m 21 #[.val (.int v0), .val (.int v1), .val (.int v2), .val (.int v3), .val (.int v4), .val (.int x134), .val (.int x135), .unset, .unset, .unset] [(.int (x134 + x135))])) (fun t k => ?_) ?_
  · show Steps p.tables e below (T.setTop (mkF m 14 #[.val (.int v0), .val (.int v1), .val (.int v2), .val (.int v3), .val (.int v4), .val (.int x134), .unset, .unset, .unset, .unset] [(.int x135)])) t
    refine XS.istore X.here hx rfl (hb hby at_14) rfl (l' := #[.val (.int v0), .val (.int v1), .val (.int v2), .val (.int v3), .val (.int v4), .val (.int x134), .val (.int x135), .unset, .unset, .unset]) rfl ?_
    show Steps p.tables e below (T.setTop (mkF m 16 #[.val (.int v0), .val (.int v1), .val (.int v2), .val (.int v3), .val (.int v4), .val (.int x134), .val (.int x135), .unset, .unset, .unset] [])) t
    refine XS.iload X.here hx rfl (hb hby at_16) rfl ?_
    show Steps p.tables e below (T.setTop (mkF m 18 #[.val (.int v0), .val (.int v1), .val (.int v2), .val (.int v3), .val (.int v4), .val (.int x134), .val (.int x135), .unset, .unset, .unset] [(.int x134)])) t
    refine XS.iload X.here hx rfl (hb hby at_18) rfl ?_
    show Steps p.tables e below (T.setTop (mkF m 20 #[.val (.int v0), .val (.int v1), .val (.int v2), .val (.int v3), .val (.int v4), .val (.int x134), .val (.int x135), .unset, .unset, .unset] [(.int x135), (.int x134)])) t
    refine XS.iadd X.here hx rfl (hb hby at_20) rfl ?_
    exact k
  obtain ⟨x136, hx136, hF⟩ := own_lt_e hF
  rw [← hx136]
  refine own_Goes.via (B := T.setTop (mkF m 24 #[.val (.int v0), .val (.int v1), .val (.int v2), .val (.int v3), .val (.int v4), .val (.int x134), .val (.int x135), .val (.int x136), .unset, .unset] [(.int (5 : Int32))])) (fun t k => ?_) ?_
  · show Steps p.tables e below (T.setTop (mkF m 21 #[.val (.int v0), .val (.int v1), .val (.int v2), .val (.int v3), .val (.int v4), .val (.int x134), .val (.int x135), .unset, .unset, .unset] [(.int x136)])) t
    refine XS.istore X.here hx rfl (hb hby at_21) rfl (l' := #[.val (.int v0), .val (.int v1), .val (.int v2), .val (.int v3), .val (.int v4), .val (.int x134), .val (.int x135), .val (.int x136), .unset, .unset]) rfl ?_
    show Steps p.tables e below (T.setTop (mkF m 23 #[.val (.int v0), .val (.int v1), .val (.int v2), .val (.int v3), .val (.int v4), .val (.int x134), .val (.int x135), .val (.int x136), .unset, .unset] [])) t
    refine XS.iconst X.here hx rfl (hb hby at_23) ?_
    exact k
  obtain ⟨T137, h137, k137, X137, e137, E137, A137, st137⟩ := newP X hx hZ (aty := .byte) (w0 hw) eT (g := (mkF m 24 #[.val (.int v0), .val (.int v1), .val (.int v2), .val (.int v3), .val (.int v4), .val (.int x134), .val (.int x135), .val (.int x136), .unset, .unset] [(.int (5 : Int32))])) rfl (hb hby at_24) rfl (by decide) (cap := 5) (by decide) (by decide) (by decide) (by decide)
  obtain ⟨c137, q137⟩ : ∃ z, z = h.size := ⟨_, rfl⟩
  rw [← q137] at A137 st137
  have A137_c137 : own_Ar Z h137 c137 .byte (([(0 : Int32), (0 : Int32), (0 : Int32), (0 : Int32), (0 : Int32)] : List Int32).map Value.int) := own_newI A137 (by decide) rfl (kk := 5) (by decide)
  have g137_c137 : n0 ≤ c137 := Nat.le_trans z (Nat.le_of_eq q137.symm)
  have nE137_c137 : hE.size ≤ c137 := Nat.le_trans K.1 (Nat.le_of_eq q137.symm)
  have z137 := Nat.le_trans z E137.1
  have K137_ := K.ext E137
  refine own_Goes.via st137 ?_
  show own_Goes _ _ _ _ _ _ _ (T137.setTop (mkF m 26 #[.val (.int v0), .val (.int v1), .val (.int v2), .val (.int v3), .val (.int v4), .val (.int x134), .val (.int x135), .val (.int x136), .unset, .unset] [(.ref c137)]))
  refine own_Goes.via (B := T137.setTop (mkF m 34 #[.val (.int v0), .val (.int v1), .val (.int v2), .val (.int v3), .val (.int v4), .val (.int x134), .val (.int x135), .val (.int x136), .val (.ref c137), .unset] [(.int (v0.toInt8.toInt32)), (.int x134), (.ref c137)])) (fun t k => ?_) ?_
  · show Steps p.tables e below (T137.setTop (mkF m 26 #[.val (.int v0), .val (.int v1), .val (.int v2), .val (.int v3), .val (.int v4), .val (.int x134), .val (.int x135), .val (.int x136), .unset, .unset] [(.ref c137)])) t
    refine XS.astore X137.here hx rfl (hb hby at_26) rfl rfl (l' := #[.val (.int v0), .val (.int v1), .val (.int v2), .val (.int v3), .val (.int v4), .val (.int x134), .val (.int x135), .val (.int x136), .val (.ref c137), .unset]) rfl ?_
    show Steps p.tables e below (T137.setTop (mkF m 28 #[.val (.int v0), .val (.int v1), .val (.int v2), .val (.int v3), .val (.int v4), .val (.int x134), .val (.int x135), .val (.int x136), .val (.ref c137), .unset] [])) t
    refine XS.aload X137.here hx rfl (hb hby at_28) rfl rfl ?_
    show Steps p.tables e below (T137.setTop (mkF m 30 #[.val (.int v0), .val (.int v1), .val (.int v2), .val (.int v3), .val (.int v4), .val (.int x134), .val (.int x135), .val (.int x136), .val (.ref c137), .unset] [(.ref c137)])) t
    refine XS.iload X137.here hx rfl (hb hby at_30) rfl ?_
    show Steps p.tables e below (T137.setTop (mkF m 32 #[.val (.int v0), .val (.int v1), .val (.int v2), .val (.int v3), .val (.int v4), .val (.int x134), .val (.int x135), .val (.int x136), .val (.ref c137), .unset] [(.int x134), (.ref c137)])) t
    refine XS.iloadN X137.here hx rfl (hb hby at_32) rfl ?_
    show Steps p.tables e below (T137.setTop (mkF m 33 #[.val (.int v0), .val (.int v1), .val (.int v2), .val (.int v3), .val (.int v4), .val (.int x134), .val (.int x135), .val (.int x136), .val (.ref c137), .unset] [(.int v0), (.int x134), (.ref c137)])) t
    refine XS.i2b X137.here hx rfl (hb hby at_33) rfl ?_
    exact k
  obtain ⟨x138, hx138, hF⟩ := own_lt_e hF
  rw [← hx138]
  obtain ⟨hi34, hF⟩ := own_ck_e hF
  obtain ⟨T139, h139, X139, e139, W139, A139_c137, st139⟩ := own_stB X137 hx hZ e137 A137_c137 hi34 (g := (mkF m 34 #[.val (.int v0), .val (.int v1), .val (.int v2), .val (.int v3), .val (.int v4), .val (.int x134), .val (.int x135), .val (.int x136), .val (.ref c137), .unset] [(.int x138), (.int x134), (.ref c137)])) rfl rfl (hb hby at_34)
  refine own_Goes.via st139 ?_
  have z139 := Nat.le_trans z137 (Keep.of_wr W139).1
  have K139_ := K137_.wr W139 (Or.inr nE137_c137)
  have N139 := Fr.snoc X139 N g137_c137
  have A139_c137 : own_Ar Z h139 c137 .byte ((own_wr ([(0 : Int32), (0 : Int32), (0 : Int32), (0 : Int32), (0 : Int32)] : List Int32) x134 (x138.toInt8.toInt32)).map Value.int) := A139_c137
  show own_Goes _ _ _ _ _ _ _ (T139.setTop (mkF m 35 #[.val (.int v0), .val (.int v1), .val (.int v2), .val (.int v3), .val (.int v4), .val (.int x134), .val (.int x135), .val (.int x136), .val (.ref c137), .unset] []))
  obtain ⟨bs140, hbs140, hF⟩ := own_lt_e hF
  rw [← hbs140] at A139_c137
  refine own_Goes.via (B := T139.setTop (mkF m 43 #[.val (.int v0), .val (.int v1), .val (.int v2), .val (.int v3), .val (.int v4), .val (.int x134), .val (.int x135), .val (.int x136), .val (.ref c137), .unset] [(.int (v1.toInt8.toInt32)), (.int (x134 + (1 : Int32))), (.ref c137)])) (fun t k => ?_) ?_
  · show Steps p.tables e below (T139.setTop (mkF m 35 #[.val (.int v0), .val (.int v1), .val (.int v2), .val (.int v3), .val (.int v4), .val (.int x134), .val (.int x135), .val (.int x136), .val (.ref c137), .unset] [])) t
    refine XS.aload X139.here hx rfl (hb hby at_35) rfl rfl ?_
    show Steps p.tables e below (T139.setTop (mkF m 37 #[.val (.int v0), .val (.int v1), .val (.int v2), .val (.int v3), .val (.int v4), .val (.int x134), .val (.int x135), .val (.int x136), .val (.ref c137), .unset] [(.ref c137)])) t
    refine XS.iload X139.here hx rfl (hb hby at_37) rfl ?_
    show Steps p.tables e below (T139.setTop (mkF m 39 #[.val (.int v0), .val (.int v1), .val (.int v2), .val (.int v3), .val (.int v4), .val (.int x134), .val (.int x135), .val (.int x136), .val (.ref c137), .unset] [(.int x134), (.ref c137)])) t
    refine XS.iconst X139.here hx rfl (hb hby at_39) ?_
    show Steps p.tables e below (T139.setTop (mkF m 40 #[.val (.int v0), .val (.int v1), .val (.int v2), .val (.int v3), .val (.int v4), .val (.int x134), .val (.int x135), .val (.int x136), .val (.ref c137), .unset] [(.int (1 : Int32)), (.int x134), (.ref c137)])) t
    refine XS.iadd X139.here hx rfl (hb hby at_40) rfl ?_
    show Steps p.tables e below (T139.setTop (mkF m 41 #[.val (.int v0), .val (.int v1), .val (.int v2), .val (.int v3), .val (.int v4), .val (.int x134), .val (.int x135), .val (.int x136), .val (.ref c137), .unset] [(.int (x134 + (1 : Int32))), (.ref c137)])) t
    refine XS.iloadN X139.here hx rfl (hb hby at_41) rfl ?_
    show Steps p.tables e below (T139.setTop (mkF m 42 #[.val (.int v0), .val (.int v1), .val (.int v2), .val (.int v3), .val (.int v4), .val (.int x134), .val (.int x135), .val (.int x136), .val (.ref c137), .unset] [(.int v1), (.int (x134 + (1 : Int32))), (.ref c137)])) t
    refine XS.i2b X139.here hx rfl (hb hby at_42) rfl ?_
    exact k
  obtain ⟨x141, hx141, hF⟩ := own_lt_e hF
  rw [← hx141]
  obtain ⟨x142, hx142, hF⟩ := own_lt_e hF
  rw [← hx142]
  obtain ⟨hi43, hF⟩ := own_ck_e hF
  obtain ⟨T143, h143, X143, e143, W143, A143_c137, st143⟩ := own_stB X139 hx hZ e139 A139_c137 hi43 (g := (mkF m 43 #[.val (.int v0), .val (.int v1), .val (.int v2), .val (.int v3), .val (.int v4), .val (.int x134), .val (.int x135), .val (.int x136), .val (.ref c137), .unset] [(.int x141), (.int x142), (.ref c137)])) rfl rfl (hb hby at_43)
  refine own_Goes.via st143 ?_
  have z143 := Nat.le_trans z139 (Keep.of_wr W143).1
  have K143_ := K139_.wr W143 (Or.inr nE137_c137)
  have N143 := Fr.snoc X143 N139 g137_c137
  have A143_c137 : own_Ar Z h143 c137 .byte ((own_wr bs140 x142 (x141.toInt8.toInt32)).map Value.int) := A143_c137
  show own_Goes _ _ _ _ _ _ _ (T143.setTop (mkF m 44 #[.val (.int v0), .val (.int v1), .val (.int v2), .val (.int v3), .val (.int v4), .val (.int x134), .val (.int x135), .val (.int x136), .val (.ref c137), .unset] []))
  obtain ⟨bs144, hbs144, hF⟩ := own_lt_e hF
  rw [← hbs144] at A143_c137
  refine own_Goes.via (B := T143.setTop (mkF m 52 #[.val (.int v0), .val (.int v1), .val (.int v2), .val (.int v3), .val (.int v4), .val (.int x134), .val (.int x135), .val (.int x136), .val (.ref c137), .unset] [(.int (v2.toInt8.toInt32)), (.int (x134 + (2 : Int32))), (.ref c137)])) (fun t k => ?_) ?_
  · show Steps p.tables e below (T143.setTop (mkF m 44 #[.val (.int v0), .val (.int v1), .val (.int v2), .val (.int v3), .val (.int v4), .val (.int x134), .val (.int x135), .val (.int x136), .val (.ref c137), .unset] [])) t
    refine XS.aload X143.here hx rfl (hb hby at_44) rfl rfl ?_
    show Steps p.tables e below (T143.setTop (mkF m 46 #[.val (.int v0), .val (.int v1), .val (.int v2), .val (.int v3), .val (.int v4), .val (.int x134), .val (.int x135), .val (.int x136), .val (.ref c137), .unset] [(.ref c137)])) t
    refine XS.iload X143.here hx rfl (hb hby at_46) rfl ?_
    show Steps p.tables e below (T143.setTop (mkF m 48 #[.val (.int v0), .val (.int v1), .val (.int v2), .val (.int v3), .val (.int v4), .val (.int x134), .val (.int x135), .val (.int x136), .val (.ref c137), .unset] [(.int x134), (.ref c137)])) t
    refine XS.iconst X143.here hx rfl (hb hby at_48) ?_
    show Steps p.tables e below (T143.setTop (mkF m 49 #[.val (.int v0), .val (.int v1), .val (.int v2), .val (.int v3), .val (.int v4), .val (.int x134), .val (.int x135), .val (.int x136), .val (.ref c137), .unset] [(.int (2 : Int32)), (.int x134), (.ref c137)])) t
    refine XS.iadd X143.here hx rfl (hb hby at_49) rfl ?_
    show Steps p.tables e below (T143.setTop (mkF m 50 #[.val (.int v0), .val (.int v1), .val (.int v2), .val (.int v3), .val (.int v4), .val (.int x134), .val (.int x135), .val (.int x136), .val (.ref c137), .unset] [(.int (x134 + (2 : Int32))), (.ref c137)])) t
    refine XS.iloadN X143.here hx rfl (hb hby at_50) rfl ?_
    show Steps p.tables e below (T143.setTop (mkF m 51 #[.val (.int v0), .val (.int v1), .val (.int v2), .val (.int v3), .val (.int v4), .val (.int x134), .val (.int x135), .val (.int x136), .val (.ref c137), .unset] [(.int v2), (.int (x134 + (2 : Int32))), (.ref c137)])) t
    refine XS.i2b X143.here hx rfl (hb hby at_51) rfl ?_
    exact k
  obtain ⟨x145, hx145, hF⟩ := own_lt_e hF
  rw [← hx145]
  obtain ⟨x146, hx146, hF⟩ := own_lt_e hF
  rw [← hx146]
  obtain ⟨hi52, hF⟩ := own_ck_e hF
  obtain ⟨T147, h147, X147, e147, W147, A147_c137, st147⟩ := own_stB X143 hx hZ e143 A143_c137 hi52 (g := (mkF m 52 #[.val (.int v0), .val (.int v1), .val (.int v2), .val (.int v3), .val (.int v4), .val (.int x134), .val (.int x135), .val (.int x136), .val (.ref c137), .unset] [(.int x145), (.int x146), (.ref c137)])) rfl rfl (hb hby at_52)
  refine own_Goes.via st147 ?_
  have z147 := Nat.le_trans z143 (Keep.of_wr W147).1
  have K147_ := K143_.wr W147 (Or.inr nE137_c137)
  have N147 := Fr.snoc X147 N143 g137_c137
  have A147_c137 : own_Ar Z h147 c137 .byte ((own_wr bs144 x146 (x145.toInt8.toInt32)).map Value.int) := A147_c137
  show own_Goes _ _ _ _ _ _ _ (T147.setTop (mkF m 53 #[.val (.int v0), .val (.int v1), .val (.int v2), .val (.int v3), .val (.int v4), .val (.int x134), .val (.int x135), .val (.int x136), .val (.ref c137), .unset] []))
  obtain ⟨bs148, hbs148, hF⟩ := own_lt_e hF
  rw [← hbs148] at A147_c137
  refine own_Goes.via (B := T147.setTop (mkF m 61 #[.val (.int v0), .val (.int v1), .val (.int v2), .val (.int v3), .val (.int v4), .val (.int x134), .val (.int x135), .val (.int x136), .val (.ref c137), .unset] [(.int (v3.toInt8.toInt32)), (.int (x134 + (3 : Int32))), (.ref c137)])) (fun t k => ?_) ?_
  · show Steps p.tables e below (T147.setTop (mkF m 53 #[.val (.int v0), .val (.int v1), .val (.int v2), .val (.int v3), .val (.int v4), .val (.int x134), .val (.int x135), .val (.int x136), .val (.ref c137), .unset] [])) t
    refine XS.aload X147.here hx rfl (hb hby at_53) rfl rfl ?_
    show Steps p.tables e below (T147.setTop (mkF m 55 #[.val (.int v0), .val (.int v1), .val (.int v2), .val (.int v3), .val (.int v4), .val (.int x134), .val (.int x135), .val (.int x136), .val (.ref c137), .unset] [(.ref c137)])) t
    refine XS.iload X147.here hx rfl (hb hby at_55) rfl ?_
    show Steps p.tables e below (T147.setTop (mkF m 57 #[.val (.int v0), .val (.int v1), .val (.int v2), .val (.int v3), .val (.int v4), .val (.int x134), .val (.int x135), .val (.int x136), .val (.ref c137), .unset] [(.int x134), (.ref c137)])) t
    refine XS.iconst X147.here hx rfl (hb hby at_57) ?_
    show Steps p.tables e below (T147.setTop (mkF m 58 #[.val (.int v0), .val (.int v1), .val (.int v2), .val (.int v3), .val (.int v4), .val (.int x134), .val (.int x135), .val (.int x136), .val (.ref c137), .unset] [(.int (3 : Int32)), (.int x134), (.ref c137)])) t
    refine XS.iadd X147.here hx rfl (hb hby at_58) rfl ?_
    show Steps p.tables e below (T147.setTop (mkF m 59 #[.val (.int v0), .val (.int v1), .val (.int v2), .val (.int v3), .val (.int v4), .val (.int x134), .val (.int x135), .val (.int x136), .val (.ref c137), .unset] [(.int (x134 + (3 : Int32))), (.ref c137)])) t
    refine XS.iloadN X147.here hx rfl (hb hby at_59) rfl ?_
    show Steps p.tables e below (T147.setTop (mkF m 60 #[.val (.int v0), .val (.int v1), .val (.int v2), .val (.int v3), .val (.int v4), .val (.int x134), .val (.int x135), .val (.int x136), .val (.ref c137), .unset] [(.int v3), (.int (x134 + (3 : Int32))), (.ref c137)])) t
    refine XS.i2b X147.here hx rfl (hb hby at_60) rfl ?_
    exact k
  obtain ⟨x149, hx149, hF⟩ := own_lt_e hF
  rw [← hx149]
  obtain ⟨x150, hx150, hF⟩ := own_lt_e hF
  rw [← hx150]
  obtain ⟨hi61, hF⟩ := own_ck_e hF
  obtain ⟨T151, h151, X151, e151, W151, A151_c137, st151⟩ := own_stB X147 hx hZ e147 A147_c137 hi61 (g := (mkF m 61 #[.val (.int v0), .val (.int v1), .val (.int v2), .val (.int v3), .val (.int v4), .val (.int x134), .val (.int x135), .val (.int x136), .val (.ref c137), .unset] [(.int x149), (.int x150), (.ref c137)])) rfl rfl (hb hby at_61)
  refine own_Goes.via st151 ?_
  have z151 := Nat.le_trans z147 (Keep.of_wr W151).1
  have K151_ := K147_.wr W151 (Or.inr nE137_c137)
  have N151 := Fr.snoc X151 N147 g137_c137
  have A151_c137 : own_Ar Z h151 c137 .byte ((own_wr bs148 x150 (x149.toInt8.toInt32)).map Value.int) := A151_c137
  show own_Goes _ _ _ _ _ _ _ (T151.setTop (mkF m 62 #[.val (.int v0), .val (.int v1), .val (.int v2), .val (.int v3), .val (.int v4), .val (.int x134), .val (.int x135), .val (.int x136), .val (.ref c137), .unset] []))
  obtain ⟨bs152, hbs152, hF⟩ := own_lt_e hF
  rw [← hbs152] at A151_c137
  refine own_Goes.via (B := T151.setTop (mkF m 66 #[.val (.int v0), .val (.int v1), .val (.int v2), .val (.int v3), .val (.int v4), .val (.int x134), .val (.int x135), .val (.int x136), .val (.ref c137), .unset] [(.int x134), (.ref c137)])) (fun t k => ?_) ?_
  · show Steps p.tables e below (T151.setTop (mkF m 62 #[.val (.int v0), .val (.int v1), .val (.int v2), .val (.int v3), .val (.int v4), .val (.int x134), .val (.int x135), .val (.int x136), .val (.ref c137), .unset] [])) t
    refine XS.aload X151.here hx rfl (hb hby at_62) rfl rfl ?_
    show Steps p.tables e below (T151.setTop (mkF m 64 #[.val (.int v0), .val (.int v1), .val (.int v2), .val (.int v3), .val (.int v4), .val (.int x134), .val (.int x135), .val (.int x136), .val (.ref c137), .unset] [(.ref c137)])) t
    refine XS.iload X151.here hx rfl (hb hby at_64) rfl ?_
    exact k
  by_cases hc66 : x134 = (0 : Int32)
  · rw [if_pos hc66] at hF
    refine own_Goes.via (B := T151.setTop (mkF m 74 #[.val (.int v0), .val (.int v1), .val (.int v2), .val (.int v3), .val (.int v4), .val (.int x134), .val (.int x135), .val (.int x136), .val (.ref c137), .unset] [(.int (4 : Int32)), (.ref c137)])) (fun t k => ?_) ?_
    · show Steps p.tables e below (T151.setTop (mkF m 66 #[.val (.int v0), .val (.int v1), .val (.int v2), .val (.int v3), .val (.int v4), .val (.int x134), .val (.int x135), .val (.int x136), .val (.ref c137), .unset] [(.int x134), (.ref c137)])) t
      refine XS.ifNo X151.here hx rfl (hb hby at_66) rfl ((if0 _ _).trans (teq hc66).2) ?_
      show Steps p.tables e below (T151.setTop (mkF m 69 #[.val (.int v0), .val (.int v1), .val (.int v2), .val (.int v3), .val (.int v4), .val (.int x134), .val (.int x135), .val (.int x136), .val (.ref c137), .unset] [(.ref c137)])) t
      refine XS.iconst X151.here hx rfl (hb hby at_69) ?_
      show Steps p.tables e below (T151.setTop (mkF m 70 #[.val (.int v0), .val (.int v1), .val (.int v2), .val (.int v3), .val (.int v4), .val (.int x134), .val (.int x135), .val (.int x136), .val (.ref c137), .unset] [(.int (4 : Int32)), (.ref c137)])) t
      refine XS.goto X151.here hx rfl (pc0 := 70) (pc' := 74) rfl (hb hby at_70) (by decide) (by decide) ?_
      exact k
    exact b_law_74 cx X151 e151 N151 K151_ z151 c137 v0 v1 v2 v3 v4 x134 x135 x136 (4 : Int32) bs152 (.unset) One.u A151_c137 g137_c137 nE137_c137 _ hF
  · rw [if_neg hc66] at hF
    refine own_Goes.via (B := T151.setTop (mkF m 74 #[.val (.int v0), .val (.int v1), .val (.int v2), .val (.int v3), .val (.int v4), .val (.int x134), .val (.int x135), .val (.int x136), .val (.ref c137), .unset] [(.int (0 : Int32)), (.ref c137)])) (fun t k => ?_) ?_
    · show Steps p.tables e below (T151.setTop (mkF m 66 #[.val (.int v0), .val (.int v1), .val (.int v2), .val (.int v3), .val (.int v4), .val (.int x134), .val (.int x135), .val (.int x136), .val (.ref c137), .unset] [(.int x134), (.ref c137)])) t
      refine XS.ifYes X151.here hx rfl (pc0 := 66) (pc' := 73) rfl (hb hby at_66) rfl ((if0 _ _).trans (feq hc66).2) (by decide) (by decide) ?_
      show Steps p.tables e below (T151.setTop (mkF m 73 #[.val (.int v0), .val (.int v1), .val (.int v2), .val (.int v3), .val (.int v4), .val (.int x134), .val (.int x135), .val (.int x136), .val (.ref c137), .unset] [(.ref c137)])) t
      refine XS.iconst X151.here hx rfl (hb hby at_73) ?_
      exact k
    exact b_law_74 cx X151 e151 N151 K151_ z151 c137 v0 v1 v2 v3 v4 x134 x135 x136 (0 : Int32) bs152 (.unset) One.u A151_c137 g137_c137 nE137_c137 _ hF
theorem ef_law (m : MethodId) (x0 : Int32) (x1 : Int32) (x2 : Int32) (x3 : Int32) (x4 : Int32) : entryFrame m #[(.int x0), (.int x1), (.int x2), (.int x3), (.int x4)] maxLocals = mkF m 0 #[.val (.int x0), .val (.int x1), .val (.int x2), .val (.int x3), .val (.int x4), .unset, .unset, .unset, .unset, .unset] [] := by first | (simp [entryFrame, mkF, argsToLocals, Value.category, maxLocals]; done) | rfl
set_option maxRecDepth 65536 in
set_option maxHeartbeats 4000000 in
theorem rm_law (l : Launch) (Z : State) (a0 : Array Value) (hw : ∀ d ∈ tables_1, d.before a0 Z = true) (ws : List Jvm.Cond) (hE : Heap) (n0 : Nat) (z : n0 ≤ hE.size)  (v0 : Int32) (v1 : Int32) (v2 : Int32) (v3 : Int32) (v4 : Int32) (r : Int32) (hF : (f_law v0 v1 v2 v3 v4) = some r) :
    MetFree l x (head1 (Jvm.Cond.code x code maxLocals ret :: ws) room_1) (fun a U => a = #[(.int v0), (.int v1), (.int v2), (.int v3), (.int v4)] ∧ Z.Warmed39 U.vm ∧ U.heap = hE) (fun _ _ _ _ _ => True) (fun _ U o U' => ∃ v L, o = .returned v ∧ (Q_law Z hE n0 r) v U'.heap L ∧ FrameEnd U o U' L 1 5) := by
  refine MetFree.of_bodySF (plainFor_of_name pn_com_example_binary64_binary64_Utf8SequenceLengthPinLaw) hisR ?_
  intro p e s m args below meth c s₁ Bd hml0 hP hK
  obtain ⟨rfl, hZ, hh⟩ := hP
  have X0 : Stand p l e room_1 s m #[(.int v0), (.int v1), (.int v2), (.int v3), (.int v4)] below meth c s₁ [] 0 0 := Stand.of_body Bd
  have e0 : s₁.heap = hE := by rw [← hh, Bd.state]; rfl
  have cx : Cx_law p s m meth c Z a0 := ⟨Bd.exec, hZ, hw, Bd.bytes, hml0, findClass_of_methodNamed Bd.named, Bd.returns, Bd.notSynchronized, (name_of_methodNamed Bd.named Bd.method).1⟩
  show own_Goes p e below s (Q_law Z hE n0 r) 1 5 (s₁.setTop (entryFrame m #[(.int v0), (.int v1), (.int v2), (.int v3), (.int v4)] maxLocals))
  rw [ef_law]
  exact b_law cx X0 e0 (Fr.nil n0) (Keep.refl _ _) z v0 v1 v2 v3 v4 _ hF
/-! the words of the mirrors -/
theorem own_bs {α β : Type} (x : α) (f : α → Option β) : own_bd (some x) f = f x := by unfold own_bd; exact rfl
theorem own_ls {α β : Type} (x : α) (f : α → Option β) : own_lt x f = f x := by unfold own_lt; exact rfl
theorem own_bn {α : Type} (x : Option α) : own_bd x (fun y => some y) = x := by cases x <;> exact rfl
theorem own_ct {β : Type} {P : Prop} [Decidable P] (x : Option β) (h : P) : own_ck P x = x := by unfold own_ck; exact if_pos h
/-! numbers: ints and longs as integers -/
theorem own_i1 (x : Int32) : -2147483648 ≤ x.toInt := Int32.le_toInt x
theorem own_i2 (x : Int32) : x.toInt < 2147483648 := Int32.toInt_lt x
theorem own_j1 (x : Int64) : -9223372036854775808 ≤ x.toInt := Int64.le_toInt x
theorem own_j2 (x : Int64) : x.toInt < 9223372036854775808 := Int64.toInt_lt x
theorem own_iadd {a b : Int32} (h1 : -2147483648 ≤ a.toInt + b.toInt) (h2 : a.toInt + b.toInt < 2147483648) : (a + b).toInt = a.toInt + b.toInt := by
  rw [Int32.toInt_add]; exact Int.bmod_eq_of_le (by omega) (by omega)
theorem own_isub {a b : Int32} (h1 : -2147483648 ≤ a.toInt - b.toInt) (h2 : a.toInt - b.toInt < 2147483648) : (a - b).toInt = a.toInt - b.toInt := by
  rw [Int32.toInt_sub]; exact Int.bmod_eq_of_le (by omega) (by omega)
theorem own_imul {a b : Int32} (h1 : -2147483648 ≤ a.toInt * b.toInt) (h2 : a.toInt * b.toInt < 2147483648) : (a * b).toInt = a.toInt * b.toInt := by
  rw [Int32.toInt_mul]; exact Int.bmod_eq_of_le (by omega) (by omega)
theorem own_ladd {a b : Int64} (h1 : -9223372036854775808 ≤ a.toInt + b.toInt) (h2 : a.toInt + b.toInt < 9223372036854775808) : (a + b).toInt = a.toInt + b.toInt := by
  rw [Int64.toInt_add]; exact Int.bmod_eq_of_le (by omega) (by omega)
theorem own_lsub {a b : Int64} (h1 : -9223372036854775808 ≤ a.toInt - b.toInt) (h2 : a.toInt - b.toInt < 9223372036854775808) : (a - b).toInt = a.toInt - b.toInt := by
  rw [Int64.toInt_sub]; exact Int.bmod_eq_of_le (by omega) (by omega)
theorem own_lmul {a b : Int64} (h1 : -9223372036854775808 ≤ a.toInt * b.toInt) (h2 : a.toInt * b.toInt < 9223372036854775808) : (a * b).toInt = a.toInt * b.toInt := by
  rw [Int64.toInt_mul]; exact Int.bmod_eq_of_le (by omega) (by omega)
theorem own_imask {x m : Int32} (k : Nat) (hk : k ≤ 31) (hm : m.toBitVec.toNat = 2 ^ k - 1) : (x &&& m).toInt = x.toInt % 2 ^ k := by
  have h1 : (x &&& m).toBitVec.toNat = x.toBitVec.toNat % 2 ^ k := by rw [Int32.toBitVec_and, BitVec.toNat_and, hm, Nat.and_two_pow_sub_one_eq_mod]
  have h3 : x.toBitVec.toNat % 2 ^ k < 2 ^ k := Nat.mod_lt _ (Nat.pow_pos (by decide))
  have h4 : (2 : Nat) ^ k ≤ 2 ^ 31 := Nat.pow_le_pow_right (by decide) hk
  have h2 : (x &&& m).toInt = ((x.toBitVec.toNat % 2 ^ k : Nat) : Int) := by
    show (x &&& m).toBitVec.toInt = _
    rw [BitVec.toInt_eq_toNat_of_lt (by rw [h1]; omega), h1]
  rw [h2]
  have h5 : x.toInt = x.toBitVec.toInt := rfl
  have h6 : ((2 : Int) ^ k) ∣ 4294967296 := by
    have : (4294967296 : Int) = 2 ^ k * 2 ^ (32 - k) := by rw [← Int.pow_add, show k + (32 - k) = 32 by omega]; rfl
    exact ⟨_, this⟩
  rw [h5, BitVec.toInt_eq_toNat_cond]
  split
  · exact Int.natCast_emod _ _
  · rw [Int.natCast_emod, show (((2 ^ 32 : Nat) : Int)) = 4294967296 from rfl, Int.sub_emod, Int.emod_eq_zero_of_dvd h6]; simp
theorem own_lmask {x m : Int64} (k : Nat) (hk : k ≤ 63) (hm : m.toBitVec.toNat = 2 ^ k - 1) : (x &&& m).toInt = x.toInt % 2 ^ k := by
  have h1 : (x &&& m).toBitVec.toNat = x.toBitVec.toNat % 2 ^ k := by rw [Int64.toBitVec_and, BitVec.toNat_and, hm, Nat.and_two_pow_sub_one_eq_mod]
  have h3 : x.toBitVec.toNat % 2 ^ k < 2 ^ k := Nat.mod_lt _ (Nat.pow_pos (by decide))
  have h4 : (2 : Nat) ^ k ≤ 2 ^ 63 := Nat.pow_le_pow_right (by decide) hk
  have h2 : (x &&& m).toInt = ((x.toBitVec.toNat % 2 ^ k : Nat) : Int) := by
    show (x &&& m).toBitVec.toInt = _
    rw [BitVec.toInt_eq_toNat_of_lt (by rw [h1]; omega), h1]
  rw [h2]
  have h5 : x.toInt = x.toBitVec.toInt := rfl
  have h6 : ((2 : Int) ^ k) ∣ 18446744073709551616 := by
    have : (18446744073709551616 : Int) = 2 ^ k * 2 ^ (64 - k) := by rw [← Int.pow_add, show k + (64 - k) = 64 by omega]; rfl
    exact ⟨_, this⟩
  rw [h5, BitVec.toInt_eq_toNat_cond]
  split
  · exact Int.natCast_emod _ _
  · rw [Int.natCast_emod, show (((2 ^ 64 : Nat) : Int)) = 18446744073709551616 from rfl, Int.sub_emod, Int.emod_eq_zero_of_dvd h6]; simp
theorem own_bm32 (x : Int) : x.bmod 4294967296 = (x + 2147483648) % 4294967296 - 2147483648 := by
  unfold Int.bmod; dsimp only; split <;> omega
theorem own_bm64 (x : Int) : x.bmod 18446744073709551616 = (x + 9223372036854775808) % 18446744073709551616 - 9223372036854775808 := by
  unfold Int.bmod; dsimp only; split <;> omega
theorem own_bm8 (x : Int) : x.bmod 256 = (x + 128) % 256 - 128 := by
  unfold Int.bmod; dsimp only; split <;> omega
theorem own_bm16 (x : Int) : x.bmod 65536 = (x + 32768) % 65536 - 32768 := by
  unfold Int.bmod; dsimp only; split <;> omega
theorem own_b8 (x : Int32) : x.toInt8.toInt32.toInt = (x.toInt + 128) % 256 - 128 := by rw [Int8.toInt_toInt32, Int32.toInt_toInt8]; exact own_bm8 _
theorem own_s16 (x : Int32) : x.toInt16.toInt32.toInt = (x.toInt + 32768) % 65536 - 32768 := by rw [Int16.toInt_toInt32, Int32.toInt_toInt16]; exact own_bm16 _
theorem own_l2i (x : Int64) : x.toInt32.toInt = (x.toInt + 2147483648) % 4294967296 - 2147483648 := by rw [Int64.toInt_toInt32]; exact own_bm32 _
theorem own_i2l (x : Int32) : x.toInt64.toInt = x.toInt := Int32.toInt_toInt64 x
theorem own_idiv {a b : Int32} (h1 : 0 ≤ a.toInt) (h2 : 0 < b.toInt) : (a / b).toInt = a.toInt / b.toInt := by
  rw [Int32.toInt_div_of_ne_right a b (fun q => by rw [q] at h2; exact absurd h2 (by decide)), Int.tdiv_eq_ediv_of_nonneg h1]
theorem own_ldiv {a b : Int64} (h1 : 0 ≤ a.toInt) (h2 : 0 < b.toInt) : (a / b).toInt = a.toInt / b.toInt := by
  rw [Int64.toInt_div_of_ne_right a b (fun q => by rw [q] at h2; exact absurd h2 (by decide)), Int.tdiv_eq_ediv_of_nonneg h1]
theorem own_imod {a b : Int32} (h1 : 0 ≤ a.toInt) : (a % b).toInt = a.toInt % b.toInt := by rw [Int32.toInt_mod, Int.tmod_eq_emod_of_nonneg h1]
theorem own_lmod {a b : Int64} (h1 : 0 ≤ a.toInt) : (a % b).toInt = a.toInt % b.toInt := by rw [Int64.toInt_mod, Int.tmod_eq_emod_of_nonneg h1]
theorem own_uI (x : Int32) : (x.toUInt32.toNat : Int) = x.toInt % 4294967296 := by
  have h : x.toInt = x.toBitVec.toInt := rfl
  have q : x.toUInt32.toNat = x.toBitVec.toNat := rfl
  have b := x.toBitVec.isLt
  rw [h, q, BitVec.toInt_eq_toNat_cond]
  split <;> omega
theorem own_uJ (x : Int64) : (x.toUInt64.toNat : Int) = x.toInt % 18446744073709551616 := by
  have h : x.toInt = x.toBitVec.toInt := rfl
  have q : x.toUInt64.toNat = x.toBitVec.toNat := rfl
  have b := x.toBitVec.isLt
  rw [h, q, BitVec.toInt_eq_toNat_cond]
  split <;> omega
theorem own_ofU (u : UInt32) (h : u.toNat < 2147483648) : u.toInt32.toInt = u.toNat := by
  show u.toBitVec.toInt = _
  exact BitVec.toInt_eq_toNat_of_lt (by show 2 * u.toNat < 2 ^ 32; omega)
theorem own_ofUJ (u : UInt64) (h : u.toNat < 9223372036854775808) : u.toInt64.toInt = u.toNat := by
  show u.toBitVec.toInt = _
  exact BitVec.toInt_eq_toNat_of_lt (by show 2 * u.toNat < 2 ^ 64; omega)
/-- Java's >>> on ints by a constant from 1 to 31 -/
theorem own_iushr (x s : Int32) (n : Nat) (h0 : 1 ≤ n) (hn : n < 32) (hs : (s &&& 31).toUInt32.toNat = n) : ((x.toUInt32 >>> (s &&& 31).toUInt32).toInt32).toInt = (x.toInt % 4294967296) / (2 ^ n : Nat) := by
  have e : (x.toUInt32 >>> (s &&& 31).toUInt32).toNat = x.toUInt32.toNat / 2 ^ n := by rw [UInt32.toNat_shiftRight, hs, Nat.mod_eq_of_lt hn, Nat.shiftRight_eq_div_pow]
  have b : x.toUInt32.toNat < 4294967296 := x.toUInt32.toNat_lt
  have c : x.toUInt32.toNat / 2 ^ n ≤ x.toUInt32.toNat / 2 ^ 1 := Nat.div_le_div_left (Nat.pow_le_pow_right (by decide) h0) (by decide)
  rw [own_ofU _ (by rw [e]; omega), e, Int.natCast_ediv, own_uI]
theorem own_lushr (x : Int64) (s : Int32) (n : Nat) (h0 : 1 ≤ n) (hn : n < 64) (hs : (s &&& 0x3f).toInt64.toUInt64.toNat = n) : ((x.toUInt64 >>> (s &&& 0x3f).toInt64.toUInt64).toInt64).toInt = (x.toInt % 18446744073709551616) / (2 ^ n : Nat) := by
  have e : (x.toUInt64 >>> (s &&& 0x3f).toInt64.toUInt64).toNat = x.toUInt64.toNat / 2 ^ n := by rw [UInt64.toNat_shiftRight, hs, Nat.mod_eq_of_lt hn, Nat.shiftRight_eq_div_pow]
  have b : x.toUInt64.toNat < 18446744073709551616 := x.toUInt64.toNat_lt
  have c : x.toUInt64.toNat / 2 ^ n ≤ x.toUInt64.toNat / 2 ^ 1 := Nat.div_le_div_left (Nat.pow_le_pow_right (by decide) h0) (by decide)
  rw [own_ofUJ _ (by rw [e]; omega), e, Int.natCast_ediv, own_uJ]
theorem own_ishl {x s : Int32} (n : Nat) (hs : (s.toBitVec.smod 32).toNat = n) (h0 : 0 ≤ x.toInt) (h1 : x.toInt * (2 ^ n : Nat) < 2147483648) : (x <<< s).toInt = x.toInt * (2 ^ n : Nat) := by
  have h : x.toInt = x.toBitVec.toInt := rfl
  have hx : x.toInt = x.toBitVec.toNat := by
    have b := x.toBitVec.isLt
    rw [h, BitVec.toInt_eq_toNat_cond]; rw [h, BitVec.toInt_eq_toNat_cond] at h0
    split at h0 <;> rename_i q
    · rw [if_pos q]
    · omega
  have e : (x <<< s).toBitVec.toNat = x.toBitVec.toNat * 2 ^ n := by
    rw [Int32.toBitVec_shiftLeft, BitVec.shiftLeft_eq', hs, BitVec.toNat_shiftLeft, Nat.shiftLeft_eq]
    apply Nat.mod_eq_of_lt
    rw [hx] at h1
    omega
  show (x <<< s).toBitVec.toInt = _
  rw [BitVec.toInt_eq_toNat_of_lt (by rw [e]; rw [hx] at h1; omega), e, hx]
  simp
theorem own_lshl {x s : Int64} (n : Nat) (hs : (s.toBitVec.smod 64).toNat = n) (h0 : 0 ≤ x.toInt) (h1 : x.toInt * (2 ^ n : Nat) < 9223372036854775808) : (x <<< s).toInt = x.toInt * (2 ^ n : Nat) := by
  have h : x.toInt = x.toBitVec.toInt := rfl
  have hx : x.toInt = x.toBitVec.toNat := by
    have b := x.toBitVec.isLt
    rw [h, BitVec.toInt_eq_toNat_cond]; rw [h, BitVec.toInt_eq_toNat_cond] at h0
    split at h0 <;> rename_i q
    · rw [if_pos q]
    · omega
  have e : (x <<< s).toBitVec.toNat = x.toBitVec.toNat * 2 ^ n := by
    rw [Int64.toBitVec_shiftLeft, BitVec.shiftLeft_eq', hs, BitVec.toNat_shiftLeft, Nat.shiftLeft_eq]
    apply Nat.mod_eq_of_lt
    rw [hx] at h1
    omega
  show (x <<< s).toBitVec.toInt = _
  rw [BitVec.toInt_eq_toNat_of_lt (by rw [e]; rw [hx] at h1; omega), e, hx]
  simp
theorem own_ishr (x s : Int32) (n : Nat) (hs : (s.toBitVec.smod 32).toNat = n) : (x >>> s).toInt = x.toInt / (2 ^ n : Nat) := by
  show (x >>> s).toBitVec.toInt = _
  rw [Int32.toBitVec_shiftRight, BitVec.sshiftRight', hs, BitVec.toInt_sshiftRight, Int.shiftRight_eq_div_pow]
  rfl
theorem own_lshr (x s : Int64) (n : Nat) (hs : (s.toBitVec.smod 64).toNat = n) : (x >>> s).toInt = x.toInt / (2 ^ n : Nat) := by
  show (x >>> s).toBitVec.toInt = _
  rw [Int64.toBitVec_shiftRight, BitVec.sshiftRight', hs, BitVec.toInt_sshiftRight, Int.shiftRight_eq_div_pow]
  rfl
theorem own_natbit (x k : Nat) : x &&& 2 ^ k = 0 ↔ x / 2 ^ k % 2 = 0 := by
  constructor
  · intro h
    have q : (x &&& 2 ^ k).testBit k = false := by rw [h]; exact Nat.zero_testBit k
    rw [Nat.testBit_and, Nat.testBit_two_pow_self, Bool.and_true, Nat.testBit_eq_decide_div_mod_eq] at q
    have q := of_decide_eq_false q
    omega
  · intro h
    apply Nat.eq_of_testBit_eq
    intro i
    rw [Nat.testBit_and, Nat.zero_testBit, Nat.testBit_two_pow]
    by_cases e : k = i
    · subst e
      rw [Nat.testBit_eq_decide_div_mod_eq, h]; rfl
    · simp [e]
/-- one bit of an int -/
theorem own_ibit (x m : Int32) (k : Nat) (hm : m.toBitVec.toNat = 2 ^ k) : (x &&& m = 0) ↔ x.toInt % 4294967296 / (2 ^ k : Nat) % 2 = 0 := by
  have u : (x.toBitVec.toNat : Int) = x.toInt % 4294967296 := own_uI x
  have z : (0 : Int32).toBitVec.toNat = 0 := rfl
  rw [← u, ← Int.natCast_ediv, ← Int32.toBitVec_inj, ← BitVec.toNat_inj, Int32.toBitVec_and, BitVec.toNat_and, hm, z, own_natbit]
  omega
theorem own_k0 : (0 : Int32).toNatClampNeg = 0 := by decide
theorem own_k1 : (1 : Int32).toNatClampNeg = 1 := by decide
theorem own_k2 : (2 : Int32).toNatClampNeg = 2 := by decide
theorem own_k3 : (3 : Int32).toNatClampNeg = 3 := by decide
theorem own_k4 : (4 : Int32).toNatClampNeg = 4 := by decide
theorem own_k5 : (5 : Int32).toNatClampNeg = 5 := by decide
theorem own_k6 : (6 : Int32).toNatClampNeg = 6 := by decide
theorem own_k7 : (7 : Int32).toNatClampNeg = 7 := by decide
/-- a byte, and what a property of the 256 of them says -/
theorem own_byte {P : Int32 → Prop} (h : ∀ n : Nat, n < 256 → P (Int32.ofNat n)) (x : Int32) (h1 : 0 ≤ x.toInt) (h2 : x.toInt < 256) : P x := by
  have e : x = Int32.ofNat x.toInt.toNat := by
    apply Int32.toInt_inj.mp
    rw [Int32.toInt_ofNat_of_lt (by omega)]; omega
  rw [e]; exact h _ (by omega)
theorem own_192 (x : Int32) (h1 : 0 ≤ x.toInt) (h2 : x.toInt < 256) : (x &&& 192).toInt = x.toInt / 64 * 64 :=
  own_byte (P := fun x => (x &&& 192).toInt = x.toInt / 64 * 64) (by decide +kernel) x h1 h2
/-- the or of two numbers that share no bit -/
theorem own_ior {x y : Int32} (k : Nat) (q : Int) (hq : 0 ≤ q) (hx : x.toInt = (2 ^ k : Nat) * q) (hy : 0 ≤ y.toInt) (hy2 : y.toInt < (2 ^ k : Nat)) : (x ||| y).toInt = x.toInt + y.toInt := by
  have x0 : 0 ≤ x.toInt := by rw [hx]; exact Int.mul_nonneg (Int.natCast_nonneg _) hq
  have ux := own_uI x
  have uy := own_uI y
  have x2 := own_i2 x
  have y2 := own_i2 y
  have nx : x.toUInt32.toNat = 2 ^ k * q.toNat := by
    have : ((2 ^ k * q.toNat : Nat) : Int) = (2 ^ k : Nat) * q := by rw [Int.natCast_mul, Int.toNat_of_nonneg hq]
    omega
  have e : (x ||| y).toBitVec.toNat = x.toUInt32.toNat + y.toUInt32.toNat := by
    rw [Int32.toBitVec_or, BitVec.toNat_or]
    show x.toUInt32.toNat ||| y.toUInt32.toNat = _
    rw [nx]
    exact (Nat.two_pow_add_eq_or_of_lt (by omega) _).symm
  have lt : x.toInt + y.toInt < 2147483648 := by
    by_cases k31 : k ≤ 31
    · have d : (2 ^ 31 : Nat) = 2 ^ k * 2 ^ (31 - k) := by rw [← Nat.pow_add]; congr 1; omega
      have z1 : q.toNat < 2 ^ (31 - k) := by
        apply Nat.lt_of_mul_lt_mul_left (a := 2 ^ k)
        rw [← d, ← nx]; omega
      have z2 : 2 ^ k * (q.toNat + 1) ≤ 2 ^ k * 2 ^ (31 - k) := Nat.mul_le_mul_left _ z1
      rw [← d, Nat.mul_add, ← nx] at z2
      omega
    · have z0 : q = 0 := by
        have z1 : (2 ^ 32 : Nat) ≤ 2 ^ k := Nat.pow_le_pow_right (by decide) (by omega)
        by_cases q0 : q = 0
        · exact q0
        · have z3 : (2 ^ k : Nat) * 1 ≤ ((2 ^ k : Nat) : Int) * q := Int.mul_le_mul_of_nonneg_left (by omega) (Int.natCast_nonneg _)
          omega
      rw [hx, z0]; omega
  show (x ||| y).toBitVec.toInt = _
  rw [BitVec.toInt_eq_toNat_of_lt (by rw [e]; omega), e]
  omega
def own_c (x : Int) : Prop := 128 ≤ x ∧ x ≤ 191
instance (x : Int) : Decidable (own_c x) := inferInstanceAs (Decidable (_ ∧ _))
/-- what the two of them answer, over integers -/
def own_tail (l x1 n : Int) : Int :=
  if l = 224 ∧ x1 < 160 then -4 else if l = 240 ∧ x1 < 144 then -4 else if l = 237 ∧ 159 < x1 then -5 else if l = 244 ∧ 143 < x1 then -6 else n
def own_spec (l x1 x2 x3 av : Int) : Int :=
  if l < 128 then 1 else if l < 192 then -2 else if l < 194 ∨ 244 < l then -1
  else if l < 224 then (if 1 < av ∧ own_c x1 then own_tail l x1 2 else -3)
  else if l < 240 then (if 1 < av ∧ own_c x1 ∧ 2 < av ∧ own_c x2 then own_tail l x1 3 else -3)
  else (if 1 < av ∧ own_c x1 ∧ 2 < av ∧ own_c x2 ∧ 3 < av ∧ own_c x3 then own_tail l x1 4 else -3)
theorem own_q192 (r : Int32) : (r &&& 192 = 128) ↔ own_c (r &&& 255).toInt := by
  have e : r &&& 192 = (r &&& 255) &&& 192 := by rw [Int32.and_assoc]; congr 1
  have m : (r &&& 255).toInt = r.toInt % 2 ^ 8 := own_imask 8 (by decide) (by decide)
  rw [e, ← Int32.toInt_inj, own_192 _ (by omega) (by omega)]
  simp only [Int32.reduceToInt]
  unfold own_c; omega
theorem own_t206 (l m s : Int32) (bs : List Int32) : f_Utf8_sequenceLength_206 l m s bs = some (if l.toInt = 244 ∧ 143 < s.toInt then -6 else m) := by
  unfold f_Utf8_sequenceLength_206
  simp only [← Int32.toInt_inj, Int32.lt_iff_toInt_lt, Int32.reduceToInt]
  repeat' split
  all_goals first | rfl | (exfalso; omega)
theorem own_t162 (l m s : Int32) (bs : List Int32) : f_Utf8_sequenceLength_162 l m s bs = some (if l.toInt = 240 ∧ s.toInt < 144 then -4 else if l.toInt = 237 ∧ 159 < s.toInt then -5 else if l.toInt = 244 ∧ 143 < s.toInt then -6 else m) := by
  unfold f_Utf8_sequenceLength_162
  simp only [own_t206, ← Int32.toInt_inj, Int32.lt_iff_toInt_lt, Int32.reduceToInt]
  repeat' split
  all_goals first | rfl | (exfalso; omega)
theorem own_end (n : Nat) (a e l m i x1 : Int32) (bs : List Int32) (hi : ¬ i < m) (hb : own_inb bs (a + 1)) (hr : own_rd bs (a + 1) &&& 255 = x1) : ∃ r, f_Utf8_sequenceLength_96 (n + 1) a e l m i bs = some r ∧ r.toInt = own_tail l.toInt x1.toInt m.toInt := by
  rw [f_Utf8_sequenceLength_96, if_neg hi, own_ls, own_ct _ hb, own_ls, hr]
  simp only [own_t162, ← Int32.toInt_inj, Int32.lt_iff_toInt_lt, Int32.reduceToInt]
  unfold own_tail
  repeat' split
  all_goals first | exact ⟨_, rfl, rfl⟩ | (exfalso; omega)
theorem own_turn (n : Nat) (a e l m i x : Int32) (bs : List Int32) (hi : i < m) (hb : own_inb bs (a + i)) (hr : own_rd bs (a + i) &&& 255 = x) :
    f_Utf8_sequenceLength_96 (n + 1) a e l m i bs = if ¬ (a + i = e) ∧ own_c x.toInt then f_Utf8_sequenceLength_96 n a e l m (i + 1) bs else some (-3) := by
  rw [f_Utf8_sequenceLength_96, if_pos hi]
  by_cases h : a + i = e
  · rw [if_pos h, if_neg (fun q => q.1 h)]
  · rw [if_neg h, own_ls, own_ct _ hb]
    by_cases q : own_rd bs (a + i) &&& 192 = 128
    · rw [if_pos q, own_ls, if_pos ⟨h, by rw [← hr]; exact (own_q192 _).mp q⟩]
    · rw [if_neg q, if_neg (fun z => q ((own_q192 _).mpr (by rw [hr]; exact z.2)))]
theorem own_seq (a e x0 x1 x2 x3 : Int32) (av : Int) (bs : List Int32) (ha : 0 ≤ a.toInt) (ha2 : a.toInt ≤ 1) (he : e.toInt = a.toInt + av) (h1 : 1 ≤ av) (h4 : av ≤ 4)
    (b0 : own_inb bs a) (r0 : own_rd bs a &&& 255 = x0) (b1 : own_inb bs (a + 1)) (r1 : own_rd bs (a + 1) &&& 255 = x1) (b2 : own_inb bs (a + 2)) (r2 : own_rd bs (a + 2) &&& 255 = x2) (b3 : own_inb bs (a + 3)) (r3 : own_rd bs (a + 3) &&& 255 = x3) :
    ∃ r, f_Utf8_sequenceLength a e bs = some r ∧ r.toInt = own_spec x0.toInt x1.toInt x2.toInt x3.toInt av := by
  have a1 : (a + 1).toInt = a.toInt + 1 := by rw [own_iadd (by simp only [Int32.reduceToInt]; omega) (by simp only [Int32.reduceToInt]; omega)]; rfl
  have a2 : (a + 2).toInt = a.toInt + 2 := by rw [own_iadd (by simp only [Int32.reduceToInt]; omega) (by simp only [Int32.reduceToInt]; omega)]; rfl
  have a3 : (a + 3).toInt = a.toInt + 3 := by rw [own_iadd (by simp only [Int32.reduceToInt]; omega) (by simp only [Int32.reduceToInt]; omega)]; rfl
  have n1 : (¬ a + 1 = e) ↔ 1 < av := by rw [← Int32.toInt_inj, a1, he]; omega
  have n2 : 1 < av → ((¬ a + 2 = e) ↔ 2 < av) := fun _ => by rw [← Int32.toInt_inj, a2, he]; omega
  have n3 : 2 < av → ((¬ a + 3 = e) ↔ 3 < av) := fun _ => by rw [← Int32.toInt_inj, a3, he]; omega
  have p2 : (1 : Int32) + 1 = 2 := by decide
  have p3 : (2 : Int32) + 1 = 3 := by decide
  have p4 : (3 : Int32) + 1 = 4 := by decide
  have m3 : (-3 : Int32).toInt = -3 := rfl
  unfold f_Utf8_sequenceLength
  rw [own_ct _ b0, own_ls, r0]
  simp only [Int32.lt_iff_toInt_lt, Int32.reduceToInt]
  unfold own_spec
  by_cases c1 : x0.toInt < 128
  · rw [if_pos c1, if_pos c1]; exact ⟨_, rfl, rfl⟩
  rw [if_neg c1, if_neg c1]
  by_cases c2 : x0.toInt < 192
  · rw [if_pos c2, if_pos c2]; exact ⟨_, rfl, rfl⟩
  rw [if_neg c2, if_neg c2]
  by_cases c3 : x0.toInt < 194
  · rw [if_pos c3, if_pos (Or.inl c3)]; exact ⟨_, rfl, rfl⟩
  rw [if_neg c3]
  by_cases c4 : 244 < x0.toInt
  · rw [if_pos c4, if_pos (Or.inr c4)]; exact ⟨_, rfl, rfl⟩
  have c34 : ¬ (x0.toInt < 194 ∨ 244 < x0.toInt) := by omega
  rw [if_neg c4, if_neg c34]
  by_cases c5 : x0.toInt < 224
  · rw [if_pos c5, if_pos c5, own_turn 99 a e x0 2 1 x1 bs (by decide) b1 r1, p2]
    by_cases q : 1 < av ∧ own_c x1.toInt
    · rw [if_pos ⟨n1.mpr q.1, q.2⟩, if_pos q]
      exact own_end 98 a e x0 2 2 x1 bs (by decide) b1 r1
    · rw [if_neg (fun z => q ⟨n1.mp z.1, z.2⟩), if_neg q]; exact ⟨_, rfl, m3⟩
  rw [if_neg c5, if_neg c5]
  by_cases c6 : x0.toInt < 240
  · rw [if_pos c6, if_pos c6, own_turn 99 a e x0 3 1 x1 bs (by decide) b1 r1, p2]
    by_cases q : 1 < av ∧ own_c x1.toInt
    · rw [if_pos ⟨n1.mpr q.1, q.2⟩, own_turn 98 a e x0 3 2 x2 bs (by decide) b2 r2, p3]
      by_cases q2 : 2 < av ∧ own_c x2.toInt
      · rw [if_pos ⟨(n2 q.1).mpr q2.1, q2.2⟩, if_pos ⟨q.1, q.2, q2.1, q2.2⟩]
        exact own_end 97 a e x0 3 3 x1 bs (by decide) b1 r1
      · rw [if_neg (fun z => q2 ⟨(n2 q.1).mp z.1, z.2⟩), if_neg (fun z => q2 ⟨z.2.2.1, z.2.2.2⟩)]; exact ⟨_, rfl, m3⟩
    · rw [if_neg (fun z => q ⟨n1.mp z.1, z.2⟩), if_neg (fun z => q ⟨z.1, z.2.1⟩)]; exact ⟨_, rfl, m3⟩
  rw [if_neg c6, if_neg c6, own_turn 99 a e x0 4 1 x1 bs (by decide) b1 r1, p2]
  by_cases q : 1 < av ∧ own_c x1.toInt
  · rw [if_pos ⟨n1.mpr q.1, q.2⟩, own_turn 98 a e x0 4 2 x2 bs (by decide) b2 r2, p3]
    by_cases q2 : 2 < av ∧ own_c x2.toInt
    · rw [if_pos ⟨(n2 q.1).mpr q2.1, q2.2⟩, own_turn 97 a e x0 4 3 x3 bs (by decide) b3 r3, p4]
      by_cases q3 : 3 < av ∧ own_c x3.toInt
      · rw [if_pos ⟨(n3 q2.1).mpr q3.1, q3.2⟩, if_pos ⟨q.1, q.2, q2.1, q2.2, q3.1, q3.2⟩]
        exact own_end 96 a e x0 4 4 x1 bs (by decide) b1 r1
      · rw [if_neg (fun z => q3 ⟨(n3 q2.1).mp z.1, z.2⟩), if_neg (fun z => q3 ⟨z.2.2.2.2.1, z.2.2.2.2.2⟩)]; exact ⟨_, rfl, m3⟩
    · rw [if_neg (fun z => q2 ⟨(n2 q.1).mp z.1, z.2⟩), if_neg (fun z => q2 ⟨z.2.2.1, z.2.2.2.1⟩)]; exact ⟨_, rfl, m3⟩
  · rw [if_neg (fun z => q ⟨n1.mp z.1, z.2⟩), if_neg (fun z => q ⟨z.1, z.2.1⟩)]; exact ⟨_, rfl, m3⟩
/-! what the law expects -/
theorem own_cont (x : Int32) (h1 : 0 ≤ x.toInt) (h2 : x.toInt ≤ 255) : f_Utf8SequenceLengthPinLaw_cont x = some (if own_c x.toInt then 1 else 0) := by
  unfold f_Utf8SequenceLengthPinLaw_cont
  simp only [← Int32.toInt_inj, own_iushr x 6 6 (by decide) (by decide) (by decide), Int32.reduceToInt]
  by_cases q : own_c x.toInt
  · rw [if_pos q, if_pos]; unfold own_c at q; omega
  · rw [if_neg q, if_neg]; unfold own_c at q; omega
theorem own_130n (l x1 x2 x3 n : Int32) : f_Utf8SequenceLengthPinLaw_expected_130 l x1 x2 x3 n 0 = some (-3) := by unfold f_Utf8SequenceLengthPinLaw_expected_130; rw [if_pos rfl]
theorem own_130b (l x1 x2 x3 : Int32) (h1 : 194 ≤ l.toInt) (h2 : l.toInt ≤ 223) : ∃ r, f_Utf8SequenceLengthPinLaw_expected_130 l x1 x2 x3 2 1 = some r ∧ r.toInt = own_tail l.toInt x1.toInt 2 := by
  unfold f_Utf8SequenceLengthPinLaw_expected_130 own_tail
  rw [if_neg (by decide), if_pos rfl, if_neg (by omega), if_neg (by omega), if_neg (by omega), if_neg (by omega)]
  exact ⟨_, rfl, rfl⟩
theorem own_130c (l x1 x2 x3 : Int32) (h1 : 224 ≤ l.toInt) (h2 : l.toInt ≤ 239) (c1 : own_c x1.toInt) (c2 : own_c x2.toInt) : ∃ r, f_Utf8SequenceLengthPinLaw_expected_130 l x1 x2 x3 3 1 = some r ∧ r.toInt = own_tail l.toInt x1.toInt 3 := by
  unfold own_c at c1 c2
  have s6 : (x1 &&& 63).toInt = x1.toInt % 2 ^ 6 := own_imask 6 (by decide) (by decide)
  have t6 : (x2 &&& 63).toInt = x2.toInt % 2 ^ 6 := own_imask 6 (by decide) (by decide)
  have l4 : (l &&& 15).toInt = l.toInt % 2 ^ 4 := own_imask 4 (by decide) (by decide)
  have l12 : ((l &&& 15) <<< ((12 : Int32) &&& 31)).toInt = l.toInt % 2 ^ 4 * 4096 := by rw [own_ishl 12 (by decide) (by omega) (by rw [l4]; omega), l4]; rfl
  have s12 : ((x1 &&& 63) <<< ((6 : Int32) &&& 31)).toInt = x1.toInt % 2 ^ 6 * 64 := by rw [own_ishl 6 (by decide) (by omega) (by rw [s6]; omega), s6]; rfl
  have o1 : (((l &&& 15) <<< ((12 : Int32) &&& 31)) ||| ((x1 &&& 63) <<< ((6 : Int32) &&& 31))).toInt = l.toInt % 2 ^ 4 * 4096 + x1.toInt % 2 ^ 6 * 64 := by
    rw [own_ior 12 (l.toInt % 2 ^ 4) (by omega) (by rw [l12]; omega) (by omega) (by rw [s12]; omega), l12, s12]
  have o2 : ((((l &&& 15) <<< ((12 : Int32) &&& 31)) ||| ((x1 &&& 63) <<< ((6 : Int32) &&& 31))) ||| (x2 &&& 63)).toInt = l.toInt % 2 ^ 4 * 4096 + x1.toInt % 2 ^ 6 * 64 + x2.toInt % 2 ^ 6 := by
    rw [own_ior 6 (l.toInt % 2 ^ 4 * 64 + x1.toInt % 2 ^ 6) (by omega) (by rw [o1]; omega) (by omega) (by rw [t6]; omega), o1, t6]
  unfold f_Utf8SequenceLengthPinLaw_expected_130 own_tail
  rw [if_neg (by decide), if_neg (by decide), if_pos rfl, own_ls]
  simp only [Int32.lt_iff_toInt_lt, o2, Int32.reduceToInt]
  repeat' split
  all_goals first | exact ⟨_, rfl, rfl⟩ | (exfalso; omega)
theorem own_130d (l x1 x2 x3 : Int32) (h1 : 240 ≤ l.toInt) (h2 : l.toInt ≤ 244) (c1 : own_c x1.toInt) (c2 : own_c x2.toInt) (c3 : own_c x3.toInt) : ∃ r, f_Utf8SequenceLengthPinLaw_expected_130 l x1 x2 x3 4 1 = some r ∧ r.toInt = own_tail l.toInt x1.toInt 4 := by
  unfold own_c at c1 c2 c3
  have s6 : (x1 &&& 63).toInt = x1.toInt % 2 ^ 6 := own_imask 6 (by decide) (by decide)
  have t6 : (x2 &&& 63).toInt = x2.toInt % 2 ^ 6 := own_imask 6 (by decide) (by decide)
  have u6 : (x3 &&& 63).toInt = x3.toInt % 2 ^ 6 := own_imask 6 (by decide) (by decide)
  have l3 : (l &&& 7).toInt = l.toInt % 2 ^ 3 := own_imask 3 (by decide) (by decide)
  have l18 : ((l &&& 7) <<< ((18 : Int32) &&& 31)).toInt = l.toInt % 2 ^ 3 * 262144 := by rw [own_ishl 18 (by decide) (by omega) (by rw [l3]; omega), l3]; rfl
  have s12 : ((x1 &&& 63) <<< ((12 : Int32) &&& 31)).toInt = x1.toInt % 2 ^ 6 * 4096 := by rw [own_ishl 12 (by decide) (by omega) (by rw [s6]; omega), s6]; rfl
  have t12 : ((x2 &&& 63) <<< ((6 : Int32) &&& 31)).toInt = x2.toInt % 2 ^ 6 * 64 := by rw [own_ishl 6 (by decide) (by omega) (by rw [t6]; omega), t6]; rfl
  have o1 : (((l &&& 7) <<< ((18 : Int32) &&& 31)) ||| ((x1 &&& 63) <<< ((12 : Int32) &&& 31))).toInt = l.toInt % 2 ^ 3 * 262144 + x1.toInt % 2 ^ 6 * 4096 := by
    rw [own_ior 18 (l.toInt % 2 ^ 3) (by omega) (by rw [l18]; omega) (by omega) (by rw [s12]; omega), l18, s12]
  have o2 : ((((l &&& 7) <<< ((18 : Int32) &&& 31)) ||| ((x1 &&& 63) <<< ((12 : Int32) &&& 31))) ||| ((x2 &&& 63) <<< ((6 : Int32) &&& 31))).toInt = l.toInt % 2 ^ 3 * 262144 + x1.toInt % 2 ^ 6 * 4096 + x2.toInt % 2 ^ 6 * 64 := by
    rw [own_ior 12 (l.toInt % 2 ^ 3 * 64 + x1.toInt % 2 ^ 6) (by omega) (by rw [o1]; omega) (by omega) (by rw [t12]; omega), o1, t12]
  have o3 : (((((l &&& 7) <<< ((18 : Int32) &&& 31)) ||| ((x1 &&& 63) <<< ((12 : Int32) &&& 31))) ||| ((x2 &&& 63) <<< ((6 : Int32) &&& 31))) ||| (x3 &&& 63)).toInt = l.toInt % 2 ^ 3 * 262144 + x1.toInt % 2 ^ 6 * 4096 + x2.toInt % 2 ^ 6 * 64 + x3.toInt % 2 ^ 6 := by
    rw [own_ior 6 (l.toInt % 2 ^ 3 * 4096 + x1.toInt % 2 ^ 6 * 64 + x2.toInt % 2 ^ 6) (by omega) (by rw [o2]; omega) (by omega) (by rw [u6]; omega), o2, u6]
  unfold f_Utf8SequenceLengthPinLaw_expected_130 own_tail
  rw [if_neg (by decide), if_neg (by decide), if_neg (by decide), own_ls]
  simp only [Int32.lt_iff_toInt_lt, o3, Int32.reduceToInt]
  repeat' split
  all_goals first | exact ⟨_, rfl, rfl⟩ | (exfalso; omega)
theorem own_exp (x0 x1 x2 x3 av : Int32) (r0 : 0 ≤ x0.toInt ∧ x0.toInt ≤ 255) (r1 : 0 ≤ x1.toInt ∧ x1.toInt ≤ 255) (r2 : 0 ≤ x2.toInt ∧ x2.toInt ≤ 255) (r3 : 0 ≤ x3.toInt ∧ x3.toInt ≤ 255) :
    ∃ r, f_Utf8SequenceLengthPinLaw_expected x0 x1 x2 x3 av = some r ∧ r.toInt = own_spec x0.toInt x1.toInt x2.toInt x3.toInt av.toInt := by
  have m3 : (-3 : Int32).toInt = -3 := rfl
  have no : ∀ n : Int32, ∃ r, f_Utf8SequenceLengthPinLaw_expected_130 x0 x1 x2 x3 n 0 = some r ∧ r.toInt = -3 := fun n => ⟨_, own_130n x0 x1 x2 x3 n, rfl⟩
  unfold f_Utf8SequenceLengthPinLaw_expected
  simp only [← Int32.toInt_inj, Int32.lt_iff_toInt_lt, own_iushr x0 7 7 (by decide) (by decide) (by decide), own_iushr x0 6 6 (by decide) (by decide) (by decide), own_iushr x0 5 5 (by decide) (by decide) (by decide), own_iushr x0 4 4 (by decide) (by decide) (by decide), Int32.reduceToInt]
  unfold own_spec
  by_cases c1 : x0.toInt < 128
  · rw [if_pos (by omega), if_pos c1]; exact ⟨_, rfl, rfl⟩
  rw [if_neg (by omega), if_neg c1]
  by_cases c2 : x0.toInt < 192
  · rw [if_pos (by omega), if_pos c2]; exact ⟨_, rfl, rfl⟩
  rw [if_neg (by omega), if_neg c2]
  by_cases c3 : x0.toInt < 194 ∨ 244 < x0.toInt
  · rw [if_pos c3]
    split
    · exact ⟨_, rfl, rfl⟩
    · split
      · exact ⟨_, rfl, rfl⟩
      · rw [if_neg (by omega)]; exact ⟨_, rfl, rfl⟩
  rw [if_neg (by omega), if_neg (by omega), if_pos (by omega), if_neg c3]
  have k1 : (1 : Int32).toInt = 1 := rfl
  have k2 : (2 : Int32).toInt = 2 := rfl
  have k3 : (3 : Int32).toInt = 3 := rfl
  by_cases c5 : x0.toInt < 224
  · rw [if_pos (by omega), if_pos c5]
    unfold f_Utf8SequenceLengthPinLaw_expected_74
    simp only [own_cont x1 r1.1 r1.2, own_bs, Int32.lt_iff_toInt_lt, k1]
    by_cases q : 1 < av.toInt ∧ own_c x1.toInt
    · rw [if_pos q.1, if_neg (by rw [if_pos q.2]; decide), if_pos (by decide), if_pos q]
      unfold f_Utf8SequenceLengthPinLaw_expected_106
      rw [if_pos (by decide)]
      exact own_130b _ _ _ _ (by omega) (by omega)
    · rw [if_neg q]
      by_cases q1 : 1 < av.toInt
      · rw [if_pos q1, if_pos (by rw [if_neg (fun z => q ⟨q1, z⟩)])]; exact no _
      · rw [if_neg q1]; exact no _
  rw [if_neg (by omega), if_neg c5]
  by_cases c6 : x0.toInt < 240
  · rw [if_pos (by omega), if_pos c6]
    unfold f_Utf8SequenceLengthPinLaw_expected_74
    simp only [own_cont x1 r1.1 r1.2, own_cont x2 r2.1 r2.2, own_bs, Int32.lt_iff_toInt_lt, k1, k2]
    by_cases q1 : 1 < av.toInt
    · rw [if_pos q1]
      by_cases d1 : own_c x1.toInt
      · rw [if_neg (by rw [if_pos d1]; decide), if_neg (by decide)]
        by_cases q2 : 2 < av.toInt
        · rw [if_pos q2]
          by_cases d2 : own_c x2.toInt
          · rw [if_neg (by rw [if_pos d2]; decide), if_pos ⟨q1, d1, q2, d2⟩]
            unfold f_Utf8SequenceLengthPinLaw_expected_106
            rw [if_pos (by decide)]
            exact own_130c _ _ _ _ (by omega) (by omega) d1 d2
          · rw [if_pos (by rw [if_neg d2]), if_neg (fun z => d2 z.2.2.2)]; exact no _
        · rw [if_neg q2, if_neg (fun z => q2 z.2.2.1)]; exact no _
      · rw [if_pos (by rw [if_neg d1]), if_neg (fun z => d1 z.2.1)]; exact no _
    · rw [if_neg q1, if_neg (fun z => q1 z.1)]; exact no _
  rw [if_neg (by omega), if_neg c6]
  unfold f_Utf8SequenceLengthPinLaw_expected_74
  simp only [own_cont x1 r1.1 r1.2, own_cont x2 r2.1 r2.2, own_bs, Int32.lt_iff_toInt_lt, k1, k2]
  by_cases q1 : 1 < av.toInt
  · rw [if_pos q1]
    by_cases d1 : own_c x1.toInt
    · rw [if_neg (by rw [if_pos d1]; decide), if_neg (by decide)]
      by_cases q2 : 2 < av.toInt
      · rw [if_pos q2]
        by_cases d2 : own_c x2.toInt
        · rw [if_neg (by rw [if_pos d2]; decide)]
          unfold f_Utf8SequenceLengthPinLaw_expected_106
          simp only [own_cont x3 r3.1 r3.2, own_bs, Int32.lt_iff_toInt_lt, k3]
          rw [if_neg (by decide)]
          by_cases q3 : 3 < av.toInt
          · rw [if_pos q3]
            by_cases d3 : own_c x3.toInt
            · rw [if_neg (by rw [if_pos d3]; decide), if_pos ⟨q1, d1, q2, d2, q3, d3⟩]
              exact own_130d _ _ _ _ (by omega) (by omega) d1 d2 d3
            · rw [if_pos (by rw [if_neg d3]), if_neg (fun z => d3 z.2.2.2.2.2)]; exact no _
          · rw [if_neg q3, if_neg (fun z => q3 z.2.2.2.2.1)]; exact no _
        · rw [if_pos (by rw [if_neg d2]), if_neg (fun z => d2 z.2.2.2.1)]; exact no _
      · rw [if_neg q2, if_neg (fun z => q2 z.2.2.1)]; exact no _
    · rw [if_pos (by rw [if_neg d1]), if_neg (fun z => d1 z.2.1)]; exact no _
  · rw [if_neg q1, if_neg (fun z => q1 z.1)]; exact no _
/-! the law -/
theorem own_n8 (x : Int32) : x.toInt8.toInt32.toInt8.toInt32 &&& 255 = x &&& 255 := by
  have m1 : (x.toInt8.toInt32.toInt8.toInt32 &&& 255).toInt = _ := own_imask 8 (by decide) (by decide)
  have m2 : (x &&& 255).toInt = x.toInt % 2 ^ 8 := own_imask 8 (by decide) (by decide)
  rw [← Int32.toInt_inj, m1, m2, own_b8, own_b8]; omega
theorem own_i5 (a b c d e : Int32) (j : Int32) (h1 : 0 ≤ j.toInt) (h2 : j.toInt < 5) : own_inb [a, b, c, d, e] j := by
  refine ⟨?_, ?_⟩
  · rw [Int32.lt_iff_toInt_lt]; simp only [Int32.reduceToInt]; omega
  · show _ < 5
    rw [Int32.toNatClampNeg]; omega
theorem own_fin (b0 b1 b2 b3 sel a av e t : Int32) (bs : List Int32) (ha : 0 ≤ a.toInt) (ha2 : a.toInt ≤ 1) (he : e.toInt = a.toInt + av.toInt) (h1 : 1 ≤ av.toInt) (h4 : av.toInt ≤ 4) (ht : own_inb bs t)
    (hL : ∀ x : Int32, (own_inb (own_wr bs t x) a ∧ own_rd (own_wr bs t x) a &&& 255 = b0 &&& 255) ∧ (own_inb (own_wr bs t x) (a + 1) ∧ own_rd (own_wr bs t x) (a + 1) &&& 255 = b1 &&& 255) ∧ (own_inb (own_wr bs t x) (a + 2) ∧ own_rd (own_wr bs t x) (a + 2) &&& 255 = b2 &&& 255) ∧ (own_inb (own_wr bs t x) (a + 3) ∧ own_rd (own_wr bs t x) (a + 3) &&& 255 = b3 &&& 255)) :
    f_law_74 b0 b1 b2 b3 sel a av e t bs = some 1 := by
  have m0 : (b0 &&& 255).toInt = b0.toInt % 2 ^ 8 := own_imask 8 (by decide) (by decide)
  have m1 : (b1 &&& 255).toInt = b1.toInt % 2 ^ 8 := own_imask 8 (by decide) (by decide)
  have m2 : (b2 &&& 255).toInt = b2.toInt % 2 ^ 8 := own_imask 8 (by decide) (by decide)
  have m3 : (b3 &&& 255).toInt = b3.toInt % 2 ^ 8 := own_imask 8 (by decide) (by decide)
  unfold f_law_74
  rw [own_ls, own_ct _ ht, own_ls]
  obtain ⟨⟨i0, r0⟩, ⟨i1, r1⟩, ⟨i2, r2⟩, ⟨i3, r3⟩⟩ := hL (((sel.toUInt32 >>> ((3 : Int32) &&& 31).toUInt32).toInt32).toInt8.toInt32.toInt8.toInt32)
  obtain ⟨r, hr, gr⟩ := own_seq a e _ _ _ _ av.toInt _ ha ha2 he h1 h4 i0 r0 i1 r1 i2 r2 i3 r3
  obtain ⟨q, hq, gq⟩ := own_exp (b0 &&& 255) (b1 &&& 255) (b2 &&& 255) (b3 &&& 255) av (by omega) (by omega) (by omega) (by omega)
  rw [hr, own_bs, own_ls, own_ls, own_ls, own_ls, hq, own_bs, if_pos]
  rw [← Int32.toInt_inj, gr, gq]
theorem own_law (b0 b1 b2 b3 sel : Int32) : f_law b0 b1 b2 b3 sel = some 1 := by
  have a1 : (sel &&& (1 : Int32)).toInt = sel.toInt % 2 ^ 1 := own_imask 1 (by decide) (by decide)
  have v1 : (((sel.toUInt32 >>> ((1 : Int32) &&& 31).toUInt32).toInt32) &&& (3 : Int32)).toInt = ((sel.toUInt32 >>> ((1 : Int32) &&& 31).toUInt32).toInt32).toInt % 2 ^ 2 := own_imask 2 (by decide) (by decide)
  have v2 : ((((sel.toUInt32 >>> ((1 : Int32) &&& 31).toUInt32).toInt32) &&& (3 : Int32)) + 1).toInt = ((sel.toUInt32 >>> ((1 : Int32) &&& 31).toUInt32).toInt32).toInt % 2 ^ 2 + 1 := by
    rw [own_iadd (by rw [v1]; simp only [Int32.reduceToInt]; omega) (by rw [v1]; simp only [Int32.reduceToInt]; omega), v1]; rfl
  have w0 : ∀ a b c d e x : Int32, own_wr [a, b, c, d, e] 0 x = [x, b, c, d, e] := fun a b c d e x => by rw [own_wr, own_k0]; rfl
  have w1 : ∀ a b c d e x : Int32, own_wr [a, b, c, d, e] 1 x = [a, x, c, d, e] := fun a b c d e x => by rw [own_wr, own_k1]; rfl
  have w2 : ∀ a b c d e x : Int32, own_wr [a, b, c, d, e] 2 x = [a, b, x, d, e] := fun a b c d e x => by rw [own_wr, own_k2]; rfl
  have w3 : ∀ a b c d e x : Int32, own_wr [a, b, c, d, e] 3 x = [a, b, c, x, e] := fun a b c d e x => by rw [own_wr, own_k3]; rfl
  have w4 : ∀ a b c d e x : Int32, own_wr [a, b, c, d, e] 4 x = [a, b, c, d, x] := fun a b c d e x => by rw [own_wr, own_k4]; rfl
  have d0 : ∀ a b c d e : Int32, own_rd [a, b, c, d, e] 0 = a := fun a b c d e => by rw [own_rd, own_k0]; rfl
  have d1 : ∀ a b c d e : Int32, own_rd [a, b, c, d, e] 1 = b := fun a b c d e => by rw [own_rd, own_k1]; rfl
  have d2 : ∀ a b c d e : Int32, own_rd [a, b, c, d, e] 2 = c := fun a b c d e => by rw [own_rd, own_k2]; rfl
  have d3 : ∀ a b c d e : Int32, own_rd [a, b, c, d, e] 3 = d := fun a b c d e => by rw [own_rd, own_k3]; rfl
  have d4 : ∀ a b c d e : Int32, own_rd [a, b, c, d, e] 4 = e := fun a b c d e => by rw [own_rd, own_k4]; rfl
  unfold f_law
  rw [own_ls, own_ls, own_ls]
  generalize (((sel.toUInt32 >>> ((1 : Int32) &&& 31).toUInt32).toInt32) &&& (3 : Int32)) + 1 = av at *
  have hav : 1 ≤ av.toInt ∧ av.toInt ≤ 4 := by omega
  have ha : sel &&& 1 = 0 ∨ sel &&& 1 = 1 := by
    simp only [← Int32.toInt_inj, a1, Int32.reduceToInt]; omega
  have z1 : (0 : Int32) + 1 = 1 := by decide
  have z2 : (0 : Int32) + 2 = 2 := by decide
  have z3 : (0 : Int32) + 3 = 3 := by decide
  have o1 : (1 : Int32) + 1 = 2 := by decide
  have o2 : (1 : Int32) + 2 = 3 := by decide
  have o3 : (1 : Int32) + 3 = 4 := by decide
  rcases ha with h | h
  · rw [h, own_ls, own_ct _ (own_i5 _ _ _ _ _ _ (by decide) (by decide)), own_ls, own_ls, own_ls, w0, z1, own_ct _ (own_i5 _ _ _ _ _ _ (by decide) (by decide)), own_ls, own_ls, own_ls, w1, z2, own_ct _ (own_i5 _ _ _ _ _ _ (by decide) (by decide)), own_ls, own_ls, own_ls, w2, z3, own_ct _ (own_i5 _ _ _ _ _ _ (by decide) (by decide)), own_ls, w3, if_pos rfl]
    have e : ((0 : Int32) + av).toInt = 0 + av.toInt := own_iadd (by simp only [Int32.reduceToInt]; omega) (by simp only [Int32.reduceToInt]; omega)
    refine own_fin b0 b1 b2 b3 sel 0 av _ 4 _ (by decide) (by decide) e hav.1 hav.2 (own_i5 _ _ _ _ _ _ (by decide) (by decide)) fun x => ?_
    rw [w4, z1, z2, z3, d0, d1, d2, d3]
    exact ⟨⟨own_i5 _ _ _ _ _ _ (by decide) (by decide), own_n8 _⟩, ⟨own_i5 _ _ _ _ _ _ (by decide) (by decide), own_n8 _⟩, ⟨own_i5 _ _ _ _ _ _ (by decide) (by decide), own_n8 _⟩, ⟨own_i5 _ _ _ _ _ _ (by decide) (by decide), own_n8 _⟩⟩
  · rw [h, own_ls, own_ct _ (own_i5 _ _ _ _ _ _ (by decide) (by decide)), own_ls, own_ls, own_ls, w1, o1, own_ct _ (own_i5 _ _ _ _ _ _ (by decide) (by decide)), own_ls, own_ls, own_ls, w2, o2, own_ct _ (own_i5 _ _ _ _ _ _ (by decide) (by decide)), own_ls, own_ls, own_ls, w3, o3, own_ct _ (own_i5 _ _ _ _ _ _ (by decide) (by decide)), own_ls, w4, if_neg (by decide)]
    have e : ((1 : Int32) + av).toInt = 1 + av.toInt := own_iadd (by simp only [Int32.reduceToInt]; omega) (by simp only [Int32.reduceToInt]; omega)
    refine own_fin b0 b1 b2 b3 sel 1 av _ 0 _ (by decide) (by decide) e hav.1 hav.2 (own_i5 _ _ _ _ _ _ (by decide) (by decide)) fun x => ?_
    rw [w0, o1, o2, o3, d1, d2, d3, d4]
    exact ⟨⟨own_i5 _ _ _ _ _ _ (by decide) (by decide), own_n8 _⟩, ⟨own_i5 _ _ _ _ _ _ (by decide) (by decide), own_n8 _⟩, ⟨own_i5 _ _ _ _ _ _ (by decide) (by decide), own_n8 _⟩, ⟨own_i5 _ _ _ _ _ _ (by decide) (by decide), own_n8 _⟩⟩

set_option maxRecDepth 65536 in
set_option maxHeartbeats 4000000 in
theorem comes_1 {Post : Tables → Env → Array Value → State → Outcome → State → Prop} (hpost : ∀ tb e args s v u, (limb_1_1.after args s (.returned v) u = true ∧ limb_1_2.after args s (.returned v) u = true ∧ True) → FrameEnd s (.returned v) u (Jvm.fieldLocs frame_1_writes args s ++ Jvm.arrayLocs frame_1_arrays args s ++ Jvm.staticLocs frame_1_statics s) 16 128 → Post tb e args s (.returned v) u) :
    ArmFor flags0 classFile x code maxLocals ret World_1 tables_1 room_1 Calls_1 rest_1 Pre_1 Post := by
  intro l hfl _ _ p e ha hc hk s m args below hf hA hF happ hP
  obtain ⟨hcalls, hrest, hpre⟩ := hP
  obtain ⟨-, -, -, hnamed, -, -, -, hat⟩ := (Spec.applies_iff hf).mp happ
  obtain ⟨hg, hn⟩ := and_e (Cond.before_iff.mp (show (Jvm.Cond.and given_1 narrow_1).before args s = true from hpre))
  obtain ⟨gc, g0⟩ := and_e hg
  obtain ⟨ga0, g1⟩ := and_e g0
  obtain ⟨ga1, g2⟩ := and_e g1
  obtain ⟨ga2, g3⟩ := and_e g2
  obtain ⟨ga3, g4⟩ := and_e g3
  have ga4 := g4
  obtain ⟨w0, w1, w2, w3, w4, rfl⟩ : ∃ w0 w1 w2 w3 w4 : Value, args = #[w0, w1, w2, w3, w4] := by
    have hs : args.size = 5 := by simpa [Cond.value, given_1] using gc
    obtain ⟨L⟩ := args
    match L, hs with
    | [w0, w1, w2, w3, w4], _ => exact ⟨w0, w1, w2, w3, w4, rfl⟩
  have hw := fun d (hd : d ∈ tables_1) => atoms_spec (ws := Jvm.Cond.code x code maxLocals ret :: tables_1) hat d (List.mem_cons_of_mem _ hd)
  obtain ⟨i0, ei0⟩ := is_v ga0
  obtain rfl : w0 = (.int i0) := Option.some.inj ei0
  obtain ⟨i1, ei1⟩ := is_v ga1
  obtain rfl : w1 = (.int i1) := Option.some.inj ei1
  obtain ⟨i2, ei2⟩ := is_v ga2
  obtain rfl : w2 = (.int i2) := Option.some.inj ei2
  obtain ⟨i3, ei3⟩ := is_v ga3
  obtain rfl : w3 = (.int i3) := Option.some.inj ei3
  obtain ⟨i4, ei4⟩ := is_v ga4
  obtain rfl : w4 = (.int i4) := Option.some.inj ei4
  obtain ⟨n, o, h1, h2, h3, _, L, rfl, hQ, hq⟩ := rm_law l s _ hw tables_1 s.heap s.heap.size (Nat.le_refl _) i0 i1 i2 i3 i4 1 (own_law i0 i1 i2 i3 i4) p e ha hc hk s m _ below hf ((Spec.applies_iff_loose hf).mp happ).1 ⟨rfl, State.Warmed39.refl s, rfl⟩ trivial
  obtain ⟨rfl, N, -⟩ := hQ
  refine ⟨n, _, h1, h2, h3, hpost _ _ _ _ _ _ ⟨Cond.after_iff.mpr rfl, Cond.after_iff.mpr (eq_i res_at (Term.int_eval (1)) rfl), trivial⟩ ⟨hq.1, hq.2.1, (hq.2.2.sift fun y hy => Or.inr (N y hy)).mono (by decide) (by decide)⟩⟩
theorem main_1_1 : Claimed_1_1 := comes_1 fun _ _ _ _ _ _ h hF => ⟨h.1, hF⟩
theorem main_1_2 : Claimed_1_2 := comes_1 fun _ _ _ _ _ _ h hF => ⟨h.2.1, hF⟩
end Jvm.Pilot.@@N@@
namespace Jvm.Pilot.@@N@@
open Jvm Jvm.ClassFile Sem Op Lib Jvm.Free Jvm.Stand Jvm.Pilot.@@N@@.Jvm.D
/-! MADE BY PROGRAM (witnessworld.py) out of the Statement's table words and the real class files: 9 classes; the members and pool entries that the words name. The judged class is class 1, her method 1. -/
namespace start1
open Jvm.ClassFile
def u (s : String) : CpInfo := .utf8 (stringToUtf16 s)
/-- a pool by its gaps: so many unusable entries, then the entry; so many at the end -/
def gap : Nat → List CpInfo → List CpInfo
  | 0, r => r
  | n + 1, r => .unusable :: gap n r
def poolList (es : List (Nat × CpInfo)) (last : Nat) : List CpInfo := es.foldr (fun e r => gap e.1 (e.2 :: r)) (gap last [])
def pool (es : List (Nat × CpInfo)) (last : Nat) : Array CpInfo := ⟨poolList es last⟩
def fileOf (pool : Array CpInfo) (this : Nat) (attrs : Array Attribute := #[]) (ms : Array MethodInfo := #[]) (fl : Nat := 33) (sup : Nat := 0) (ifs : Array Nat := #[]) (fds : Array FieldInfo := #[]) : ClassFile where
  minorVersion := 0
  majorVersion := 65
  constantPool := pool
  accessFlags := fl
  thisClass := this
  superClass := sup
  interfaces := ifs
  fields := fds
  methods := ms
  attributes := attrs
def plain (name : String) (sup : Option ClassId) : Class where
  name := name
  kind := .ordinary
  loader := none
  accessFlags := 33
  super := sup
  interfaces := #[]
  cf := none
  fields := #[]
  methods := #[]
  instanceTypes := #[]
  staticTypes := #[]
  resolved := #[]
  callSites := []
  init := .initialized
  statics := none
  mirror := none

def pool0 : Array CpInfo := pool [(5, u "<init>"), (0, u "()V"), (1, .class_ 10), (1, u "java/lang/Object")] 113

def k0m0 : Method := { name := "<init>", desc := "()V", sig := { parameters := [], returnType := none }, accessFlags := 1, code := none }
/-- java/lang/Object -/
def k0 : Class := { plain "java/lang/Object" none with
  accessFlags := 33
  interfaces := #[]
  cf := some (fileOf pool0 8 #[] #[{ accessFlags := 1, nameIndex := 5, descriptorIndex := 6, attributes := #[] }] 33 0 #[] #[])
  fields := #[]
  methods := #[k0m0]
  instanceTypes := #[]
  staticTypes := #[]
  resolved := Array.replicate 124 none
  statics := none }

def pool1 : Array CpInfo := pool [(2, .class_ 4), (1, u "java/lang/Object"), (0, u "<init>"), (0, u "()V"), (0, .methodref 8 9), (0, .class_ 10), (0, .nameAndType 11 12), (0, u "com/example/binary64/binary64/Utf8"), (0, u "sequenceLength"), (0, u "([BII)I"), (0, .methodref 14 15), (0, .class_ 16), (0, .nameAndType 17 18), (0, u "com/example/binary64/binary64/Utf8SequenceLengthPinLaw"), (0, u "expected"), (0, u "(IIIII)I"), (0, .methodref 14 20), (0, .nameAndType 21 22), (0, u "cont"), (0, u "(I)Z"), (0, .integer 55296), (0, .integer 57343), (0, .integer 65536), (0, .integer 1114111), (2, u "law"), (0, u "(IIIII)Z")] 5

def k1m0 : Method := { name := "<init>", desc := "()V", sig := { parameters := [], returnType := none }, accessFlags := 1, code := none }
def k1c1 : Code := { maxStack := 6, maxLocals := 10, code := code, exceptionTable := #[], attributes := #[] }
def k1m1 : Method := { name := "law", desc := "(IIIII)Z", sig := { parameters := [.int, .int, .int, .int, .int], returnType := some .boolean }, accessFlags := 9, code := some k1c1 }
def k1c2 : Code := { maxStack := 2, maxLocals := 1, code := method_3_code, exceptionTable := #[], attributes := #[] }
def k1m2 : Method := { name := "cont", desc := "(I)Z", sig := { parameters := [.int], returnType := some .boolean }, accessFlags := 10, code := some k1c2 }
def k1c3 : Code := { maxStack := 3, maxLocals := 8, code := method_4_code, exceptionTable := #[], attributes := #[] }
def k1m3 : Method := { name := "expected", desc := "(IIIII)I", sig := { parameters := [.int, .int, .int, .int, .int], returnType := some .int }, accessFlags := 10, code := some k1c3 }
/-- com/example/binary64/binary64/Utf8SequenceLengthPinLaw -/
def k1 : Class := { plain "com/example/binary64/binary64/Utf8SequenceLengthPinLaw" (some 0) with
  accessFlags := 49
  interfaces := #[]
  cf := some (fileOf pool1 14 #[] #[{ accessFlags := 1, nameIndex := 5, descriptorIndex := 6, attributes := #[] }, { accessFlags := 9, nameIndex := 29, descriptorIndex := 30, attributes := #[] }, { accessFlags := 10, nameIndex := 21, descriptorIndex := 22, attributes := #[] }, { accessFlags := 10, nameIndex := 17, descriptorIndex := 18, attributes := #[] }] 49 2 #[] #[])
  fields := #[]
  methods := #[k1m0, k1m1, k1m2, k1m3]
  instanceTypes := #[]
  staticTypes := #[]
  resolved := Array.replicate 36 none
  statics := none }

def pool2 : Array CpInfo := pool [(2, .class_ 4), (1, u "java/lang/Object"), (0, u "<init>"), (0, u "()V"), (0, .class_ 8), (0, u "com/example/binary64/binary64/Utf8"), (40, u "NEVER_USED"), (0, u "I"), (2, u "LONE_CONTINUATION"), (1, u "CUT_SHORT"), (1, u "OVERLONG"), (1, u "SURROGATE"), (1, u "TOO_LARGE"), (3, u "sequenceLength"), (0, u "([BII)I")] 26

def k2m0 : Method := { name := "<init>", desc := "()V", sig := { parameters := [], returnType := none }, accessFlags := 2, code := none }
def k2c1 : Code := { maxStack := 3, maxLocals := 7, code := prog_50_method_2_code, exceptionTable := #[], attributes := #[] }
def k2m1 : Method := { name := "sequenceLength", desc := "([BII)I", sig := { parameters := [(.array .byte), .int, .int], returnType := some .int }, accessFlags := 8, code := some k2c1 }
/-- com/example/binary64/binary64/Utf8 -/
def k2 : Class := { plain "com/example/binary64/binary64/Utf8" (some 0) with
  accessFlags := 48
  interfaces := #[]
  cf := some (fileOf pool2 7 #[] #[{ accessFlags := 2, nameIndex := 5, descriptorIndex := 6, attributes := #[] }, { accessFlags := 8, nameIndex := 65, descriptorIndex := 66, attributes := #[] }] 48 2 #[] #[{ accessFlags := 24, nameIndex := 49, descriptorIndex := 50, attributes := #[] }, { accessFlags := 24, nameIndex := 53, descriptorIndex := 50, attributes := #[] }, { accessFlags := 24, nameIndex := 55, descriptorIndex := 50, attributes := #[] }, { accessFlags := 24, nameIndex := 57, descriptorIndex := 50, attributes := #[] }, { accessFlags := 24, nameIndex := 59, descriptorIndex := 50, attributes := #[] }, { accessFlags := 24, nameIndex := 61, descriptorIndex := 50, attributes := #[] }])
  fields := #[{ name := "NEVER_USED", type := .int, accessFlags := 24, slot := 0, constantValue := 0 }, { name := "LONE_CONTINUATION", type := .int, accessFlags := 24, slot := 1, constantValue := 0 }, { name := "CUT_SHORT", type := .int, accessFlags := 24, slot := 2, constantValue := 0 }, { name := "OVERLONG", type := .int, accessFlags := 24, slot := 3, constantValue := 0 }, { name := "SURROGATE", type := .int, accessFlags := 24, slot := 4, constantValue := 0 }, { name := "TOO_LARGE", type := .int, accessFlags := 24, slot := 5, constantValue := 0 }]
  methods := #[k2m0, k2m1]
  instanceTypes := #[]
  staticTypes := #[.int, .int, .int, .int, .int, .int]
  resolved := Array.replicate 93 none
  statics := none }

def pool3 : Array CpInfo := pool [(1, u "java/lang/Cloneable"), (0, .class_ 1), (0, u "java/lang/Object"), (0, .class_ 3)] 3

/-- java/lang/Cloneable -/
def k3 : Class := { plain "java/lang/Cloneable" (some 0) with
  accessFlags := 1537
  interfaces := #[]
  cf := some (fileOf pool3 2 #[] #[] 1537 4 #[] #[])
  fields := #[]
  methods := #[]
  instanceTypes := #[]
  staticTypes := #[]
  resolved := Array.replicate 8 none
  statics := none }

def pool4 : Array CpInfo := pool [(1, u "java/io/Serializable"), (0, .class_ 1), (0, u "java/lang/Object"), (0, .class_ 3)] 3

/-- java/io/Serializable -/
def k4 : Class := { plain "java/io/Serializable" (some 0) with
  accessFlags := 1537
  interfaces := #[]
  cf := some (fileOf pool4 2 #[] #[] 1537 4 #[] #[])
  fields := #[]
  methods := #[]
  instanceTypes := #[]
  staticTypes := #[]
  resolved := Array.replicate 8 none
  statics := none }

/-- the primitive byte -/
def k5 : Class := { plain "byte" none with kind := .primitive 'B', accessFlags := 0x411 }
/-- [B -/
def k6 : Class := { plain "[B" (some 0) with kind := .array 5 .byte, interfaces := #[3, 4], accessFlags := 1041 }

/-- the primitive int -/
def k7 : Class := { plain "int" none with kind := .primitive 'I', accessFlags := 0x411 }
/-- [I -/
def k8 : Class := { plain "[I" (some 0) with kind := .array 7 .int, interfaces := #[3, 4], accessFlags := 1041 }

def heap : Heap := #[]
def classes : Array Class := #[k0, k1, k2, k3, k4, k5, k6, k7, k8]
def interned : List (Array UInt16 × Addr) := []
def slotsUsed : Nat := 0
def theMethod : MethodId := ⟨1, 1⟩
def args0 : Array Value := #[.int 5, .int 5, .int 5, .int 5, .int 5]
def aboutOver (below : List Frame) : State where
  vm := { classes := classes, interned := interned.toArray }
  heap := heap
  slotsUsed := slotsUsed
  threads := #[{ frames := .invoking theMethod args0 :: below }]
def below0 : List Frame := [.native { method := ⟨0, 0⟩, args := #[] }]
def about1 : State := aboutOver below0
def p0 : Program := .bare "" "" ""
def e0 : Env := launch0.env 0 0 0
theorem w_frames : about1.frames = Frame.invoking theMethod args0 :: below0 := rfl
set_option maxRecDepth 65536 in
theorem w_args : argsFit about1.vm theMethod args0 = true := by decide +kernel
set_option maxRecDepth 65536 in
theorem w_heap : heapFits about1 = true := by decide +kernel
set_option maxRecDepth 65536 in
theorem w_runnable : about1.curStatus? = some .runnable := by decide +kernel
set_option maxRecDepth 65536 in
theorem w_alone : about1.alone = true := by decide +kernel
set_option maxRecDepth 65536 in
theorem w_named : about1.methodNamed? x = some theMethod := by decide +kernel
set_option maxRecDepth 65536 in
theorem w_hears : about1.hears theMethod below0 = true := by decide +kernel
set_option maxRecDepth 65536 in
theorem w_ripe : about1.ripe theMethod args0 below0 = true := by decide +kernel
theorem w_running : about1.status = .running := rfl
set_option maxRecDepth 65536 in
theorem w_room : about1.hasRoom e0.platform room_1 = true :=
  launch0.hasRoom_least _ room_1 (by decide +kernel) (by decide +kernel) (by decide +kernel) (by decide +kernel) (by decide +kernel) (by decide +kernel)
theorem allAtoms_all (ts : List Jvm.Cond) (a : Array Jvm.Value) (st : Jvm.State) : (allAtoms ts).before a st = ts.all (fun c => c.before a st) := by
  induction ts with
  | nil => rfl
  | cons c t ih =>
    show (Jvm.Cond.and c (allAtoms t)).before a st = _
    rw [Jvm.Cond.before_and, ih, List.all_cons]
def words1 : List Jvm.Cond := Jvm.Cond.code x code maxLocals ret :: tables_1
/-- a 'code' word, met by the world's own term for the bytes: nothing is compared byte by byte -/
theorem code_word {y : MethodName} {bytes : ByteArray} {mx : Nat} {rt : Option FieldType} {a : Array Value} {s : State} {m : MethodId} {meth : Method} {c : Code} (h1 : s.methodNamed? y = some m) (h2 : s.vm.method? m = some meth) (h3 : meth.code = some c) (h4 : c.code = bytes)
    (h5 : (c.maxLocals == mx && c.exceptionTable.isEmpty && decide (c.maxStack ≤ mostOperands) && decide (meth.sig.returnType = rt) && !meth.locks && decide (parseMethodDescriptor y.desc = some meth.sig)) = true) : (Jvm.Cond.code y bytes mx rt).before a s = true := by
  simp only [Bool.and_eq_true, beq_iff_eq, Bool.not_eq_true', decide_eq_true_eq] at h5
  obtain ⟨⟨⟨⟨⟨g1, g2⟩, g3⟩, g4⟩, g5⟩, g6⟩ := h5
  simp [Cond.before, Cond.holds, Cond.value, h1, h2, h3, h4, g1, g2, g3, g4, g5, g6]
def isCode : Jvm.Cond → Bool
  | .code _ _ _ _ => true
  | _ => false
theorem all_split {L : List Jvm.Cond} {P : Jvm.Cond → Bool} (h1 : L.all (fun c => isCode c || P c) = true) (h2 : ∀ c ∈ L.filter isCode, P c = true) : L.all P = true := by
  refine List.all_eq_true.mpr fun c hc => ?_
  have h := List.all_eq_true.mp h1 c hc
  rcases Bool.eq_false_or_eq_true (isCode c) with hi | hi
  · exact h2 c (List.mem_filter.mpr ⟨hc, hi⟩)
  · simpa [hi] using h
set_option maxRecDepth 65536 in
theorem w_c0 : (Jvm.Cond.code x code maxLocals ret).before args0 about1 = true := code_word (m := ⟨1, 1⟩) (meth := k1m1) (c := k1c1) (by decide +kernel) rfl rfl rfl (by decide +kernel)
set_option maxRecDepth 65536 in
theorem w_c1 : (Jvm.Cond.code ({ cls := "com/example/binary64/binary64/Utf8", name := "sequenceLength", desc := "([BII)I" } : Jvm.MethodName) prog_50_method_2_code (7 : Nat) (Option.some Jvm.ClassFile.FieldType.int)).before args0 about1 = true := code_word (m := ⟨2, 1⟩) (meth := k2m1) (c := k2c1) (by decide +kernel) rfl rfl rfl (by decide +kernel)
set_option maxRecDepth 65536 in
theorem w_c2 : (Jvm.Cond.code ({ cls := "com/example/binary64/binary64/Utf8SequenceLengthPinLaw", name := "expected", desc := "(IIIII)I" } : Jvm.MethodName) method_4_code (8 : Nat) (Option.some Jvm.ClassFile.FieldType.int)).before args0 about1 = true := code_word (m := ⟨1, 3⟩) (meth := k1m3) (c := k1c3) (by decide +kernel) rfl rfl rfl (by decide +kernel)
set_option maxRecDepth 65536 in
theorem w_c3 : (Jvm.Cond.code ({ cls := "com/example/binary64/binary64/Utf8SequenceLengthPinLaw", name := "cont", desc := "(I)Z" } : Jvm.MethodName) method_3_code (1 : Nat) (Option.some Jvm.ClassFile.FieldType.boolean)).before args0 about1 = true := code_word (m := ⟨1, 2⟩) (meth := k1m2) (c := k1c2) (by decide +kernel) rfl rfl rfl (by decide +kernel)
def codes1 : List Jvm.Cond := [Jvm.Cond.code x code maxLocals ret, Jvm.Cond.code ({ cls := "com/example/binary64/binary64/Utf8", name := "sequenceLength", desc := "([BII)I" } : Jvm.MethodName) prog_50_method_2_code (7 : Nat) (Option.some Jvm.ClassFile.FieldType.int), Jvm.Cond.code ({ cls := "com/example/binary64/binary64/Utf8SequenceLengthPinLaw", name := "expected", desc := "(IIIII)I" } : Jvm.MethodName) method_4_code (8 : Nat) (Option.some Jvm.ClassFile.FieldType.int), Jvm.Cond.code ({ cls := "com/example/binary64/binary64/Utf8SequenceLengthPinLaw", name := "cont", desc := "(I)Z" } : Jvm.MethodName) method_3_code (1 : Nat) (Option.some Jvm.ClassFile.FieldType.boolean)]
set_option maxRecDepth 65536 in
theorem codes_eq : words1.filter isCode = codes1 := rfl
theorem w_codes : ∀ c ∈ words1.filter isCode, c.before args0 about1 = true := by
  rw [codes_eq]
  intro c hc
  simp only [codes1, List.mem_cons, List.not_mem_nil, or_false] at hc
  rcases hc with rfl | rfl | rfl | rfl
  · exact w_c0
  · exact w_c1
  · exact w_c2
  · exact w_c3
set_option maxRecDepth 65536 in
theorem w_t1 : words1.all (fun c => isCode c || c.before args0 about1) = true := by decide +kernel
theorem w_tables : (allAtoms (Jvm.Cond.code x code maxLocals ret :: tables_1)).before args0 about1 = true := by
  rw [allAtoms_all]
  show words1.all (fun c => c.before args0 about1) = true
  refine all_split ?_ w_codes
  rw [w_t1]
set_option maxRecDepth 65536 in
theorem w_case : (Jvm.Cond.and given_1 narrow_1).before args0 about1 = true := by decide +kernel
theorem w_applies : (headSpec (Jvm.Cond.code x code maxLocals ret :: tables_1) room_1).applies x e0.platform about1 = true :=
  (Spec.applies_iff w_frames).mpr ⟨w_running, w_runnable, w_alone, w_named, w_hears, w_ripe, w_room, w_tables⟩
theorem atStart : AtStart classFile x code maxLocals ret World_1 tables_1 room_1 Calls_1 rest_1 Pre_1 launch0 p0 e0 about1 theMethod args0 below0 :=
  ⟨lists_1, trivial, launch0.admits_env _ _ _, launch0.least_env, fairChoices_fair.cas, fairChoices_fair.clock, w_frames, w_args, w_heap, w_applies, trivial, trivial, w_case⟩
end start1
theorem witness_1 : WitnessClaimed_1 := ⟨start1.p0, start1.e0, start1.about1, start1.theMethod, start1.args0, start1.below0, start1.atStart⟩
end Jvm.Pilot.@@N@@
