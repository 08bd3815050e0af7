import JvmDerived
import JvmDerived.Pilot.@@N@@Statement
import JvmDerived.Pilot.@@N@@Code
set_option linter.unusedVariables false
set_option linter.unusedSimpArgs false
namespace Jvm.Pilot.@@N@@
open Jvm Jvm.ClassFile Sem Op Lib Jvm.Free Jvm.Stand Jvm.LawKit Jvm.RoadKit Bundle Jvm.Pilot.@@N@@.Jvm.D
/-! 1. the words of the mirrors: a named value, a check, a call -/
def own_lt {α β : Type} (x : α) (f : α → Option β) : Option β := f x
def own_ck {β : Type} (P : Prop) [Decidable P] (x : Option β) : Option β := if P then x else none
def own_bd {α β : Type} (x : Option α) (f : α → Option β) : Option β := x.bind f
theorem own_lt_e {α β : Type} {x : α} {f : α → Option β} {r : β} (h : own_lt x f = some r) : ∃ v, v = x ∧ f v = some r := ⟨x, rfl, h⟩
theorem own_ck_e {β : Type} {P : Prop} [Decidable P] {x : Option β} {r : β} (h : own_ck P x = some r) : P ∧ x = some r := by
  unfold own_ck at h
  by_cases q : P
  · rw [if_pos q] at h; exact ⟨q, h⟩
  · rw [if_neg q] at h; cases h
theorem own_bd_e {α β : Type} {x : Option α} {f : α → Option β} {r : β} (h : own_bd x f = some r) : ∃ v, x = some v ∧ f v = some r := by
  unfold own_bd at h
  cases x with
  | none => cases h
  | some v => exact ⟨v, rfl, h⟩
abbrev own_inb {α : Type} (bs : List α) (j : Int32) : Prop := ¬ j < 0 ∧ j.toNatClampNeg < bs.length
def own_rd {α : Type} [OfNat α 0] (bs : List α) (j : Int32) : α := bs.getD j.toNatClampNeg 0
def own_wr {α : Type} (bs : List α) (j : Int32) (v : α) : List α := bs.set j.toNatClampNeg v
def own_sz {α : Type} (bs : List α) : Int32 := bs.length.toInt32
/-! 2. a run that comes to an end as Q says -/
def own_Goes (p : Program) (e : Env) (below : List Frame) (s : State) (Q : Option Value → Heap → List Loc → Prop) (ce sl : Nat) (A : State) : Prop :=
  ∃ s₂ o, Steps p.tables e below A s₂ ∧ s₂.status = .running ∧ Ended s₂ below o ∧ ∃ v L, o = .returned v ∧ Q v s₂.heap L ∧ FrameEnd s o s₂ L ce sl
section Own
variable {p : Program} {l : Launch} {e : Env} {R : Room} {s : State} {m : MethodId} {args : Array Value} {below : List Frame} {meth : Method} {c : Code} {T : State} {locs : List Loc} {cells slots : Nat} {Z : State} {h h' : Heap} {Q : Option Value → Heap → List Loc → Prop} {ce sl : Nat}
theorem own_Goes.via {A B : State} (q : ∀ t, Steps p.tables e below B t → Steps p.tables e below A t) (g : own_Goes p e below s Q ce sl B) : own_Goes p e below s Q ce sl A := by
  obtain ⟨s₂, o, h1, r⟩ := g
  exact ⟨s₂, o, q _ h1, r⟩
theorem own_Goes.tr {A B : State} (q : Steps p.tables e below A B) (g : own_Goes p e below s Q ce sl B) : own_Goes p e below s Q ce sl A := g.via fun _ k => q.trans k
theorem own_retV (X : Stand p l e R s m args below meth c T locs cells slots) (hx : p.tables.exec = Jvm.exec) {pc : Nat} {Ls : Array Slot} (hret : meth.sig.returnType = none) (hlk : meth.locks = false) (hd : decode c.code pc = .ok (.return_, 1)) (eT : T.heap = h) (hQ : Q none h locs) (hc : cells ≤ ce) (hs : slots ≤ sl) :
    own_Goes p e below s Q ce sl (T.setTop (mkF m pc Ls [])) := by
  obtain ⟨fs, hr, hrun, hended, hW, hsame⟩ := X.leave (v := none) (fun _ => rfl) hlk
  refine ⟨_, _, ?_, hrun, hended, _, _, rfl, ?_, ⟨_, rfl⟩, hW, hsame.mono hc hs⟩
  · exact X.returnOut hx hret hd hr
  · show Q none T.heap locs
    rw [eT]; exact hQ
theorem own_retI (X : Stand p l e R s m args below meth c T locs cells slots) (hx : p.tables.exec = Jvm.exec) {pc : Nat} {Ls : Array Slot} {z : Int32} {rest : List Value} (hret : meth.sig.returnType = some .int) (hlk : meth.locks = false) (hd : decode c.code pc = .ok (.ireturn, 1)) (eT : T.heap = h) (hQ : Q (some (.int z)) h locs) (hc : cells ≤ ce) (hs : slots ≤ sl) :
    own_Goes p e below s Q ce sl (T.setTop (mkF m pc Ls (.int z :: rest))) := by
  obtain ⟨fs, hr, hrun, hended, hW, hsame⟩ := X.leave (v := some (.int z)) (fun h => by rw [hret] at h; cases h) hlk
  refine ⟨_, _, ?_, hrun, hended, _, _, rfl, ?_, ⟨_, rfl⟩, hW, hsame.mono hc hs⟩
  · exact retOut X hx hret rfl (Or.inl ⟨rfl, Or.inl rfl, z, rfl⟩) hd hr
  · show Q _ T.heap locs
    rw [eT]; exact hQ
theorem own_retJ (X : Stand p l e R s m args below meth c T locs cells slots) (hx : p.tables.exec = Jvm.exec) {pc : Nat} {Ls : Array Slot} {z : Int64} {rest : List Value} (hret : meth.sig.returnType = some .long) (hlk : meth.locks = false) (hd : decode c.code pc = .ok (.lreturn, 1)) (eT : T.heap = h) (hQ : Q (some (.long z)) h locs) (hc : cells ≤ ce) (hs : slots ≤ sl) :
    own_Goes p e below s Q ce sl (T.setTop (mkF m pc Ls (.long z :: rest))) := by
  obtain ⟨fs, hr, hrun, hended, hW, hsame⟩ := X.leave (v := some (.long z)) (fun h => by rw [hret] at h; cases h) hlk
  refine ⟨_, _, ?_, hrun, hended, _, _, rfl, ?_, ⟨_, rfl⟩, hW, hsame.mono hc hs⟩
  · exact retOut X hx hret rfl (Or.inr (Or.inl ⟨rfl, rfl, z, rfl⟩)) hd hr
  · show Q _ T.heap locs
    rw [eT]; exact hQ
theorem own_retR (X : Stand p l e R s m args below meth c T locs cells slots) (hx : p.tables.exec = Jvm.exec) {pc : Nat} {Ls : Array Slot} {t : FieldType} {w : Value} {rest : List Value} (hret : meth.sig.returnType = some t) (hlk : meth.locks = false) (hd : decode c.code pc = .ok (.areturn, 1)) (ht : t.isReference = true) (eT : T.heap = h) (hw : w.isRef = true) (hQ : Q (some w) h locs) (hc : cells ≤ ce) (hs : slots ≤ sl) :
    own_Goes p e below s Q ce sl (T.setTop (mkF m pc Ls (w :: rest))) := by
  obtain ⟨fs, hr, hrun, hended, hW, hsame⟩ := X.leave (v := some w) (fun h => by rw [hret] at h; cases h) hlk
  refine ⟨_, _, ?_, hrun, hended, _, _, rfl, ?_, ⟨_, rfl⟩, hW, hsame.mono hc hs⟩
  · exact retOut X hx hret (by cases t <;> first | (cases ht; done) | rfl) (Or.inr (Or.inr (Or.inr (Or.inr ⟨rfl, ht, hw⟩)))) hd hr
  · show Q _ T.heap locs
    rw [eT]; exact hQ
theorem own_retN (X : Stand p l e R s m args below meth c T locs cells slots) (hx : p.tables.exec = Jvm.exec) {pc : Nat} {Ls : Array Slot} {z v : Int32} {t : FieldType} {rest : List Value} (hret : meth.sig.returnType = some t) (hlk : meth.locks = false) (ht : t = .boolean ∨ t = .byte ∨ t = .char ∨ t = .short) (hd : decode c.code pc = .ok (.ireturn, 1)) (eT : T.heap = h) (hv : nar t z = v) (hQ : Q (some (.int v)) h locs) (hc : cells ≤ ce) (hs : slots ≤ sl) :
    own_Goes p e below s Q ce sl (T.setTop (mkF m pc Ls (.int z :: rest))) := by
  subst hv
  obtain ⟨fs, hr, hrun, hended, hW, hsame⟩ := X.leave (v := some (.int (nar t z))) (fun h => by rw [hret] at h; cases h) hlk
  refine ⟨_, _, ?_, hrun, hended, _, _, rfl, ?_, ⟨_, rfl⟩, hW, hsame.mono hc hs⟩
  · exact retN X hx hret ht hd hr
  · show Q _ T.heap locs
    rw [eT]; exact hQ
/-! 3. single steps -/
theorem own_irem {g : JFrame} {target : State} (X : Stand p l e R s m args below meth c T locs cells slots) (hx : p.tables.exec = Jvm.exec) (hg : g.method = m) {x y : Int32} {rest : List Value} (hd : decode c.code g.pc = .ok (.irem, 1)) (hs : g.stack = .int y :: .int x :: rest) (hy : y ≠ 0)
    (hr : Steps p.tables e below (T.setTop { g with pc := g.pc + 1, stack := .int (x % y) :: rest }) target) : Steps p.tables e below (T.setTop g) target := iremM X hx hg hd hs hy hr
theorem own_lrem {g : JFrame} {target : State} (X : Stand p l e R s m args below meth c T locs cells slots) (hx : p.tables.exec = Jvm.exec) (hg : g.method = m) {x y : Int64} {rest : List Value} (hd : decode c.code g.pc = .ok (.lrem, 1)) (hs : g.stack = .long y :: .long x :: rest) (hy : y ≠ 0)
    (hr : Steps p.tables e below (T.setTop { g with pc := g.pc + 1, stack := .long (x % y) :: rest }) target) : Steps p.tables e below (T.setTop g) target :=
  XS.lrem X.here hx hg hd hs hy (by rw [lrem_mod]; exact hr)
theorem own_tltL {x y : Int64} (q : x < y) : ifCond.holds .lt (lcmpW x y) = true ∧ ifCond.holds .ge (lcmpW x y) = false := by
  rw [if0, if0]; exact ⟨(tlt ((lw_lt x y).mpr q)).1, (tlt ((lw_lt x y).mpr q)).2.1⟩
theorem own_fltL {x y : Int64} (q : ¬ x < y) : ifCond.holds .lt (lcmpW x y) = false ∧ ifCond.holds .ge (lcmpW x y) = true := by
  rw [if0, if0]; exact ⟨(flt fun z => q ((lw_lt x y).mp z)).1, (flt fun z => q ((lw_lt x y).mp z)).2.1⟩
theorem own_tgtL {x y : Int64} (q : y < x) : ifCond.holds .gt (lcmpW x y) = true ∧ ifCond.holds .le (lcmpW x y) = false := by
  rw [if0, if0]; exact ⟨(tlt ((lw_gt x y).mpr q)).2.2.1, (tlt ((lw_gt x y).mpr q)).2.2.2⟩
theorem own_fgtL {x y : Int64} (q : ¬ y < x) : ifCond.holds .gt (lcmpW x y) = false ∧ ifCond.holds .le (lcmpW x y) = true := by
  rw [if0, if0]; exact ⟨(flt fun z => q ((lw_gt x y).mp z)).2.2.1, (flt fun z => q ((lw_gt x y).mp z)).2.2.2⟩
theorem own_teqL {x y : Int64} (q : x = y) : ifCond.holds .eq (lcmpW x y) = true ∧ ifCond.holds .ne (lcmpW x y) = false := by
  rw [if0, if0]; exact ⟨(teq ((lw_eq x y).mpr q)).1, (teq ((lw_eq x y).mpr q)).2⟩
theorem own_feqL {x y : Int64} (q : ¬ x = y) : ifCond.holds .eq (lcmpW x y) = false ∧ ifCond.holds .ne (lcmpW x y) = true := by
  rw [if0, if0]; exact ⟨(feq fun z => q ((lw_eq x y).mp z)).1, (feq fun z => q ((lw_eq x y).mp z)).2⟩
theorem own_st1 {L : Array Slot} {i : Nat} {v : Value} {o : Slot} {L' : Array Slot} (hold : L[i]? = some o) (ho : One o) (hv : v.category = 1) (hL : L.setIfInBounds i (.val v) = L' := by rfl) : storeLocals L i v = some L' := hL ▸ XS.store1 hold ho hv
theorem own_privSel {s : State} {args : Array Value} {y : MethodName} {n : Nat} (wi : (Cond.instantiable y.cls n).before args s = true) (hp : s.PrivateAt y) (hinst : (Cond.instanceMethod y).before args s = true) (hy : y.cls ≠ "java/lang/invoke/MethodHandle" ∧ y.cls ≠ "java/lang/invoke/VarHandle") : (Cond.selects y.cls y y).before args s = true := by
  obtain ⟨c, k, h1, h2, -, h3, -⟩ := Cond.instantiable_spec wi
  exact selects_self_of_private h1 h2 (Bool.or_eq_false_iff.mp h3).1 hp hinst hy
theorem own_st2 {L L' : Array Slot} {i : Nat} {x : Int64} {o1 o2 : Slot} (h1 : L[i]? = some o1) (h2 : L[i + 1]? = some o2) (q1 : One o1) (q2 : One o2) (hL : (L.setIfInBounds i (.val (.long x))).setIfInBounds (i + 1) .second = L' := by rfl) : storeLocals L i (.long x) = some L' := by
  subst hL
  obtain ⟨b1, g1⟩ := Array.getElem?_eq_some_iff.mp h1
  obtain ⟨b2, g2⟩ := Array.getElem?_eq_some_iff.mp h2
  have hc : (Value.long x).category = 2 := rfl
  rcases q1 with rfl | ⟨w, rfl, hw⟩ <;> rcases q2 with rfl | ⟨w', rfl, hw'⟩ <;> simp [storeLocals, storeSelf, setAt, hc, *]
/-! 4. arrays: what lies in them, as a list -/
def own_Ar (Z : State) (h : Heap) (a : Addr) (ty : FieldType) (vs : List Value) : Prop := ∃ c : Cell, Arr Z h a c ty ∧ c.slots.toList = vs ∧ vs.length < 2 ^ 31 ∧ ∀ v ∈ vs, fits ty v = true
variable {a b : Addr} {ty : FieldType} {vs : List Value}
theorem own_Ar.lt (F : own_Ar Z h a ty vs) : a < h.size := by obtain ⟨c, A, -⟩ := F; exact A.lt
theorem own_Ar.ext (F : own_Ar Z h a ty vs) (E : Ext h h') : own_Ar Z h' a ty vs := by obtain ⟨c, A, r⟩ := F; exact ⟨c, A.ext E, r⟩
theorem own_Ar.other {k : Nat} {v : Value} (F : own_Ar Z h b ty vs) (W : Wr h h' a k v) (q : b ≠ a) : own_Ar Z h' b ty vs := by obtain ⟨c, A, r⟩ := F; exact ⟨c, A.other W q, r⟩
theorem own_Ar.keep {ws : List Addr} (F : own_Ar Z h a ty vs) (K : Keep h h' ws) (q : a ∉ ws) : own_Ar Z h' a ty vs := by obtain ⟨c, A, r⟩ := F; exact ⟨c, ⟨K.2.1 a c A.1 q, A.2⟩, r⟩
theorem own_Ar.size {c : Cell} (q : c.slots.toList = vs) : c.slots.size = vs.length := by rw [← q]; simp
theorem own_in {c : Cell} {j : Int32} (q : c.slots.toList = vs) (hj : own_inb vs j) : ¬ (j < 0 ∨ c.slots.size ≤ j.toNatClampNeg) := by
  rw [own_Ar.size q]
  rintro (r | r)
  · exact hj.1 r
  · exact absurd hj.2 (Nat.not_lt.mpr r)
theorem own_get {c : Cell} {i : Nat} (q : c.slots.toList = vs) (d : Value) (hi : i < vs.length) : c.slots[i]? = some (vs.getD i d) := by
  have e : c.slots = vs.toArray := by rw [← q]
  rw [e]
  simp [List.getD, hi]
theorem own_set {c : Cell} {i : Nat} {v : Value} (q : c.slots.toList = vs) : (c.setSlot i v).slots.toList = vs.set i v := by
  have e : c.slots = vs.toArray := by rw [← q]
  simp [Cell.setSlot, e]
theorem own_fits {i : Nat} {v : Value} (q : ∀ v ∈ vs, fits ty v = true) (hv : fits ty v = true) : ∀ u ∈ vs.set i v, fits ty u = true := fun u hu => by
  rcases List.mem_or_eq_of_mem_set hu with r | r
  · exact q u r
  · rw [r]; exact hv
theorem own_mapGet {bs : List Int32} {i : Nat} (hi : i < bs.length) : (bs.map Value.int).getD i (.int 0) = .int (bs.getD i 0) := by simp [List.getD, hi]
theorem own_mapGetJ {bs : List Int64} {i : Nat} (hi : i < bs.length) : (bs.map Value.long).getD i (.long 0) = .long (bs.getD i 0) := by simp [List.getD, hi]
theorem own_mapSet {bs : List Int32} {i : Nat} {v : Int32} : (bs.map Value.int).set i (.int v) = (bs.set i v).map Value.int := by simp
theorem own_mapSetJ {bs : List Int64} {i : Nat} {v : Int64} : (bs.map Value.long).set i (.long v) = (bs.set i v).map Value.long := by simp
theorem own_inbM {α : Type} {f : α → Value} {bs : List α} {j : Int32} (q : own_inb bs j) : own_inb (bs.map f) j := ⟨q.1, by rw [List.length_map]; exact q.2⟩
theorem own_wrk {α : Type} {bs : List α} {j : Int32} {v : α} (k : Nat) (hk : j.toNatClampNeg = k) : own_wr bs j v = bs.set k v := by rw [own_wr, hk]
theorem own_rdk {α : Type} [OfNat α 0] {bs : List α} {j : Int32} (k : Nat) (hk : j.toNatClampNeg = k) : own_rd bs j = bs.getD k 0 := by rw [own_rd, hk]
theorem own_inbk {α : Type} {bs : List α} {j : Int32} (k n : Nat) (h0 : ¬ j < 0) (hk : j.toNatClampNeg = k) (hl : bs.length = n) (hkn : k < n) : own_inb bs j := ⟨h0, by rw [hk, hl]; exact hkn⟩
theorem own_len {α : Type} {f : α → Value} {bs : List α} (X : Stand p l e R s m args below meth c T locs cells slots) (hx : p.tables.exec = Jvm.exec) (hZ : Z.Warmed39 s.vm) (eT : T.heap = h) (A : own_Ar Z h a ty (bs.map f)) {g : JFrame} (hg : g.method = m) {rest : List Value} (hs : g.stack = .ref a :: rest) (hd : decode c.code g.pc = .ok (.arraylength, 1)) {target : State}
    (hr : Steps p.tables e below (T.setTop { g with pc := g.pc + 1, stack := .int (own_sz bs) :: rest }) target) : Steps p.tables e below (T.setTop g) target := by
  obtain ⟨cl, A, q, -⟩ := A
  refine X.arraylength hx (by rw [eT]; exact A.1) (State.isArrayOf_alike hZ.alike A.2.1) hg hs hd _ ?_
  rw [own_Ar.size q, List.length_map]; exact hr
theorem own_ldI {bs : List Int32} {j v : Int32} (X : Stand p l e R s m args below meth c T locs cells slots) (hx : p.tables.exec = Jvm.exec) (hZ : Z.Warmed39 s.vm) (eT : T.heap = h) (A : own_Ar Z h a .int (bs.map Value.int)) (hj : own_inb bs j) (hv : own_rd bs j = v) {g : JFrame} (hg : g.method = m) {rest : List Value} (hs : g.stack = .int j :: .ref a :: rest) (hd : decode c.code g.pc = .ok (.iaload, 1)) {target : State}
    (hr : Steps p.tables e below (T.setTop { g with pc := g.pc + 1, stack := .int v :: rest }) target) : Steps p.tables e below (T.setTop g) target := by
  subst hv
  obtain ⟨cl, A, q, -⟩ := A
  exact X.iaload hx (by rw [eT]; exact A.1) (State.isArrayOf_alike hZ.alike A.2.1) A.2.2 (own_in q (own_inbM hj)) ((own_get q (.int 0) (own_inbM hj).2).trans (congrArg some (own_mapGet hj.2))) hg hs hd _ hr
theorem own_ldB {bs : List Int32} {j v : Int32} (X : Stand p l e R s m args below meth c T locs cells slots) (hx : p.tables.exec = Jvm.exec) (hZ : Z.Warmed39 s.vm) (eT : T.heap = h) (A : own_Ar Z h a .byte (bs.map Value.int)) (hj : own_inb bs j) (hv : own_rd bs j = v) {g : JFrame} (hg : g.method = m) {rest : List Value} (hs : g.stack = .int j :: .ref a :: rest) (hd : decode c.code g.pc = .ok (.baload, 1)) {target : State}
    (hr : Steps p.tables e below (T.setTop { g with pc := g.pc + 1, stack := .int v :: rest }) target) : Steps p.tables e below (T.setTop g) target := by
  subst hv
  obtain ⟨cl, A, q, -⟩ := A
  exact X.baloadBytes hx (by rw [eT]; exact A.1) (State.isArrayOf_alike hZ.alike A.2.1) A.2.2 (own_in q (own_inbM hj)) ((own_get q (.int 0) (own_inbM hj).2).trans (congrArg some (own_mapGet hj.2))) hg hs hd _ hr
theorem own_ldZ {bs : List Int32} {j v : Int32} (X : Stand p l e R s m args below meth c T locs cells slots) (hx : p.tables.exec = Jvm.exec) (hZ : Z.Warmed39 s.vm) (eT : T.heap = h) (A : own_Ar Z h a .boolean (bs.map Value.int)) (hj : own_inb bs j) (hv : own_rd bs j = v) {g : JFrame} (hg : g.method = m) {rest : List Value} (hs : g.stack = .int j :: .ref a :: rest) (hd : decode c.code g.pc = .ok (.baload, 1)) {target : State}
    (hr : Steps p.tables e below (T.setTop { g with pc := g.pc + 1, stack := .int v :: rest }) target) : Steps p.tables e below (T.setTop g) target := by
  subst hv
  obtain ⟨cl, A, q, -⟩ := A
  exact X.baloadBooleans hx (by rw [eT]; exact A.1) (State.isArrayOf_alike hZ.alike A.2.1) A.2.2 (own_in q (own_inbM hj)) ((own_get q (.int 0) (own_inbM hj).2).trans (congrArg some (own_mapGet hj.2))) hg hs hd _ hr
theorem own_ldJ {bs : List Int64} {j : Int32} {v : Int64} (X : Stand p l e R s m args below meth c T locs cells slots) (hx : p.tables.exec = Jvm.exec) (hZ : Z.Warmed39 s.vm) (eT : T.heap = h) (A : own_Ar Z h a .long (bs.map Value.long)) (hj : own_inb bs j) (hv : own_rd bs j = v) {g : JFrame} (hg : g.method = m) {rest : List Value} (hs : g.stack = .int j :: .ref a :: rest) (hd : decode c.code g.pc = .ok (.laload, 1)) {target : State}
    (hr : Steps p.tables e below (T.setTop { g with pc := g.pc + 1, stack := .long v :: rest }) target) : Steps p.tables e below (T.setTop g) target := by
  subst hv
  obtain ⟨cl, A, q, -⟩ := A
  exact X.laload hx (by rw [eT]; exact A.1) (State.isArrayOf_alike hZ.alike A.2.1) A.2.2 (own_in q (own_inbM hj)) ((own_get q (.long 0) (own_inbM hj).2).trans (congrArg some (own_mapGetJ hj.2))) hg hs hd _ hr
theorem own_stI {bs : List Int32} {j x : Int32} (X : Stand p l e R s m args below meth c T locs cells slots) (hx : p.tables.exec = Jvm.exec) (hZ : Z.Warmed39 s.vm) (eT : T.heap = h) (A : own_Ar Z h a .int (bs.map Value.int)) (hj : own_inb bs j) {g : JFrame} (hg : g.method = m) {rest : List Value} (hs : g.stack = .int x :: .int j :: .ref a :: rest) (hd : decode c.code g.pc = .ok (.iastore, 1)) :
    ∃ T' h', Stand p l e R s m args below meth c T' (locs ++ [⟨a, j.toNatClampNeg⟩]) cells slots ∧ T'.heap = h' ∧ Wr h h' a j.toNatClampNeg (.int x) ∧ own_Ar Z h' a .int ((own_wr bs j x).map Value.int) ∧ ∀ target, Steps p.tables e below (T'.setTop { g with pc := g.pc + 1, stack := rest }) target → Steps p.tables e below (T.setTop g) target := by
  obtain ⟨cl, A, q, r, ft⟩ := A
  obtain ⟨T', h', X', e', W, st⟩ := stI X hx hZ eT A (own_in q (own_inbM hj)) hg hs hd
  exact ⟨T', h', X', e', W, ⟨_, A.same W, (own_set q).trans own_mapSet, by simpa [own_wr] using r, own_mapSet ▸ own_fits ft rfl⟩, st⟩
theorem own_stB {bs : List Int32} {j x : Int32} (X : Stand p l e R s m args below meth c T locs cells slots) (hx : p.tables.exec = Jvm.exec) (hZ : Z.Warmed39 s.vm) (eT : T.heap = h) (A : own_Ar Z h a .byte (bs.map Value.int)) (hj : own_inb bs j) {g : JFrame} (hg : g.method = m) {rest : List Value} (hs : g.stack = .int x :: .int j :: .ref a :: rest) (hd : decode c.code g.pc = .ok (.bastore, 1)) :
    ∃ T' h', Stand p l e R s m args below meth c T' (locs ++ [⟨a, j.toNatClampNeg⟩]) cells slots ∧ T'.heap = h' ∧ Wr h h' a j.toNatClampNeg (.int x.toInt8.toInt32) ∧ own_Ar Z h' a .byte ((own_wr bs j x.toInt8.toInt32).map Value.int) ∧ ∀ target, Steps p.tables e below (T'.setTop { g with pc := g.pc + 1, stack := rest }) target → Steps p.tables e below (T.setTop g) target := by
  obtain ⟨cl, A, q, r, ft⟩ := A
  obtain ⟨T', h', X', e', W, st⟩ := stB X hx hZ eT A (own_in q (own_inbM hj)) hg hs hd
  exact ⟨T', h', X', e', W, ⟨_, A.same W, (own_set q).trans own_mapSet, by simpa [own_wr] using r, own_mapSet ▸ own_fits ft (fits_nar_byte _)⟩, st⟩
theorem own_stZ {bs : List Int32} {j x : Int32} (X : Stand p l e R s m args below meth c T locs cells slots) (hx : p.tables.exec = Jvm.exec) (hZ : Z.Warmed39 s.vm) (eT : T.heap = h) (A : own_Ar Z h a .boolean (bs.map Value.int)) (hj : own_inb bs j) {g : JFrame} (hg : g.method = m) {rest : List Value} (hs : g.stack = .int x :: .int j :: .ref a :: rest) (hd : decode c.code g.pc = .ok (.bastore, 1)) :
    ∃ T' h', Stand p l e R s m args below meth c T' (locs ++ [⟨a, j.toNatClampNeg⟩]) cells slots ∧ T'.heap = h' ∧ Wr h h' a j.toNatClampNeg (.int (x &&& 1)) ∧ own_Ar Z h' a .boolean ((own_wr bs j (x &&& 1)).map Value.int) ∧ ∀ target, Steps p.tables e below (T'.setTop { g with pc := g.pc + 1, stack := rest }) target → Steps p.tables e below (T.setTop g) target := by
  obtain ⟨cl, A, q, r, ft⟩ := A
  obtain ⟨T', h', X', e', W, st⟩ := stZ X hx hZ eT A (own_in q (own_inbM hj)) hg hs hd
  exact ⟨T', h', X', e', W, ⟨_, A.same W, (own_set q).trans own_mapSet, by simpa [own_wr] using r, own_mapSet ▸ own_fits ft (fits_nar_bool _)⟩, st⟩
theorem own_stJ {bs : List Int64} {j : Int32} {x : Int64} (X : Stand p l e R s m args below meth c T locs cells slots) (hx : p.tables.exec = Jvm.exec) (hZ : Z.Warmed39 s.vm) (eT : T.heap = h) (A : own_Ar Z h a .long (bs.map Value.long)) (hj : own_inb bs j) {g : JFrame} (hg : g.method = m) {rest : List Value} (hs : g.stack = .long x :: .int j :: .ref a :: rest) (hd : decode c.code g.pc = .ok (.lastore, 1)) :
    ∃ T' h', Stand p l e R s m args below meth c T' (locs ++ [⟨a, j.toNatClampNeg⟩]) cells slots ∧ T'.heap = h' ∧ Wr h h' a j.toNatClampNeg (.long x) ∧ own_Ar Z h' a .long ((own_wr bs j x).map Value.long) ∧ ∀ target, Steps p.tables e below (T'.setTop { g with pc := g.pc + 1, stack := rest }) target → Steps p.tables e below (T.setTop g) target := by
  obtain ⟨cl, A, q, r, ft⟩ := A
  obtain ⟨T', h', X', e', W, st⟩ := stJ X hx hZ eT A (own_in q (own_inbM hj)) hg hs hd
  exact ⟨T', h', X', e', W, ⟨_, A.same W, (own_set q).trans own_mapSetJ, by simpa [own_wr] using r, own_mapSetJ ▸ own_fits ft rfl⟩, st⟩
theorem own_newI {k : ClassId} {n : Int32} {kk : Nat} (A : Arr Z h a (newA k ty n) ty) (q : ¬ n < 0) (hd : defaultValue ty = .int 0) (hk : n.toNatClampNeg = kk) : own_Ar Z h a ty ((List.replicate kk (0 : Int32)).map Value.int) := hk ▸
  ⟨_, A, by simp [newA, hd], by rw [List.length_map, List.length_replicate]; exact (back32 q).2, fun v hv => by
    rw [List.map_replicate] at hv
    rw [(List.mem_replicate.mp hv).2, ← hd]; cases ty <;> rfl⟩
theorem own_newJ {k : ClassId} {n : Int32} {kk : Nat} (A : Arr Z h a (newA k ty n) ty) (q : ¬ n < 0) (hd : defaultValue ty = .long 0) (hk : n.toNatClampNeg = kk) : own_Ar Z h a ty ((List.replicate kk (0 : Int64)).map Value.long) := hk ▸
  ⟨_, A, by simp [newA, hd], by rw [List.length_map, List.length_replicate]; exact (back32 q).2, fun v hv => by
    rw [List.map_replicate] at hv
    rw [(List.mem_replicate.mp hv).2, ← hd]; cases ty <;> rfl⟩
end Own
theorem w0 {a0 : Array Value} {Z : State} (hw : ∀ d ∈ tables_1, d.before a0 Z = true) : ((Jvm.Cond.arrayClass Jvm.ClassFile.FieldType.byte)).before a0 Z = true := hw _ (List.mem_of_getElem? (i := 0) rfl)
theorem w1 {a0 : Array Value} {Z : State} (hw : ∀ d ∈ tables_1, d.before a0 Z = true) : ((Jvm.Cond.constant "com/example/binary64/binary64/Utf8CommonCodePointPinLaw" (7 : Nat) (2147483647 : Int32))).before a0 Z = true := hw _ (List.mem_of_getElem? (i := 1) rfl)
theorem w2 {a0 : Array Value} {Z : State} (hw : ∀ d ∈ tables_1, d.before a0 Z = true) : ((Jvm.Cond.methodLink "com/example/binary64/binary64/Utf8CommonCodePointPinLaw" (14 : Nat) ({ cls := "com/example/binary64/binary64/Utf8", name := "commonCodePoint", desc := "([BII)I" } : Jvm.MethodName))).before a0 Z = true := hw _ (List.mem_of_getElem? (i := 2) rfl)
theorem w3 {a0 : Array Value} {Z : State} (hw : ∀ d ∈ tables_1, d.before a0 Z = true) : ((Jvm.Cond.static ({ cls := "com/example/binary64/binary64/Utf8", name := "commonCodePoint", desc := "([BII)I" } : Jvm.MethodName))).before a0 Z = true := hw _ (List.mem_of_getElem? (i := 3) rfl)
theorem w4 {a0 : Array Value} {Z : State} (hw : ∀ d ∈ tables_1, d.before a0 Z = true) : ((Jvm.Cond.initialized "com/example/binary64/binary64/Utf8")).before a0 Z = true := hw _ (List.mem_of_getElem? (i := 4) rfl)
theorem w5 {a0 : Array Value} {Z : State} (hw : ∀ d ∈ tables_1, d.before a0 Z = true) : ((Jvm.Cond.code ({ cls := "com/example/binary64/binary64/Utf8", name := "commonCodePoint", desc := "([BII)I" } : Jvm.MethodName) prog_50_method_4_code (9 : Nat) (Option.some Jvm.ClassFile.FieldType.int))).before a0 Z = true := hw _ (List.mem_of_getElem? (i := 5) rfl)
theorem w6 {a0 : Array Value} {Z : State} (hw : ∀ d ∈ tables_1, d.before a0 Z = true) : ((Jvm.Cond.methodLink "com/example/binary64/binary64/Utf8CommonCodePointPinLaw" (8 : Nat) ({ cls := "com/example/binary64/binary64/Utf8CommonCodePointPinLaw", name := "isContinuation", desc := "(I)Z" } : Jvm.MethodName))).before a0 Z = true := hw _ (List.mem_of_getElem? (i := 6) rfl)
theorem w7 {a0 : Array Value} {Z : State} (hw : ∀ d ∈ tables_1, d.before a0 Z = true) : ((Jvm.Cond.static ({ cls := "com/example/binary64/binary64/Utf8CommonCodePointPinLaw", name := "isContinuation", desc := "(I)Z" } : Jvm.MethodName))).before a0 Z = true := hw _ (List.mem_of_getElem? (i := 7) rfl)
theorem w8 {a0 : Array Value} {Z : State} (hw : ∀ d ∈ tables_1, d.before a0 Z = true) : ((Jvm.Cond.initialized "com/example/binary64/binary64/Utf8CommonCodePointPinLaw")).before a0 Z = true := hw _ (List.mem_of_getElem? (i := 8) rfl)
theorem w9 {a0 : Array Value} {Z : State} (hw : ∀ d ∈ tables_1, d.before a0 Z = true) : ((Jvm.Cond.code ({ cls := "com/example/binary64/binary64/Utf8CommonCodePointPinLaw", name := "isContinuation", desc := "(I)Z" } : Jvm.MethodName) method_2_code (1 : Nat) (Option.some Jvm.ClassFile.FieldType.boolean))).before a0 Z = true := hw _ (List.mem_of_getElem? (i := 9) rfl)
theorem w10 {a0 : Array Value} {Z : State} (hw : ∀ d ∈ tables_1, d.before a0 Z = true) : ((Jvm.Cond.constant "com/example/binary64/binary64/Utf8" (9 : Nat) (32896 : Int32))).before a0 Z = true := hw _ (List.mem_of_getElem? (i := 10) rfl)
theorem w11 {a0 : Array Value} {Z : State} (hw : ∀ d ∈ tables_1, d.before a0 Z = true) : ((Jvm.Cond.constant "com/example/binary64/binary64/Utf8" (12 : Nat) (55296 : Int32))).before a0 Z = true := hw _ (List.mem_of_getElem? (i := 11) rfl)
theorem pn_com_example_binary64_binary64_Utf8 : plainName "com/example/binary64/binary64/Utf8" = true := by first | (simp [plainName, overriddenIn]; done) | decide +kernel
theorem pn_com_example_binary64_binary64_Utf8CommonCodePointPinLaw : plainName "com/example/binary64/binary64/Utf8CommonCodePointPinLaw" = true := by first | (simp [plainName, overriddenIn]; done) | decide +kernel
theorem pd_0 : parseMethodDescriptor "([BII)I" = some ⟨[(.array .byte), .int, .int], some .int⟩ := by decide +kernel
theorem pd_1 : parseMethodDescriptor "(I)Z" = some ⟨[.int], some .boolean⟩ := by decide +kernel
theorem dUtf8_commonCodePoint_0 : decode prog_50_method_4_code 0 = .ok (.aload_n 0, 1) := by decide +kernel
theorem dUtf8_commonCodePoint_1 : decode prog_50_method_4_code 1 = .ok (.iload_n 1, 1) := by decide +kernel
theorem dUtf8_commonCodePoint_2 : decode prog_50_method_4_code 2 = .ok (.baload, 1) := by decide +kernel
theorem dUtf8_commonCodePoint_3 : decode prog_50_method_4_code 3 = .ok (.sipush 255, 3) := by decide +kernel
theorem dUtf8_commonCodePoint_6 : decode prog_50_method_4_code 6 = .ok (.iand, 1) := by decide +kernel
theorem dUtf8_commonCodePoint_7 : decode prog_50_method_4_code 7 = .ok (.istore_n 3, 1) := by decide +kernel
theorem dUtf8_commonCodePoint_8 : decode prog_50_method_4_code 8 = .ok (.iconst (-1), 1) := by decide +kernel
theorem dUtf8_commonCodePoint_9 : decode prog_50_method_4_code 9 = .ok (.istore 4, 2) := by decide +kernel
theorem dUtf8_commonCodePoint_11 : decode prog_50_method_4_code 11 = .ok (.iload_n 3, 1) := by decide +kernel
theorem dUtf8_commonCodePoint_12 : decode prog_50_method_4_code 12 = .ok (.sipush 224, 3) := by decide +kernel
theorem dUtf8_commonCodePoint_15 : decode prog_50_method_4_code 15 = .ok (.if_icmp .lt 118, 3) := by decide +kernel
theorem dUtf8_commonCodePoint_18 : decode prog_50_method_4_code 18 = .ok (.iload_n 3, 1) := by decide +kernel
theorem dUtf8_commonCodePoint_19 : decode prog_50_method_4_code 19 = .ok (.sipush 240, 3) := by decide +kernel
theorem dUtf8_commonCodePoint_22 : decode prog_50_method_4_code 22 = .ok (.if_icmp .ge 163, 3) := by decide +kernel
theorem dUtf8_commonCodePoint_25 : decode prog_50_method_4_code 25 = .ok (.iload_n 1, 1) := by decide +kernel
theorem dUtf8_commonCodePoint_26 : decode prog_50_method_4_code 26 = .ok (.iconst 2, 1) := by decide +kernel
theorem dUtf8_commonCodePoint_27 : decode prog_50_method_4_code 27 = .ok (.iadd, 1) := by decide +kernel
theorem dUtf8_commonCodePoint_28 : decode prog_50_method_4_code 28 = .ok (.iload_n 2, 1) := by decide +kernel
theorem dUtf8_commonCodePoint_29 : decode prog_50_method_4_code 29 = .ok (.if_icmp .ge 156, 3) := by decide +kernel
theorem dUtf8_commonCodePoint_32 : decode prog_50_method_4_code 32 = .ok (.aload_n 0, 1) := by decide +kernel
theorem dUtf8_commonCodePoint_33 : decode prog_50_method_4_code 33 = .ok (.iload_n 1, 1) := by decide +kernel
theorem dUtf8_commonCodePoint_34 : decode prog_50_method_4_code 34 = .ok (.iconst 1, 1) := by decide +kernel
theorem dUtf8_commonCodePoint_35 : decode prog_50_method_4_code 35 = .ok (.iadd, 1) := by decide +kernel
theorem dUtf8_commonCodePoint_36 : decode prog_50_method_4_code 36 = .ok (.baload, 1) := by decide +kernel
theorem dUtf8_commonCodePoint_37 : decode prog_50_method_4_code 37 = .ok (.sipush 255, 3) := by decide +kernel
theorem dUtf8_commonCodePoint_40 : decode prog_50_method_4_code 40 = .ok (.iand, 1) := by decide +kernel
theorem dUtf8_commonCodePoint_41 : decode prog_50_method_4_code 41 = .ok (.istore 5, 2) := by decide +kernel
theorem dUtf8_commonCodePoint_43 : decode prog_50_method_4_code 43 = .ok (.aload_n 0, 1) := by decide +kernel
theorem dUtf8_commonCodePoint_44 : decode prog_50_method_4_code 44 = .ok (.iload_n 1, 1) := by decide +kernel
theorem dUtf8_commonCodePoint_45 : decode prog_50_method_4_code 45 = .ok (.iconst 2, 1) := by decide +kernel
theorem dUtf8_commonCodePoint_46 : decode prog_50_method_4_code 46 = .ok (.iadd, 1) := by decide +kernel
theorem dUtf8_commonCodePoint_47 : decode prog_50_method_4_code 47 = .ok (.baload, 1) := by decide +kernel
theorem dUtf8_commonCodePoint_48 : decode prog_50_method_4_code 48 = .ok (.sipush 255, 3) := by decide +kernel
theorem dUtf8_commonCodePoint_51 : decode prog_50_method_4_code 51 = .ok (.iand, 1) := by decide +kernel
theorem dUtf8_commonCodePoint_52 : decode prog_50_method_4_code 52 = .ok (.istore 6, 2) := by decide +kernel
theorem dUtf8_commonCodePoint_54 : decode prog_50_method_4_code 54 = .ok (.iload_n 3, 1) := by decide +kernel
theorem dUtf8_commonCodePoint_55 : decode prog_50_method_4_code 55 = .ok (.bipush 15, 2) := by decide +kernel
theorem dUtf8_commonCodePoint_57 : decode prog_50_method_4_code 57 = .ok (.iand, 1) := by decide +kernel
theorem dUtf8_commonCodePoint_58 : decode prog_50_method_4_code 58 = .ok (.bipush 12, 2) := by decide +kernel
theorem dUtf8_commonCodePoint_60 : decode prog_50_method_4_code 60 = .ok (.ishl, 1) := by decide +kernel
theorem dUtf8_commonCodePoint_61 : decode prog_50_method_4_code 61 = .ok (.iload 5, 2) := by decide +kernel
theorem dUtf8_commonCodePoint_63 : decode prog_50_method_4_code 63 = .ok (.bipush 63, 2) := by decide +kernel
theorem dUtf8_commonCodePoint_65 : decode prog_50_method_4_code 65 = .ok (.iand, 1) := by decide +kernel
theorem dUtf8_commonCodePoint_66 : decode prog_50_method_4_code 66 = .ok (.bipush 6, 2) := by decide +kernel
theorem dUtf8_commonCodePoint_68 : decode prog_50_method_4_code 68 = .ok (.ishl, 1) := by decide +kernel
theorem dUtf8_commonCodePoint_69 : decode prog_50_method_4_code 69 = .ok (.ior, 1) := by decide +kernel
theorem dUtf8_commonCodePoint_70 : decode prog_50_method_4_code 70 = .ok (.iload 6, 2) := by decide +kernel
theorem dUtf8_commonCodePoint_72 : decode prog_50_method_4_code 72 = .ok (.bipush 63, 2) := by decide +kernel
theorem dUtf8_commonCodePoint_74 : decode prog_50_method_4_code 74 = .ok (.iand, 1) := by decide +kernel
theorem dUtf8_commonCodePoint_75 : decode prog_50_method_4_code 75 = .ok (.ior, 1) := by decide +kernel
theorem dUtf8_commonCodePoint_76 : decode prog_50_method_4_code 76 = .ok (.istore 7, 2) := by decide +kernel
theorem dUtf8_commonCodePoint_78 : decode prog_50_method_4_code 78 = .ok (.iload 5, 2) := by decide +kernel
theorem dUtf8_commonCodePoint_80 : decode prog_50_method_4_code 80 = .ok (.sipush 192, 3) := by decide +kernel
theorem dUtf8_commonCodePoint_83 : decode prog_50_method_4_code 83 = .ok (.iand, 1) := by decide +kernel
theorem dUtf8_commonCodePoint_84 : decode prog_50_method_4_code 84 = .ok (.bipush 8, 2) := by decide +kernel
theorem dUtf8_commonCodePoint_86 : decode prog_50_method_4_code 86 = .ok (.ishl, 1) := by decide +kernel
theorem dUtf8_commonCodePoint_87 : decode prog_50_method_4_code 87 = .ok (.iload 6, 2) := by decide +kernel
theorem dUtf8_commonCodePoint_89 : decode prog_50_method_4_code 89 = .ok (.sipush 192, 3) := by decide +kernel
theorem dUtf8_commonCodePoint_92 : decode prog_50_method_4_code 92 = .ok (.iand, 1) := by decide +kernel
theorem dUtf8_commonCodePoint_93 : decode prog_50_method_4_code 93 = .ok (.ior, 1) := by decide +kernel
theorem dUtf8_commonCodePoint_94 : decode prog_50_method_4_code 94 = .ok (.ldc 9, 2) := by decide +kernel
theorem dUtf8_commonCodePoint_96 : decode prog_50_method_4_code 96 = .ok (.if_icmp .ne 7, 3) := by decide +kernel
theorem dUtf8_commonCodePoint_99 : decode prog_50_method_4_code 99 = .ok (.iconst 1, 1) := by decide +kernel
theorem dUtf8_commonCodePoint_100 : decode prog_50_method_4_code 100 = .ok (.goto 4, 3) := by decide +kernel
theorem dUtf8_commonCodePoint_103 : decode prog_50_method_4_code 103 = .ok (.iconst 0, 1) := by decide +kernel
theorem dUtf8_commonCodePoint_104 : decode prog_50_method_4_code 104 = .ok (.istore 8, 2) := by decide +kernel
theorem dUtf8_commonCodePoint_106 : decode prog_50_method_4_code 106 = .ok (.iload 8, 2) := by decide +kernel
theorem dUtf8_commonCodePoint_108 : decode prog_50_method_4_code 108 = .ok (.ifCond .eq 22, 3) := by decide +kernel
theorem dUtf8_commonCodePoint_111 : decode prog_50_method_4_code 111 = .ok (.iload 7, 2) := by decide +kernel
theorem dUtf8_commonCodePoint_113 : decode prog_50_method_4_code 113 = .ok (.sipush 2048, 3) := by decide +kernel
theorem dUtf8_commonCodePoint_116 : decode prog_50_method_4_code 116 = .ok (.if_icmp .lt 14, 3) := by decide +kernel
theorem dUtf8_commonCodePoint_119 : decode prog_50_method_4_code 119 = .ok (.iload 7, 2) := by decide +kernel
theorem dUtf8_commonCodePoint_121 : decode prog_50_method_4_code 121 = .ok (.ldc 12, 2) := by decide +kernel
theorem dUtf8_commonCodePoint_123 : decode prog_50_method_4_code 123 = .ok (.if_icmp .ge 7, 3) := by decide +kernel
theorem dUtf8_commonCodePoint_126 : decode prog_50_method_4_code 126 = .ok (.iload 7, 2) := by decide +kernel
theorem dUtf8_commonCodePoint_128 : decode prog_50_method_4_code 128 = .ok (.istore 4, 2) := by decide +kernel
theorem dUtf8_commonCodePoint_130 : decode prog_50_method_4_code 130 = .ok (.goto 55, 3) := by decide +kernel
theorem dUtf8_commonCodePoint_133 : decode prog_50_method_4_code 133 = .ok (.iload_n 3, 1) := by decide +kernel
theorem dUtf8_commonCodePoint_134 : decode prog_50_method_4_code 134 = .ok (.sipush 194, 3) := by decide +kernel
theorem dUtf8_commonCodePoint_137 : decode prog_50_method_4_code 137 = .ok (.if_icmp .lt 48, 3) := by decide +kernel
theorem dUtf8_commonCodePoint_140 : decode prog_50_method_4_code 140 = .ok (.iload_n 1, 1) := by decide +kernel
theorem dUtf8_commonCodePoint_141 : decode prog_50_method_4_code 141 = .ok (.iconst 1, 1) := by decide +kernel
theorem dUtf8_commonCodePoint_142 : decode prog_50_method_4_code 142 = .ok (.iadd, 1) := by decide +kernel
theorem dUtf8_commonCodePoint_143 : decode prog_50_method_4_code 143 = .ok (.iload_n 2, 1) := by decide +kernel
theorem dUtf8_commonCodePoint_144 : decode prog_50_method_4_code 144 = .ok (.if_icmp .ge 41, 3) := by decide +kernel
theorem dUtf8_commonCodePoint_147 : decode prog_50_method_4_code 147 = .ok (.aload_n 0, 1) := by decide +kernel
theorem dUtf8_commonCodePoint_148 : decode prog_50_method_4_code 148 = .ok (.iload_n 1, 1) := by decide +kernel
theorem dUtf8_commonCodePoint_149 : decode prog_50_method_4_code 149 = .ok (.iconst 1, 1) := by decide +kernel
theorem dUtf8_commonCodePoint_150 : decode prog_50_method_4_code 150 = .ok (.iadd, 1) := by decide +kernel
theorem dUtf8_commonCodePoint_151 : decode prog_50_method_4_code 151 = .ok (.baload, 1) := by decide +kernel
theorem dUtf8_commonCodePoint_152 : decode prog_50_method_4_code 152 = .ok (.sipush 255, 3) := by decide +kernel
theorem dUtf8_commonCodePoint_155 : decode prog_50_method_4_code 155 = .ok (.iand, 1) := by decide +kernel
theorem dUtf8_commonCodePoint_156 : decode prog_50_method_4_code 156 = .ok (.istore 5, 2) := by decide +kernel
theorem dUtf8_commonCodePoint_158 : decode prog_50_method_4_code 158 = .ok (.iload 5, 2) := by decide +kernel
theorem dUtf8_commonCodePoint_160 : decode prog_50_method_4_code 160 = .ok (.sipush 192, 3) := by decide +kernel
theorem dUtf8_commonCodePoint_163 : decode prog_50_method_4_code 163 = .ok (.iand, 1) := by decide +kernel
theorem dUtf8_commonCodePoint_164 : decode prog_50_method_4_code 164 = .ok (.sipush 128, 3) := by decide +kernel
theorem dUtf8_commonCodePoint_167 : decode prog_50_method_4_code 167 = .ok (.if_icmp .ne 18, 3) := by decide +kernel
theorem dUtf8_commonCodePoint_170 : decode prog_50_method_4_code 170 = .ok (.iload_n 3, 1) := by decide +kernel
theorem dUtf8_commonCodePoint_171 : decode prog_50_method_4_code 171 = .ok (.bipush 31, 2) := by decide +kernel
theorem dUtf8_commonCodePoint_173 : decode prog_50_method_4_code 173 = .ok (.iand, 1) := by decide +kernel
theorem dUtf8_commonCodePoint_174 : decode prog_50_method_4_code 174 = .ok (.bipush 6, 2) := by decide +kernel
theorem dUtf8_commonCodePoint_176 : decode prog_50_method_4_code 176 = .ok (.ishl, 1) := by decide +kernel
theorem dUtf8_commonCodePoint_177 : decode prog_50_method_4_code 177 = .ok (.iload 5, 2) := by decide +kernel
theorem dUtf8_commonCodePoint_179 : decode prog_50_method_4_code 179 = .ok (.bipush 63, 2) := by decide +kernel
theorem dUtf8_commonCodePoint_181 : decode prog_50_method_4_code 181 = .ok (.iand, 1) := by decide +kernel
theorem dUtf8_commonCodePoint_182 : decode prog_50_method_4_code 182 = .ok (.ior, 1) := by decide +kernel
theorem dUtf8_commonCodePoint_183 : decode prog_50_method_4_code 183 = .ok (.istore 4, 2) := by decide +kernel
theorem dUtf8_commonCodePoint_185 : decode prog_50_method_4_code 185 = .ok (.iload 4, 2) := by decide +kernel
theorem dUtf8_commonCodePoint_187 : decode prog_50_method_4_code 187 = .ok (.ireturn, 1) := by decide +kernel
theorem dUtf8CommonCodePointPinLaw_isContinuation_0 : decode method_2_code 0 = .ok (.iload_n 0, 1) := by decide +kernel
theorem dUtf8CommonCodePointPinLaw_isContinuation_1 : decode method_2_code 1 = .ok (.sipush 128, 3) := by decide +kernel
theorem dUtf8CommonCodePointPinLaw_isContinuation_4 : decode method_2_code 4 = .ok (.if_icmp .lt 14, 3) := by decide +kernel
theorem dUtf8CommonCodePointPinLaw_isContinuation_7 : decode method_2_code 7 = .ok (.iload_n 0, 1) := by decide +kernel
theorem dUtf8CommonCodePointPinLaw_isContinuation_8 : decode method_2_code 8 = .ok (.sipush 191, 3) := by decide +kernel
theorem dUtf8CommonCodePointPinLaw_isContinuation_11 : decode method_2_code 11 = .ok (.if_icmp .gt 7, 3) := by decide +kernel
theorem dUtf8CommonCodePointPinLaw_isContinuation_14 : decode method_2_code 14 = .ok (.iconst 1, 1) := by decide +kernel
theorem dUtf8CommonCodePointPinLaw_isContinuation_15 : decode method_2_code 15 = .ok (.goto 4, 3) := by decide +kernel
theorem dUtf8CommonCodePointPinLaw_isContinuation_18 : decode method_2_code 18 = .ok (.iconst 0, 1) := by decide +kernel
theorem dUtf8CommonCodePointPinLaw_isContinuation_19 : decode method_2_code 19 = .ok (.ireturn, 1) := by decide +kernel
/-! com/example/binary64/binary64/Utf8.commonCodePoint:([BII)I -/
def f_Utf8_commonCodePoint_104 (v4 : Int32) (v7 : Int32) (t0 : Int32) (bs_a1 : List Int32) : Option (Int32) :=
  if t0 = (0 : Int32) then
    some v4
  else
    if v7 < (2048 : Int32) then
      some v4
    else
      if v7 < (55296 : Int32) then
        some v7
      else
        some v4
def f_Utf8_commonCodePoint (v1 : Int32) (v2 : Int32) (bs_a1 : List Int32) : Option (Int32) :=
  own_ck (own_inb bs_a1 v1) <|
  own_lt ((own_rd bs_a1 v1) &&& (255 : Int32)) fun x42 =>
  if x42 < (224 : Int32) then
    if x42 < (194 : Int32) then
      some (-1 : Int32)
    else
      if (v1 + (1 : Int32)) < v2 then
        own_lt (v1 + (1 : Int32)) fun x43 =>
        own_ck (own_inb bs_a1 x43) <|
        own_lt ((own_rd bs_a1 x43) &&& (255 : Int32)) fun x44 =>
        if (x44 &&& (192 : Int32)) = (128 : Int32) then
          own_lt (((x42 &&& (31 : Int32)) <<< ((6 : Int32) &&& 31)) ||| (x44 &&& (63 : Int32))) fun x45 =>
          some x45
        else
          some (-1 : Int32)
      else
        some (-1 : Int32)
  else
    if x42 < (240 : Int32) then
      if (v1 + (2 : Int32)) < v2 then
        own_lt (v1 + (1 : Int32)) fun x46 =>
        own_ck (own_inb bs_a1 x46) <|
        own_lt ((own_rd bs_a1 x46) &&& (255 : Int32)) fun x47 =>
        own_lt (v1 + (2 : Int32)) fun x48 =>
        own_ck (own_inb bs_a1 x48) <|
        own_lt ((own_rd bs_a1 x48) &&& (255 : Int32)) fun x49 =>
        own_lt ((((x42 &&& (15 : Int32)) <<< ((12 : Int32) &&& 31)) ||| ((x47 &&& (63 : Int32)) <<< ((6 : Int32) &&& 31))) ||| (x49 &&& (63 : Int32))) fun x50 =>
        if (((x47 &&& (192 : Int32)) <<< ((8 : Int32) &&& 31)) ||| (x49 &&& (192 : Int32))) = (32896 : Int32) then
          (f_Utf8_commonCodePoint_104 (-1 : Int32) x50 (1 : Int32) bs_a1)
        else
          (f_Utf8_commonCodePoint_104 (-1 : Int32) x50 (0 : Int32) bs_a1)
      else
        some (-1 : Int32)
    else
      some (-1 : Int32)
def Q_Utf8_commonCodePoint (Z : State) (hE : Heap) (n0 : Nat) (a1 : Addr) (r : Int32) (v : Option Value) (h : Heap) (L : List Loc) : Prop := v = some (.int r) ∧ Fr n0 L ∧ h = hE
def Cx_Utf8_commonCodePoint (p : Program) (s : State) (m : MethodId) (meth : Method) (c : Code) (Z : State) (a0 : Array Value) : Prop := p.tables.exec = Jvm.exec ∧ Z.Warmed39 s.vm ∧ (∀ d ∈ tables_1, d.before a0 Z = true) ∧ c.code = prog_50_method_4_code ∧ c.maxLocals = 9 ∧ s.vm.findClass "com/example/binary64/binary64/Utf8" = some m.cls ∧ meth.sig.returnType = some .int ∧ meth.locks = false ∧ meth.name = "commonCodePoint"
set_option maxRecDepth 65536 in
set_option maxHeartbeats 4000000 in
theorem b_Utf8_commonCodePoint_104 {p : Program} {l : Launch} {e : Env} {s : State} {m : MethodId} {args : Array Value} {below : List Frame} {meth : Method} {c : Code} {Z : State} {a0 : Array Value} {n0 : Nat} {hE : Heap} (cx : Cx_Utf8_commonCodePoint p s m meth c Z a0) (a1 : Addr) :
    ∀ {T : State} {locs : List Loc} (X : Stand p l e ({ frames := 0, cells := 0, slots := 0, locals := 0 } : Room) s m args below meth c T locs 0 0) (eT : T.heap = hE) (N : Fr n0 locs) (z : n0 ≤ hE.size) (v4 : Int32) (v7 : Int32) (t0 : Int32) (bs_a1 : List Int32) (d0 : Slot) (d1 : Slot) (d2 : Slot) (d3 : Slot) (d5 : Slot) (d6 : Slot) (d8 : Slot) (o_d0 : One d0) (o_d1 : One d1) (o_d2 : One d2) (o_d3 : One d3) (o_d5 : One d5) (o_d6 : One d6) (o_d8 : One d8) (A_a1 : own_Ar Z hE a1 .byte (bs_a1.map Value.int)) (g_a1 : n0 ≤ a1) (r : Int32), f_Utf8_commonCodePoint_104 v4 v7 t0 bs_a1 = some r → own_Goes p e below s (Q_Utf8_commonCodePoint Z hE n0 a1 r) 0 0 (T.setTop (mkF m 104 #[d0, d1, d2, d3, .val (.int v4), d5, d6, .val (.int v7), d8] [(.int t0)])) := by
  have cx' := cx
  obtain ⟨hx, hZ, hw, hby, hml, hown, hret, hlk, hnm⟩ := cx'
  intro T locs X eT N z v4 v7 t0 bs_a1 d0 d1 d2 d3 d5 d6 d8 o_d0 o_d1 o_d2 o_d3 o_d5 o_d6 o_d8 A_a1 g_a1 r hF
  unfold f_Utf8_commonCodePoint_104 at hF
  refine own_Goes.via (B := T.setTop (mkF m 108 #[d0, d1, d2, d3, .val (.int v4), d5, d6, .val (.int v7), .val (.int t0)] [(.int t0)])) (fun t k => ?_) ?_
  · show Steps p.tables e below (T.setTop (mkF m 104 #[d0, d1, d2, d3, .val (.int v4), d5, d6, .val (.int v7), d8] [(.int t0)])) t
    refine XS.istoreS X.here hx rfl (hb hby dUtf8_commonCodePoint_104) rfl rfl o_d8 ?_
    show Steps p.tables e below (T.setTop (mkF m 106 #[d0, d1, d2, d3, .val (.int v4), d5, d6, .val (.int v7), .val (.int t0)] [])) t
    refine XS.iload X.here hx rfl (hb hby dUtf8_commonCodePoint_106) rfl ?_
    exact k
  by_cases hc108 : t0 = (0 : Int32)
  · rw [if_pos hc108] at hF
    refine own_Goes.via (B := T.setTop (mkF m 187 #[d0, d1, d2, d3, .val (.int v4), d5, d6, .val (.int v7), .val (.int t0)] [(.int v4)])) (fun t k => ?_) ?_
    · show Steps p.tables e below (T.setTop (mkF m 108 #[d0, d1, d2, d3, .val (.int v4), d5, d6, .val (.int v7), .val (.int t0)] [(.int t0)])) t
      refine XS.ifYes X.here hx rfl (pc0 := 108) (pc' := 130) rfl (hb hby dUtf8_commonCodePoint_108) rfl ((if0 _ _).trans (teq hc108).1) (by decide) (by decide) ?_
      show Steps p.tables e below (T.setTop (mkF m 130 #[d0, d1, d2, d3, .val (.int v4), d5, d6, .val (.int v7), .val (.int t0)] [])) t
      refine XS.goto X.here hx rfl (pc0 := 130) (pc' := 185) rfl (hb hby dUtf8_commonCodePoint_130) (by decide) (by decide) ?_
      show Steps p.tables e below (T.setTop (mkF m 185 #[d0, d1, d2, d3, .val (.int v4), d5, d6, .val (.int v7), .val (.int t0)] [])) t
      refine XS.iload X.here hx rfl (hb hby dUtf8_commonCodePoint_185) rfl ?_
      exact k
    obtain rfl : v4 = r := Option.some.inj hF
    exact own_retI X hx hret hlk (hb hby dUtf8_commonCodePoint_187) eT ⟨rfl, N, rfl⟩ (by decide) (by decide)
  · rw [if_neg hc108] at hF
    refine own_Goes.via (B := T.setTop (mkF m 116 #[d0, d1, d2, d3, .val (.int v4), d5, d6, .val (.int v7), .val (.int t0)] [(.int (2048 : Int32)), (.int v7)])) (fun t k => ?_) ?_
    · show Steps p.tables e below (T.setTop (mkF m 108 #[d0, d1, d2, d3, .val (.int v4), d5, d6, .val (.int v7), .val (.int t0)] [(.int t0)])) t
      refine XS.ifNo X.here hx rfl (hb hby dUtf8_commonCodePoint_108) rfl ((if0 _ _).trans (feq hc108).1) ?_
      show Steps p.tables e below (T.setTop (mkF m 111 #[d0, d1, d2, d3, .val (.int v4), d5, d6, .val (.int v7), .val (.int t0)] [])) t
      refine XS.iload X.here hx rfl (hb hby dUtf8_commonCodePoint_111) rfl ?_
      show Steps p.tables e below (T.setTop (mkF m 113 #[d0, d1, d2, d3, .val (.int v4), d5, d6, .val (.int v7), .val (.int t0)] [(.int v7)])) t
      refine XS.sipush X.here hx rfl (hb hby dUtf8_commonCodePoint_113) ?_
      exact k
    by_cases hc116 : v7 < (2048 : Int32)
    · rw [if_pos hc116] at hF
      refine own_Goes.via (B := T.setTop (mkF m 187 #[d0, d1, d2, d3, .val (.int v4), d5, d6, .val (.int v7), .val (.int t0)] [(.int v4)])) (fun t k => ?_) ?_
      · show Steps p.tables e below (T.setTop (mkF m 116 #[d0, d1, d2, d3, .val (.int v4), d5, d6, .val (.int v7), .val (.int t0)] [(.int (2048 : Int32)), (.int v7)])) t
        refine XS.icmpYes X.here hx rfl (pc0 := 116) (pc' := 130) rfl (hb hby dUtf8_commonCodePoint_116) rfl (tlt hc116).1 (by decide) (by decide) ?_
        show Steps p.tables e below (T.setTop (mkF m 130 #[d0, d1, d2, d3, .val (.int v4), d5, d6, .val (.int v7), .val (.int t0)] [])) t
        refine XS.goto X.here hx rfl (pc0 := 130) (pc' := 185) rfl (hb hby dUtf8_commonCodePoint_130) (by decide) (by decide) ?_
        show Steps p.tables e below (T.setTop (mkF m 185 #[d0, d1, d2, d3, .val (.int v4), d5, d6, .val (.int v7), .val (.int t0)] [])) t
        refine XS.iload X.here hx rfl (hb hby dUtf8_commonCodePoint_185) rfl ?_
        exact k
      obtain rfl : v4 = r := Option.some.inj hF
      exact own_retI X hx hret hlk (hb hby dUtf8_commonCodePoint_187) eT ⟨rfl, N, rfl⟩ (by decide) (by decide)
    · rw [if_neg hc116] at hF
      refine own_Goes.via (B := T.setTop (mkF m 123 #[d0, d1, d2, d3, .val (.int v4), d5, d6, .val (.int v7), .val (.int t0)] [(.int (55296 : Int32)), (.int v7)])) (fun t k => ?_) ?_
      · show Steps p.tables e below (T.setTop (mkF m 116 #[d0, d1, d2, d3, .val (.int v4), d5, d6, .val (.int v7), .val (.int t0)] [(.int (2048 : Int32)), (.int v7)])) t
        refine XS.icmpNo X.here hx rfl (hb hby dUtf8_commonCodePoint_116) rfl (flt hc116).1 ?_
        show Steps p.tables e below (T.setTop (mkF m 119 #[d0, d1, d2, d3, .val (.int v4), d5, d6, .val (.int v7), .val (.int t0)] [])) t
        refine XS.iload X.here hx rfl (hb hby dUtf8_commonCodePoint_119) rfl ?_
        show Steps p.tables e below (T.setTop (mkF m 121 #[d0, d1, d2, d3, .val (.int v4), d5, d6, .val (.int v7), .val (.int t0)] [(.int v7)])) t
        refine X.ldcInt hx hown (mvT hZ (w11 hw)) (g := (mkF m 121 #[d0, d1, d2, d3, .val (.int v4), d5, d6, .val (.int v7), .val (.int t0)] [(.int v7)])) rfl (hb hby dUtf8_commonCodePoint_121) _ ?_
        exact k
      by_cases hc123 : v7 < (55296 : Int32)
      · rw [if_pos hc123] at hF
        refine own_Goes.via (B := T.setTop (mkF m 187 #[d0, d1, d2, d3, .val (.int v7), d5, d6, .val (.int v7), .val (.int t0)] [(.int v7)])) (fun t k => ?_) ?_
        · show Steps p.tables e below (T.setTop (mkF m 123 #[d0, d1, d2, d3, .val (.int v4), d5, d6, .val (.int v7), .val (.int t0)] [(.int (55296 : Int32)), (.int v7)])) t
          refine XS.icmpNo X.here hx rfl (hb hby dUtf8_commonCodePoint_123) rfl (tlt hc123).2.1 ?_
          show Steps p.tables e below (T.setTop (mkF m 126 #[d0, d1, d2, d3, .val (.int v4), d5, d6, .val (.int v7), .val (.int t0)] [])) t
          refine XS.iload X.here hx rfl (hb hby dUtf8_commonCodePoint_126) rfl ?_
          show Steps p.tables e below (T.setTop (mkF m 128 #[d0, d1, d2, d3, .val (.int v4), d5, d6, .val (.int v7), .val (.int t0)] [(.int v7)])) t
          refine XS.istore X.here hx rfl (hb hby dUtf8_commonCodePoint_128) rfl (l' := #[d0, d1, d2, d3, .val (.int v7), d5, d6, .val (.int v7), .val (.int t0)]) rfl ?_
          show Steps p.tables e below (T.setTop (mkF m 130 #[d0, d1, d2, d3, .val (.int v7), d5, d6, .val (.int v7), .val (.int t0)] [])) t
          refine XS.goto X.here hx rfl (pc0 := 130) (pc' := 185) rfl (hb hby dUtf8_commonCodePoint_130) (by decide) (by decide) ?_
          show Steps p.tables e below (T.setTop (mkF m 185 #[d0, d1, d2, d3, .val (.int v7), d5, d6, .val (.int v7), .val (.int t0)] [])) t
          refine XS.iload X.here hx rfl (hb hby dUtf8_commonCodePoint_185) rfl ?_
          exact k
        obtain rfl : v7 = r := Option.some.inj hF
        exact own_retI X hx hret hlk (hb hby dUtf8_commonCodePoint_187) eT ⟨rfl, N, rfl⟩ (by decide) (by decide)
      · rw [if_neg hc123] at hF
        refine own_Goes.via (B := T.setTop (mkF m 187 #[d0, d1, d2, d3, .val (.int v4), d5, d6, .val (.int v7), .val (.int t0)] [(.int v4)])) (fun t k => ?_) ?_
        · show Steps p.tables e below (T.setTop (mkF m 123 #[d0, d1, d2, d3, .val (.int v4), d5, d6, .val (.int v7), .val (.int t0)] [(.int (55296 : Int32)), (.int v7)])) t
          refine XS.icmpYes X.here hx rfl (pc0 := 123) (pc' := 130) rfl (hb hby dUtf8_commonCodePoint_123) rfl (flt hc123).2.1 (by decide) (by decide) ?_
          show Steps p.tables e below (T.setTop (mkF m 130 #[d0, d1, d2, d3, .val (.int v4), d5, d6, .val (.int v7), .val (.int t0)] [])) t
          refine XS.goto X.here hx rfl (pc0 := 130) (pc' := 185) rfl (hb hby dUtf8_commonCodePoint_130) (by decide) (by decide) ?_
          show Steps p.tables e below (T.setTop (mkF m 185 #[d0, d1, d2, d3, .val (.int v4), d5, d6, .val (.int v7), .val (.int t0)] [])) t
          refine XS.iload X.here hx rfl (hb hby dUtf8_commonCodePoint_185) rfl ?_
          exact k
        obtain rfl : v4 = r := Option.some.inj hF
        exact own_retI X hx hret hlk (hb hby dUtf8_commonCodePoint_187) eT ⟨rfl, N, rfl⟩ (by decide) (by decide)
set_option maxRecDepth 65536 in
set_option maxHeartbeats 4000000 in
theorem b_Utf8_commonCodePoint {p : Program} {l : Launch} {e : Env} {s : State} {m : MethodId} {args : Array Value} {below : List Frame} {meth : Method} {c : Code} {Z : State} {a0 : Array Value} {n0 : Nat} {hE : Heap} (cx : Cx_Utf8_commonCodePoint p s m meth c Z a0) (a1 : Addr) :
    ∀ {T : State} {locs : List Loc} (X : Stand p l e ({ frames := 0, cells := 0, slots := 0, locals := 0 } : Room) s m args below meth c T locs 0 0) (eT : T.heap = hE) (N : Fr n0 locs) (z : n0 ≤ hE.size) (v1 : Int32) (v2 : Int32) (bs_a1 : List Int32) (A_a1 : own_Ar Z hE a1 .byte (bs_a1.map Value.int)) (g_a1 : n0 ≤ a1) (r : Int32), f_Utf8_commonCodePoint v1 v2 bs_a1 = some r → own_Goes p e below s (Q_Utf8_commonCodePoint Z hE n0 a1 r) 0 0 (T.setTop (mkF m 0 #[.val (.ref a1), .val (.int v1), .val (.int v2), .unset, .unset, .unset, .unset, .unset, .unset] [])) := by
  have cx' := cx
  obtain ⟨hx, hZ, hw, hby, hml, hown, hret, hlk, hnm⟩ := cx'
  intro T locs X eT N z v1 v2 bs_a1 A_a1 g_a1 r hF
  unfold f_Utf8_commonCodePoint at hF
  refine own_Goes.via (B := T.setTop (mkF m 2 #[.val (.ref a1), .val (.int v1), .val (.int v2), .unset, .unset, .unset, .unset, .unset, .unset] [(.int v1), (.ref a1)])) (fun t k => ?_) ?_
  · show Steps p.tables e below (T.setTop (mkF m 0 #[.val (.ref a1), .val (.int v1), .val (.int v2), .unset, .unset, .unset, .unset, .unset, .unset] [])) t
    refine XS.aloadN X.here hx rfl (hb hby dUtf8_commonCodePoint_0) rfl rfl ?_
    show Steps p.tables e below (T.setTop (mkF m 1 #[.val (.ref a1), .val (.int v1), .val (.int v2), .unset, .unset, .unset, .unset, .unset, .unset] [(.ref a1)])) t
    refine XS.iloadN X.here hx rfl (hb hby dUtf8_commonCodePoint_1) rfl ?_
    exact k
  obtain ⟨hi2, hF⟩ := own_ck_e hF
  refine own_Goes.via (B := T.setTop (mkF m 7 #[.val (.ref a1), .val (.int v1), .val (.int v2), .unset, .unset, .unset, .unset, .unset, .unset] [(.int ((own_rd bs_a1 v1) &&& (255 : Int32)))])) (fun t k => ?_) ?_
  · show Steps p.tables e below (T.setTop (mkF m 2 #[.val (.ref a1), .val (.int v1), .val (.int v2), .unset, .unset, .unset, .unset, .unset, .unset] [(.int v1), (.ref a1)])) t
    refine own_ldB X hx hZ eT A_a1 hi2 rfl (g := (mkF m 2 #[.val (.ref a1), .val (.int v1), .val (.int v2), .unset, .unset, .unset, .unset, .unset, .unset] [(.int v1), (.ref a1)])) rfl rfl (hb hby dUtf8_commonCodePoint_2) ?_
    show Steps p.tables e below (T.setTop (mkF m 3 #[.val (.ref a1), .val (.int v1), .val (.int v2), .unset, .unset, .unset, .unset, .unset, .unset] [(.int (own_rd bs_a1 v1))])) t
    refine XS.sipush X.here hx rfl (hb hby dUtf8_commonCodePoint_3) ?_
    show Steps p.tables e below (T.setTop (mkF m 6 #[.val (.ref a1), .val (.int v1), .val (.int v2), .unset, .unset, .unset, .unset, .unset, .unset] [(.int (255 : Int32)), (.int (own_rd bs_a1 v1))])) t
    refine XS.iand X.here hx rfl (hb hby dUtf8_commonCodePoint_6) rfl ?_
    exact k
  obtain ⟨x42, hx42, hF⟩ := own_lt_e hF
  rw [← hx42]
  refine own_Goes.via (B := T.setTop (mkF m 15 #[.val (.ref a1), .val (.int v1), .val (.int v2), .val (.int x42), .val (.int (-1 : Int32)), .unset, .unset, .unset, .unset] [(.int (224 : Int32)), (.int x42)])) (fun t k => ?_) ?_
  · show Steps p.tables e below (T.setTop (mkF m 7 #[.val (.ref a1), .val (.int v1), .val (.int v2), .unset, .unset, .unset, .unset, .unset, .unset] [(.int x42)])) t
    refine XS.istoreN X.here hx rfl (hb hby dUtf8_commonCodePoint_7) rfl (l' := #[.val (.ref a1), .val (.int v1), .val (.int v2), .val (.int x42), .unset, .unset, .unset, .unset, .unset]) rfl ?_
    show Steps p.tables e below (T.setTop (mkF m 8 #[.val (.ref a1), .val (.int v1), .val (.int v2), .val (.int x42), .unset, .unset, .unset, .unset, .unset] [])) t
    refine XS.iconst X.here hx rfl (hb hby dUtf8_commonCodePoint_8) ?_
    show Steps p.tables e below (T.setTop (mkF m 9 #[.val (.ref a1), .val (.int v1), .val (.int v2), .val (.int x42), .unset, .unset, .unset, .unset, .unset] [(.int (-1 : Int32))])) t
    refine XS.istore X.here hx rfl (hb hby dUtf8_commonCodePoint_9) rfl (l' := #[.val (.ref a1), .val (.int v1), .val (.int v2), .val (.int x42), .val (.int (-1 : Int32)), .unset, .unset, .unset, .unset]) rfl ?_
    show Steps p.tables e below (T.setTop (mkF m 11 #[.val (.ref a1), .val (.int v1), .val (.int v2), .val (.int x42), .val (.int (-1 : Int32)), .unset, .unset, .unset, .unset] [])) t
    refine XS.iloadN X.here hx rfl (hb hby dUtf8_commonCodePoint_11) rfl ?_
    show Steps p.tables e below (T.setTop (mkF m 12 #[.val (.ref a1), .val (.int v1), .val (.int v2), .val (.int x42), .val (.int (-1 : Int32)), .unset, .unset, .unset, .unset] [(.int x42)])) t
    refine XS.sipush X.here hx rfl (hb hby dUtf8_commonCodePoint_12) ?_
    exact k
  by_cases hc15 : x42 < (224 : Int32)
  · rw [if_pos hc15] at hF
    refine own_Goes.via (B := T.setTop (mkF m 137 #[.val (.ref a1), .val (.int v1), .val (.int v2), .val (.int x42), .val (.int (-1 : Int32)), .unset, .unset, .unset, .unset] [(.int (194 : Int32)), (.int x42)])) (fun t k => ?_) ?_
    · show Steps p.tables e below (T.setTop (mkF m 15 #[.val (.ref a1), .val (.int v1), .val (.int v2), .val (.int x42), .val (.int (-1 : Int32)), .unset, .unset, .unset, .unset] [(.int (224 : Int32)), (.int x42)])) t
      refine XS.icmpYes X.here hx rfl (pc0 := 15) (pc' := 133) rfl (hb hby dUtf8_commonCodePoint_15) rfl (tlt hc15).1 (by decide) (by decide) ?_
      show Steps p.tables e below (T.setTop (mkF m 133 #[.val (.ref a1), .val (.int v1), .val (.int v2), .val (.int x42), .val (.int (-1 : Int32)), .unset, .unset, .unset, .unset] [])) t
      refine XS.iloadN X.here hx rfl (hb hby dUtf8_commonCodePoint_133) rfl ?_
      show Steps p.tables e below (T.setTop (mkF m 134 #[.val (.ref a1), .val (.int v1), .val (.int v2), .val (.int x42), .val (.int (-1 : Int32)), .unset, .unset, .unset, .unset] [(.int x42)])) t
      refine XS.sipush X.here hx rfl (hb hby dUtf8_commonCodePoint_134) ?_
      exact k
    by_cases hc137 : x42 < (194 : Int32)
    · rw [if_pos hc137] at hF
      refine own_Goes.via (B := T.setTop (mkF m 187 #[.val (.ref a1), .val (.int v1), .val (.int v2), .val (.int x42), .val (.int (-1 : Int32)), .unset, .unset, .unset, .unset] [(.int (-1 : Int32))])) (fun t k => ?_) ?_
      · show Steps p.tables e below (T.setTop (mkF m 137 #[.val (.ref a1), .val (.int v1), .val (.int v2), .val (.int x42), .val (.int (-1 : Int32)), .unset, .unset, .unset, .unset] [(.int (194 : Int32)), (.int x42)])) t
        refine XS.icmpYes X.here hx rfl (pc0 := 137) (pc' := 185) rfl (hb hby dUtf8_commonCodePoint_137) rfl (tlt hc137).1 (by decide) (by decide) ?_
        show Steps p.tables e below (T.setTop (mkF m 185 #[.val (.ref a1), .val (.int v1), .val (.int v2), .val (.int x42), .val (.int (-1 : Int32)), .unset, .unset, .unset, .unset] [])) t
        refine XS.iload X.here hx rfl (hb hby dUtf8_commonCodePoint_185) rfl ?_
        exact k
      obtain rfl : (-1 : Int32) = r := Option.some.inj hF
      exact own_retI X hx hret hlk (hb hby dUtf8_commonCodePoint_187) eT ⟨rfl, N, rfl⟩ (by decide) (by decide)
    · rw [if_neg hc137] at hF
      refine own_Goes.via (B := T.setTop (mkF m 144 #[.val (.ref a1), .val (.int v1), .val (.int v2), .val (.int x42), .val (.int (-1 : Int32)), .unset, .unset, .unset, .unset] [(.int v2), (.int (v1 + (1 : Int32)))])) (fun t k => ?_) ?_
      · show Steps p.tables e below (T.setTop (mkF m 137 #[.val (.ref a1), .val (.int v1), .val (.int v2), .val (.int x42), .val (.int (-1 : Int32)), .unset, .unset, .unset, .unset] [(.int (194 : Int32)), (.int x42)])) t
        refine XS.icmpNo X.here hx rfl (hb hby dUtf8_commonCodePoint_137) rfl (flt hc137).1 ?_
        show Steps p.tables e below (T.setTop (mkF m 140 #[.val (.ref a1), .val (.int v1), .val (.int v2), .val (.int x42), .val (.int (-1 : Int32)), .unset, .unset, .unset, .unset] [])) t
        refine XS.iloadN X.here hx rfl (hb hby dUtf8_commonCodePoint_140) rfl ?_
        show Steps p.tables e below (T.setTop (mkF m 141 #[.val (.ref a1), .val (.int v1), .val (.int v2), .val (.int x42), .val (.int (-1 : Int32)), .unset, .unset, .unset, .unset] [(.int v1)])) t
        refine XS.iconst X.here hx rfl (hb hby dUtf8_commonCodePoint_141) ?_
        show Steps p.tables e below (T.setTop (mkF m 142 #[.val (.ref a1), .val (.int v1), .val (.int v2), .val (.int x42), .val (.int (-1 : Int32)), .unset, .unset, .unset, .unset] [(.int (1 : Int32)), (.int v1)])) t
        refine XS.iadd X.here hx rfl (hb hby dUtf8_commonCodePoint_142) rfl ?_
        show Steps p.tables e below (T.setTop (mkF m 143 #[.val (.ref a1), .val (.int v1), .val (.int v2), .val (.int x42), .val (.int (-1 : Int32)), .unset, .unset, .unset, .unset] [(.int (v1 + (1 : Int32)))])) t
        refine XS.iloadN X.here hx rfl (hb hby dUtf8_commonCodePoint_143) rfl ?_
        exact k
      by_cases hc144 : (v1 + (1 : Int32)) < v2
      · rw [if_pos hc144] at hF
        refine own_Goes.via (B := T.setTop (mkF m 151 #[.val (.ref a1), .val (.int v1), .val (.int v2), .val (.int x42), .val (.int (-1 : Int32)), .unset, .unset, .unset, .unset] [(.int (v1 + (1 : Int32))), (.ref a1)])) (fun t k => ?_) ?_
        · show Steps p.tables e below (T.setTop (mkF m 144 #[.val (.ref a1), .val (.int v1), .val (.int v2), .val (.int x42), .val (.int (-1 : Int32)), .unset, .unset, .unset, .unset] [(.int v2), (.int (v1 + (1 : Int32)))])) t
          refine XS.icmpNo X.here hx rfl (hb hby dUtf8_commonCodePoint_144) rfl (tlt hc144).2.1 ?_
          show Steps p.tables e below (T.setTop (mkF m 147 #[.val (.ref a1), .val (.int v1), .val (.int v2), .val (.int x42), .val (.int (-1 : Int32)), .unset, .unset, .unset, .unset] [])) t
          refine XS.aloadN X.here hx rfl (hb hby dUtf8_commonCodePoint_147) rfl rfl ?_
          show Steps p.tables e below (T.setTop (mkF m 148 #[.val (.ref a1), .val (.int v1), .val (.int v2), .val (.int x42), .val (.int (-1 : Int32)), .unset, .unset, .unset, .unset] [(.ref a1)])) t
          refine XS.iloadN X.here hx rfl (hb hby dUtf8_commonCodePoint_148) rfl ?_
          show Steps p.tables e below (T.setTop (mkF m 149 #[.val (.ref a1), .val (.int v1), .val (.int v2), .val (.int x42), .val (.int (-1 : Int32)), .unset, .unset, .unset, .unset] [(.int v1), (.ref a1)])) t
          refine XS.iconst X.here hx rfl (hb hby dUtf8_commonCodePoint_149) ?_
          show Steps p.tables e below (T.setTop (mkF m 150 #[.val (.ref a1), .val (.int v1), .val (.int v2), .val (.int x42), .val (.int (-1 : Int32)), .unset, .unset, .unset, .unset] [(.int (1 : Int32)), (.int v1), (.ref a1)])) t
          refine XS.iadd X.here hx rfl (hb hby dUtf8_commonCodePoint_150) rfl ?_
          exact k
        obtain ⟨x43, hx43, hF⟩ := own_lt_e hF
        rw [← hx43]
        obtain ⟨hi151, hF⟩ := own_ck_e hF
        refine own_Goes.via (B := T.setTop (mkF m 156 #[.val (.ref a1), .val (.int v1), .val (.int v2), .val (.int x42), .val (.int (-1 : Int32)), .unset, .unset, .unset, .unset] [(.int ((own_rd bs_a1 x43) &&& (255 : Int32)))])) (fun t k => ?_) ?_
        · show Steps p.tables e below (T.setTop (mkF m 151 #[.val (.ref a1), .val (.int v1), .val (.int v2), .val (.int x42), .val (.int (-1 : Int32)), .unset, .unset, .unset, .unset] [(.int x43), (.ref a1)])) t
          refine own_ldB X hx hZ eT A_a1 hi151 rfl (g := (mkF m 151 #[.val (.ref a1), .val (.int v1), .val (.int v2), .val (.int x42), .val (.int (-1 : Int32)), .unset, .unset, .unset, .unset] [(.int x43), (.ref a1)])) rfl rfl (hb hby dUtf8_commonCodePoint_151) ?_
          show Steps p.tables e below (T.setTop (mkF m 152 #[.val (.ref a1), .val (.int v1), .val (.int v2), .val (.int x42), .val (.int (-1 : Int32)), .unset, .unset, .unset, .unset] [(.int (own_rd bs_a1 x43))])) t
          refine XS.sipush X.here hx rfl (hb hby dUtf8_commonCodePoint_152) ?_
          show Steps p.tables e below (T.setTop (mkF m 155 #[.val (.ref a1), .val (.int v1), .val (.int v2), .val (.int x42), .val (.int (-1 : Int32)), .unset, .unset, .unset, .unset] [(.int (255 : Int32)), (.int (own_rd bs_a1 x43))])) t
          refine XS.iand X.here hx rfl (hb hby dUtf8_commonCodePoint_155) rfl ?_
          exact k
        obtain ⟨x44, hx44, hF⟩ := own_lt_e hF
        rw [← hx44]
        refine own_Goes.via (B := T.setTop (mkF m 167 #[.val (.ref a1), .val (.int v1), .val (.int v2), .val (.int x42), .val (.int (-1 : Int32)), .val (.int x44), .unset, .unset, .unset] [(.int (128 : Int32)), (.int (x44 &&& (192 : Int32)))])) (fun t k => ?_) ?_
        · show Steps p.tables e below (T.setTop (mkF m 156 #[.val (.ref a1), .val (.int v1), .val (.int v2), .val (.int x42), .val (.int (-1 : Int32)), .unset, .unset, .unset, .unset] [(.int x44)])) t
          refine XS.istore X.here hx rfl (hb hby dUtf8_commonCodePoint_156) rfl (l' := #[.val (.ref a1), .val (.int v1), .val (.int v2), .val (.int x42), .val (.int (-1 : Int32)), .val (.int x44), .unset, .unset, .unset]) rfl ?_
          show Steps p.tables e below (T.setTop (mkF m 158 #[.val (.ref a1), .val (.int v1), .val (.int v2), .val (.int x42), .val (.int (-1 : Int32)), .val (.int x44), .unset, .unset, .unset] [])) t
          refine XS.iload X.here hx rfl (hb hby dUtf8_commonCodePoint_158) rfl ?_
          show Steps p.tables e below (T.setTop (mkF m 160 #[.val (.ref a1), .val (.int v1), .val (.int v2), .val (.int x42), .val (.int (-1 : Int32)), .val (.int x44), .unset, .unset, .unset] [(.int x44)])) t
          refine XS.sipush X.here hx rfl (hb hby dUtf8_commonCodePoint_160) ?_
          show Steps p.tables e below (T.setTop (mkF m 163 #[.val (.ref a1), .val (.int v1), .val (.int v2), .val (.int x42), .val (.int (-1 : Int32)), .val (.int x44), .unset, .unset, .unset] [(.int (192 : Int32)), (.int x44)])) t
          refine XS.iand X.here hx rfl (hb hby dUtf8_commonCodePoint_163) rfl ?_
          show Steps p.tables e below (T.setTop (mkF m 164 #[.val (.ref a1), .val (.int v1), .val (.int v2), .val (.int x42), .val (.int (-1 : Int32)), .val (.int x44), .unset, .unset, .unset] [(.int (x44 &&& (192 : Int32)))])) t
          refine XS.sipush X.here hx rfl (hb hby dUtf8_commonCodePoint_164) ?_
          exact k
        by_cases hc167 : (x44 &&& (192 : Int32)) = (128 : Int32)
        · rw [if_pos hc167] at hF
          refine own_Goes.via (B := T.setTop (mkF m 183 #[.val (.ref a1), .val (.int v1), .val (.int v2), .val (.int x42), .val (.int (-1 : Int32)), .val (.int x44), .unset, .unset, .unset] [(.int (((x42 &&& (31 : Int32)) <<< ((6 : Int32) &&& 31)) ||| (x44 &&& (63 : Int32))))])) (fun t k => ?_) ?_
          · show Steps p.tables e below (T.setTop (mkF m 167 #[.val (.ref a1), .val (.int v1), .val (.int v2), .val (.int x42), .val (.int (-1 : Int32)), .val (.int x44), .unset, .unset, .unset] [(.int (128 : Int32)), (.int (x44 &&& (192 : Int32)))])) t
            refine XS.icmpNo X.here hx rfl (hb hby dUtf8_commonCodePoint_167) rfl (teq hc167).2 ?_
            show Steps p.tables e below (T.setTop (mkF m 170 #[.val (.ref a1), .val (.int v1), .val (.int v2), .val (.int x42), .val (.int (-1 : Int32)), .val (.int x44), .unset, .unset, .unset] [])) t
            refine XS.iloadN X.here hx rfl (hb hby dUtf8_commonCodePoint_170) rfl ?_
            show Steps p.tables e below (T.setTop (mkF m 171 #[.val (.ref a1), .val (.int v1), .val (.int v2), .val (.int x42), .val (.int (-1 : Int32)), .val (.int x44), .unset, .unset, .unset] [(.int x42)])) t
            refine XS.bipush X.here hx rfl (hb hby dUtf8_commonCodePoint_171) ?_
            show Steps p.tables e below (T.setTop (mkF m 173 #[.val (.ref a1), .val (.int v1), .val (.int v2), .val (.int x42), .val (.int (-1 : Int32)), .val (.int x44), .unset, .unset, .unset] [(.int (31 : Int32)), (.int x42)])) t
            refine XS.iand X.here hx rfl (hb hby dUtf8_commonCodePoint_173) rfl ?_
            show Steps p.tables e below (T.setTop (mkF m 174 #[.val (.ref a1), .val (.int v1), .val (.int v2), .val (.int x42), .val (.int (-1 : Int32)), .val (.int x44), .unset, .unset, .unset] [(.int (x42 &&& (31 : Int32)))])) t
            refine XS.bipush X.here hx rfl (hb hby dUtf8_commonCodePoint_174) ?_
            show Steps p.tables e below (T.setTop (mkF m 176 #[.val (.ref a1), .val (.int v1), .val (.int v2), .val (.int x42), .val (.int (-1 : Int32)), .val (.int x44), .unset, .unset, .unset] [(.int (6 : Int32)), (.int (x42 &&& (31 : Int32)))])) t
            refine XS.ishl X.here hx rfl (hb hby dUtf8_commonCodePoint_176) rfl ?_
            show Steps p.tables e below (T.setTop (mkF m 177 #[.val (.ref a1), .val (.int v1), .val (.int v2), .val (.int x42), .val (.int (-1 : Int32)), .val (.int x44), .unset, .unset, .unset] [(.int ((x42 &&& (31 : Int32)) <<< ((6 : Int32) &&& 31)))])) t
            refine XS.iload X.here hx rfl (hb hby dUtf8_commonCodePoint_177) rfl ?_
            show Steps p.tables e below (T.setTop (mkF m 179 #[.val (.ref a1), .val (.int v1), .val (.int v2), .val (.int x42), .val (.int (-1 : Int32)), .val (.int x44), .unset, .unset, .unset] [(.int x44), (.int ((x42 &&& (31 : Int32)) <<< ((6 : Int32) &&& 31)))])) t
            refine XS.bipush X.here hx rfl (hb hby dUtf8_commonCodePoint_179) ?_
            show Steps p.tables e below (T.setTop (mkF m 181 #[.val (.ref a1), .val (.int v1), .val (.int v2), .val (.int x42), .val (.int (-1 : Int32)), .val (.int x44), .unset, .unset, .unset] [(.int (63 : Int32)), (.int x44), (.int ((x42 &&& (31 : Int32)) <<< ((6 : Int32) &&& 31)))])) t
            refine XS.iand X.here hx rfl (hb hby dUtf8_commonCodePoint_181) rfl ?_
            show Steps p.tables e below (T.setTop (mkF m 182 #[.val (.ref a1), .val (.int v1), .val (.int v2), .val (.int x42), .val (.int (-1 : Int32)), .val (.int x44), .unset, .unset, .unset] [(.int (x44 &&& (63 : Int32))), (.int ((x42 &&& (31 : Int32)) <<< ((6 : Int32) &&& 31)))])) t
            refine XS.ior X.here hx rfl (hb hby dUtf8_commonCodePoint_182) rfl ?_
            exact k
          obtain ⟨x45, hx45, hF⟩ := own_lt_e hF
          rw [← hx45]
          refine own_Goes.via (B := T.setTop (mkF m 187 #[.val (.ref a1), .val (.int v1), .val (.int v2), .val (.int x42), .val (.int x45), .val (.int x44), .unset, .unset, .unset] [(.int x45)])) (fun t k => ?_) ?_
          · show Steps p.tables e below (T.setTop (mkF m 183 #[.val (.ref a1), .val (.int v1), .val (.int v2), .val (.int x42), .val (.int (-1 : Int32)), .val (.int x44), .unset, .unset, .unset] [(.int x45)])) t
            refine XS.istore X.here hx rfl (hb hby dUtf8_commonCodePoint_183) rfl (l' := #[.val (.ref a1), .val (.int v1), .val (.int v2), .val (.int x42), .val (.int x45), .val (.int x44), .unset, .unset, .unset]) rfl ?_
            show Steps p.tables e below (T.setTop (mkF m 185 #[.val (.ref a1), .val (.int v1), .val (.int v2), .val (.int x42), .val (.int x45), .val (.int x44), .unset, .unset, .unset] [])) t
            refine XS.iload X.here hx rfl (hb hby dUtf8_commonCodePoint_185) rfl ?_
            exact k
          obtain rfl : x45 = r := Option.some.inj hF
          exact own_retI X hx hret hlk (hb hby dUtf8_commonCodePoint_187) eT ⟨rfl, N, rfl⟩ (by decide) (by decide)
        · rw [if_neg hc167] at hF
          refine own_Goes.via (B := T.setTop (mkF m 187 #[.val (.ref a1), .val (.int v1), .val (.int v2), .val (.int x42), .val (.int (-1 : Int32)), .val (.int x44), .unset, .unset, .unset] [(.int (-1 : Int32))])) (fun t k => ?_) ?_
          · show Steps p.tables e below (T.setTop (mkF m 167 #[.val (.ref a1), .val (.int v1), .val (.int v2), .val (.int x42), .val (.int (-1 : Int32)), .val (.int x44), .unset, .unset, .unset] [(.int (128 : Int32)), (.int (x44 &&& (192 : Int32)))])) t
            refine XS.icmpYes X.here hx rfl (pc0 := 167) (pc' := 185) rfl (hb hby dUtf8_commonCodePoint_167) rfl (feq hc167).2 (by decide) (by decide) ?_
            show Steps p.tables e below (T.setTop (mkF m 185 #[.val (.ref a1), .val (.int v1), .val (.int v2), .val (.int x42), .val (.int (-1 : Int32)), .val (.int x44), .unset, .unset, .unset] [])) t
            refine XS.iload X.here hx rfl (hb hby dUtf8_commonCodePoint_185) rfl ?_
            exact k
          obtain rfl : (-1 : Int32) = r := Option.some.inj hF
          exact own_retI X hx hret hlk (hb hby dUtf8_commonCodePoint_187) eT ⟨rfl, N, rfl⟩ (by decide) (by decide)
      · rw [if_neg hc144] at hF
        refine own_Goes.via (B := T.setTop (mkF m 187 #[.val (.ref a1), .val (.int v1), .val (.int v2), .val (.int x42), .val (.int (-1 : Int32)), .unset, .unset, .unset, .unset] [(.int (-1 : Int32))])) (fun t k => ?_) ?_
        · show Steps p.tables e below (T.setTop (mkF m 144 #[.val (.ref a1), .val (.int v1), .val (.int v2), .val (.int x42), .val (.int (-1 : Int32)), .unset, .unset, .unset, .unset] [(.int v2), (.int (v1 + (1 : Int32)))])) t
          refine XS.icmpYes X.here hx rfl (pc0 := 144) (pc' := 185) rfl (hb hby dUtf8_commonCodePoint_144) rfl (flt hc144).2.1 (by decide) (by decide) ?_
          show Steps p.tables e below (T.setTop (mkF m 185 #[.val (.ref a1), .val (.int v1), .val (.int v2), .val (.int x42), .val (.int (-1 : Int32)), .unset, .unset, .unset, .unset] [])) t
          refine XS.iload X.here hx rfl (hb hby dUtf8_commonCodePoint_185) rfl ?_
          exact k
        obtain rfl : (-1 : Int32) = r := Option.some.inj hF
        exact own_retI X hx hret hlk (hb hby dUtf8_commonCodePoint_187) eT ⟨rfl, N, rfl⟩ (by decide) (by decide)
  · rw [if_neg hc15] at hF
    refine own_Goes.via (B := T.setTop (mkF m 22 #[.val (.ref a1), .val (.int v1), .val (.int v2), .val (.int x42), .val (.int (-1 : Int32)), .unset, .unset, .unset, .unset] [(.int (240 : Int32)), (.int x42)])) (fun t k => ?_) ?_
    · show Steps p.tables e below (T.setTop (mkF m 15 #[.val (.ref a1), .val (.int v1), .val (.int v2), .val (.int x42), .val (.int (-1 : Int32)), .unset, .unset, .unset, .unset] [(.int (224 : Int32)), (.int x42)])) t
      refine XS.icmpNo X.here hx rfl (hb hby dUtf8_commonCodePoint_15) rfl (flt hc15).1 ?_
      show Steps p.tables e below (T.setTop (mkF m 18 #[.val (.ref a1), .val (.int v1), .val (.int v2), .val (.int x42), .val (.int (-1 : Int32)), .unset, .unset, .unset, .unset] [])) t
      refine XS.iloadN X.here hx rfl (hb hby dUtf8_commonCodePoint_18) rfl ?_
      show Steps p.tables e below (T.setTop (mkF m 19 #[.val (.ref a1), .val (.int v1), .val (.int v2), .val (.int x42), .val (.int (-1 : Int32)), .unset, .unset, .unset, .unset] [(.int x42)])) t
      refine XS.sipush X.here hx rfl (hb hby dUtf8_commonCodePoint_19) ?_
      exact k
    by_cases hc22 : x42 < (240 : Int32)
    · rw [if_pos hc22] at hF
      refine own_Goes.via (B := T.setTop (mkF m 29 #[.val (.ref a1), .val (.int v1), .val (.int v2), .val (.int x42), .val (.int (-1 : Int32)), .unset, .unset, .unset, .unset] [(.int v2), (.int (v1 + (2 : Int32)))])) (fun t k => ?_) ?_
      · show Steps p.tables e below (T.setTop (mkF m 22 #[.val (.ref a1), .val (.int v1), .val (.int v2), .val (.int x42), .val (.int (-1 : Int32)), .unset, .unset, .unset, .unset] [(.int (240 : Int32)), (.int x42)])) t
        refine XS.icmpNo X.here hx rfl (hb hby dUtf8_commonCodePoint_22) rfl (tlt hc22).2.1 ?_
        show Steps p.tables e below (T.setTop (mkF m 25 #[.val (.ref a1), .val (.int v1), .val (.int v2), .val (.int x42), .val (.int (-1 : Int32)), .unset, .unset, .unset, .unset] [])) t
        refine XS.iloadN X.here hx rfl (hb hby dUtf8_commonCodePoint_25) rfl ?_
        show Steps p.tables e below (T.setTop (mkF m 26 #[.val (.ref a1), .val (.int v1), .val (.int v2), .val (.int x42), .val (.int (-1 : Int32)), .unset, .unset, .unset, .unset] [(.int v1)])) t
        refine XS.iconst X.here hx rfl (hb hby dUtf8_commonCodePoint_26) ?_
        show Steps p.tables e below (T.setTop (mkF m 27 #[.val (.ref a1), .val (.int v1), .val (.int v2), .val (.int x42), .val (.int (-1 : Int32)), .unset, .unset, .unset, .unset] [(.int (2 : Int32)), (.int v1)])) t
        refine XS.iadd X.here hx rfl (hb hby dUtf8_commonCodePoint_27) rfl ?_
        show Steps p.tables e below (T.setTop (mkF m 28 #[.val (.ref a1), .val (.int v1), .val (.int v2), .val (.int x42), .val (.int (-1 : Int32)), .unset, .unset, .unset, .unset] [(.int (v1 + (2 : Int32)))])) t
        refine XS.iloadN X.here hx rfl (hb hby dUtf8_commonCodePoint_28) rfl ?_
        exact k
      by_cases hc29 : (v1 + (2 : Int32)) < v2
      · rw [if_pos hc29] at hF
        refine own_Goes.via (B := T.setTop (mkF m 36 #[.val (.ref a1), .val (.int v1), .val (.int v2), .val (.int x42), .val (.int (-1 : Int32)), .unset, .unset, .unset, .unset] [(.int (v1 + (1 : Int32))), (.ref a1)])) (fun t k => ?_) ?_
        · show Steps p.tables e below (T.setTop (mkF m 29 #[.val (.ref a1), .val (.int v1), .val (.int v2), .val (.int x42), .val (.int (-1 : Int32)), .unset, .unset, .unset, .unset] [(.int v2), (.int (v1 + (2 : Int32)))])) t
          refine XS.icmpNo X.here hx rfl (hb hby dUtf8_commonCodePoint_29) rfl (tlt hc29).2.1 ?_
          show Steps p.tables e below (T.setTop (mkF m 32 #[.val (.ref a1), .val (.int v1), .val (.int v2), .val (.int x42), .val (.int (-1 : Int32)), .unset, .unset, .unset, .unset] [])) t
          refine XS.aloadN X.here hx rfl (hb hby dUtf8_commonCodePoint_32) rfl rfl ?_
          show Steps p.tables e below (T.setTop (mkF m 33 #[.val (.ref a1), .val (.int v1), .val (.int v2), .val (.int x42), .val (.int (-1 : Int32)), .unset, .unset, .unset, .unset] [(.ref a1)])) t
          refine XS.iloadN X.here hx rfl (hb hby dUtf8_commonCodePoint_33) rfl ?_
          show Steps p.tables e below (T.setTop (mkF m 34 #[.val (.ref a1), .val (.int v1), .val (.int v2), .val (.int x42), .val (.int (-1 : Int32)), .unset, .unset, .unset, .unset] [(.int v1), (.ref a1)])) t
          refine XS.iconst X.here hx rfl (hb hby dUtf8_commonCodePoint_34) ?_
          show Steps p.tables e below (T.setTop (mkF m 35 #[.val (.ref a1), .val (.int v1), .val (.int v2), .val (.int x42), .val (.int (-1 : Int32)), .unset, .unset, .unset, .unset] [(.int (1 : Int32)), (.int v1), (.ref a1)])) t
          refine XS.iadd X.here hx rfl (hb hby dUtf8_commonCodePoint_35) rfl ?_
          exact k
        obtain ⟨x46, hx46, hF⟩ := own_lt_e hF
        rw [← hx46]
        obtain ⟨hi36, hF⟩ := own_ck_e hF
        refine own_Goes.via (B := T.setTop (mkF m 41 #[.val (.ref a1), .val (.int v1), .val (.int v2), .val (.int x42), .val (.int (-1 : Int32)), .unset, .unset, .unset, .unset] [(.int ((own_rd bs_a1 x46) &&& (255 : Int32)))])) (fun t k => ?_) ?_
        · show Steps p.tables e below (T.setTop (mkF m 36 #[.val (.ref a1), .val (.int v1), .val (.int v2), .val (.int x42), .val (.int (-1 : Int32)), .unset, .unset, .unset, .unset] [(.int x46), (.ref a1)])) t
          refine own_ldB X hx hZ eT A_a1 hi36 rfl (g := (mkF m 36 #[.val (.ref a1), .val (.int v1), .val (.int v2), .val (.int x42), .val (.int (-1 : Int32)), .unset, .unset, .unset, .unset] [(.int x46), (.ref a1)])) rfl rfl (hb hby dUtf8_commonCodePoint_36) ?_
          show Steps p.tables e below (T.setTop (mkF m 37 #[.val (.ref a1), .val (.int v1), .val (.int v2), .val (.int x42), .val (.int (-1 : Int32)), .unset, .unset, .unset, .unset] [(.int (own_rd bs_a1 x46))])) t
          refine XS.sipush X.here hx rfl (hb hby dUtf8_commonCodePoint_37) ?_
          show Steps p.tables e below (T.setTop (mkF m 40 #[.val (.ref a1), .val (.int v1), .val (.int v2), .val (.int x42), .val (.int (-1 : Int32)), .unset, .unset, .unset, .unset] [(.int (255 : Int32)), (.int (own_rd bs_a1 x46))])) t
          refine XS.iand X.here hx rfl (hb hby dUtf8_commonCodePoint_40) rfl ?_
          exact k
        obtain ⟨x47, hx47, hF⟩ := own_lt_e hF
        rw [← hx47]
        refine own_Goes.via (B := T.setTop (mkF m 47 #[.val (.ref a1), .val (.int v1), .val (.int v2), .val (.int x42), .val (.int (-1 : Int32)), .val (.int x47), .unset, .unset, .unset] [(.int (v1 + (2 : Int32))), (.ref a1)])) (fun t k => ?_) ?_
        · show Steps p.tables e below (T.setTop (mkF m 41 #[.val (.ref a1), .val (.int v1), .val (.int v2), .val (.int x42), .val (.int (-1 : Int32)), .unset, .unset, .unset, .unset] [(.int x47)])) t
          refine XS.istore X.here hx rfl (hb hby dUtf8_commonCodePoint_41) rfl (l' := #[.val (.ref a1), .val (.int v1), .val (.int v2), .val (.int x42), .val (.int (-1 : Int32)), .val (.int x47), .unset, .unset, .unset]) rfl ?_
          show Steps p.tables e below (T.setTop (mkF m 43 #[.val (.ref a1), .val (.int v1), .val (.int v2), .val (.int x42), .val (.int (-1 : Int32)), .val (.int x47), .unset, .unset, .unset] [])) t
          refine XS.aloadN X.here hx rfl (hb hby dUtf8_commonCodePoint_43) rfl rfl ?_
          show Steps p.tables e below (T.setTop (mkF m 44 #[.val (.ref a1), .val (.int v1), .val (.int v2), .val (.int x42), .val (.int (-1 : Int32)), .val (.int x47), .unset, .unset, .unset] [(.ref a1)])) t
          refine XS.iloadN X.here hx rfl (hb hby dUtf8_commonCodePoint_44) rfl ?_
          show Steps p.tables e below (T.setTop (mkF m 45 #[.val (.ref a1), .val (.int v1), .val (.int v2), .val (.int x42), .val (.int (-1 : Int32)), .val (.int x47), .unset, .unset, .unset] [(.int v1), (.ref a1)])) t
          refine XS.iconst X.here hx rfl (hb hby dUtf8_commonCodePoint_45) ?_
          show Steps p.tables e below (T.setTop (mkF m 46 #[.val (.ref a1), .val (.int v1), .val (.int v2), .val (.int x42), .val (.int (-1 : Int32)), .val (.int x47), .unset, .unset, .unset] [(.int (2 : Int32)), (.int v1), (.ref a1)])) t
          refine XS.iadd X.here hx rfl (hb hby dUtf8_commonCodePoint_46) rfl ?_
          exact k
        obtain ⟨x48, hx48, hF⟩ := own_lt_e hF
        rw [← hx48]
        obtain ⟨hi47, hF⟩ := own_ck_e hF
        refine own_Goes.via (B := T.setTop (mkF m 52 #[.val (.ref a1), .val (.int v1), .val (.int v2), .val (.int x42), .val (.int (-1 : Int32)), .val (.int x47), .unset, .unset, .unset] [(.int ((own_rd bs_a1 x48) &&& (255 : Int32)))])) (fun t k => ?_) ?_
        · show Steps p.tables e below (T.setTop (mkF m 47 #[.val (.ref a1), .val (.int v1), .val (.int v2), .val (.int x42), .val (.int (-1 : Int32)), .val (.int x47), .unset, .unset, .unset] [(.int x48), (.ref a1)])) t
          refine own_ldB X hx hZ eT A_a1 hi47 rfl (g := (mkF m 47 #[.val (.ref a1), .val (.int v1), .val (.int v2), .val (.int x42), .val (.int (-1 : Int32)), .val (.int x47), .unset, .unset, .unset] [(.int x48), (.ref a1)])) rfl rfl (hb hby dUtf8_commonCodePoint_47) ?_
          show Steps p.tables e below (T.setTop (mkF m 48 #[.val (.ref a1), .val (.int v1), .val (.int v2), .val (.int x42), .val (.int (-1 : Int32)), .val (.int x47), .unset, .unset, .unset] [(.int (own_rd bs_a1 x48))])) t
          refine XS.sipush X.here hx rfl (hb hby dUtf8_commonCodePoint_48) ?_
          show Steps p.tables e below (T.setTop (mkF m 51 #[.val (.ref a1), .val (.int v1), .val (.int v2), .val (.int x42), .val (.int (-1 : Int32)), .val (.int x47), .unset, .unset, .unset] [(.int (255 : Int32)), (.int (own_rd bs_a1 x48))])) t
          refine XS.iand X.here hx rfl (hb hby dUtf8_commonCodePoint_51) rfl ?_
          exact k
        obtain ⟨x49, hx49, hF⟩ := own_lt_e hF
        rw [← hx49]
        refine own_Goes.via (B := T.setTop (mkF m 76 #[.val (.ref a1), .val (.int v1), .val (.int v2), .val (.int x42), .val (.int (-1 : Int32)), .val (.int x47), .val (.int x49), .unset, .unset] [(.int ((((x42 &&& (15 : Int32)) <<< ((12 : Int32) &&& 31)) ||| ((x47 &&& (63 : Int32)) <<< ((6 : Int32) &&& 31))) ||| (x49 &&& (63 : Int32))))])) (fun t k => ?_) ?_
        · show Steps p.tables e below (T.setTop (mkF m 52 #[.val (.ref a1), .val (.int v1), .val (.int v2), .val (.int x42), .val (.int (-1 : Int32)), .val (.int x47), .unset, .unset, .unset] [(.int x49)])) t
          refine XS.istore X.here hx rfl (hb hby dUtf8_commonCodePoint_52) rfl (l' := #[.val (.ref a1), .val (.int v1), .val (.int v2), .val (.int x42), .val (.int (-1 : Int32)), .val (.int x47), .val (.int x49), .unset, .unset]) rfl ?_
          show Steps p.tables e below (T.setTop (mkF m 54 #[.val (.ref a1), .val (.int v1), .val (.int v2), .val (.int x42), .val (.int (-1 : Int32)), .val (.int x47), .val (.int x49), .unset, .unset] [])) t
          refine XS.iloadN X.here hx rfl (hb hby dUtf8_commonCodePoint_54) rfl ?_
          show Steps p.tables e below (T.setTop (mkF m 55 #[.val (.ref a1), .val (.int v1), .val (.int v2), .val (.int x42), .val (.int (-1 : Int32)), .val (.int x47), .val (.int x49), .unset, .unset] [(.int x42)])) t
          refine XS.bipush X.here hx rfl (hb hby dUtf8_commonCodePoint_55) ?_
          show Steps p.tables e below (T.setTop (mkF m 57 #[.val (.ref a1), .val (.int v1), .val (.int v2), .val (.int x42), .val (.int (-1 : Int32)), .val (.int x47), .val (.int x49), .unset, .unset] [(.int (15 : Int32)), (.int x42)])) t
          refine XS.iand X.here hx rfl (hb hby dUtf8_commonCodePoint_57) rfl ?_
          show Steps p.tables e below (T.setTop (mkF m 58 #[.val (.ref a1), .val (.int v1), .val (.int v2), .val (.int x42), .val (.int (-1 : Int32)), .val (.int x47), .val (.int x49), .unset, .unset] [(.int (x42 &&& (15 : Int32)))])) t
          refine XS.bipush X.here hx rfl (hb hby dUtf8_commonCodePoint_58) ?_
          show Steps p.tables e below (T.setTop (mkF m 60 #[.val (.ref a1), .val (.int v1), .val (.int v2), .val (.int x42), .val (.int (-1 : Int32)), .val (.int x47), .val (.int x49), .unset, .unset] [(.int (12 : Int32)), (.int (x42 &&& (15 : Int32)))])) t
          refine XS.ishl X.here hx rfl (hb hby dUtf8_commonCodePoint_60) rfl ?_
          show Steps p.tables e below (T.setTop (mkF m 61 #[.val (.ref a1), .val (.int v1), .val (.int v2), .val (.int x42), .val (.int (-1 : Int32)), .val (.int x47), .val (.int x49), .unset, .unset] [(.int ((x42 &&& (15 : Int32)) <<< ((12 : Int32) &&& 31)))])) t
          refine XS.iload X.here hx rfl (hb hby dUtf8_commonCodePoint_61) rfl ?_
          show Steps p.tables e below (T.setTop (mkF m 63 #[.val (.ref a1), .val (.int v1), .val (.int v2), .val (.int x42), .val (.int (-1 : Int32)), .val (.int x47), .val (.int x49), .unset, .unset] [(.int x47), (.int ((x42 &&& (15 : Int32)) <<< ((12 : Int32) &&& 31)))])) t
          refine XS.bipush X.here hx rfl (hb hby dUtf8_commonCodePoint_63) ?_
          show Steps p.tables e below (T.setTop (mkF m 65 #[.val (.ref a1), .val (.int v1), .val (.int v2), .val (.int x42), .val (.int (-1 : Int32)), .val (.int x47), .val (.int x49), .unset, .unset] [(.int (63 : Int32)), (.int x47), (.int ((x42 &&& (15 : Int32)) <<< ((12 : Int32) &&& 31)))])) t
          refine XS.iand X.here hx rfl (hb hby dUtf8_commonCodePoint_65) rfl ?_
          show Steps p.tables e below (T.setTop (mkF m 66 #[.val (.ref a1), .val (.int v1), .val (.int v2), .val (.int x42), .val (.int (-1 : Int32)), .val (.int x47), .val (.int x49), .unset, .unset] [(.int (x47 &&& (63 : Int32))), (.int ((x42 &&& (15 : Int32)) <<< ((12 : Int32) &&& 31)))])) t
          refine XS.bipush X.here hx rfl (hb hby dUtf8_commonCodePoint_66) ?_
          show Steps p.tables e below (T.setTop (mkF m 68 #[.val (.ref a1), .val (.int v1), .val (.int v2), .val (.int x42), .val (.int (-1 : Int32)), .val (.int x47), .val (.int x49), .unset, .unset] [(.int (6 : Int32)), (.int (x47 &&& (63 : Int32))), (.int ((x42 &&& (15 : Int32)) <<< ((12 : Int32) &&& 31)))])) t
          refine XS.ishl X.here hx rfl (hb hby dUtf8_commonCodePoint_68) rfl ?_
          show Steps p.tables e below (T.setTop (mkF m 69 #[.val (.ref a1), .val (.int v1), .val (.int v2), .val (.int x42), .val (.int (-1 : Int32)), .val (.int x47), .val (.int x49), .unset, .unset] [(.int ((x47 &&& (63 : Int32)) <<< ((6 : Int32) &&& 31))), (.int ((x42 &&& (15 : Int32)) <<< ((12 : Int32) &&& 31)))])) t
          refine XS.ior X.here hx rfl (hb hby dUtf8_commonCodePoint_69) rfl ?_
          show Steps p.tables e below (T.setTop (mkF m 70 #[.val (.ref a1), .val (.int v1), .val (.int v2), .val (.int x42), .val (.int (-1 : Int32)), .val (.int x47), .val (.int x49), .unset, .unset] [(.int (((x42 &&& (15 : Int32)) <<< ((12 : Int32) &&& 31)) ||| ((x47 &&& (63 : Int32)) <<< ((6 : Int32) &&& 31))))])) t
          refine XS.iload X.here hx rfl (hb hby dUtf8_commonCodePoint_70) rfl ?_
          show Steps p.tables e below (T.setTop (mkF m 72 #[.val (.ref a1), .val (.int v1), .val (.int v2), .val (.int x42), .val (.int (-1 : Int32)), .val (.int x47), .val (.int x49), .unset, .unset] [(.int x49), (.int (((x42 &&& (15 : Int32)) <<< ((12 : Int32) &&& 31)) ||| ((x47 &&& (63 : Int32)) <<< ((6 : Int32) &&& 31))))])) t
          refine XS.bipush X.here hx rfl (hb hby dUtf8_commonCodePoint_72) ?_
          show Steps p.tables e below (T.setTop (mkF m 74 #[.val (.ref a1), .val (.int v1), .val (.int v2), .val (.int x42), .val (.int (-1 : Int32)), .val (.int x47), .val (.int x49), .unset, .unset] [(.int (63 : Int32)), (.int x49), (.int (((x42 &&& (15 : Int32)) <<< ((12 : Int32) &&& 31)) ||| ((x47 &&& (63 : Int32)) <<< ((6 : Int32) &&& 31))))])) t
          refine XS.iand X.here hx rfl (hb hby dUtf8_commonCodePoint_74) rfl ?_
          show Steps p.tables e below (T.setTop (mkF m 75 #[.val (.ref a1), .val (.int v1), .val (.int v2), .val (.int x42), .val (.int (-1 : Int32)), .val (.int x47), .val (.int x49), .unset, .unset] [(.int (x49 &&& (63 : Int32))), (.int (((x42 &&& (15 : Int32)) <<< ((12 : Int32) &&& 31)) ||| ((x47 &&& (63 : Int32)) <<< ((6 : Int32) &&& 31))))])) t
          refine XS.ior X.here hx rfl (hb hby dUtf8_commonCodePoint_75) rfl ?_
          exact k
        obtain ⟨x50, hx50, hF⟩ := own_lt_e hF
        rw [← hx50]
        refine own_Goes.via (B := T.setTop (mkF m 96 #[.val (.ref a1), .val (.int v1), .val (.int v2), .val (.int x42), .val (.int (-1 : Int32)), .val (.int x47), .val (.int x49), .val (.int x50), .unset] [(.int (32896 : Int32)), (.int (((x47 &&& (192 : Int32)) <<< ((8 : Int32) &&& 31)) ||| (x49 &&& (192 : Int32))))])) (fun t k => ?_) ?_
        · show Steps p.tables e below (T.setTop (mkF m 76 #[.val (.ref a1), .val (.int v1), .val (.int v2), .val (.int x42), .val (.int (-1 : Int32)), .val (.int x47), .val (.int x49), .unset, .unset] [(.int x50)])) t
          refine XS.istore X.here hx rfl (hb hby dUtf8_commonCodePoint_76) rfl (l' := #[.val (.ref a1), .val (.int v1), .val (.int v2), .val (.int x42), .val (.int (-1 : Int32)), .val (.int x47), .val (.int x49), .val (.int x50), .unset]) rfl ?_
          show Steps p.tables e below (T.setTop (mkF m 78 #[.val (.ref a1), .val (.int v1), .val (.int v2), .val (.int x42), .val (.int (-1 : Int32)), .val (.int x47), .val (.int x49), .val (.int x50), .unset] [])) t
          refine XS.iload X.here hx rfl (hb hby dUtf8_commonCodePoint_78) rfl ?_
          show Steps p.tables e below (T.setTop (mkF m 80 #[.val (.ref a1), .val (.int v1), .val (.int v2), .val (.int x42), .val (.int (-1 : Int32)), .val (.int x47), .val (.int x49), .val (.int x50), .unset] [(.int x47)])) t
          refine XS.sipush X.here hx rfl (hb hby dUtf8_commonCodePoint_80) ?_
          show Steps p.tables e below (T.setTop (mkF m 83 #[.val (.ref a1), .val (.int v1), .val (.int v2), .val (.int x42), .val (.int (-1 : Int32)), .val (.int x47), .val (.int x49), .val (.int x50), .unset] [(.int (192 : Int32)), (.int x47)])) t
          refine XS.iand X.here hx rfl (hb hby dUtf8_commonCodePoint_83) rfl ?_
          show Steps p.tables e below (T.setTop (mkF m 84 #[.val (.ref a1), .val (.int v1), .val (.int v2), .val (.int x42), .val (.int (-1 : Int32)), .val (.int x47), .val (.int x49), .val (.int x50), .unset] [(.int (x47 &&& (192 : Int32)))])) t
          refine XS.bipush X.here hx rfl (hb hby dUtf8_commonCodePoint_84) ?_
          show Steps p.tables e below (T.setTop (mkF m 86 #[.val (.ref a1), .val (.int v1), .val (.int v2), .val (.int x42), .val (.int (-1 : Int32)), .val (.int x47), .val (.int x49), .val (.int x50), .unset] [(.int (8 : Int32)), (.int (x47 &&& (192 : Int32)))])) t
          refine XS.ishl X.here hx rfl (hb hby dUtf8_commonCodePoint_86) rfl ?_
          show Steps p.tables e below (T.setTop (mkF m 87 #[.val (.ref a1), .val (.int v1), .val (.int v2), .val (.int x42), .val (.int (-1 : Int32)), .val (.int x47), .val (.int x49), .val (.int x50), .unset] [(.int ((x47 &&& (192 : Int32)) <<< ((8 : Int32) &&& 31)))])) t
          refine XS.iload X.here hx rfl (hb hby dUtf8_commonCodePoint_87) rfl ?_
          show Steps p.tables e below (T.setTop (mkF m 89 #[.val (.ref a1), .val (.int v1), .val (.int v2), .val (.int x42), .val (.int (-1 : Int32)), .val (.int x47), .val (.int x49), .val (.int x50), .unset] [(.int x49), (.int ((x47 &&& (192 : Int32)) <<< ((8 : Int32) &&& 31)))])) t
          refine XS.sipush X.here hx rfl (hb hby dUtf8_commonCodePoint_89) ?_
          show Steps p.tables e below (T.setTop (mkF m 92 #[.val (.ref a1), .val (.int v1), .val (.int v2), .val (.int x42), .val (.int (-1 : Int32)), .val (.int x47), .val (.int x49), .val (.int x50), .unset] [(.int (192 : Int32)), (.int x49), (.int ((x47 &&& (192 : Int32)) <<< ((8 : Int32) &&& 31)))])) t
          refine XS.iand X.here hx rfl (hb hby dUtf8_commonCodePoint_92) rfl ?_
          show Steps p.tables e below (T.setTop (mkF m 93 #[.val (.ref a1), .val (.int v1), .val (.int v2), .val (.int x42), .val (.int (-1 : Int32)), .val (.int x47), .val (.int x49), .val (.int x50), .unset] [(.int (x49 &&& (192 : Int32))), (.int ((x47 &&& (192 : Int32)) <<< ((8 : Int32) &&& 31)))])) t
          refine XS.ior X.here hx rfl (hb hby dUtf8_commonCodePoint_93) rfl ?_
          show Steps p.tables e below (T.setTop (mkF m 94 #[.val (.ref a1), .val (.int v1), .val (.int v2), .val (.int x42), .val (.int (-1 : Int32)), .val (.int x47), .val (.int x49), .val (.int x50), .unset] [(.int (((x47 &&& (192 : Int32)) <<< ((8 : Int32) &&& 31)) ||| (x49 &&& (192 : Int32))))])) t
          refine X.ldcInt hx hown (mvT hZ (w10 hw)) (g := (mkF m 94 #[.val (.ref a1), .val (.int v1), .val (.int v2), .val (.int x42), .val (.int (-1 : Int32)), .val (.int x47), .val (.int x49), .val (.int x50), .unset] [(.int (((x47 &&& (192 : Int32)) <<< ((8 : Int32) &&& 31)) ||| (x49 &&& (192 : Int32))))])) rfl (hb hby dUtf8_commonCodePoint_94) _ ?_
          exact k
        by_cases hc96 : (((x47 &&& (192 : Int32)) <<< ((8 : Int32) &&& 31)) ||| (x49 &&& (192 : Int32))) = (32896 : Int32)
        · rw [if_pos hc96] at hF
          refine own_Goes.via (B := T.setTop (mkF m 104 #[.val (.ref a1), .val (.int v1), .val (.int v2), .val (.int x42), .val (.int (-1 : Int32)), .val (.int x47), .val (.int x49), .val (.int x50), .unset] [(.int (1 : Int32))])) (fun t k => ?_) ?_
          · show Steps p.tables e below (T.setTop (mkF m 96 #[.val (.ref a1), .val (.int v1), .val (.int v2), .val (.int x42), .val (.int (-1 : Int32)), .val (.int x47), .val (.int x49), .val (.int x50), .unset] [(.int (32896 : Int32)), (.int (((x47 &&& (192 : Int32)) <<< ((8 : Int32) &&& 31)) ||| (x49 &&& (192 : Int32))))])) t
            refine XS.icmpNo X.here hx rfl (hb hby dUtf8_commonCodePoint_96) rfl (teq hc96).2 ?_
            show Steps p.tables e below (T.setTop (mkF m 99 #[.val (.ref a1), .val (.int v1), .val (.int v2), .val (.int x42), .val (.int (-1 : Int32)), .val (.int x47), .val (.int x49), .val (.int x50), .unset] [])) t
            refine XS.iconst X.here hx rfl (hb hby dUtf8_commonCodePoint_99) ?_
            show Steps p.tables e below (T.setTop (mkF m 100 #[.val (.ref a1), .val (.int v1), .val (.int v2), .val (.int x42), .val (.int (-1 : Int32)), .val (.int x47), .val (.int x49), .val (.int x50), .unset] [(.int (1 : Int32))])) t
            refine XS.goto X.here hx rfl (pc0 := 100) (pc' := 104) rfl (hb hby dUtf8_commonCodePoint_100) (by decide) (by decide) ?_
            exact k
          exact b_Utf8_commonCodePoint_104 cx a1 X eT N z (-1 : Int32) x50 (1 : Int32) bs_a1 (.val (.ref a1)) (.val (.int v1)) (.val (.int v2)) (.val (.int x42)) (.val (.int x47)) (.val (.int x49)) (.unset) (One.val rfl) (One.val rfl) (One.val rfl) (One.val rfl) (One.val rfl) (One.val rfl) One.u A_a1 g_a1 _ hF
        · rw [if_neg hc96] at hF
          refine own_Goes.via (B := T.setTop (mkF m 104 #[.val (.ref a1), .val (.int v1), .val (.int v2), .val (.int x42), .val (.int (-1 : Int32)), .val (.int x47), .val (.int x49), .val (.int x50), .unset] [(.int (0 : Int32))])) (fun t k => ?_) ?_
          · show Steps p.tables e below (T.setTop (mkF m 96 #[.val (.ref a1), .val (.int v1), .val (.int v2), .val (.int x42), .val (.int (-1 : Int32)), .val (.int x47), .val (.int x49), .val (.int x50), .unset] [(.int (32896 : Int32)), (.int (((x47 &&& (192 : Int32)) <<< ((8 : Int32) &&& 31)) ||| (x49 &&& (192 : Int32))))])) t
            refine XS.icmpYes X.here hx rfl (pc0 := 96) (pc' := 103) rfl (hb hby dUtf8_commonCodePoint_96) rfl (feq hc96).2 (by decide) (by decide) ?_
            show Steps p.tables e below (T.setTop (mkF m 103 #[.val (.ref a1), .val (.int v1), .val (.int v2), .val (.int x42), .val (.int (-1 : Int32)), .val (.int x47), .val (.int x49), .val (.int x50), .unset] [])) t
            refine XS.iconst X.here hx rfl (hb hby dUtf8_commonCodePoint_103) ?_
            exact k
          exact b_Utf8_commonCodePoint_104 cx a1 X eT N z (-1 : Int32) x50 (0 : Int32) bs_a1 (.val (.ref a1)) (.val (.int v1)) (.val (.int v2)) (.val (.int x42)) (.val (.int x47)) (.val (.int x49)) (.unset) (One.val rfl) (One.val rfl) (One.val rfl) (One.val rfl) (One.val rfl) (One.val rfl) One.u A_a1 g_a1 _ hF
      · rw [if_neg hc29] at hF
        refine own_Goes.via (B := T.setTop (mkF m 187 #[.val (.ref a1), .val (.int v1), .val (.int v2), .val (.int x42), .val (.int (-1 : Int32)), .unset, .unset, .unset, .unset] [(.int (-1 : Int32))])) (fun t k => ?_) ?_
        · show Steps p.tables e below (T.setTop (mkF m 29 #[.val (.ref a1), .val (.int v1), .val (.int v2), .val (.int x42), .val (.int (-1 : Int32)), .unset, .unset, .unset, .unset] [(.int v2), (.int (v1 + (2 : Int32)))])) t
          refine XS.icmpYes X.here hx rfl (pc0 := 29) (pc' := 185) rfl (hb hby dUtf8_commonCodePoint_29) rfl (flt hc29).2.1 (by decide) (by decide) ?_
          show Steps p.tables e below (T.setTop (mkF m 185 #[.val (.ref a1), .val (.int v1), .val (.int v2), .val (.int x42), .val (.int (-1 : Int32)), .unset, .unset, .unset, .unset] [])) t
          refine XS.iload X.here hx rfl (hb hby dUtf8_commonCodePoint_185) rfl ?_
          exact k
        obtain rfl : (-1 : Int32) = r := Option.some.inj hF
        exact own_retI X hx hret hlk (hb hby dUtf8_commonCodePoint_187) eT ⟨rfl, N, rfl⟩ (by decide) (by decide)
    · rw [if_neg hc22] at hF
      refine own_Goes.via (B := T.setTop (mkF m 187 #[.val (.ref a1), .val (.int v1), .val (.int v2), .val (.int x42), .val (.int (-1 : Int32)), .unset, .unset, .unset, .unset] [(.int (-1 : Int32))])) (fun t k => ?_) ?_
      · show Steps p.tables e below (T.setTop (mkF m 22 #[.val (.ref a1), .val (.int v1), .val (.int v2), .val (.int x42), .val (.int (-1 : Int32)), .unset, .unset, .unset, .unset] [(.int (240 : Int32)), (.int x42)])) t
        refine XS.icmpYes X.here hx rfl (pc0 := 22) (pc' := 185) rfl (hb hby dUtf8_commonCodePoint_22) rfl (flt hc22).2.1 (by decide) (by decide) ?_
        show Steps p.tables e below (T.setTop (mkF m 185 #[.val (.ref a1), .val (.int v1), .val (.int v2), .val (.int x42), .val (.int (-1 : Int32)), .unset, .unset, .unset, .unset] [])) t
        refine XS.iload X.here hx rfl (hb hby dUtf8_commonCodePoint_185) rfl ?_
        exact k
      obtain rfl : (-1 : Int32) = r := Option.some.inj hF
      exact own_retI X hx hret hlk (hb hby dUtf8_commonCodePoint_187) eT ⟨rfl, N, rfl⟩ (by decide) (by decide)
theorem ef_Utf8_commonCodePoint (m : MethodId) (x0 : Addr) (x1 : Int32) (x2 : Int32) : entryFrame m #[(.ref x0), (.int x1), (.int x2)] 9 = mkF m 0 #[.val (.ref x0), .val (.int x1), .val (.int x2), .unset, .unset, .unset, .unset, .unset, .unset] [] := by first | (simp [entryFrame, mkF, argsToLocals, Value.category]; done) | rfl
set_option maxRecDepth 65536 in
set_option maxHeartbeats 4000000 in
theorem rm_Utf8_commonCodePoint (l : Launch) (Z : State) (a0 : Array Value) (hw : ∀ d ∈ tables_1, d.before a0 Z = true) (ws : List Jvm.Cond) (hE : Heap) (n0 : Nat) (z : n0 ≤ hE.size) (a1 : Addr) (v1 : Int32) (v2 : Int32) (bs_a1 : List Int32) (A_a1 : own_Ar Z hE a1 .byte (bs_a1.map Value.int)) (g_a1 : n0 ≤ a1) (r : Int32) (hF : (f_Utf8_commonCodePoint v1 v2 bs_a1) = some r) :
    MetFree l (⟨"com/example/binary64/binary64/Utf8", "commonCodePoint", "([BII)I"⟩ : MethodName) (head1 (Jvm.Cond.code (⟨"com/example/binary64/binary64/Utf8", "commonCodePoint", "([BII)I"⟩ : MethodName) prog_50_method_4_code 9 (some .int) :: ws) ({ frames := 0, cells := 0, slots := 0, locals := 0 } : Room)) (fun a U => a = #[(.ref a1), (.int v1), (.int v2)] ∧ Z.Warmed39 U.vm ∧ U.heap = hE) (fun _ _ _ _ _ => True) (fun _ U o U' => ∃ v L, o = .returned v ∧ (Q_Utf8_commonCodePoint Z hE n0 a1 r) v U'.heap L ∧ FrameEnd U o U' L ({ frames := 0, cells := 0, slots := 0, locals := 0 } : Room).cells ({ frames := 0, cells := 0, slots := 0, locals := 0 } : Room).slots) := by
  refine MetFree.of_bodySF (plainFor_of_name pn_com_example_binary64_binary64_Utf8) hisR ?_
  intro p e s m args below meth c s₁ Bd hml0 hP hK
  obtain ⟨rfl, hZ, hh⟩ := hP
  have X0 : Stand p l e ({ frames := 0, cells := 0, slots := 0, locals := 0 } : Room) s m #[(.ref a1), (.int v1), (.int v2)] below meth c s₁ [] 0 0 := Stand.of_body Bd
  have e0 : s₁.heap = hE := by rw [← hh, Bd.state]; rfl
  have cx : Cx_Utf8_commonCodePoint p s m meth c Z a0 := ⟨Bd.exec, hZ, hw, Bd.bytes, hml0, findClass_of_methodNamed Bd.named, Bd.returns, Bd.notSynchronized, (name_of_methodNamed Bd.named Bd.method).1⟩
  show own_Goes p e below s (Q_Utf8_commonCodePoint Z hE n0 a1 r) ({ frames := 0, cells := 0, slots := 0, locals := 0 } : Room).cells ({ frames := 0, cells := 0, slots := 0, locals := 0 } : Room).slots (s₁.setTop (entryFrame m #[(.ref a1), (.int v1), (.int v2)] 9))
  rw [ef_Utf8_commonCodePoint]
  exact b_Utf8_commonCodePoint cx a1 X0 e0 (Fr.nil n0) z v1 v2 bs_a1 A_a1 g_a1 _ hF
/-! com/example/binary64/binary64/Utf8CommonCodePointPinLaw.isContinuation:(I)Z -/
def f_Utf8CommonCodePointPinLaw_isContinuation (v0 : Int32) : Option (Int32) :=
  if v0 < (128 : Int32) then
    some (0 : Int32)
  else
    if (191 : Int32) < v0 then
      some (0 : Int32)
    else
      some (1 : Int32)
def Q_Utf8CommonCodePointPinLaw_isContinuation (Z : State) (hE : Heap) (n0 : Nat)  (r : Int32) (v : Option Value) (h : Heap) (L : List Loc) : Prop := v = some (.int r) ∧ Fr n0 L ∧ h = hE
def Cx_Utf8CommonCodePointPinLaw_isContinuation (p : Program) (s : State) (m : MethodId) (meth : Method) (c : Code) (Z : State) (a0 : Array Value) : Prop := p.tables.exec = Jvm.exec ∧ Z.Warmed39 s.vm ∧ (∀ d ∈ tables_1, d.before a0 Z = true) ∧ c.code = method_2_code ∧ c.maxLocals = 1 ∧ s.vm.findClass "com/example/binary64/binary64/Utf8CommonCodePointPinLaw" = some m.cls ∧ meth.sig.returnType = some .boolean ∧ meth.locks = false ∧ meth.name = "isContinuation"
set_option maxRecDepth 65536 in
set_option maxHeartbeats 4000000 in
theorem b_Utf8CommonCodePointPinLaw_isContinuation {p : Program} {l : Launch} {e : Env} {s : State} {m : MethodId} {args : Array Value} {below : List Frame} {meth : Method} {c : Code} {Z : State} {a0 : Array Value} {n0 : Nat} {hE : Heap} (cx : Cx_Utf8CommonCodePointPinLaw_isContinuation p s m meth c Z a0) :
    ∀ {T : State} {locs : List Loc} (X : Stand p l e ({ frames := 0, cells := 0, slots := 0, locals := 0 } : Room) s m args below meth c T locs 0 0) (eT : T.heap = hE) (N : Fr n0 locs) (z : n0 ≤ hE.size) (v0 : Int32) (r : Int32), f_Utf8CommonCodePointPinLaw_isContinuation v0 = some r → own_Goes p e below s (Q_Utf8CommonCodePointPinLaw_isContinuation Z hE n0 r) 0 0 (T.setTop (mkF m 0 #[.val (.int v0)] [])) := by
  have cx' := cx
  obtain ⟨hx, hZ, hw, hby, hml, hown, hret, hlk, hnm⟩ := cx'
  intro T locs X eT N z v0 r hF
  unfold f_Utf8CommonCodePointPinLaw_isContinuation at hF
  refine own_Goes.via (B := T.setTop (mkF m 4 #[.val (.int v0)] [(.int (128 : Int32)), (.int v0)])) (fun t k => ?_) ?_
  · show Steps p.tables e below (T.setTop (mkF m 0 #[.val (.int v0)] [])) t
    refine XS.iloadN X.here hx rfl (hb hby dUtf8CommonCodePointPinLaw_isContinuation_0) rfl ?_
    show Steps p.tables e below (T.setTop (mkF m 1 #[.val (.int v0)] [(.int v0)])) t
    refine XS.sipush X.here hx rfl (hb hby dUtf8CommonCodePointPinLaw_isContinuation_1) ?_
    exact k
  by_cases hc4 : v0 < (128 : Int32)
  · rw [if_pos hc4] at hF
    refine own_Goes.via (B := T.setTop (mkF m 19 #[.val (.int v0)] [(.int (0 : Int32))])) (fun t k => ?_) ?_
    · show Steps p.tables e below (T.setTop (mkF m 4 #[.val (.int v0)] [(.int (128 : Int32)), (.int v0)])) t
      refine XS.icmpYes X.here hx rfl (pc0 := 4) (pc' := 18) rfl (hb hby dUtf8CommonCodePointPinLaw_isContinuation_4) rfl (tlt hc4).1 (by decide) (by decide) ?_
      show Steps p.tables e below (T.setTop (mkF m 18 #[.val (.int v0)] [])) t
      refine XS.iconst X.here hx rfl (hb hby dUtf8CommonCodePointPinLaw_isContinuation_18) ?_
      exact k
    obtain rfl : (0 : Int32) = r := Option.some.inj hF
    exact own_retN X hx (t := .boolean) hret hlk (by simp) (hb hby dUtf8CommonCodePointPinLaw_isContinuation_19) eT (v := (0 : Int32)) (by decide) ⟨rfl, N, rfl⟩ (by decide) (by decide)
  · rw [if_neg hc4] at hF
    refine own_Goes.via (B := T.setTop (mkF m 11 #[.val (.int v0)] [(.int (191 : Int32)), (.int v0)])) (fun t k => ?_) ?_
    · show Steps p.tables e below (T.setTop (mkF m 4 #[.val (.int v0)] [(.int (128 : Int32)), (.int v0)])) t
      refine XS.icmpNo X.here hx rfl (hb hby dUtf8CommonCodePointPinLaw_isContinuation_4) rfl (flt hc4).1 ?_
      show Steps p.tables e below (T.setTop (mkF m 7 #[.val (.int v0)] [])) t
      refine XS.iloadN X.here hx rfl (hb hby dUtf8CommonCodePointPinLaw_isContinuation_7) rfl ?_
      show Steps p.tables e below (T.setTop (mkF m 8 #[.val (.int v0)] [(.int v0)])) t
      refine XS.sipush X.here hx rfl (hb hby dUtf8CommonCodePointPinLaw_isContinuation_8) ?_
      exact k
    by_cases hc11 : (191 : Int32) < v0
    · rw [if_pos hc11] at hF
      refine own_Goes.via (B := T.setTop (mkF m 19 #[.val (.int v0)] [(.int (0 : Int32))])) (fun t k => ?_) ?_
      · show Steps p.tables e below (T.setTop (mkF m 11 #[.val (.int v0)] [(.int (191 : Int32)), (.int v0)])) t
        refine XS.icmpYes X.here hx rfl (pc0 := 11) (pc' := 18) rfl (hb hby dUtf8CommonCodePointPinLaw_isContinuation_11) rfl (tlt hc11).2.2.1 (by decide) (by decide) ?_
        show Steps p.tables e below (T.setTop (mkF m 18 #[.val (.int v0)] [])) t
        refine XS.iconst X.here hx rfl (hb hby dUtf8CommonCodePointPinLaw_isContinuation_18) ?_
        exact k
      obtain rfl : (0 : Int32) = r := Option.some.inj hF
      exact own_retN X hx (t := .boolean) hret hlk (by simp) (hb hby dUtf8CommonCodePointPinLaw_isContinuation_19) eT (v := (0 : Int32)) (by decide) ⟨rfl, N, rfl⟩ (by decide) (by decide)
    · rw [if_neg hc11] at hF
      refine own_Goes.via (B := T.setTop (mkF m 19 #[.val (.int v0)] [(.int (1 : Int32))])) (fun t k => ?_) ?_
      · show Steps p.tables e below (T.setTop (mkF m 11 #[.val (.int v0)] [(.int (191 : Int32)), (.int v0)])) t
        refine XS.icmpNo X.here hx rfl (hb hby dUtf8CommonCodePointPinLaw_isContinuation_11) rfl (flt hc11).2.2.1 ?_
        show Steps p.tables e below (T.setTop (mkF m 14 #[.val (.int v0)] [])) t
        refine XS.iconst X.here hx rfl (hb hby dUtf8CommonCodePointPinLaw_isContinuation_14) ?_
        show Steps p.tables e below (T.setTop (mkF m 15 #[.val (.int v0)] [(.int (1 : Int32))])) t
        refine XS.goto X.here hx rfl (pc0 := 15) (pc' := 19) rfl (hb hby dUtf8CommonCodePointPinLaw_isContinuation_15) (by decide) (by decide) ?_
        exact k
      obtain rfl : (1 : Int32) = r := Option.some.inj hF
      exact own_retN X hx (t := .boolean) hret hlk (by simp) (hb hby dUtf8CommonCodePointPinLaw_isContinuation_19) eT (v := (1 : Int32)) (by decide) ⟨rfl, N, rfl⟩ (by decide) (by decide)
theorem ef_Utf8CommonCodePointPinLaw_isContinuation (m : MethodId) (x0 : Int32) : entryFrame m #[(.int x0)] 1 = mkF m 0 #[.val (.int x0)] [] := by first | (simp [entryFrame, mkF, argsToLocals, Value.category]; done) | rfl
set_option maxRecDepth 65536 in
set_option maxHeartbeats 4000000 in
theorem rm_Utf8CommonCodePointPinLaw_isContinuation (l : Launch) (Z : State) (a0 : Array Value) (hw : ∀ d ∈ tables_1, d.before a0 Z = true) (ws : List Jvm.Cond) (hE : Heap) (n0 : Nat) (z : n0 ≤ hE.size)  (v0 : Int32) (r : Int32) (hF : (f_Utf8CommonCodePointPinLaw_isContinuation v0) = some r) :
    MetFree l (⟨"com/example/binary64/binary64/Utf8CommonCodePointPinLaw", "isContinuation", "(I)Z"⟩ : MethodName) (head1 (Jvm.Cond.code (⟨"com/example/binary64/binary64/Utf8CommonCodePointPinLaw", "isContinuation", "(I)Z"⟩ : MethodName) method_2_code 1 (some .boolean) :: ws) ({ frames := 0, cells := 0, slots := 0, locals := 0 } : Room)) (fun a U => a = #[(.int v0)] ∧ Z.Warmed39 U.vm ∧ U.heap = hE) (fun _ _ _ _ _ => True) (fun _ U o U' => ∃ v L, o = .returned v ∧ (Q_Utf8CommonCodePointPinLaw_isContinuation Z hE n0 r) v U'.heap L ∧ FrameEnd U o U' L ({ frames := 0, cells := 0, slots := 0, locals := 0 } : Room).cells ({ frames := 0, cells := 0, slots := 0, locals := 0 } : Room).slots) := by
  refine MetFree.of_bodySF (plainFor_of_name pn_com_example_binary64_binary64_Utf8CommonCodePointPinLaw) hisR ?_
  intro p e s m args below meth c s₁ Bd hml0 hP hK
  obtain ⟨rfl, hZ, hh⟩ := hP
  have X0 : Stand p l e ({ frames := 0, cells := 0, slots := 0, locals := 0 } : Room) s m #[(.int v0)] below meth c s₁ [] 0 0 := Stand.of_body Bd
  have e0 : s₁.heap = hE := by rw [← hh, Bd.state]; rfl
  have cx : Cx_Utf8CommonCodePointPinLaw_isContinuation p s m meth c Z a0 := ⟨Bd.exec, hZ, hw, Bd.bytes, hml0, findClass_of_methodNamed Bd.named, Bd.returns, Bd.notSynchronized, (name_of_methodNamed Bd.named Bd.method).1⟩
  show own_Goes p e below s (Q_Utf8CommonCodePointPinLaw_isContinuation Z hE n0 r) ({ frames := 0, cells := 0, slots := 0, locals := 0 } : Room).cells ({ frames := 0, cells := 0, slots := 0, locals := 0 } : Room).slots (s₁.setTop (entryFrame m #[(.int v0)] 1))
  rw [ef_Utf8CommonCodePointPinLaw_isContinuation]
  exact b_Utf8CommonCodePointPinLaw_isContinuation cx X0 e0 (Fr.nil n0) z v0 _ hF
/-! com/example/binary64/binary64/Utf8CommonCodePointPinLaw.law:(III)Z -/
def f_law_226 (v4 : Int32) (v5 : Int32) (v6 : Int32) (v7 : Int32) (v8 : Int32) (bs_b1 : List Int32) : Option (Int32) :=
  own_lt ((((v6 - (224 : Int32)) * (4096 : Int32)) + ((v7 - (128 : Int32)) * (64 : Int32))) + (v8 - (128 : Int32))) fun x117 =>
  own_bd (f_Utf8_commonCodePoint v4 v5 bs_b1) fun r118 =>
  if r118 = x117 then
    some (1 : Int32)
  else
    some (0 : Int32)
def f_law_210 (v4 : Int32) (v5 : Int32) (v6 : Int32) (v7 : Int32) (v8 : Int32) (v9 : Int32) (bs_b1 : List Int32) : Option (Int32) :=
  if v6 = (237 : Int32) then
    if (159 : Int32) < v7 then
      own_bd (f_Utf8_commonCodePoint v4 v5 bs_b1) fun r119 =>
      if r119 = v9 then
        some (1 : Int32)
      else
        some (0 : Int32)
    else
      (f_law_226 v4 v5 v6 v7 v8 bs_b1)
  else
    (f_law_226 v4 v5 v6 v7 v8 bs_b1)
def f_law_162 (v4 : Int32) (v5 : Int32) (v6 : Int32) (v7 : Int32) (v8 : Int32) (v9 : Int32) (bs_b1 : List Int32) : Option (Int32) :=
  if v6 < (224 : Int32) then
    own_bd (f_Utf8_commonCodePoint v4 v5 bs_b1) fun r120 =>
    if r120 = v9 then
      some (1 : Int32)
    else
      some (0 : Int32)
  else
    if (237 : Int32) < v6 then
      own_bd (f_Utf8_commonCodePoint v4 v5 bs_b1) fun r121 =>
      if r121 = v9 then
        some (1 : Int32)
      else
        some (0 : Int32)
    else
      own_bd (f_Utf8CommonCodePointPinLaw_isContinuation v7) fun r122 =>
      if r122 = (0 : Int32) then
        own_bd (f_Utf8_commonCodePoint v4 v5 bs_b1) fun r123 =>
        if r123 = v9 then
          some (1 : Int32)
        else
          some (0 : Int32)
      else
        own_bd (f_Utf8CommonCodePointPinLaw_isContinuation v8) fun r124 =>
        if r124 = (0 : Int32) then
          own_bd (f_Utf8_commonCodePoint v4 v5 bs_b1) fun r125 =>
          if r125 = v9 then
            some (1 : Int32)
          else
            some (0 : Int32)
        else
          if v6 = (224 : Int32) then
            if v7 < (160 : Int32) then
              own_bd (f_Utf8_commonCodePoint v4 v5 bs_b1) fun r126 =>
              if r126 = v9 then
                some (1 : Int32)
              else
                some (0 : Int32)
            else
              (f_law_210 v4 v5 v6 v7 v8 v9 bs_b1)
          else
            (f_law_210 v4 v5 v6 v7 v8 v9 bs_b1)
def f_law_112 (v4 : Int32) (v5 : Int32) (v6 : Int32) (v7 : Int32) (t0 : Int32) (bs_b1 : List Int32) : Option (Int32) :=
  if v6 < (194 : Int32) then
    (f_law_162 v4 v5 v6 v7 t0 (-1 : Int32) bs_b1)
  else
    if (223 : Int32) < v6 then
      (f_law_162 v4 v5 v6 v7 t0 (-1 : Int32) bs_b1)
    else
      own_bd (f_Utf8CommonCodePointPinLaw_isContinuation v7) fun r131 =>
      if r131 = (0 : Int32) then
        own_bd (f_Utf8_commonCodePoint v4 v5 bs_b1) fun r132 =>
        if r132 = (-1 : Int32) then
          some (1 : Int32)
        else
          some (0 : Int32)
      else
        own_lt (((v6 - (192 : Int32)) * (64 : Int32)) + (v7 - (128 : Int32))) fun x133 =>
        own_bd (f_Utf8_commonCodePoint v4 v5 bs_b1) fun r134 =>
        if r134 = x133 then
          some (1 : Int32)
        else
          some (0 : Int32)
def f_law_87 (v4 : Int32) (v5 : Int32) (v6 : Int32) (t0 : Int32) (bs_b1 : List Int32) : Option (Int32) :=
  if (v4 + (2 : Int32)) < v5 then
    own_lt (v4 + (2 : Int32)) fun x135 =>
    own_ck (own_inb bs_b1 x135) <|
    (f_law_112 v4 v5 v6 t0 ((own_rd bs_b1 x135) &&& (255 : Int32)) bs_b1)
  else
    (f_law_112 v4 v5 v6 t0 (-1 : Int32) bs_b1)
def f_law (v0 : Int32) (v1 : Int32) (v2 : Int32) : Option (Int32) :=
  own_lt (v0.toInt8.toInt32) fun x137 =>
  own_lt (((v0.toUInt32 >>> ((8 : Int32) &&& 31).toUInt32).toInt32).toInt8.toInt32) fun x139 =>
  own_lt (((v0.toUInt32 >>> ((16 : Int32) &&& 31).toUInt32).toInt32).toInt8.toInt32) fun x141 =>
  own_lt (((v0.toUInt32 >>> ((24 : Int32) &&& 31).toUInt32).toInt32).toInt8.toInt32) fun x143 =>
  own_lt (v1 &&& (1 : Int32)) fun x145 =>
  own_ck (¬ ((4 : Int32) - x145) = (0 : Int32)) <|
  own_lt ((x145 + (1 : Int32)) + ((v2 &&& (2147483647 : Int32)) % ((4 : Int32) - x145))) fun x146 =>
  own_ck (own_inb ([(x137.toInt8.toInt32), (x139.toInt8.toInt32), (x141.toInt8.toInt32), (x143.toInt8.toInt32)] : List Int32) x145) <|
  own_lt ((own_rd ([(x137.toInt8.toInt32), (x139.toInt8.toInt32), (x141.toInt8.toInt32), (x143.toInt8.toInt32)] : List Int32) x145) &&& (255 : Int32)) fun x147 =>
  if (x145 + (1 : Int32)) < x146 then
    own_lt (x145 + (1 : Int32)) fun x148 =>
    own_ck (own_inb ([(x137.toInt8.toInt32), (x139.toInt8.toInt32), (x141.toInt8.toInt32), (x143.toInt8.toInt32)] : List Int32) x148) <|
    (f_law_87 x145 x146 x147 ((own_rd ([(x137.toInt8.toInt32), (x139.toInt8.toInt32), (x141.toInt8.toInt32), (x143.toInt8.toInt32)] : List Int32) x148) &&& (255 : Int32)) ([(x137.toInt8.toInt32), (x139.toInt8.toInt32), (x141.toInt8.toInt32), (x143.toInt8.toInt32)] : List Int32))
  else
    (f_law_87 x145 x146 x147 (-1 : Int32) ([(x137.toInt8.toInt32), (x139.toInt8.toInt32), (x141.toInt8.toInt32), (x143.toInt8.toInt32)] : List Int32))
def Q_law (Z : State) (hE : Heap) (n0 : Nat)  (r : Int32) (v : Option Value) (h : Heap) (L : List Loc) : Prop := v = some (.int r) ∧ Fr n0 L ∧ Keep hE h []
def Cx_law (p : Program) (s : State) (m : MethodId) (meth : Method) (c : Code) (Z : State) (a0 : Array Value) : Prop := p.tables.exec = Jvm.exec ∧ Z.Warmed39 s.vm ∧ (∀ d ∈ tables_1, d.before a0 Z = true) ∧ c.code = code ∧ c.maxLocals = 10 ∧ s.vm.findClass "com/example/binary64/binary64/Utf8CommonCodePointPinLaw" = some m.cls ∧ meth.sig.returnType = some .boolean ∧ meth.locks = false ∧ meth.name = "law"
set_option maxRecDepth 65536 in
set_option maxHeartbeats 4000000 in
theorem b_law_226 {p : Program} {l : Launch} {e : Env} {s : State} {m : MethodId} {args : Array Value} {below : List Frame} {meth : Method} {c : Code} {Z : State} {a0 : Array Value} {n0 : Nat} {hE : Heap} (cx : Cx_law p s m meth c Z a0) :
    ∀ {T : State} {locs : List Loc} {h : Heap} (X : Stand p l e room_1 s m args below meth c T locs 1 4) (eT : T.heap = h) (N : Fr n0 locs) (K : Keep hE h []) (z : n0 ≤ h.size) (b1 : Addr) (v4 : Int32) (v5 : Int32) (v6 : Int32) (v7 : Int32) (v8 : Int32) (bs_b1 : List Int32) (d0 : Slot) (d1 : Slot) (d2 : Slot) (d9 : Slot) (o_d0 : One d0) (o_d1 : One d1) (o_d2 : One d2) (o_d9 : One d9) (A_b1 : own_Ar Z h b1 .byte (bs_b1.map Value.int)) (g_b1 : n0 ≤ b1) (nE_b1 : hE.size ≤ b1) (r : Int32), f_law_226 v4 v5 v6 v7 v8 bs_b1 = some r → own_Goes p e below s (Q_law Z hE n0 r) 1 4 (T.setTop (mkF m 226 #[d0, d1, d2, .val (.ref b1), .val (.int v4), .val (.int v5), .val (.int v6), .val (.int v7), .val (.int v8), d9] [])) := by
  have cx' := cx
  obtain ⟨hx, hZ, hw, hby, hml, hown, hret, hlk, hnm⟩ := cx'
  intro T locs h X eT N K z b1 v4 v5 v6 v7 v8 bs_b1 d0 d1 d2 d9 o_d0 o_d1 o_d2 o_d9 A_b1 g_b1 nE_b1 r hF
  unfold f_law_226 at hF
  refine own_Goes.via (B := T.setTop (mkF m 253 #[d0, d1, d2, .val (.ref b1), .val (.int v4), .val (.int v5), .val (.int v6), .val (.int v7), .val (.int v8), d9] [(.int ((((v6 - (224 : Int32)) * (4096 : Int32)) + ((v7 - (128 : Int32)) * (64 : Int32))) + (v8 - (128 : Int32))))])) (fun t k => ?_) ?_
  · show Steps p.tables e below (T.setTop (mkF m 226 #[d0, d1, d2, .val (.ref b1), .val (.int v4), .val (.int v5), .val (.int v6), .val (.int v7), .val (.int v8), d9] [])) t
    refine XS.iload X.here hx rfl (hb hby at_226) rfl ?_
    show Steps p.tables e below (T.setTop (mkF m 228 #[d0, d1, d2, .val (.ref b1), .val (.int v4), .val (.int v5), .val (.int v6), .val (.int v7), .val (.int v8), d9] [(.int v6)])) t
    refine XS.sipush X.here hx rfl (hb hby at_228) ?_
    show Steps p.tables e below (T.setTop (mkF m 231 #[d0, d1, d2, .val (.ref b1), .val (.int v4), .val (.int v5), .val (.int v6), .val (.int v7), .val (.int v8), d9] [(.int (224 : Int32)), (.int v6)])) t
    refine XS.isub X.here hx rfl (hb hby at_231) rfl ?_
    show Steps p.tables e below (T.setTop (mkF m 232 #[d0, d1, d2, .val (.ref b1), .val (.int v4), .val (.int v5), .val (.int v6), .val (.int v7), .val (.int v8), d9] [(.int (v6 - (224 : Int32)))])) t
    refine XS.sipush X.here hx rfl (hb hby at_232) ?_
    show Steps p.tables e below (T.setTop (mkF m 235 #[d0, d1, d2, .val (.ref b1), .val (.int v4), .val (.int v5), .val (.int v6), .val (.int v7), .val (.int v8), d9] [(.int (4096 : Int32)), (.int (v6 - (224 : Int32)))])) t
    refine XS.imul X.here hx rfl (hb hby at_235) rfl ?_
    show Steps p.tables e below (T.setTop (mkF m 236 #[d0, d1, d2, .val (.ref b1), .val (.int v4), .val (.int v5), .val (.int v6), .val (.int v7), .val (.int v8), d9] [(.int ((v6 - (224 : Int32)) * (4096 : Int32)))])) t
    refine XS.iload X.here hx rfl (hb hby at_236) rfl ?_
    show Steps p.tables e below (T.setTop (mkF m 238 #[d0, d1, d2, .val (.ref b1), .val (.int v4), .val (.int v5), .val (.int v6), .val (.int v7), .val (.int v8), d9] [(.int v7), (.int ((v6 - (224 : Int32)) * (4096 : Int32)))])) t
    refine XS.sipush X.here hx rfl (hb hby at_238) ?_
    show Steps p.tables e below (T.setTop (mkF m 241 #[d0, d1, d2, .val (.ref b1), .val (.int v4), .val (.int v5), .val (.int v6), .val (.int v7), .val (.int v8), d9] [(.int (128 : Int32)), (.int v7), (.int ((v6 - (224 : Int32)) * (4096 : Int32)))])) t
    refine XS.isub X.here hx rfl (hb hby at_241) rfl ?_
    show Steps p.tables e below (T.setTop (mkF m 242 #[d0, d1, d2, .val (.ref b1), .val (.int v4), .val (.int v5), .val (.int v6), .val (.int v7), .val (.int v8), d9] [(.int (v7 - (128 : Int32))), (.int ((v6 - (224 : Int32)) * (4096 : Int32)))])) t
    refine XS.bipush X.here hx rfl (hb hby at_242) ?_
    show Steps p.tables e below (T.setTop (mkF m 244 #[d0, d1, d2, .val (.ref b1), .val (.int v4), .val (.int v5), .val (.int v6), .val (.int v7), .val (.int v8), d9] [(.int (64 : Int32)), (.int (v7 - (128 : Int32))), (.int ((v6 - (224 : Int32)) * (4096 : Int32)))])) t
    refine XS.imul X.here hx rfl (hb hby at_244) rfl ?_
    show Steps p.tables e below (T.setTop (mkF m 245 #[d0, d1, d2, .val (.ref b1), .val (.int v4), .val (.int v5), .val (.int v6), .val (.int v7), .val (.int v8), d9] [(.int ((v7 - (128 : Int32)) * (64 : Int32))), (.int ((v6 - (224 : Int32)) * (4096 : Int32)))])) t
    refine XS.iadd X.here hx rfl (hb hby at_245) rfl ?_
    show Steps p.tables e below (T.setTop (mkF m 246 #[d0, d1, d2, .val (.ref b1), .val (.int v4), .val (.int v5), .val (.int v6), .val (.int v7), .val (.int v8), d9] [(.int (((v6 - (224 : Int32)) * (4096 : Int32)) + ((v7 - (128 : Int32)) * (64 : Int32))))])) t
    refine XS.iload X.here hx rfl (hb hby at_246) rfl ?_
    show Steps p.tables e below (T.setTop (mkF m 248 #[d0, d1, d2, .val (.ref b1), .val (.int v4), .val (.int v5), .val (.int v6), .val (.int v7), .val (.int v8), d9] [(.int v8), (.int (((v6 - (224 : Int32)) * (4096 : Int32)) + ((v7 - (128 : Int32)) * (64 : Int32))))])) t
    refine XS.sipush X.here hx rfl (hb hby at_248) ?_
    show Steps p.tables e below (T.setTop (mkF m 251 #[d0, d1, d2, .val (.ref b1), .val (.int v4), .val (.int v5), .val (.int v6), .val (.int v7), .val (.int v8), d9] [(.int (128 : Int32)), (.int v8), (.int (((v6 - (224 : Int32)) * (4096 : Int32)) + ((v7 - (128 : Int32)) * (64 : Int32))))])) t
    refine XS.isub X.here hx rfl (hb hby at_251) rfl ?_
    show Steps p.tables e below (T.setTop (mkF m 252 #[d0, d1, d2, .val (.ref b1), .val (.int v4), .val (.int v5), .val (.int v6), .val (.int v7), .val (.int v8), d9] [(.int (v8 - (128 : Int32))), (.int (((v6 - (224 : Int32)) * (4096 : Int32)) + ((v7 - (128 : Int32)) * (64 : Int32))))])) t
    refine XS.iadd X.here hx rfl (hb hby at_252) rfl ?_
    exact k
  obtain ⟨x117, hx117, hF⟩ := own_lt_e hF
  rw [← hx117]
  refine own_Goes.via (B := T.setTop (mkF m 260 #[d0, d1, d2, .val (.ref b1), .val (.int v4), .val (.int v5), .val (.int v6), .val (.int v7), .val (.int v8), .val (.int x117)] [(.int v5), (.int v4), (.ref b1)])) (fun t k => ?_) ?_
  · show Steps p.tables e below (T.setTop (mkF m 253 #[d0, d1, d2, .val (.ref b1), .val (.int v4), .val (.int v5), .val (.int v6), .val (.int v7), .val (.int v8), d9] [(.int x117)])) t
    refine XS.istoreS X.here hx rfl (hb hby at_253) rfl rfl o_d9 ?_
    show Steps p.tables e below (T.setTop (mkF m 255 #[d0, d1, d2, .val (.ref b1), .val (.int v4), .val (.int v5), .val (.int v6), .val (.int v7), .val (.int v8), .val (.int x117)] [])) t
    refine XS.aloadN X.here hx rfl (hb hby at_255) rfl rfl ?_
    show Steps p.tables e below (T.setTop (mkF m 256 #[d0, d1, d2, .val (.ref b1), .val (.int v4), .val (.int v5), .val (.int v6), .val (.int v7), .val (.int v8), .val (.int x117)] [(.ref b1)])) t
    refine XS.iload X.here hx rfl (hb hby at_256) rfl ?_
    show Steps p.tables e below (T.setTop (mkF m 258 #[d0, d1, d2, .val (.ref b1), .val (.int v4), .val (.int v5), .val (.int v6), .val (.int v7), .val (.int v8), .val (.int x117)] [(.int v4), (.ref b1)])) t
    refine XS.iload X.here hx rfl (hb hby at_258) rfl ?_
    exact k
  obtain ⟨r118, hr118, hF⟩ := own_bd_e hF
  obtain ⟨_, _, ⟨T118, L118, k118, n118⟩, -, X118, ⟨Lc118, hQ118, l118, y118, z118⟩, st118⟩ := Jvm.LawKit.callS X hx (y := (⟨"com/example/binary64/binary64/Utf8", "commonCodePoint", "([BII)I"⟩ : MethodName)) hown (mvT hZ (w2 hw)) (mvT hZ (w3 hw)) (mvT hZ (w4 hw)) (mvT hZ (w5 hw)) (by decide) (backOf (W := 0) (rm_Utf8_commonCodePoint l Z a0 hw [] h n0 z b1 v4 v5 bs_b1 A_b1 g_b1 r118 hr118) hZ (w5 hw) (w4 hw) (by decide) (by decide)) (g := (mkF m 260 #[d0, d1, d2, .val (.ref b1), .val (.int v4), .val (.int v5), .val (.int v6), .val (.int v7), .val (.int v8), .val (.int x117)] [(.int v5), (.int v4), (.ref b1)])) rfl (by rw [hml]; rfl) (argsL := [(.ref b1), (.int v4), (.int v5)]) (rest := []) (lenOf pd_0 rfl) rfl (by show 2 * 0 + _ ≤ _; exact Nat.le_of_eq rfl) (hb hby at_260) (fun _ _ => ⟨rfl, eT, (by decide : 1 + 0 ≤ _), (by decide : 4 + 0 ≤ _)⟩)
  dsimp only [Pt.U, Pt.locs, Pt.cells, Pt.slots] at X118 l118 y118 z118 st118 hQ118
  subst l118 y118 z118
  obtain ⟨rfl, N118q, e118⟩ := hQ118
  have N118 := Fr.app N N118q
  refine own_Goes.via st118 ?_
  show own_Goes _ _ _ _ _ _ _ (T118.setTop (mkF m 263 #[d0, d1, d2, .val (.ref b1), .val (.int v4), .val (.int v5), .val (.int v6), .val (.int v7), .val (.int v8), .val (.int x117)] [(.int r118)]))
  refine own_Goes.via (B := T118.setTop (mkF m 265 #[d0, d1, d2, .val (.ref b1), .val (.int v4), .val (.int v5), .val (.int v6), .val (.int v7), .val (.int v8), .val (.int x117)] [(.int x117), (.int r118)])) (fun t k => ?_) ?_
  · show Steps p.tables e below (T118.setTop (mkF m 263 #[d0, d1, d2, .val (.ref b1), .val (.int v4), .val (.int v5), .val (.int v6), .val (.int v7), .val (.int v8), .val (.int x117)] [(.int r118)])) t
    refine XS.iload X118.here hx rfl (hb hby at_263) rfl ?_
    exact k
  by_cases hc265 : r118 = x117
  · rw [if_pos hc265] at hF
    refine own_Goes.via (B := T118.setTop (mkF m 273 #[d0, d1, d2, .val (.ref b1), .val (.int v4), .val (.int v5), .val (.int v6), .val (.int v7), .val (.int v8), .val (.int x117)] [(.int (1 : Int32))])) (fun t k => ?_) ?_
    · show Steps p.tables e below (T118.setTop (mkF m 265 #[d0, d1, d2, .val (.ref b1), .val (.int v4), .val (.int v5), .val (.int v6), .val (.int v7), .val (.int v8), .val (.int x117)] [(.int x117), (.int r118)])) t
      refine XS.icmpNo X118.here hx rfl (hb hby at_265) rfl (teq hc265).2 ?_
      show Steps p.tables e below (T118.setTop (mkF m 268 #[d0, d1, d2, .val (.ref b1), .val (.int v4), .val (.int v5), .val (.int v6), .val (.int v7), .val (.int v8), .val (.int x117)] [])) t
      refine XS.iconst X118.here hx rfl (hb hby at_268) ?_
      show Steps p.tables e below (T118.setTop (mkF m 269 #[d0, d1, d2, .val (.ref b1), .val (.int v4), .val (.int v5), .val (.int v6), .val (.int v7), .val (.int v8), .val (.int x117)] [(.int (1 : Int32))])) t
      refine XS.goto X118.here hx rfl (pc0 := 269) (pc' := 273) rfl (hb hby at_269) (by decide) (by decide) ?_
      exact k
    obtain rfl : (1 : Int32) = r := Option.some.inj hF
    exact own_retN X118 hx (t := .boolean) hret hlk (by simp) (hb hby at_273) e118 (v := (1 : Int32)) (by decide) ⟨rfl, N118, K⟩ (by decide) (by decide)
  · rw [if_neg hc265] at hF
    refine own_Goes.via (B := T118.setTop (mkF m 273 #[d0, d1, d2, .val (.ref b1), .val (.int v4), .val (.int v5), .val (.int v6), .val (.int v7), .val (.int v8), .val (.int x117)] [(.int (0 : Int32))])) (fun t k => ?_) ?_
    · show Steps p.tables e below (T118.setTop (mkF m 265 #[d0, d1, d2, .val (.ref b1), .val (.int v4), .val (.int v5), .val (.int v6), .val (.int v7), .val (.int v8), .val (.int x117)] [(.int x117), (.int r118)])) t
      refine XS.icmpYes X118.here hx rfl (pc0 := 265) (pc' := 272) rfl (hb hby at_265) rfl (feq hc265).2 (by decide) (by decide) ?_
      show Steps p.tables e below (T118.setTop (mkF m 272 #[d0, d1, d2, .val (.ref b1), .val (.int v4), .val (.int v5), .val (.int v6), .val (.int v7), .val (.int v8), .val (.int x117)] [])) t
      refine XS.iconst X118.here hx rfl (hb hby at_272) ?_
      exact k
    obtain rfl : (0 : Int32) = r := Option.some.inj hF
    exact own_retN X118 hx (t := .boolean) hret hlk (by simp) (hb hby at_273) e118 (v := (0 : Int32)) (by decide) ⟨rfl, N118, K⟩ (by decide) (by decide)
set_option maxRecDepth 65536 in
set_option maxHeartbeats 4000000 in
theorem b_law_210 {p : Program} {l : Launch} {e : Env} {s : State} {m : MethodId} {args : Array Value} {below : List Frame} {meth : Method} {c : Code} {Z : State} {a0 : Array Value} {n0 : Nat} {hE : Heap} (cx : Cx_law p s m meth c Z a0) :
    ∀ {T : State} {locs : List Loc} {h : Heap} (X : Stand p l e room_1 s m args below meth c T locs 1 4) (eT : T.heap = h) (N : Fr n0 locs) (K : Keep hE h []) (z : n0 ≤ h.size) (b1 : Addr) (v4 : Int32) (v5 : Int32) (v6 : Int32) (v7 : Int32) (v8 : Int32) (v9 : Int32) (bs_b1 : List Int32) (d0 : Slot) (d1 : Slot) (d2 : Slot) (o_d0 : One d0) (o_d1 : One d1) (o_d2 : One d2) (A_b1 : own_Ar Z h b1 .byte (bs_b1.map Value.int)) (g_b1 : n0 ≤ b1) (nE_b1 : hE.size ≤ b1) (r : Int32), f_law_210 v4 v5 v6 v7 v8 v9 bs_b1 = some r → own_Goes p e below s (Q_law Z hE n0 r) 1 4 (T.setTop (mkF m 210 #[d0, d1, d2, .val (.ref b1), .val (.int v4), .val (.int v5), .val (.int v6), .val (.int v7), .val (.int v8), .val (.int v9)] [])) := by
  have cx' := cx
  obtain ⟨hx, hZ, hw, hby, hml, hown, hret, hlk, hnm⟩ := cx'
  intro T locs h X eT N K z b1 v4 v5 v6 v7 v8 v9 bs_b1 d0 d1 d2 o_d0 o_d1 o_d2 A_b1 g_b1 nE_b1 r hF
  unfold f_law_210 at hF
  refine own_Goes.via (B := T.setTop (mkF m 215 #[d0, d1, d2, .val (.ref b1), .val (.int v4), .val (.int v5), .val (.int v6), .val (.int v7), .val (.int v8), .val (.int v9)] [(.int (237 : Int32)), (.int v6)])) (fun t k => ?_) ?_
  · show Steps p.tables e below (T.setTop (mkF m 210 #[d0, d1, d2, .val (.ref b1), .val (.int v4), .val (.int v5), .val (.int v6), .val (.int v7), .val (.int v8), .val (.int v9)] [])) t
    refine XS.iload X.here hx rfl (hb hby at_210) rfl ?_
    show Steps p.tables e below (T.setTop (mkF m 212 #[d0, d1, d2, .val (.ref b1), .val (.int v4), .val (.int v5), .val (.int v6), .val (.int v7), .val (.int v8), .val (.int v9)] [(.int v6)])) t
    refine XS.sipush X.here hx rfl (hb hby at_212) ?_
    exact k
  by_cases hc215 : v6 = (237 : Int32)
  · rw [if_pos hc215] at hF
    refine own_Goes.via (B := T.setTop (mkF m 223 #[d0, d1, d2, .val (.ref b1), .val (.int v4), .val (.int v5), .val (.int v6), .val (.int v7), .val (.int v8), .val (.int v9)] [(.int (159 : Int32)), (.int v7)])) (fun t k => ?_) ?_
    · show Steps p.tables e below (T.setTop (mkF m 215 #[d0, d1, d2, .val (.ref b1), .val (.int v4), .val (.int v5), .val (.int v6), .val (.int v7), .val (.int v8), .val (.int v9)] [(.int (237 : Int32)), (.int v6)])) t
      refine XS.icmpNo X.here hx rfl (hb hby at_215) rfl (teq hc215).2 ?_
      show Steps p.tables e below (T.setTop (mkF m 218 #[d0, d1, d2, .val (.ref b1), .val (.int v4), .val (.int v5), .val (.int v6), .val (.int v7), .val (.int v8), .val (.int v9)] [])) t
      refine XS.iload X.here hx rfl (hb hby at_218) rfl ?_
      show Steps p.tables e below (T.setTop (mkF m 220 #[d0, d1, d2, .val (.ref b1), .val (.int v4), .val (.int v5), .val (.int v6), .val (.int v7), .val (.int v8), .val (.int v9)] [(.int v7)])) t
      refine XS.sipush X.here hx rfl (hb hby at_220) ?_
      exact k
    by_cases hc223 : (159 : Int32) < v7
    · rw [if_pos hc223] at hF
      refine own_Goes.via (B := T.setTop (mkF m 260 #[d0, d1, d2, .val (.ref b1), .val (.int v4), .val (.int v5), .val (.int v6), .val (.int v7), .val (.int v8), .val (.int v9)] [(.int v5), (.int v4), (.ref b1)])) (fun t k => ?_) ?_
      · show Steps p.tables e below (T.setTop (mkF m 223 #[d0, d1, d2, .val (.ref b1), .val (.int v4), .val (.int v5), .val (.int v6), .val (.int v7), .val (.int v8), .val (.int v9)] [(.int (159 : Int32)), (.int v7)])) t
        refine XS.icmpYes X.here hx rfl (pc0 := 223) (pc' := 255) rfl (hb hby at_223) rfl (tlt hc223).2.2.1 (by decide) (by decide) ?_
        show Steps p.tables e below (T.setTop (mkF m 255 #[d0, d1, d2, .val (.ref b1), .val (.int v4), .val (.int v5), .val (.int v6), .val (.int v7), .val (.int v8), .val (.int v9)] [])) t
        refine XS.aloadN X.here hx rfl (hb hby at_255) rfl rfl ?_
        show Steps p.tables e below (T.setTop (mkF m 256 #[d0, d1, d2, .val (.ref b1), .val (.int v4), .val (.int v5), .val (.int v6), .val (.int v7), .val (.int v8), .val (.int v9)] [(.ref b1)])) t
        refine XS.iload X.here hx rfl (hb hby at_256) rfl ?_
        show Steps p.tables e below (T.setTop (mkF m 258 #[d0, d1, d2, .val (.ref b1), .val (.int v4), .val (.int v5), .val (.int v6), .val (.int v7), .val (.int v8), .val (.int v9)] [(.int v4), (.ref b1)])) t
        refine XS.iload X.here hx rfl (hb hby at_258) rfl ?_
        exact k
      obtain ⟨r119, hr119, hF⟩ := own_bd_e hF
      obtain ⟨_, _, ⟨T119, L119, k119, n119⟩, -, X119, ⟨Lc119, hQ119, l119, y119, z119⟩, st119⟩ := Jvm.LawKit.callS X hx (y := (⟨"com/example/binary64/binary64/Utf8", "commonCodePoint", "([BII)I"⟩ : MethodName)) hown (mvT hZ (w2 hw)) (mvT hZ (w3 hw)) (mvT hZ (w4 hw)) (mvT hZ (w5 hw)) (by decide) (backOf (W := 0) (rm_Utf8_commonCodePoint l Z a0 hw [] h n0 z b1 v4 v5 bs_b1 A_b1 g_b1 r119 hr119) hZ (w5 hw) (w4 hw) (by decide) (by decide)) (g := (mkF m 260 #[d0, d1, d2, .val (.ref b1), .val (.int v4), .val (.int v5), .val (.int v6), .val (.int v7), .val (.int v8), .val (.int v9)] [(.int v5), (.int v4), (.ref b1)])) rfl (by rw [hml]; rfl) (argsL := [(.ref b1), (.int v4), (.int v5)]) (rest := []) (lenOf pd_0 rfl) rfl (by show 2 * 0 + _ ≤ _; exact Nat.le_of_eq rfl) (hb hby at_260) (fun _ _ => ⟨rfl, eT, (by decide : 1 + 0 ≤ _), (by decide : 4 + 0 ≤ _)⟩)
      dsimp only [Pt.U, Pt.locs, Pt.cells, Pt.slots] at X119 l119 y119 z119 st119 hQ119
      subst l119 y119 z119
      obtain ⟨rfl, N119q, e119⟩ := hQ119
      have N119 := Fr.app N N119q
      refine own_Goes.via st119 ?_
      show own_Goes _ _ _ _ _ _ _ (T119.setTop (mkF m 263 #[d0, d1, d2, .val (.ref b1), .val (.int v4), .val (.int v5), .val (.int v6), .val (.int v7), .val (.int v8), .val (.int v9)] [(.int r119)]))
      refine own_Goes.via (B := T119.setTop (mkF m 265 #[d0, d1, d2, .val (.ref b1), .val (.int v4), .val (.int v5), .val (.int v6), .val (.int v7), .val (.int v8), .val (.int v9)] [(.int v9), (.int r119)])) (fun t k => ?_) ?_
      · show Steps p.tables e below (T119.setTop (mkF m 263 #[d0, d1, d2, .val (.ref b1), .val (.int v4), .val (.int v5), .val (.int v6), .val (.int v7), .val (.int v8), .val (.int v9)] [(.int r119)])) t
        refine XS.iload X119.here hx rfl (hb hby at_263) rfl ?_
        exact k
      by_cases hc265 : r119 = v9
      · rw [if_pos hc265] at hF
        refine own_Goes.via (B := T119.setTop (mkF m 273 #[d0, d1, d2, .val (.ref b1), .val (.int v4), .val (.int v5), .val (.int v6), .val (.int v7), .val (.int v8), .val (.int v9)] [(.int (1 : Int32))])) (fun t k => ?_) ?_
        · show Steps p.tables e below (T119.setTop (mkF m 265 #[d0, d1, d2, .val (.ref b1), .val (.int v4), .val (.int v5), .val (.int v6), .val (.int v7), .val (.int v8), .val (.int v9)] [(.int v9), (.int r119)])) t
          refine XS.icmpNo X119.here hx rfl (hb hby at_265) rfl (teq hc265).2 ?_
          show Steps p.tables e below (T119.setTop (mkF m 268 #[d0, d1, d2, .val (.ref b1), .val (.int v4), .val (.int v5), .val (.int v6), .val (.int v7), .val (.int v8), .val (.int v9)] [])) t
          refine XS.iconst X119.here hx rfl (hb hby at_268) ?_
          show Steps p.tables e below (T119.setTop (mkF m 269 #[d0, d1, d2, .val (.ref b1), .val (.int v4), .val (.int v5), .val (.int v6), .val (.int v7), .val (.int v8), .val (.int v9)] [(.int (1 : Int32))])) t
          refine XS.goto X119.here hx rfl (pc0 := 269) (pc' := 273) rfl (hb hby at_269) (by decide) (by decide) ?_
          exact k
        obtain rfl : (1 : Int32) = r := Option.some.inj hF
        exact own_retN X119 hx (t := .boolean) hret hlk (by simp) (hb hby at_273) e119 (v := (1 : Int32)) (by decide) ⟨rfl, N119, K⟩ (by decide) (by decide)
      · rw [if_neg hc265] at hF
        refine own_Goes.via (B := T119.setTop (mkF m 273 #[d0, d1, d2, .val (.ref b1), .val (.int v4), .val (.int v5), .val (.int v6), .val (.int v7), .val (.int v8), .val (.int v9)] [(.int (0 : Int32))])) (fun t k => ?_) ?_
        · show Steps p.tables e below (T119.setTop (mkF m 265 #[d0, d1, d2, .val (.ref b1), .val (.int v4), .val (.int v5), .val (.int v6), .val (.int v7), .val (.int v8), .val (.int v9)] [(.int v9), (.int r119)])) t
          refine XS.icmpYes X119.here hx rfl (pc0 := 265) (pc' := 272) rfl (hb hby at_265) rfl (feq hc265).2 (by decide) (by decide) ?_
          show Steps p.tables e below (T119.setTop (mkF m 272 #[d0, d1, d2, .val (.ref b1), .val (.int v4), .val (.int v5), .val (.int v6), .val (.int v7), .val (.int v8), .val (.int v9)] [])) t
          refine XS.iconst X119.here hx rfl (hb hby at_272) ?_
          exact k
        obtain rfl : (0 : Int32) = r := Option.some.inj hF
        exact own_retN X119 hx (t := .boolean) hret hlk (by simp) (hb hby at_273) e119 (v := (0 : Int32)) (by decide) ⟨rfl, N119, K⟩ (by decide) (by decide)
    · rw [if_neg hc223] at hF
      refine own_Goes.via (B := T.setTop (mkF m 226 #[d0, d1, d2, .val (.ref b1), .val (.int v4), .val (.int v5), .val (.int v6), .val (.int v7), .val (.int v8), .val (.int v9)] [])) (fun t k => ?_) ?_
      · show Steps p.tables e below (T.setTop (mkF m 223 #[d0, d1, d2, .val (.ref b1), .val (.int v4), .val (.int v5), .val (.int v6), .val (.int v7), .val (.int v8), .val (.int v9)] [(.int (159 : Int32)), (.int v7)])) t
        refine XS.icmpNo X.here hx rfl (hb hby at_223) rfl (flt hc223).2.2.1 ?_
        exact k
      exact b_law_226 cx X eT N K z b1 v4 v5 v6 v7 v8 bs_b1 d0 d1 d2 (.val (.int v9)) o_d0 o_d1 o_d2 (One.val rfl) A_b1 g_b1 nE_b1 _ hF
  · rw [if_neg hc215] at hF
    refine own_Goes.via (B := T.setTop (mkF m 226 #[d0, d1, d2, .val (.ref b1), .val (.int v4), .val (.int v5), .val (.int v6), .val (.int v7), .val (.int v8), .val (.int v9)] [])) (fun t k => ?_) ?_
    · show Steps p.tables e below (T.setTop (mkF m 215 #[d0, d1, d2, .val (.ref b1), .val (.int v4), .val (.int v5), .val (.int v6), .val (.int v7), .val (.int v8), .val (.int v9)] [(.int (237 : Int32)), (.int v6)])) t
      refine XS.icmpYes X.here hx rfl (pc0 := 215) (pc' := 226) rfl (hb hby at_215) rfl (feq hc215).2 (by decide) (by decide) ?_
      exact k
    exact b_law_226 cx X eT N K z b1 v4 v5 v6 v7 v8 bs_b1 d0 d1 d2 (.val (.int v9)) o_d0 o_d1 o_d2 (One.val rfl) A_b1 g_b1 nE_b1 _ hF
set_option maxRecDepth 65536 in
set_option maxHeartbeats 4000000 in
theorem b_law_162 {p : Program} {l : Launch} {e : Env} {s : State} {m : MethodId} {args : Array Value} {below : List Frame} {meth : Method} {c : Code} {Z : State} {a0 : Array Value} {n0 : Nat} {hE : Heap} (cx : Cx_law p s m meth c Z a0) :
    ∀ {T : State} {locs : List Loc} {h : Heap} (X : Stand p l e room_1 s m args below meth c T locs 1 4) (eT : T.heap = h) (N : Fr n0 locs) (K : Keep hE h []) (z : n0 ≤ h.size) (b1 : Addr) (v4 : Int32) (v5 : Int32) (v6 : Int32) (v7 : Int32) (v8 : Int32) (v9 : Int32) (bs_b1 : List Int32) (d0 : Slot) (d1 : Slot) (d2 : Slot) (o_d0 : One d0) (o_d1 : One d1) (o_d2 : One d2) (A_b1 : own_Ar Z h b1 .byte (bs_b1.map Value.int)) (g_b1 : n0 ≤ b1) (nE_b1 : hE.size ≤ b1) (r : Int32), f_law_162 v4 v5 v6 v7 v8 v9 bs_b1 = some r → own_Goes p e below s (Q_law Z hE n0 r) 1 4 (T.setTop (mkF m 162 #[d0, d1, d2, .val (.ref b1), .val (.int v4), .val (.int v5), .val (.int v6), .val (.int v7), .val (.int v8), .val (.int v9)] [])) := by
  have cx' := cx
  obtain ⟨hx, hZ, hw, hby, hml, hown, hret, hlk, hnm⟩ := cx'
  intro T locs h X eT N K z b1 v4 v5 v6 v7 v8 v9 bs_b1 d0 d1 d2 o_d0 o_d1 o_d2 A_b1 g_b1 nE_b1 r hF
  unfold f_law_162 at hF
  refine own_Goes.via (B := T.setTop (mkF m 167 #[d0, d1, d2, .val (.ref b1), .val (.int v4), .val (.int v5), .val (.int v6), .val (.int v7), .val (.int v8), .val (.int v9)] [(.int (224 : Int32)), (.int v6)])) (fun t k => ?_) ?_
  · show Steps p.tables e below (T.setTop (mkF m 162 #[d0, d1, d2, .val (.ref b1), .val (.int v4), .val (.int v5), .val (.int v6), .val (.int v7), .val (.int v8), .val (.int v9)] [])) t
    refine XS.iload X.here hx rfl (hb hby at_162) rfl ?_
    show Steps p.tables e below (T.setTop (mkF m 164 #[d0, d1, d2, .val (.ref b1), .val (.int v4), .val (.int v5), .val (.int v6), .val (.int v7), .val (.int v8), .val (.int v9)] [(.int v6)])) t
    refine XS.sipush X.here hx rfl (hb hby at_164) ?_
    exact k
  by_cases hc167 : v6 < (224 : Int32)
  · rw [if_pos hc167] at hF
    refine own_Goes.via (B := T.setTop (mkF m 260 #[d0, d1, d2, .val (.ref b1), .val (.int v4), .val (.int v5), .val (.int v6), .val (.int v7), .val (.int v8), .val (.int v9)] [(.int v5), (.int v4), (.ref b1)])) (fun t k => ?_) ?_
    · show Steps p.tables e below (T.setTop (mkF m 167 #[d0, d1, d2, .val (.ref b1), .val (.int v4), .val (.int v5), .val (.int v6), .val (.int v7), .val (.int v8), .val (.int v9)] [(.int (224 : Int32)), (.int v6)])) t
      refine XS.icmpYes X.here hx rfl (pc0 := 167) (pc' := 255) rfl (hb hby at_167) rfl (tlt hc167).1 (by decide) (by decide) ?_
      show Steps p.tables e below (T.setTop (mkF m 255 #[d0, d1, d2, .val (.ref b1), .val (.int v4), .val (.int v5), .val (.int v6), .val (.int v7), .val (.int v8), .val (.int v9)] [])) t
      refine XS.aloadN X.here hx rfl (hb hby at_255) rfl rfl ?_
      show Steps p.tables e below (T.setTop (mkF m 256 #[d0, d1, d2, .val (.ref b1), .val (.int v4), .val (.int v5), .val (.int v6), .val (.int v7), .val (.int v8), .val (.int v9)] [(.ref b1)])) t
      refine XS.iload X.here hx rfl (hb hby at_256) rfl ?_
      show Steps p.tables e below (T.setTop (mkF m 258 #[d0, d1, d2, .val (.ref b1), .val (.int v4), .val (.int v5), .val (.int v6), .val (.int v7), .val (.int v8), .val (.int v9)] [(.int v4), (.ref b1)])) t
      refine XS.iload X.here hx rfl (hb hby at_258) rfl ?_
      exact k
    obtain ⟨r120, hr120, hF⟩ := own_bd_e hF
    obtain ⟨_, _, ⟨T120, L120, k120, n120⟩, -, X120, ⟨Lc120, hQ120, l120, y120, z120⟩, st120⟩ := Jvm.LawKit.callS X hx (y := (⟨"com/example/binary64/binary64/Utf8", "commonCodePoint", "([BII)I"⟩ : MethodName)) hown (mvT hZ (w2 hw)) (mvT hZ (w3 hw)) (mvT hZ (w4 hw)) (mvT hZ (w5 hw)) (by decide) (backOf (W := 0) (rm_Utf8_commonCodePoint l Z a0 hw [] h n0 z b1 v4 v5 bs_b1 A_b1 g_b1 r120 hr120) hZ (w5 hw) (w4 hw) (by decide) (by decide)) (g := (mkF m 260 #[d0, d1, d2, .val (.ref b1), .val (.int v4), .val (.int v5), .val (.int v6), .val (.int v7), .val (.int v8), .val (.int v9)] [(.int v5), (.int v4), (.ref b1)])) rfl (by rw [hml]; rfl) (argsL := [(.ref b1), (.int v4), (.int v5)]) (rest := []) (lenOf pd_0 rfl) rfl (by show 2 * 0 + _ ≤ _; exact Nat.le_of_eq rfl) (hb hby at_260) (fun _ _ => ⟨rfl, eT, (by decide : 1 + 0 ≤ _), (by decide : 4 + 0 ≤ _)⟩)
    dsimp only [Pt.U, Pt.locs, Pt.cells, Pt.slots] at X120 l120 y120 z120 st120 hQ120
    subst l120 y120 z120
    obtain ⟨rfl, N120q, e120⟩ := hQ120
    have N120 := Fr.app N N120q
    refine own_Goes.via st120 ?_
    show own_Goes _ _ _ _ _ _ _ (T120.setTop (mkF m 263 #[d0, d1, d2, .val (.ref b1), .val (.int v4), .val (.int v5), .val (.int v6), .val (.int v7), .val (.int v8), .val (.int v9)] [(.int r120)]))
    refine own_Goes.via (B := T120.setTop (mkF m 265 #[d0, d1, d2, .val (.ref b1), .val (.int v4), .val (.int v5), .val (.int v6), .val (.int v7), .val (.int v8), .val (.int v9)] [(.int v9), (.int r120)])) (fun t k => ?_) ?_
    · show Steps p.tables e below (T120.setTop (mkF m 263 #[d0, d1, d2, .val (.ref b1), .val (.int v4), .val (.int v5), .val (.int v6), .val (.int v7), .val (.int v8), .val (.int v9)] [(.int r120)])) t
      refine XS.iload X120.here hx rfl (hb hby at_263) rfl ?_
      exact k
    by_cases hc265 : r120 = v9
    · rw [if_pos hc265] at hF
      refine own_Goes.via (B := T120.setTop (mkF m 273 #[d0, d1, d2, .val (.ref b1), .val (.int v4), .val (.int v5), .val (.int v6), .val (.int v7), .val (.int v8), .val (.int v9)] [(.int (1 : Int32))])) (fun t k => ?_) ?_
      · show Steps p.tables e below (T120.setTop (mkF m 265 #[d0, d1, d2, .val (.ref b1), .val (.int v4), .val (.int v5), .val (.int v6), .val (.int v7), .val (.int v8), .val (.int v9)] [(.int v9), (.int r120)])) t
        refine XS.icmpNo X120.here hx rfl (hb hby at_265) rfl (teq hc265).2 ?_
        show Steps p.tables e below (T120.setTop (mkF m 268 #[d0, d1, d2, .val (.ref b1), .val (.int v4), .val (.int v5), .val (.int v6), .val (.int v7), .val (.int v8), .val (.int v9)] [])) t
        refine XS.iconst X120.here hx rfl (hb hby at_268) ?_
        show Steps p.tables e below (T120.setTop (mkF m 269 #[d0, d1, d2, .val (.ref b1), .val (.int v4), .val (.int v5), .val (.int v6), .val (.int v7), .val (.int v8), .val (.int v9)] [(.int (1 : Int32))])) t
        refine XS.goto X120.here hx rfl (pc0 := 269) (pc' := 273) rfl (hb hby at_269) (by decide) (by decide) ?_
        exact k
      obtain rfl : (1 : Int32) = r := Option.some.inj hF
      exact own_retN X120 hx (t := .boolean) hret hlk (by simp) (hb hby at_273) e120 (v := (1 : Int32)) (by decide) ⟨rfl, N120, K⟩ (by decide) (by decide)
    · rw [if_neg hc265] at hF
      refine own_Goes.via (B := T120.setTop (mkF m 273 #[d0, d1, d2, .val (.ref b1), .val (.int v4), .val (.int v5), .val (.int v6), .val (.int v7), .val (.int v8), .val (.int v9)] [(.int (0 : Int32))])) (fun t k => ?_) ?_
      · show Steps p.tables e below (T120.setTop (mkF m 265 #[d0, d1, d2, .val (.ref b1), .val (.int v4), .val (.int v5), .val (.int v6), .val (.int v7), .val (.int v8), .val (.int v9)] [(.int v9), (.int r120)])) t
        refine XS.icmpYes X120.here hx rfl (pc0 := 265) (pc' := 272) rfl (hb hby at_265) rfl (feq hc265).2 (by decide) (by decide) ?_
        show Steps p.tables e below (T120.setTop (mkF m 272 #[d0, d1, d2, .val (.ref b1), .val (.int v4), .val (.int v5), .val (.int v6), .val (.int v7), .val (.int v8), .val (.int v9)] [])) t
        refine XS.iconst X120.here hx rfl (hb hby at_272) ?_
        exact k
      obtain rfl : (0 : Int32) = r := Option.some.inj hF
      exact own_retN X120 hx (t := .boolean) hret hlk (by simp) (hb hby at_273) e120 (v := (0 : Int32)) (by decide) ⟨rfl, N120, K⟩ (by decide) (by decide)
  · rw [if_neg hc167] at hF
    refine own_Goes.via (B := T.setTop (mkF m 175 #[d0, d1, d2, .val (.ref b1), .val (.int v4), .val (.int v5), .val (.int v6), .val (.int v7), .val (.int v8), .val (.int v9)] [(.int (237 : Int32)), (.int v6)])) (fun t k => ?_) ?_
    · show Steps p.tables e below (T.setTop (mkF m 167 #[d0, d1, d2, .val (.ref b1), .val (.int v4), .val (.int v5), .val (.int v6), .val (.int v7), .val (.int v8), .val (.int v9)] [(.int (224 : Int32)), (.int v6)])) t
      refine XS.icmpNo X.here hx rfl (hb hby at_167) rfl (flt hc167).1 ?_
      show Steps p.tables e below (T.setTop (mkF m 170 #[d0, d1, d2, .val (.ref b1), .val (.int v4), .val (.int v5), .val (.int v6), .val (.int v7), .val (.int v8), .val (.int v9)] [])) t
      refine XS.iload X.here hx rfl (hb hby at_170) rfl ?_
      show Steps p.tables e below (T.setTop (mkF m 172 #[d0, d1, d2, .val (.ref b1), .val (.int v4), .val (.int v5), .val (.int v6), .val (.int v7), .val (.int v8), .val (.int v9)] [(.int v6)])) t
      refine XS.sipush X.here hx rfl (hb hby at_172) ?_
      exact k
    by_cases hc175 : (237 : Int32) < v6
    · rw [if_pos hc175] at hF
      refine own_Goes.via (B := T.setTop (mkF m 260 #[d0, d1, d2, .val (.ref b1), .val (.int v4), .val (.int v5), .val (.int v6), .val (.int v7), .val (.int v8), .val (.int v9)] [(.int v5), (.int v4), (.ref b1)])) (fun t k => ?_) ?_
      · show Steps p.tables e below (T.setTop (mkF m 175 #[d0, d1, d2, .val (.ref b1), .val (.int v4), .val (.int v5), .val (.int v6), .val (.int v7), .val (.int v8), .val (.int v9)] [(.int (237 : Int32)), (.int v6)])) t
        refine XS.icmpYes X.here hx rfl (pc0 := 175) (pc' := 255) rfl (hb hby at_175) rfl (tlt hc175).2.2.1 (by decide) (by decide) ?_
        show Steps p.tables e below (T.setTop (mkF m 255 #[d0, d1, d2, .val (.ref b1), .val (.int v4), .val (.int v5), .val (.int v6), .val (.int v7), .val (.int v8), .val (.int v9)] [])) t
        refine XS.aloadN X.here hx rfl (hb hby at_255) rfl rfl ?_
        show Steps p.tables e below (T.setTop (mkF m 256 #[d0, d1, d2, .val (.ref b1), .val (.int v4), .val (.int v5), .val (.int v6), .val (.int v7), .val (.int v8), .val (.int v9)] [(.ref b1)])) t
        refine XS.iload X.here hx rfl (hb hby at_256) rfl ?_
        show Steps p.tables e below (T.setTop (mkF m 258 #[d0, d1, d2, .val (.ref b1), .val (.int v4), .val (.int v5), .val (.int v6), .val (.int v7), .val (.int v8), .val (.int v9)] [(.int v4), (.ref b1)])) t
        refine XS.iload X.here hx rfl (hb hby at_258) rfl ?_
        exact k
      obtain ⟨r121, hr121, hF⟩ := own_bd_e hF
      obtain ⟨_, _, ⟨T121, L121, k121, n121⟩, -, X121, ⟨Lc121, hQ121, l121, y121, z121⟩, st121⟩ := Jvm.LawKit.callS X hx (y := (⟨"com/example/binary64/binary64/Utf8", "commonCodePoint", "([BII)I"⟩ : MethodName)) hown (mvT hZ (w2 hw)) (mvT hZ (w3 hw)) (mvT hZ (w4 hw)) (mvT hZ (w5 hw)) (by decide) (backOf (W := 0) (rm_Utf8_commonCodePoint l Z a0 hw [] h n0 z b1 v4 v5 bs_b1 A_b1 g_b1 r121 hr121) hZ (w5 hw) (w4 hw) (by decide) (by decide)) (g := (mkF m 260 #[d0, d1, d2, .val (.ref b1), .val (.int v4), .val (.int v5), .val (.int v6), .val (.int v7), .val (.int v8), .val (.int v9)] [(.int v5), (.int v4), (.ref b1)])) rfl (by rw [hml]; rfl) (argsL := [(.ref b1), (.int v4), (.int v5)]) (rest := []) (lenOf pd_0 rfl) rfl (by show 2 * 0 + _ ≤ _; exact Nat.le_of_eq rfl) (hb hby at_260) (fun _ _ => ⟨rfl, eT, (by decide : 1 + 0 ≤ _), (by decide : 4 + 0 ≤ _)⟩)
      dsimp only [Pt.U, Pt.locs, Pt.cells, Pt.slots] at X121 l121 y121 z121 st121 hQ121
      subst l121 y121 z121
      obtain ⟨rfl, N121q, e121⟩ := hQ121
      have N121 := Fr.app N N121q
      refine own_Goes.via st121 ?_
      show own_Goes _ _ _ _ _ _ _ (T121.setTop (mkF m 263 #[d0, d1, d2, .val (.ref b1), .val (.int v4), .val (.int v5), .val (.int v6), .val (.int v7), .val (.int v8), .val (.int v9)] [(.int r121)]))
      refine own_Goes.via (B := T121.setTop (mkF m 265 #[d0, d1, d2, .val (.ref b1), .val (.int v4), .val (.int v5), .val (.int v6), .val (.int v7), .val (.int v8), .val (.int v9)] [(.int v9), (.int r121)])) (fun t k => ?_) ?_
      · show Steps p.tables e below (T121.setTop (mkF m 263 #[d0, d1, d2, .val (.ref b1), .val (.int v4), .val (.int v5), .val (.int v6), .val (.int v7), .val (.int v8), .val (.int v9)] [(.int r121)])) t
        refine XS.iload X121.here hx rfl (hb hby at_263) rfl ?_
        exact k
      by_cases hc265 : r121 = v9
      · rw [if_pos hc265] at hF
        refine own_Goes.via (B := T121.setTop (mkF m 273 #[d0, d1, d2, .val (.ref b1), .val (.int v4), .val (.int v5), .val (.int v6), .val (.int v7), .val (.int v8), .val (.int v9)] [(.int (1 : Int32))])) (fun t k => ?_) ?_
        · show Steps p.tables e below (T121.setTop (mkF m 265 #[d0, d1, d2, .val (.ref b1), .val (.int v4), .val (.int v5), .val (.int v6), .val (.int v7), .val (.int v8), .val (.int v9)] [(.int v9), (.int r121)])) t
          refine XS.icmpNo X121.here hx rfl (hb hby at_265) rfl (teq hc265).2 ?_
          show Steps p.tables e below (T121.setTop (mkF m 268 #[d0, d1, d2, .val (.ref b1), .val (.int v4), .val (.int v5), .val (.int v6), .val (.int v7), .val (.int v8), .val (.int v9)] [])) t
          refine XS.iconst X121.here hx rfl (hb hby at_268) ?_
          show Steps p.tables e below (T121.setTop (mkF m 269 #[d0, d1, d2, .val (.ref b1), .val (.int v4), .val (.int v5), .val (.int v6), .val (.int v7), .val (.int v8), .val (.int v9)] [(.int (1 : Int32))])) t
          refine XS.goto X121.here hx rfl (pc0 := 269) (pc' := 273) rfl (hb hby at_269) (by decide) (by decide) ?_
          exact k
        obtain rfl : (1 : Int32) = r := Option.some.inj hF
        exact own_retN X121 hx (t := .boolean) hret hlk (by simp) (hb hby at_273) e121 (v := (1 : Int32)) (by decide) ⟨rfl, N121, K⟩ (by decide) (by decide)
      · rw [if_neg hc265] at hF
        refine own_Goes.via (B := T121.setTop (mkF m 273 #[d0, d1, d2, .val (.ref b1), .val (.int v4), .val (.int v5), .val (.int v6), .val (.int v7), .val (.int v8), .val (.int v9)] [(.int (0 : Int32))])) (fun t k => ?_) ?_
        · show Steps p.tables e below (T121.setTop (mkF m 265 #[d0, d1, d2, .val (.ref b1), .val (.int v4), .val (.int v5), .val (.int v6), .val (.int v7), .val (.int v8), .val (.int v9)] [(.int v9), (.int r121)])) t
          refine XS.icmpYes X121.here hx rfl (pc0 := 265) (pc' := 272) rfl (hb hby at_265) rfl (feq hc265).2 (by decide) (by decide) ?_
          show Steps p.tables e below (T121.setTop (mkF m 272 #[d0, d1, d2, .val (.ref b1), .val (.int v4), .val (.int v5), .val (.int v6), .val (.int v7), .val (.int v8), .val (.int v9)] [])) t
          refine XS.iconst X121.here hx rfl (hb hby at_272) ?_
          exact k
        obtain rfl : (0 : Int32) = r := Option.some.inj hF
        exact own_retN X121 hx (t := .boolean) hret hlk (by simp) (hb hby at_273) e121 (v := (0 : Int32)) (by decide) ⟨rfl, N121, K⟩ (by decide) (by decide)
    · rw [if_neg hc175] at hF
      refine own_Goes.via (B := T.setTop (mkF m 180 #[d0, d1, d2, .val (.ref b1), .val (.int v4), .val (.int v5), .val (.int v6), .val (.int v7), .val (.int v8), .val (.int v9)] [(.int v7)])) (fun t k => ?_) ?_
      · show Steps p.tables e below (T.setTop (mkF m 175 #[d0, d1, d2, .val (.ref b1), .val (.int v4), .val (.int v5), .val (.int v6), .val (.int v7), .val (.int v8), .val (.int v9)] [(.int (237 : Int32)), (.int v6)])) t
        refine XS.icmpNo X.here hx rfl (hb hby at_175) rfl (flt hc175).2.2.1 ?_
        show Steps p.tables e below (T.setTop (mkF m 178 #[d0, d1, d2, .val (.ref b1), .val (.int v4), .val (.int v5), .val (.int v6), .val (.int v7), .val (.int v8), .val (.int v9)] [])) t
        refine XS.iload X.here hx rfl (hb hby at_178) rfl ?_
        exact k
      obtain ⟨r122, hr122, hF⟩ := own_bd_e hF
      obtain ⟨_, _, ⟨T122, L122, k122, n122⟩, -, X122, ⟨Lc122, hQ122, l122, y122, z122⟩, st122⟩ := Jvm.LawKit.callS X hx (y := (⟨"com/example/binary64/binary64/Utf8CommonCodePointPinLaw", "isContinuation", "(I)Z"⟩ : MethodName)) hown (mvT hZ (w6 hw)) (mvT hZ (w7 hw)) (mvT hZ (w8 hw)) (mvT hZ (w9 hw)) (by decide) (backOf (W := 0) (rm_Utf8CommonCodePointPinLaw_isContinuation l Z a0 hw [] h n0 z v7 r122 hr122) hZ (w9 hw) (w8 hw) (by decide) (by decide)) (g := (mkF m 180 #[d0, d1, d2, .val (.ref b1), .val (.int v4), .val (.int v5), .val (.int v6), .val (.int v7), .val (.int v8), .val (.int v9)] [(.int v7)])) rfl (by rw [hml]; rfl) (argsL := [(.int v7)]) (rest := []) (lenOf pd_1 rfl) rfl (by show 2 * 0 + _ ≤ _; exact Nat.le_of_eq rfl) (hb hby at_180) (fun _ _ => ⟨rfl, eT, (by decide : 1 + 0 ≤ _), (by decide : 4 + 0 ≤ _)⟩)
      dsimp only [Pt.U, Pt.locs, Pt.cells, Pt.slots] at X122 l122 y122 z122 st122 hQ122
      subst l122 y122 z122
      obtain ⟨rfl, N122q, e122⟩ := hQ122
      have N122 := Fr.app N N122q
      refine own_Goes.via st122 ?_
      show own_Goes _ _ _ _ _ _ _ (T122.setTop (mkF m 183 #[d0, d1, d2, .val (.ref b1), .val (.int v4), .val (.int v5), .val (.int v6), .val (.int v7), .val (.int v8), .val (.int v9)] [(.int r122)]))
      by_cases hc183 : r122 = (0 : Int32)
      · rw [if_pos hc183] at hF
        refine own_Goes.via (B := T122.setTop (mkF m 260 #[d0, d1, d2, .val (.ref b1), .val (.int v4), .val (.int v5), .val (.int v6), .val (.int v7), .val (.int v8), .val (.int v9)] [(.int v5), (.int v4), (.ref b1)])) (fun t k => ?_) ?_
        · show Steps p.tables e below (T122.setTop (mkF m 183 #[d0, d1, d2, .val (.ref b1), .val (.int v4), .val (.int v5), .val (.int v6), .val (.int v7), .val (.int v8), .val (.int v9)] [(.int r122)])) t
          refine XS.ifYes X122.here hx rfl (pc0 := 183) (pc' := 255) rfl (hb hby at_183) rfl ((if0 _ _).trans (teq hc183).1) (by decide) (by decide) ?_
          show Steps p.tables e below (T122.setTop (mkF m 255 #[d0, d1, d2, .val (.ref b1), .val (.int v4), .val (.int v5), .val (.int v6), .val (.int v7), .val (.int v8), .val (.int v9)] [])) t
          refine XS.aloadN X122.here hx rfl (hb hby at_255) rfl rfl ?_
          show Steps p.tables e below (T122.setTop (mkF m 256 #[d0, d1, d2, .val (.ref b1), .val (.int v4), .val (.int v5), .val (.int v6), .val (.int v7), .val (.int v8), .val (.int v9)] [(.ref b1)])) t
          refine XS.iload X122.here hx rfl (hb hby at_256) rfl ?_
          show Steps p.tables e below (T122.setTop (mkF m 258 #[d0, d1, d2, .val (.ref b1), .val (.int v4), .val (.int v5), .val (.int v6), .val (.int v7), .val (.int v8), .val (.int v9)] [(.int v4), (.ref b1)])) t
          refine XS.iload X122.here hx rfl (hb hby at_258) rfl ?_
          exact k
        obtain ⟨r123, hr123, hF⟩ := own_bd_e hF
        obtain ⟨_, _, ⟨T123, L123, k123, n123⟩, -, X123, ⟨Lc123, hQ123, l123, y123, z123⟩, st123⟩ := Jvm.LawKit.callS X122 hx (y := (⟨"com/example/binary64/binary64/Utf8", "commonCodePoint", "([BII)I"⟩ : MethodName)) hown (mvT hZ (w2 hw)) (mvT hZ (w3 hw)) (mvT hZ (w4 hw)) (mvT hZ (w5 hw)) (by decide) (backOf (W := 0) (rm_Utf8_commonCodePoint l Z a0 hw [] h n0 z b1 v4 v5 bs_b1 A_b1 g_b1 r123 hr123) hZ (w5 hw) (w4 hw) (by decide) (by decide)) (g := (mkF m 260 #[d0, d1, d2, .val (.ref b1), .val (.int v4), .val (.int v5), .val (.int v6), .val (.int v7), .val (.int v8), .val (.int v9)] [(.int v5), (.int v4), (.ref b1)])) rfl (by rw [hml]; rfl) (argsL := [(.ref b1), (.int v4), (.int v5)]) (rest := []) (lenOf pd_0 rfl) rfl (by show 2 * 0 + _ ≤ _; exact Nat.le_of_eq rfl) (hb hby at_260) (fun _ _ => ⟨rfl, e122, (by decide : 1 + 0 ≤ _), (by decide : 4 + 0 ≤ _)⟩)
        dsimp only [Pt.U, Pt.locs, Pt.cells, Pt.slots] at X123 l123 y123 z123 st123 hQ123
        subst l123 y123 z123
        obtain ⟨rfl, N123q, e123⟩ := hQ123
        have N123 := Fr.app N122 N123q
        refine own_Goes.via st123 ?_
        show own_Goes _ _ _ _ _ _ _ (T123.setTop (mkF m 263 #[d0, d1, d2, .val (.ref b1), .val (.int v4), .val (.int v5), .val (.int v6), .val (.int v7), .val (.int v8), .val (.int v9)] [(.int r123)]))
        refine own_Goes.via (B := T123.setTop (mkF m 265 #[d0, d1, d2, .val (.ref b1), .val (.int v4), .val (.int v5), .val (.int v6), .val (.int v7), .val (.int v8), .val (.int v9)] [(.int v9), (.int r123)])) (fun t k => ?_) ?_
        · show Steps p.tables e below (T123.setTop (mkF m 263 #[d0, d1, d2, .val (.ref b1), .val (.int v4), .val (.int v5), .val (.int v6), .val (.int v7), .val (.int v8), .val (.int v9)] [(.int r123)])) t
          refine XS.iload X123.here hx rfl (hb hby at_263) rfl ?_
          exact k
        by_cases hc265 : r123 = v9
        · rw [if_pos hc265] at hF
          refine own_Goes.via (B := T123.setTop (mkF m 273 #[d0, d1, d2, .val (.ref b1), .val (.int v4), .val (.int v5), .val (.int v6), .val (.int v7), .val (.int v8), .val (.int v9)] [(.int (1 : Int32))])) (fun t k => ?_) ?_
          · show Steps p.tables e below (T123.setTop (mkF m 265 #[d0, d1, d2, .val (.ref b1), .val (.int v4), .val (.int v5), .val (.int v6), .val (.int v7), .val (.int v8), .val (.int v9)] [(.int v9), (.int r123)])) t
            refine XS.icmpNo X123.here hx rfl (hb hby at_265) rfl (teq hc265).2 ?_
            show Steps p.tables e below (T123.setTop (mkF m 268 #[d0, d1, d2, .val (.ref b1), .val (.int v4), .val (.int v5), .val (.int v6), .val (.int v7), .val (.int v8), .val (.int v9)] [])) t
            refine XS.iconst X123.here hx rfl (hb hby at_268) ?_
            show Steps p.tables e below (T123.setTop (mkF m 269 #[d0, d1, d2, .val (.ref b1), .val (.int v4), .val (.int v5), .val (.int v6), .val (.int v7), .val (.int v8), .val (.int v9)] [(.int (1 : Int32))])) t
            refine XS.goto X123.here hx rfl (pc0 := 269) (pc' := 273) rfl (hb hby at_269) (by decide) (by decide) ?_
            exact k
          obtain rfl : (1 : Int32) = r := Option.some.inj hF
          exact own_retN X123 hx (t := .boolean) hret hlk (by simp) (hb hby at_273) e123 (v := (1 : Int32)) (by decide) ⟨rfl, N123, K⟩ (by decide) (by decide)
        · rw [if_neg hc265] at hF
          refine own_Goes.via (B := T123.setTop (mkF m 273 #[d0, d1, d2, .val (.ref b1), .val (.int v4), .val (.int v5), .val (.int v6), .val (.int v7), .val (.int v8), .val (.int v9)] [(.int (0 : Int32))])) (fun t k => ?_) ?_
          · show Steps p.tables e below (T123.setTop (mkF m 265 #[d0, d1, d2, .val (.ref b1), .val (.int v4), .val (.int v5), .val (.int v6), .val (.int v7), .val (.int v8), .val (.int v9)] [(.int v9), (.int r123)])) t
            refine XS.icmpYes X123.here hx rfl (pc0 := 265) (pc' := 272) rfl (hb hby at_265) rfl (feq hc265).2 (by decide) (by decide) ?_
            show Steps p.tables e below (T123.setTop (mkF m 272 #[d0, d1, d2, .val (.ref b1), .val (.int v4), .val (.int v5), .val (.int v6), .val (.int v7), .val (.int v8), .val (.int v9)] [])) t
            refine XS.iconst X123.here hx rfl (hb hby at_272) ?_
            exact k
          obtain rfl : (0 : Int32) = r := Option.some.inj hF
          exact own_retN X123 hx (t := .boolean) hret hlk (by simp) (hb hby at_273) e123 (v := (0 : Int32)) (by decide) ⟨rfl, N123, K⟩ (by decide) (by decide)
      · rw [if_neg hc183] at hF
        refine own_Goes.via (B := T122.setTop (mkF m 188 #[d0, d1, d2, .val (.ref b1), .val (.int v4), .val (.int v5), .val (.int v6), .val (.int v7), .val (.int v8), .val (.int v9)] [(.int v8)])) (fun t k => ?_) ?_
        · show Steps p.tables e below (T122.setTop (mkF m 183 #[d0, d1, d2, .val (.ref b1), .val (.int v4), .val (.int v5), .val (.int v6), .val (.int v7), .val (.int v8), .val (.int v9)] [(.int r122)])) t
          refine XS.ifNo X122.here hx rfl (hb hby at_183) rfl ((if0 _ _).trans (feq hc183).1) ?_
          show Steps p.tables e below (T122.setTop (mkF m 186 #[d0, d1, d2, .val (.ref b1), .val (.int v4), .val (.int v5), .val (.int v6), .val (.int v7), .val (.int v8), .val (.int v9)] [])) t
          refine XS.iload X122.here hx rfl (hb hby at_186) rfl ?_
          exact k
        obtain ⟨r124, hr124, hF⟩ := own_bd_e hF
        obtain ⟨_, _, ⟨T124, L124, k124, n124⟩, -, X124, ⟨Lc124, hQ124, l124, y124, z124⟩, st124⟩ := Jvm.LawKit.callS X122 hx (y := (⟨"com/example/binary64/binary64/Utf8CommonCodePointPinLaw", "isContinuation", "(I)Z"⟩ : MethodName)) hown (mvT hZ (w6 hw)) (mvT hZ (w7 hw)) (mvT hZ (w8 hw)) (mvT hZ (w9 hw)) (by decide) (backOf (W := 0) (rm_Utf8CommonCodePointPinLaw_isContinuation l Z a0 hw [] h n0 z v8 r124 hr124) hZ (w9 hw) (w8 hw) (by decide) (by decide)) (g := (mkF m 188 #[d0, d1, d2, .val (.ref b1), .val (.int v4), .val (.int v5), .val (.int v6), .val (.int v7), .val (.int v8), .val (.int v9)] [(.int v8)])) rfl (by rw [hml]; rfl) (argsL := [(.int v8)]) (rest := []) (lenOf pd_1 rfl) rfl (by show 2 * 0 + _ ≤ _; exact Nat.le_of_eq rfl) (hb hby at_188) (fun _ _ => ⟨rfl, e122, (by decide : 1 + 0 ≤ _), (by decide : 4 + 0 ≤ _)⟩)
        dsimp only [Pt.U, Pt.locs, Pt.cells, Pt.slots] at X124 l124 y124 z124 st124 hQ124
        subst l124 y124 z124
        obtain ⟨rfl, N124q, e124⟩ := hQ124
        have N124 := Fr.app N122 N124q
        refine own_Goes.via st124 ?_
        show own_Goes _ _ _ _ _ _ _ (T124.setTop (mkF m 191 #[d0, d1, d2, .val (.ref b1), .val (.int v4), .val (.int v5), .val (.int v6), .val (.int v7), .val (.int v8), .val (.int v9)] [(.int r124)]))
        by_cases hc191 : r124 = (0 : Int32)
        · rw [if_pos hc191] at hF
          refine own_Goes.via (B := T124.setTop (mkF m 260 #[d0, d1, d2, .val (.ref b1), .val (.int v4), .val (.int v5), .val (.int v6), .val (.int v7), .val (.int v8), .val (.int v9)] [(.int v5), (.int v4), (.ref b1)])) (fun t k => ?_) ?_
          · show Steps p.tables e below (T124.setTop (mkF m 191 #[d0, d1, d2, .val (.ref b1), .val (.int v4), .val (.int v5), .val (.int v6), .val (.int v7), .val (.int v8), .val (.int v9)] [(.int r124)])) t
            refine XS.ifYes X124.here hx rfl (pc0 := 191) (pc' := 255) rfl (hb hby at_191) rfl ((if0 _ _).trans (teq hc191).1) (by decide) (by decide) ?_
            show Steps p.tables e below (T124.setTop (mkF m 255 #[d0, d1, d2, .val (.ref b1), .val (.int v4), .val (.int v5), .val (.int v6), .val (.int v7), .val (.int v8), .val (.int v9)] [])) t
            refine XS.aloadN X124.here hx rfl (hb hby at_255) rfl rfl ?_
            show Steps p.tables e below (T124.setTop (mkF m 256 #[d0, d1, d2, .val (.ref b1), .val (.int v4), .val (.int v5), .val (.int v6), .val (.int v7), .val (.int v8), .val (.int v9)] [(.ref b1)])) t
            refine XS.iload X124.here hx rfl (hb hby at_256) rfl ?_
            show Steps p.tables e below (T124.setTop (mkF m 258 #[d0, d1, d2, .val (.ref b1), .val (.int v4), .val (.int v5), .val (.int v6), .val (.int v7), .val (.int v8), .val (.int v9)] [(.int v4), (.ref b1)])) t
            refine XS.iload X124.here hx rfl (hb hby at_258) rfl ?_
            exact k
          obtain ⟨r125, hr125, hF⟩ := own_bd_e hF
          obtain ⟨_, _, ⟨T125, L125, k125, n125⟩, -, X125, ⟨Lc125, hQ125, l125, y125, z125⟩, st125⟩ := Jvm.LawKit.callS X124 hx (y := (⟨"com/example/binary64/binary64/Utf8", "commonCodePoint", "([BII)I"⟩ : MethodName)) hown (mvT hZ (w2 hw)) (mvT hZ (w3 hw)) (mvT hZ (w4 hw)) (mvT hZ (w5 hw)) (by decide) (backOf (W := 0) (rm_Utf8_commonCodePoint l Z a0 hw [] h n0 z b1 v4 v5 bs_b1 A_b1 g_b1 r125 hr125) hZ (w5 hw) (w4 hw) (by decide) (by decide)) (g := (mkF m 260 #[d0, d1, d2, .val (.ref b1), .val (.int v4), .val (.int v5), .val (.int v6), .val (.int v7), .val (.int v8), .val (.int v9)] [(.int v5), (.int v4), (.ref b1)])) rfl (by rw [hml]; rfl) (argsL := [(.ref b1), (.int v4), (.int v5)]) (rest := []) (lenOf pd_0 rfl) rfl (by show 2 * 0 + _ ≤ _; exact Nat.le_of_eq rfl) (hb hby at_260) (fun _ _ => ⟨rfl, e124, (by decide : 1 + 0 ≤ _), (by decide : 4 + 0 ≤ _)⟩)
          dsimp only [Pt.U, Pt.locs, Pt.cells, Pt.slots] at X125 l125 y125 z125 st125 hQ125
          subst l125 y125 z125
          obtain ⟨rfl, N125q, e125⟩ := hQ125
          have N125 := Fr.app N124 N125q
          refine own_Goes.via st125 ?_
          show own_Goes _ _ _ _ _ _ _ (T125.setTop (mkF m 263 #[d0, d1, d2, .val (.ref b1), .val (.int v4), .val (.int v5), .val (.int v6), .val (.int v7), .val (.int v8), .val (.int v9)] [(.int r125)]))
          refine own_Goes.via (B := T125.setTop (mkF m 265 #[d0, d1, d2, .val (.ref b1), .val (.int v4), .val (.int v5), .val (.int v6), .val (.int v7), .val (.int v8), .val (.int v9)] [(.int v9), (.int r125)])) (fun t k => ?_) ?_
          · show Steps p.tables e below (T125.setTop (mkF m 263 #[d0, d1, d2, .val (.ref b1), .val (.int v4), .val (.int v5), .val (.int v6), .val (.int v7), .val (.int v8), .val (.int v9)] [(.int r125)])) t
            refine XS.iload X125.here hx rfl (hb hby at_263) rfl ?_
            exact k
          by_cases hc265 : r125 = v9
          · rw [if_pos hc265] at hF
            refine own_Goes.via (B := T125.setTop (mkF m 273 #[d0, d1, d2, .val (.ref b1), .val (.int v4), .val (.int v5), .val (.int v6), .val (.int v7), .val (.int v8), .val (.int v9)] [(.int (1 : Int32))])) (fun t k => ?_) ?_
            · show Steps p.tables e below (T125.setTop (mkF m 265 #[d0, d1, d2, .val (.ref b1), .val (.int v4), .val (.int v5), .val (.int v6), .val (.int v7), .val (.int v8), .val (.int v9)] [(.int v9), (.int r125)])) t
              refine XS.icmpNo X125.here hx rfl (hb hby at_265) rfl (teq hc265).2 ?_
              show Steps p.tables e below (T125.setTop (mkF m 268 #[d0, d1, d2, .val (.ref b1), .val (.int v4), .val (.int v5), .val (.int v6), .val (.int v7), .val (.int v8), .val (.int v9)] [])) t
              refine XS.iconst X125.here hx rfl (hb hby at_268) ?_
              show Steps p.tables e below (T125.setTop (mkF m 269 #[d0, d1, d2, .val (.ref b1), .val (.int v4), .val (.int v5), .val (.int v6), .val (.int v7), .val (.int v8), .val (.int v9)] [(.int (1 : Int32))])) t
              refine XS.goto X125.here hx rfl (pc0 := 269) (pc' := 273) rfl (hb hby at_269) (by decide) (by decide) ?_
              exact k
            obtain rfl : (1 : Int32) = r := Option.some.inj hF
            exact own_retN X125 hx (t := .boolean) hret hlk (by simp) (hb hby at_273) e125 (v := (1 : Int32)) (by decide) ⟨rfl, N125, K⟩ (by decide) (by decide)
          · rw [if_neg hc265] at hF
            refine own_Goes.via (B := T125.setTop (mkF m 273 #[d0, d1, d2, .val (.ref b1), .val (.int v4), .val (.int v5), .val (.int v6), .val (.int v7), .val (.int v8), .val (.int v9)] [(.int (0 : Int32))])) (fun t k => ?_) ?_
            · show Steps p.tables e below (T125.setTop (mkF m 265 #[d0, d1, d2, .val (.ref b1), .val (.int v4), .val (.int v5), .val (.int v6), .val (.int v7), .val (.int v8), .val (.int v9)] [(.int v9), (.int r125)])) t
              refine XS.icmpYes X125.here hx rfl (pc0 := 265) (pc' := 272) rfl (hb hby at_265) rfl (feq hc265).2 (by decide) (by decide) ?_
              show Steps p.tables e below (T125.setTop (mkF m 272 #[d0, d1, d2, .val (.ref b1), .val (.int v4), .val (.int v5), .val (.int v6), .val (.int v7), .val (.int v8), .val (.int v9)] [])) t
              refine XS.iconst X125.here hx rfl (hb hby at_272) ?_
              exact k
            obtain rfl : (0 : Int32) = r := Option.some.inj hF
            exact own_retN X125 hx (t := .boolean) hret hlk (by simp) (hb hby at_273) e125 (v := (0 : Int32)) (by decide) ⟨rfl, N125, K⟩ (by decide) (by decide)
        · rw [if_neg hc191] at hF
          refine own_Goes.via (B := T124.setTop (mkF m 199 #[d0, d1, d2, .val (.ref b1), .val (.int v4), .val (.int v5), .val (.int v6), .val (.int v7), .val (.int v8), .val (.int v9)] [(.int (224 : Int32)), (.int v6)])) (fun t k => ?_) ?_
          · show Steps p.tables e below (T124.setTop (mkF m 191 #[d0, d1, d2, .val (.ref b1), .val (.int v4), .val (.int v5), .val (.int v6), .val (.int v7), .val (.int v8), .val (.int v9)] [(.int r124)])) t
            refine XS.ifNo X124.here hx rfl (hb hby at_191) rfl ((if0 _ _).trans (feq hc191).1) ?_
            show Steps p.tables e below (T124.setTop (mkF m 194 #[d0, d1, d2, .val (.ref b1), .val (.int v4), .val (.int v5), .val (.int v6), .val (.int v7), .val (.int v8), .val (.int v9)] [])) t
            refine XS.iload X124.here hx rfl (hb hby at_194) rfl ?_
            show Steps p.tables e below (T124.setTop (mkF m 196 #[d0, d1, d2, .val (.ref b1), .val (.int v4), .val (.int v5), .val (.int v6), .val (.int v7), .val (.int v8), .val (.int v9)] [(.int v6)])) t
            refine XS.sipush X124.here hx rfl (hb hby at_196) ?_
            exact k
          by_cases hc199 : v6 = (224 : Int32)
          · rw [if_pos hc199] at hF
            refine own_Goes.via (B := T124.setTop (mkF m 207 #[d0, d1, d2, .val (.ref b1), .val (.int v4), .val (.int v5), .val (.int v6), .val (.int v7), .val (.int v8), .val (.int v9)] [(.int (160 : Int32)), (.int v7)])) (fun t k => ?_) ?_
            · show Steps p.tables e below (T124.setTop (mkF m 199 #[d0, d1, d2, .val (.ref b1), .val (.int v4), .val (.int v5), .val (.int v6), .val (.int v7), .val (.int v8), .val (.int v9)] [(.int (224 : Int32)), (.int v6)])) t
              refine XS.icmpNo X124.here hx rfl (hb hby at_199) rfl (teq hc199).2 ?_
              show Steps p.tables e below (T124.setTop (mkF m 202 #[d0, d1, d2, .val (.ref b1), .val (.int v4), .val (.int v5), .val (.int v6), .val (.int v7), .val (.int v8), .val (.int v9)] [])) t
              refine XS.iload X124.here hx rfl (hb hby at_202) rfl ?_
              show Steps p.tables e below (T124.setTop (mkF m 204 #[d0, d1, d2, .val (.ref b1), .val (.int v4), .val (.int v5), .val (.int v6), .val (.int v7), .val (.int v8), .val (.int v9)] [(.int v7)])) t
              refine XS.sipush X124.here hx rfl (hb hby at_204) ?_
              exact k
            by_cases hc207 : v7 < (160 : Int32)
            · rw [if_pos hc207] at hF
              refine own_Goes.via (B := T124.setTop (mkF m 260 #[d0, d1, d2, .val (.ref b1), .val (.int v4), .val (.int v5), .val (.int v6), .val (.int v7), .val (.int v8), .val (.int v9)] [(.int v5), (.int v4), (.ref b1)])) (fun t k => ?_) ?_
              · show Steps p.tables e below (T124.setTop (mkF m 207 #[d0, d1, d2, .val (.ref b1), .val (.int v4), .val (.int v5), .val (.int v6), .val (.int v7), .val (.int v8), .val (.int v9)] [(.int (160 : Int32)), (.int v7)])) t
                refine XS.icmpYes X124.here hx rfl (pc0 := 207) (pc' := 255) rfl (hb hby at_207) rfl (tlt hc207).1 (by decide) (by decide) ?_
                show Steps p.tables e below (T124.setTop (mkF m 255 #[d0, d1, d2, .val (.ref b1), .val (.int v4), .val (.int v5), .val (.int v6), .val (.int v7), .val (.int v8), .val (.int v9)] [])) t
                refine XS.aloadN X124.here hx rfl (hb hby at_255) rfl rfl ?_
                show Steps p.tables e below (T124.setTop (mkF m 256 #[d0, d1, d2, .val (.ref b1), .val (.int v4), .val (.int v5), .val (.int v6), .val (.int v7), .val (.int v8), .val (.int v9)] [(.ref b1)])) t
                refine XS.iload X124.here hx rfl (hb hby at_256) rfl ?_
                show Steps p.tables e below (T124.setTop (mkF m 258 #[d0, d1, d2, .val (.ref b1), .val (.int v4), .val (.int v5), .val (.int v6), .val (.int v7), .val (.int v8), .val (.int v9)] [(.int v4), (.ref b1)])) t
                refine XS.iload X124.here hx rfl (hb hby at_258) rfl ?_
                exact k
              obtain ⟨r126, hr126, hF⟩ := own_bd_e hF
              obtain ⟨_, _, ⟨T126, L126, k126, n126⟩, -, X126, ⟨Lc126, hQ126, l126, y126, z126⟩, st126⟩ := Jvm.LawKit.callS X124 hx (y := (⟨"com/example/binary64/binary64/Utf8", "commonCodePoint", "([BII)I"⟩ : MethodName)) hown (mvT hZ (w2 hw)) (mvT hZ (w3 hw)) (mvT hZ (w4 hw)) (mvT hZ (w5 hw)) (by decide) (backOf (W := 0) (rm_Utf8_commonCodePoint l Z a0 hw [] h n0 z b1 v4 v5 bs_b1 A_b1 g_b1 r126 hr126) hZ (w5 hw) (w4 hw) (by decide) (by decide)) (g := (mkF m 260 #[d0, d1, d2, .val (.ref b1), .val (.int v4), .val (.int v5), .val (.int v6), .val (.int v7), .val (.int v8), .val (.int v9)] [(.int v5), (.int v4), (.ref b1)])) rfl (by rw [hml]; rfl) (argsL := [(.ref b1), (.int v4), (.int v5)]) (rest := []) (lenOf pd_0 rfl) rfl (by show 2 * 0 + _ ≤ _; exact Nat.le_of_eq rfl) (hb hby at_260) (fun _ _ => ⟨rfl, e124, (by decide : 1 + 0 ≤ _), (by decide : 4 + 0 ≤ _)⟩)
              dsimp only [Pt.U, Pt.locs, Pt.cells, Pt.slots] at X126 l126 y126 z126 st126 hQ126
              subst l126 y126 z126
              obtain ⟨rfl, N126q, e126⟩ := hQ126
              have N126 := Fr.app N124 N126q
              refine own_Goes.via st126 ?_
              show own_Goes _ _ _ _ _ _ _ (T126.setTop (mkF m 263 #[d0, d1, d2, .val (.ref b1), .val (.int v4), .val (.int v5), .val (.int v6), .val (.int v7), .val (.int v8), .val (.int v9)] [(.int r126)]))
              refine own_Goes.via (B := T126.setTop (mkF m 265 #[d0, d1, d2, .val (.ref b1), .val (.int v4), .val (.int v5), .val (.int v6), .val (.int v7), .val (.int v8), .val (.int v9)] [(.int v9), (.int r126)])) (fun t k => ?_) ?_
              · show Steps p.tables e below (T126.setTop (mkF m 263 #[d0, d1, d2, .val (.ref b1), .val (.int v4), .val (.int v5), .val (.int v6), .val (.int v7), .val (.int v8), .val (.int v9)] [(.int r126)])) t
                refine XS.iload X126.here hx rfl (hb hby at_263) rfl ?_
                exact k
              by_cases hc265 : r126 = v9
              · rw [if_pos hc265] at hF
                refine own_Goes.via (B := T126.setTop (mkF m 273 #[d0, d1, d2, .val (.ref b1), .val (.int v4), .val (.int v5), .val (.int v6), .val (.int v7), .val (.int v8), .val (.int v9)] [(.int (1 : Int32))])) (fun t k => ?_) ?_
                · show Steps p.tables e below (T126.setTop (mkF m 265 #[d0, d1, d2, .val (.ref b1), .val (.int v4), .val (.int v5), .val (.int v6), .val (.int v7), .val (.int v8), .val (.int v9)] [(.int v9), (.int r126)])) t
                  refine XS.icmpNo X126.here hx rfl (hb hby at_265) rfl (teq hc265).2 ?_
                  show Steps p.tables e below (T126.setTop (mkF m 268 #[d0, d1, d2, .val (.ref b1), .val (.int v4), .val (.int v5), .val (.int v6), .val (.int v7), .val (.int v8), .val (.int v9)] [])) t
                  refine XS.iconst X126.here hx rfl (hb hby at_268) ?_
                  show Steps p.tables e below (T126.setTop (mkF m 269 #[d0, d1, d2, .val (.ref b1), .val (.int v4), .val (.int v5), .val (.int v6), .val (.int v7), .val (.int v8), .val (.int v9)] [(.int (1 : Int32))])) t
                  refine XS.goto X126.here hx rfl (pc0 := 269) (pc' := 273) rfl (hb hby at_269) (by decide) (by decide) ?_
                  exact k
                obtain rfl : (1 : Int32) = r := Option.some.inj hF
                exact own_retN X126 hx (t := .boolean) hret hlk (by simp) (hb hby at_273) e126 (v := (1 : Int32)) (by decide) ⟨rfl, N126, K⟩ (by decide) (by decide)
              · rw [if_neg hc265] at hF
                refine own_Goes.via (B := T126.setTop (mkF m 273 #[d0, d1, d2, .val (.ref b1), .val (.int v4), .val (.int v5), .val (.int v6), .val (.int v7), .val (.int v8), .val (.int v9)] [(.int (0 : Int32))])) (fun t k => ?_) ?_
                · show Steps p.tables e below (T126.setTop (mkF m 265 #[d0, d1, d2, .val (.ref b1), .val (.int v4), .val (.int v5), .val (.int v6), .val (.int v7), .val (.int v8), .val (.int v9)] [(.int v9), (.int r126)])) t
                  refine XS.icmpYes X126.here hx rfl (pc0 := 265) (pc' := 272) rfl (hb hby at_265) rfl (feq hc265).2 (by decide) (by decide) ?_
                  show Steps p.tables e below (T126.setTop (mkF m 272 #[d0, d1, d2, .val (.ref b1), .val (.int v4), .val (.int v5), .val (.int v6), .val (.int v7), .val (.int v8), .val (.int v9)] [])) t
                  refine XS.iconst X126.here hx rfl (hb hby at_272) ?_
                  exact k
                obtain rfl : (0 : Int32) = r := Option.some.inj hF
                exact own_retN X126 hx (t := .boolean) hret hlk (by simp) (hb hby at_273) e126 (v := (0 : Int32)) (by decide) ⟨rfl, N126, K⟩ (by decide) (by decide)
            · rw [if_neg hc207] at hF
              refine own_Goes.via (B := T124.setTop (mkF m 210 #[d0, d1, d2, .val (.ref b1), .val (.int v4), .val (.int v5), .val (.int v6), .val (.int v7), .val (.int v8), .val (.int v9)] [])) (fun t k => ?_) ?_
              · show Steps p.tables e below (T124.setTop (mkF m 207 #[d0, d1, d2, .val (.ref b1), .val (.int v4), .val (.int v5), .val (.int v6), .val (.int v7), .val (.int v8), .val (.int v9)] [(.int (160 : Int32)), (.int v7)])) t
                refine XS.icmpNo X124.here hx rfl (hb hby at_207) rfl (flt hc207).1 ?_
                exact k
              exact b_law_210 cx X124 e124 N124 K z b1 v4 v5 v6 v7 v8 v9 bs_b1 d0 d1 d2 o_d0 o_d1 o_d2 A_b1 g_b1 nE_b1 _ hF
          · rw [if_neg hc199] at hF
            refine own_Goes.via (B := T124.setTop (mkF m 210 #[d0, d1, d2, .val (.ref b1), .val (.int v4), .val (.int v5), .val (.int v6), .val (.int v7), .val (.int v8), .val (.int v9)] [])) (fun t k => ?_) ?_
            · show Steps p.tables e below (T124.setTop (mkF m 199 #[d0, d1, d2, .val (.ref b1), .val (.int v4), .val (.int v5), .val (.int v6), .val (.int v7), .val (.int v8), .val (.int v9)] [(.int (224 : Int32)), (.int v6)])) t
              refine XS.icmpYes X124.here hx rfl (pc0 := 199) (pc' := 210) rfl (hb hby at_199) rfl (feq hc199).2 (by decide) (by decide) ?_
              exact k
            exact b_law_210 cx X124 e124 N124 K z b1 v4 v5 v6 v7 v8 v9 bs_b1 d0 d1 d2 o_d0 o_d1 o_d2 A_b1 g_b1 nE_b1 _ hF
set_option maxRecDepth 65536 in
set_option maxHeartbeats 4000000 in
theorem b_law_112 {p : Program} {l : Launch} {e : Env} {s : State} {m : MethodId} {args : Array Value} {below : List Frame} {meth : Method} {c : Code} {Z : State} {a0 : Array Value} {n0 : Nat} {hE : Heap} (cx : Cx_law p s m meth c Z a0) :
    ∀ {T : State} {locs : List Loc} {h : Heap} (X : Stand p l e room_1 s m args below meth c T locs 1 4) (eT : T.heap = h) (N : Fr n0 locs) (K : Keep hE h []) (z : n0 ≤ h.size) (b1 : Addr) (v4 : Int32) (v5 : Int32) (v6 : Int32) (v7 : Int32) (t0 : Int32) (bs_b1 : List Int32) (d0 : Slot) (d1 : Slot) (d2 : Slot) (d8 : Slot) (d9 : Slot) (o_d0 : One d0) (o_d1 : One d1) (o_d2 : One d2) (o_d8 : One d8) (o_d9 : One d9) (A_b1 : own_Ar Z h b1 .byte (bs_b1.map Value.int)) (g_b1 : n0 ≤ b1) (nE_b1 : hE.size ≤ b1) (r : Int32), f_law_112 v4 v5 v6 v7 t0 bs_b1 = some r → own_Goes p e below s (Q_law Z hE n0 r) 1 4 (T.setTop (mkF m 112 #[d0, d1, d2, .val (.ref b1), .val (.int v4), .val (.int v5), .val (.int v6), .val (.int v7), d8, d9] [(.int t0)])) := by
  have cx' := cx
  obtain ⟨hx, hZ, hw, hby, hml, hown, hret, hlk, hnm⟩ := cx'
  intro T locs h X eT N K z b1 v4 v5 v6 v7 t0 bs_b1 d0 d1 d2 d8 d9 o_d0 o_d1 o_d2 o_d8 o_d9 A_b1 g_b1 nE_b1 r hF
  unfold f_law_112 at hF
  refine own_Goes.via (B := T.setTop (mkF m 122 #[d0, d1, d2, .val (.ref b1), .val (.int v4), .val (.int v5), .val (.int v6), .val (.int v7), .val (.int t0), .val (.int (-1 : Int32))] [(.int (194 : Int32)), (.int v6)])) (fun t k => ?_) ?_
  · show Steps p.tables e below (T.setTop (mkF m 112 #[d0, d1, d2, .val (.ref b1), .val (.int v4), .val (.int v5), .val (.int v6), .val (.int v7), d8, d9] [(.int t0)])) t
    refine XS.istoreS X.here hx rfl (hb hby at_112) rfl rfl o_d8 ?_
    show Steps p.tables e below (T.setTop (mkF m 114 #[d0, d1, d2, .val (.ref b1), .val (.int v4), .val (.int v5), .val (.int v6), .val (.int v7), .val (.int t0), d9] [])) t
    refine XS.iconst X.here hx rfl (hb hby at_114) ?_
    show Steps p.tables e below (T.setTop (mkF m 115 #[d0, d1, d2, .val (.ref b1), .val (.int v4), .val (.int v5), .val (.int v6), .val (.int v7), .val (.int t0), d9] [(.int (-1 : Int32))])) t
    refine XS.istoreS X.here hx rfl (hb hby at_115) rfl rfl o_d9 ?_
    show Steps p.tables e below (T.setTop (mkF m 117 #[d0, d1, d2, .val (.ref b1), .val (.int v4), .val (.int v5), .val (.int v6), .val (.int v7), .val (.int t0), .val (.int (-1 : Int32))] [])) t
    refine XS.iload X.here hx rfl (hb hby at_117) rfl ?_
    show Steps p.tables e below (T.setTop (mkF m 119 #[d0, d1, d2, .val (.ref b1), .val (.int v4), .val (.int v5), .val (.int v6), .val (.int v7), .val (.int t0), .val (.int (-1 : Int32))] [(.int v6)])) t
    refine XS.sipush X.here hx rfl (hb hby at_119) ?_
    exact k
  by_cases hc122 : v6 < (194 : Int32)
  · rw [if_pos hc122] at hF
    refine own_Goes.via (B := T.setTop (mkF m 162 #[d0, d1, d2, .val (.ref b1), .val (.int v4), .val (.int v5), .val (.int v6), .val (.int v7), .val (.int t0), .val (.int (-1 : Int32))] [])) (fun t k => ?_) ?_
    · show Steps p.tables e below (T.setTop (mkF m 122 #[d0, d1, d2, .val (.ref b1), .val (.int v4), .val (.int v5), .val (.int v6), .val (.int v7), .val (.int t0), .val (.int (-1 : Int32))] [(.int (194 : Int32)), (.int v6)])) t
      refine XS.icmpYes X.here hx rfl (pc0 := 122) (pc' := 162) rfl (hb hby at_122) rfl (tlt hc122).1 (by decide) (by decide) ?_
      exact k
    exact b_law_162 cx X eT N K z b1 v4 v5 v6 v7 t0 (-1 : Int32) bs_b1 d0 d1 d2 o_d0 o_d1 o_d2 A_b1 g_b1 nE_b1 _ hF
  · rw [if_neg hc122] at hF
    refine own_Goes.via (B := T.setTop (mkF m 130 #[d0, d1, d2, .val (.ref b1), .val (.int v4), .val (.int v5), .val (.int v6), .val (.int v7), .val (.int t0), .val (.int (-1 : Int32))] [(.int (223 : Int32)), (.int v6)])) (fun t k => ?_) ?_
    · show Steps p.tables e below (T.setTop (mkF m 122 #[d0, d1, d2, .val (.ref b1), .val (.int v4), .val (.int v5), .val (.int v6), .val (.int v7), .val (.int t0), .val (.int (-1 : Int32))] [(.int (194 : Int32)), (.int v6)])) t
      refine XS.icmpNo X.here hx rfl (hb hby at_122) rfl (flt hc122).1 ?_
      show Steps p.tables e below (T.setTop (mkF m 125 #[d0, d1, d2, .val (.ref b1), .val (.int v4), .val (.int v5), .val (.int v6), .val (.int v7), .val (.int t0), .val (.int (-1 : Int32))] [])) t
      refine XS.iload X.here hx rfl (hb hby at_125) rfl ?_
      show Steps p.tables e below (T.setTop (mkF m 127 #[d0, d1, d2, .val (.ref b1), .val (.int v4), .val (.int v5), .val (.int v6), .val (.int v7), .val (.int t0), .val (.int (-1 : Int32))] [(.int v6)])) t
      refine XS.sipush X.here hx rfl (hb hby at_127) ?_
      exact k
    by_cases hc130 : (223 : Int32) < v6
    · rw [if_pos hc130] at hF
      refine own_Goes.via (B := T.setTop (mkF m 162 #[d0, d1, d2, .val (.ref b1), .val (.int v4), .val (.int v5), .val (.int v6), .val (.int v7), .val (.int t0), .val (.int (-1 : Int32))] [])) (fun t k => ?_) ?_
      · show Steps p.tables e below (T.setTop (mkF m 130 #[d0, d1, d2, .val (.ref b1), .val (.int v4), .val (.int v5), .val (.int v6), .val (.int v7), .val (.int t0), .val (.int (-1 : Int32))] [(.int (223 : Int32)), (.int v6)])) t
        refine XS.icmpYes X.here hx rfl (pc0 := 130) (pc' := 162) rfl (hb hby at_130) rfl (tlt hc130).2.2.1 (by decide) (by decide) ?_
        exact k
      exact b_law_162 cx X eT N K z b1 v4 v5 v6 v7 t0 (-1 : Int32) bs_b1 d0 d1 d2 o_d0 o_d1 o_d2 A_b1 g_b1 nE_b1 _ hF
    · rw [if_neg hc130] at hF
      refine own_Goes.via (B := T.setTop (mkF m 135 #[d0, d1, d2, .val (.ref b1), .val (.int v4), .val (.int v5), .val (.int v6), .val (.int v7), .val (.int t0), .val (.int (-1 : Int32))] [(.int v7)])) (fun t k => ?_) ?_
      · show Steps p.tables e below (T.setTop (mkF m 130 #[d0, d1, d2, .val (.ref b1), .val (.int v4), .val (.int v5), .val (.int v6), .val (.int v7), .val (.int t0), .val (.int (-1 : Int32))] [(.int (223 : Int32)), (.int v6)])) t
        refine XS.icmpNo X.here hx rfl (hb hby at_130) rfl (flt hc130).2.2.1 ?_
        show Steps p.tables e below (T.setTop (mkF m 133 #[d0, d1, d2, .val (.ref b1), .val (.int v4), .val (.int v5), .val (.int v6), .val (.int v7), .val (.int t0), .val (.int (-1 : Int32))] [])) t
        refine XS.iload X.here hx rfl (hb hby at_133) rfl ?_
        exact k
      obtain ⟨r131, hr131, hF⟩ := own_bd_e hF
      obtain ⟨_, _, ⟨T131, L131, k131, n131⟩, -, X131, ⟨Lc131, hQ131, l131, y131, z131⟩, st131⟩ := Jvm.LawKit.callS X hx (y := (⟨"com/example/binary64/binary64/Utf8CommonCodePointPinLaw", "isContinuation", "(I)Z"⟩ : MethodName)) hown (mvT hZ (w6 hw)) (mvT hZ (w7 hw)) (mvT hZ (w8 hw)) (mvT hZ (w9 hw)) (by decide) (backOf (W := 0) (rm_Utf8CommonCodePointPinLaw_isContinuation l Z a0 hw [] h n0 z v7 r131 hr131) hZ (w9 hw) (w8 hw) (by decide) (by decide)) (g := (mkF m 135 #[d0, d1, d2, .val (.ref b1), .val (.int v4), .val (.int v5), .val (.int v6), .val (.int v7), .val (.int t0), .val (.int (-1 : Int32))] [(.int v7)])) rfl (by rw [hml]; rfl) (argsL := [(.int v7)]) (rest := []) (lenOf pd_1 rfl) rfl (by show 2 * 0 + _ ≤ _; exact Nat.le_of_eq rfl) (hb hby at_135) (fun _ _ => ⟨rfl, eT, (by decide : 1 + 0 ≤ _), (by decide : 4 + 0 ≤ _)⟩)
      dsimp only [Pt.U, Pt.locs, Pt.cells, Pt.slots] at X131 l131 y131 z131 st131 hQ131
      subst l131 y131 z131
      obtain ⟨rfl, N131q, e131⟩ := hQ131
      have N131 := Fr.app N N131q
      refine own_Goes.via st131 ?_
      show own_Goes _ _ _ _ _ _ _ (T131.setTop (mkF m 138 #[d0, d1, d2, .val (.ref b1), .val (.int v4), .val (.int v5), .val (.int v6), .val (.int v7), .val (.int t0), .val (.int (-1 : Int32))] [(.int r131)]))
      by_cases hc138 : r131 = (0 : Int32)
      · rw [if_pos hc138] at hF
        refine own_Goes.via (B := T131.setTop (mkF m 260 #[d0, d1, d2, .val (.ref b1), .val (.int v4), .val (.int v5), .val (.int v6), .val (.int v7), .val (.int t0), .val (.int (-1 : Int32))] [(.int v5), (.int v4), (.ref b1)])) (fun t k => ?_) ?_
        · show Steps p.tables e below (T131.setTop (mkF m 138 #[d0, d1, d2, .val (.ref b1), .val (.int v4), .val (.int v5), .val (.int v6), .val (.int v7), .val (.int t0), .val (.int (-1 : Int32))] [(.int r131)])) t
          refine XS.ifYes X131.here hx rfl (pc0 := 138) (pc' := 255) rfl (hb hby at_138) rfl ((if0 _ _).trans (teq hc138).1) (by decide) (by decide) ?_
          show Steps p.tables e below (T131.setTop (mkF m 255 #[d0, d1, d2, .val (.ref b1), .val (.int v4), .val (.int v5), .val (.int v6), .val (.int v7), .val (.int t0), .val (.int (-1 : Int32))] [])) t
          refine XS.aloadN X131.here hx rfl (hb hby at_255) rfl rfl ?_
          show Steps p.tables e below (T131.setTop (mkF m 256 #[d0, d1, d2, .val (.ref b1), .val (.int v4), .val (.int v5), .val (.int v6), .val (.int v7), .val (.int t0), .val (.int (-1 : Int32))] [(.ref b1)])) t
          refine XS.iload X131.here hx rfl (hb hby at_256) rfl ?_
          show Steps p.tables e below (T131.setTop (mkF m 258 #[d0, d1, d2, .val (.ref b1), .val (.int v4), .val (.int v5), .val (.int v6), .val (.int v7), .val (.int t0), .val (.int (-1 : Int32))] [(.int v4), (.ref b1)])) t
          refine XS.iload X131.here hx rfl (hb hby at_258) rfl ?_
          exact k
        obtain ⟨r132, hr132, hF⟩ := own_bd_e hF
        obtain ⟨_, _, ⟨T132, L132, k132, n132⟩, -, X132, ⟨Lc132, hQ132, l132, y132, z132⟩, st132⟩ := Jvm.LawKit.callS X131 hx (y := (⟨"com/example/binary64/binary64/Utf8", "commonCodePoint", "([BII)I"⟩ : MethodName)) hown (mvT hZ (w2 hw)) (mvT hZ (w3 hw)) (mvT hZ (w4 hw)) (mvT hZ (w5 hw)) (by decide) (backOf (W := 0) (rm_Utf8_commonCodePoint l Z a0 hw [] h n0 z b1 v4 v5 bs_b1 A_b1 g_b1 r132 hr132) hZ (w5 hw) (w4 hw) (by decide) (by decide)) (g := (mkF m 260 #[d0, d1, d2, .val (.ref b1), .val (.int v4), .val (.int v5), .val (.int v6), .val (.int v7), .val (.int t0), .val (.int (-1 : Int32))] [(.int v5), (.int v4), (.ref b1)])) rfl (by rw [hml]; rfl) (argsL := [(.ref b1), (.int v4), (.int v5)]) (rest := []) (lenOf pd_0 rfl) rfl (by show 2 * 0 + _ ≤ _; exact Nat.le_of_eq rfl) (hb hby at_260) (fun _ _ => ⟨rfl, e131, (by decide : 1 + 0 ≤ _), (by decide : 4 + 0 ≤ _)⟩)
        dsimp only [Pt.U, Pt.locs, Pt.cells, Pt.slots] at X132 l132 y132 z132 st132 hQ132
        subst l132 y132 z132
        obtain ⟨rfl, N132q, e132⟩ := hQ132
        have N132 := Fr.app N131 N132q
        refine own_Goes.via st132 ?_
        show own_Goes _ _ _ _ _ _ _ (T132.setTop (mkF m 263 #[d0, d1, d2, .val (.ref b1), .val (.int v4), .val (.int v5), .val (.int v6), .val (.int v7), .val (.int t0), .val (.int (-1 : Int32))] [(.int r132)]))
        refine own_Goes.via (B := T132.setTop (mkF m 265 #[d0, d1, d2, .val (.ref b1), .val (.int v4), .val (.int v5), .val (.int v6), .val (.int v7), .val (.int t0), .val (.int (-1 : Int32))] [(.int (-1 : Int32)), (.int r132)])) (fun t k => ?_) ?_
        · show Steps p.tables e below (T132.setTop (mkF m 263 #[d0, d1, d2, .val (.ref b1), .val (.int v4), .val (.int v5), .val (.int v6), .val (.int v7), .val (.int t0), .val (.int (-1 : Int32))] [(.int r132)])) t
          refine XS.iload X132.here hx rfl (hb hby at_263) rfl ?_
          exact k
        by_cases hc265 : r132 = (-1 : Int32)
        · rw [if_pos hc265] at hF
          refine own_Goes.via (B := T132.setTop (mkF m 273 #[d0, d1, d2, .val (.ref b1), .val (.int v4), .val (.int v5), .val (.int v6), .val (.int v7), .val (.int t0), .val (.int (-1 : Int32))] [(.int (1 : Int32))])) (fun t k => ?_) ?_
          · show Steps p.tables e below (T132.setTop (mkF m 265 #[d0, d1, d2, .val (.ref b1), .val (.int v4), .val (.int v5), .val (.int v6), .val (.int v7), .val (.int t0), .val (.int (-1 : Int32))] [(.int (-1 : Int32)), (.int r132)])) t
            refine XS.icmpNo X132.here hx rfl (hb hby at_265) rfl (teq hc265).2 ?_
            show Steps p.tables e below (T132.setTop (mkF m 268 #[d0, d1, d2, .val (.ref b1), .val (.int v4), .val (.int v5), .val (.int v6), .val (.int v7), .val (.int t0), .val (.int (-1 : Int32))] [])) t
            refine XS.iconst X132.here hx rfl (hb hby at_268) ?_
            show Steps p.tables e below (T132.setTop (mkF m 269 #[d0, d1, d2, .val (.ref b1), .val (.int v4), .val (.int v5), .val (.int v6), .val (.int v7), .val (.int t0), .val (.int (-1 : Int32))] [(.int (1 : Int32))])) t
            refine XS.goto X132.here hx rfl (pc0 := 269) (pc' := 273) rfl (hb hby at_269) (by decide) (by decide) ?_
            exact k
          obtain rfl : (1 : Int32) = r := Option.some.inj hF
          exact own_retN X132 hx (t := .boolean) hret hlk (by simp) (hb hby at_273) e132 (v := (1 : Int32)) (by decide) ⟨rfl, N132, K⟩ (by decide) (by decide)
        · rw [if_neg hc265] at hF
          refine own_Goes.via (B := T132.setTop (mkF m 273 #[d0, d1, d2, .val (.ref b1), .val (.int v4), .val (.int v5), .val (.int v6), .val (.int v7), .val (.int t0), .val (.int (-1 : Int32))] [(.int (0 : Int32))])) (fun t k => ?_) ?_
          · show Steps p.tables e below (T132.setTop (mkF m 265 #[d0, d1, d2, .val (.ref b1), .val (.int v4), .val (.int v5), .val (.int v6), .val (.int v7), .val (.int t0), .val (.int (-1 : Int32))] [(.int (-1 : Int32)), (.int r132)])) t
            refine XS.icmpYes X132.here hx rfl (pc0 := 265) (pc' := 272) rfl (hb hby at_265) rfl (feq hc265).2 (by decide) (by decide) ?_
            show Steps p.tables e below (T132.setTop (mkF m 272 #[d0, d1, d2, .val (.ref b1), .val (.int v4), .val (.int v5), .val (.int v6), .val (.int v7), .val (.int t0), .val (.int (-1 : Int32))] [])) t
            refine XS.iconst X132.here hx rfl (hb hby at_272) ?_
            exact k
          obtain rfl : (0 : Int32) = r := Option.some.inj hF
          exact own_retN X132 hx (t := .boolean) hret hlk (by simp) (hb hby at_273) e132 (v := (0 : Int32)) (by decide) ⟨rfl, N132, K⟩ (by decide) (by decide)
      · rw [if_neg hc138] at hF
        refine own_Goes.via (B := T131.setTop (mkF m 157 #[d0, d1, d2, .val (.ref b1), .val (.int v4), .val (.int v5), .val (.int v6), .val (.int v7), .val (.int t0), .val (.int (-1 : Int32))] [(.int (((v6 - (192 : Int32)) * (64 : Int32)) + (v7 - (128 : Int32))))])) (fun t k => ?_) ?_
        · show Steps p.tables e below (T131.setTop (mkF m 138 #[d0, d1, d2, .val (.ref b1), .val (.int v4), .val (.int v5), .val (.int v6), .val (.int v7), .val (.int t0), .val (.int (-1 : Int32))] [(.int r131)])) t
          refine XS.ifNo X131.here hx rfl (hb hby at_138) rfl ((if0 _ _).trans (feq hc138).1) ?_
          show Steps p.tables e below (T131.setTop (mkF m 141 #[d0, d1, d2, .val (.ref b1), .val (.int v4), .val (.int v5), .val (.int v6), .val (.int v7), .val (.int t0), .val (.int (-1 : Int32))] [])) t
          refine XS.iload X131.here hx rfl (hb hby at_141) rfl ?_
          show Steps p.tables e below (T131.setTop (mkF m 143 #[d0, d1, d2, .val (.ref b1), .val (.int v4), .val (.int v5), .val (.int v6), .val (.int v7), .val (.int t0), .val (.int (-1 : Int32))] [(.int v6)])) t
          refine XS.sipush X131.here hx rfl (hb hby at_143) ?_
          show Steps p.tables e below (T131.setTop (mkF m 146 #[d0, d1, d2, .val (.ref b1), .val (.int v4), .val (.int v5), .val (.int v6), .val (.int v7), .val (.int t0), .val (.int (-1 : Int32))] [(.int (192 : Int32)), (.int v6)])) t
          refine XS.isub X131.here hx rfl (hb hby at_146) rfl ?_
          show Steps p.tables e below (T131.setTop (mkF m 147 #[d0, d1, d2, .val (.ref b1), .val (.int v4), .val (.int v5), .val (.int v6), .val (.int v7), .val (.int t0), .val (.int (-1 : Int32))] [(.int (v6 - (192 : Int32)))])) t
          refine XS.bipush X131.here hx rfl (hb hby at_147) ?_
          show Steps p.tables e below (T131.setTop (mkF m 149 #[d0, d1, d2, .val (.ref b1), .val (.int v4), .val (.int v5), .val (.int v6), .val (.int v7), .val (.int t0), .val (.int (-1 : Int32))] [(.int (64 : Int32)), (.int (v6 - (192 : Int32)))])) t
          refine XS.imul X131.here hx rfl (hb hby at_149) rfl ?_
          show Steps p.tables e below (T131.setTop (mkF m 150 #[d0, d1, d2, .val (.ref b1), .val (.int v4), .val (.int v5), .val (.int v6), .val (.int v7), .val (.int t0), .val (.int (-1 : Int32))] [(.int ((v6 - (192 : Int32)) * (64 : Int32)))])) t
          refine XS.iload X131.here hx rfl (hb hby at_150) rfl ?_
          show Steps p.tables e below (T131.setTop (mkF m 152 #[d0, d1, d2, .val (.ref b1), .val (.int v4), .val (.int v5), .val (.int v6), .val (.int v7), .val (.int t0), .val (.int (-1 : Int32))] [(.int v7), (.int ((v6 - (192 : Int32)) * (64 : Int32)))])) t
          refine XS.sipush X131.here hx rfl (hb hby at_152) ?_
          show Steps p.tables e below (T131.setTop (mkF m 155 #[d0, d1, d2, .val (.ref b1), .val (.int v4), .val (.int v5), .val (.int v6), .val (.int v7), .val (.int t0), .val (.int (-1 : Int32))] [(.int (128 : Int32)), (.int v7), (.int ((v6 - (192 : Int32)) * (64 : Int32)))])) t
          refine XS.isub X131.here hx rfl (hb hby at_155) rfl ?_
          show Steps p.tables e below (T131.setTop (mkF m 156 #[d0, d1, d2, .val (.ref b1), .val (.int v4), .val (.int v5), .val (.int v6), .val (.int v7), .val (.int t0), .val (.int (-1 : Int32))] [(.int (v7 - (128 : Int32))), (.int ((v6 - (192 : Int32)) * (64 : Int32)))])) t
          refine XS.iadd X131.here hx rfl (hb hby at_156) rfl ?_
          exact k
        obtain ⟨x133, hx133, hF⟩ := own_lt_e hF
        rw [← hx133]
        refine own_Goes.via (B := T131.setTop (mkF m 260 #[d0, d1, d2, .val (.ref b1), .val (.int v4), .val (.int v5), .val (.int v6), .val (.int v7), .val (.int t0), .val (.int x133)] [(.int v5), (.int v4), (.ref b1)])) (fun t k => ?_) ?_
        · show Steps p.tables e below (T131.setTop (mkF m 157 #[d0, d1, d2, .val (.ref b1), .val (.int v4), .val (.int v5), .val (.int v6), .val (.int v7), .val (.int t0), .val (.int (-1 : Int32))] [(.int x133)])) t
          refine XS.istore X131.here hx rfl (hb hby at_157) rfl (l' := #[d0, d1, d2, .val (.ref b1), .val (.int v4), .val (.int v5), .val (.int v6), .val (.int v7), .val (.int t0), .val (.int x133)]) rfl ?_
          show Steps p.tables e below (T131.setTop (mkF m 159 #[d0, d1, d2, .val (.ref b1), .val (.int v4), .val (.int v5), .val (.int v6), .val (.int v7), .val (.int t0), .val (.int x133)] [])) t
          refine XS.goto X131.here hx rfl (pc0 := 159) (pc' := 255) rfl (hb hby at_159) (by decide) (by decide) ?_
          show Steps p.tables e below (T131.setTop (mkF m 255 #[d0, d1, d2, .val (.ref b1), .val (.int v4), .val (.int v5), .val (.int v6), .val (.int v7), .val (.int t0), .val (.int x133)] [])) t
          refine XS.aloadN X131.here hx rfl (hb hby at_255) rfl rfl ?_
          show Steps p.tables e below (T131.setTop (mkF m 256 #[d0, d1, d2, .val (.ref b1), .val (.int v4), .val (.int v5), .val (.int v6), .val (.int v7), .val (.int t0), .val (.int x133)] [(.ref b1)])) t
          refine XS.iload X131.here hx rfl (hb hby at_256) rfl ?_
          show Steps p.tables e below (T131.setTop (mkF m 258 #[d0, d1, d2, .val (.ref b1), .val (.int v4), .val (.int v5), .val (.int v6), .val (.int v7), .val (.int t0), .val (.int x133)] [(.int v4), (.ref b1)])) t
          refine XS.iload X131.here hx rfl (hb hby at_258) rfl ?_
          exact k
        obtain ⟨r134, hr134, hF⟩ := own_bd_e hF
        obtain ⟨_, _, ⟨T134, L134, k134, n134⟩, -, X134, ⟨Lc134, hQ134, l134, y134, z134⟩, st134⟩ := Jvm.LawKit.callS X131 hx (y := (⟨"com/example/binary64/binary64/Utf8", "commonCodePoint", "([BII)I"⟩ : MethodName)) hown (mvT hZ (w2 hw)) (mvT hZ (w3 hw)) (mvT hZ (w4 hw)) (mvT hZ (w5 hw)) (by decide) (backOf (W := 0) (rm_Utf8_commonCodePoint l Z a0 hw [] h n0 z b1 v4 v5 bs_b1 A_b1 g_b1 r134 hr134) hZ (w5 hw) (w4 hw) (by decide) (by decide)) (g := (mkF m 260 #[d0, d1, d2, .val (.ref b1), .val (.int v4), .val (.int v5), .val (.int v6), .val (.int v7), .val (.int t0), .val (.int x133)] [(.int v5), (.int v4), (.ref b1)])) rfl (by rw [hml]; rfl) (argsL := [(.ref b1), (.int v4), (.int v5)]) (rest := []) (lenOf pd_0 rfl) rfl (by show 2 * 0 + _ ≤ _; exact Nat.le_of_eq rfl) (hb hby at_260) (fun _ _ => ⟨rfl, e131, (by decide : 1 + 0 ≤ _), (by decide : 4 + 0 ≤ _)⟩)
        dsimp only [Pt.U, Pt.locs, Pt.cells, Pt.slots] at X134 l134 y134 z134 st134 hQ134
        subst l134 y134 z134
        obtain ⟨rfl, N134q, e134⟩ := hQ134
        have N134 := Fr.app N131 N134q
        refine own_Goes.via st134 ?_
        show own_Goes _ _ _ _ _ _ _ (T134.setTop (mkF m 263 #[d0, d1, d2, .val (.ref b1), .val (.int v4), .val (.int v5), .val (.int v6), .val (.int v7), .val (.int t0), .val (.int x133)] [(.int r134)]))
        refine own_Goes.via (B := T134.setTop (mkF m 265 #[d0, d1, d2, .val (.ref b1), .val (.int v4), .val (.int v5), .val (.int v6), .val (.int v7), .val (.int t0), .val (.int x133)] [(.int x133), (.int r134)])) (fun t k => ?_) ?_
        · show Steps p.tables e below (T134.setTop (mkF m 263 #[d0, d1, d2, .val (.ref b1), .val (.int v4), .val (.int v5), .val (.int v6), .val (.int v7), .val (.int t0), .val (.int x133)] [(.int r134)])) t
          refine XS.iload X134.here hx rfl (hb hby at_263) rfl ?_
          exact k
        by_cases hc265 : r134 = x133
        · rw [if_pos hc265] at hF
          refine own_Goes.via (B := T134.setTop (mkF m 273 #[d0, d1, d2, .val (.ref b1), .val (.int v4), .val (.int v5), .val (.int v6), .val (.int v7), .val (.int t0), .val (.int x133)] [(.int (1 : Int32))])) (fun t k => ?_) ?_
          · show Steps p.tables e below (T134.setTop (mkF m 265 #[d0, d1, d2, .val (.ref b1), .val (.int v4), .val (.int v5), .val (.int v6), .val (.int v7), .val (.int t0), .val (.int x133)] [(.int x133), (.int r134)])) t
            refine XS.icmpNo X134.here hx rfl (hb hby at_265) rfl (teq hc265).2 ?_
            show Steps p.tables e below (T134.setTop (mkF m 268 #[d0, d1, d2, .val (.ref b1), .val (.int v4), .val (.int v5), .val (.int v6), .val (.int v7), .val (.int t0), .val (.int x133)] [])) t
            refine XS.iconst X134.here hx rfl (hb hby at_268) ?_
            show Steps p.tables e below (T134.setTop (mkF m 269 #[d0, d1, d2, .val (.ref b1), .val (.int v4), .val (.int v5), .val (.int v6), .val (.int v7), .val (.int t0), .val (.int x133)] [(.int (1 : Int32))])) t
            refine XS.goto X134.here hx rfl (pc0 := 269) (pc' := 273) rfl (hb hby at_269) (by decide) (by decide) ?_
            exact k
          obtain rfl : (1 : Int32) = r := Option.some.inj hF
          exact own_retN X134 hx (t := .boolean) hret hlk (by simp) (hb hby at_273) e134 (v := (1 : Int32)) (by decide) ⟨rfl, N134, K⟩ (by decide) (by decide)
        · rw [if_neg hc265] at hF
          refine own_Goes.via (B := T134.setTop (mkF m 273 #[d0, d1, d2, .val (.ref b1), .val (.int v4), .val (.int v5), .val (.int v6), .val (.int v7), .val (.int t0), .val (.int x133)] [(.int (0 : Int32))])) (fun t k => ?_) ?_
          · show Steps p.tables e below (T134.setTop (mkF m 265 #[d0, d1, d2, .val (.ref b1), .val (.int v4), .val (.int v5), .val (.int v6), .val (.int v7), .val (.int t0), .val (.int x133)] [(.int x133), (.int r134)])) t
            refine XS.icmpYes X134.here hx rfl (pc0 := 265) (pc' := 272) rfl (hb hby at_265) rfl (feq hc265).2 (by decide) (by decide) ?_
            show Steps p.tables e below (T134.setTop (mkF m 272 #[d0, d1, d2, .val (.ref b1), .val (.int v4), .val (.int v5), .val (.int v6), .val (.int v7), .val (.int t0), .val (.int x133)] [])) t
            refine XS.iconst X134.here hx rfl (hb hby at_272) ?_
            exact k
          obtain rfl : (0 : Int32) = r := Option.some.inj hF
          exact own_retN X134 hx (t := .boolean) hret hlk (by simp) (hb hby at_273) e134 (v := (0 : Int32)) (by decide) ⟨rfl, N134, K⟩ (by decide) (by decide)
set_option maxRecDepth 65536 in
set_option maxHeartbeats 4000000 in
theorem b_law_87 {p : Program} {l : Launch} {e : Env} {s : State} {m : MethodId} {args : Array Value} {below : List Frame} {meth : Method} {c : Code} {Z : State} {a0 : Array Value} {n0 : Nat} {hE : Heap} (cx : Cx_law p s m meth c Z a0) :
    ∀ {T : State} {locs : List Loc} {h : Heap} (X : Stand p l e room_1 s m args below meth c T locs 1 4) (eT : T.heap = h) (N : Fr n0 locs) (K : Keep hE h []) (z : n0 ≤ h.size) (b1 : Addr) (v4 : Int32) (v5 : Int32) (v6 : Int32) (t0 : Int32) (bs_b1 : List Int32) (d0 : Slot) (d1 : Slot) (d2 : Slot) (d7 : Slot) (d8 : Slot) (d9 : Slot) (o_d0 : One d0) (o_d1 : One d1) (o_d2 : One d2) (o_d7 : One d7) (o_d8 : One d8) (o_d9 : One d9) (A_b1 : own_Ar Z h b1 .byte (bs_b1.map Value.int)) (g_b1 : n0 ≤ b1) (nE_b1 : hE.size ≤ b1) (r : Int32), f_law_87 v4 v5 v6 t0 bs_b1 = some r → own_Goes p e below s (Q_law Z hE n0 r) 1 4 (T.setTop (mkF m 87 #[d0, d1, d2, .val (.ref b1), .val (.int v4), .val (.int v5), .val (.int v6), d7, d8, d9] [(.int t0)])) := by
  have cx' := cx
  obtain ⟨hx, hZ, hw, hby, hml, hown, hret, hlk, hnm⟩ := cx'
  intro T locs h X eT N K z b1 v4 v5 v6 t0 bs_b1 d0 d1 d2 d7 d8 d9 o_d0 o_d1 o_d2 o_d7 o_d8 o_d9 A_b1 g_b1 nE_b1 r hF
  unfold f_law_87 at hF
  refine own_Goes.via (B := T.setTop (mkF m 95 #[d0, d1, d2, .val (.ref b1), .val (.int v4), .val (.int v5), .val (.int v6), .val (.int t0), d8, d9] [(.int v5), (.int (v4 + (2 : Int32)))])) (fun t k => ?_) ?_
  · show Steps p.tables e below (T.setTop (mkF m 87 #[d0, d1, d2, .val (.ref b1), .val (.int v4), .val (.int v5), .val (.int v6), d7, d8, d9] [(.int t0)])) t
    refine XS.istoreS X.here hx rfl (hb hby at_87) rfl rfl o_d7 ?_
    show Steps p.tables e below (T.setTop (mkF m 89 #[d0, d1, d2, .val (.ref b1), .val (.int v4), .val (.int v5), .val (.int v6), .val (.int t0), d8, d9] [])) t
    refine XS.iload X.here hx rfl (hb hby at_89) rfl ?_
    show Steps p.tables e below (T.setTop (mkF m 91 #[d0, d1, d2, .val (.ref b1), .val (.int v4), .val (.int v5), .val (.int v6), .val (.int t0), d8, d9] [(.int v4)])) t
    refine XS.iconst X.here hx rfl (hb hby at_91) ?_
    show Steps p.tables e below (T.setTop (mkF m 92 #[d0, d1, d2, .val (.ref b1), .val (.int v4), .val (.int v5), .val (.int v6), .val (.int t0), d8, d9] [(.int (2 : Int32)), (.int v4)])) t
    refine XS.iadd X.here hx rfl (hb hby at_92) rfl ?_
    show Steps p.tables e below (T.setTop (mkF m 93 #[d0, d1, d2, .val (.ref b1), .val (.int v4), .val (.int v5), .val (.int v6), .val (.int t0), d8, d9] [(.int (v4 + (2 : Int32)))])) t
    refine XS.iload X.here hx rfl (hb hby at_93) rfl ?_
    exact k
  by_cases hc95 : (v4 + (2 : Int32)) < v5
  · rw [if_pos hc95] at hF
    refine own_Goes.via (B := T.setTop (mkF m 103 #[d0, d1, d2, .val (.ref b1), .val (.int v4), .val (.int v5), .val (.int v6), .val (.int t0), d8, d9] [(.int (v4 + (2 : Int32))), (.ref b1)])) (fun t k => ?_) ?_
    · show Steps p.tables e below (T.setTop (mkF m 95 #[d0, d1, d2, .val (.ref b1), .val (.int v4), .val (.int v5), .val (.int v6), .val (.int t0), d8, d9] [(.int v5), (.int (v4 + (2 : Int32)))])) t
      refine XS.icmpNo X.here hx rfl (hb hby at_95) rfl (tlt hc95).2.1 ?_
      show Steps p.tables e below (T.setTop (mkF m 98 #[d0, d1, d2, .val (.ref b1), .val (.int v4), .val (.int v5), .val (.int v6), .val (.int t0), d8, d9] [])) t
      refine XS.aloadN X.here hx rfl (hb hby at_98) rfl rfl ?_
      show Steps p.tables e below (T.setTop (mkF m 99 #[d0, d1, d2, .val (.ref b1), .val (.int v4), .val (.int v5), .val (.int v6), .val (.int t0), d8, d9] [(.ref b1)])) t
      refine XS.iload X.here hx rfl (hb hby at_99) rfl ?_
      show Steps p.tables e below (T.setTop (mkF m 101 #[d0, d1, d2, .val (.ref b1), .val (.int v4), .val (.int v5), .val (.int v6), .val (.int t0), d8, d9] [(.int v4), (.ref b1)])) t
      refine XS.iconst X.here hx rfl (hb hby at_101) ?_
      show Steps p.tables e below (T.setTop (mkF m 102 #[d0, d1, d2, .val (.ref b1), .val (.int v4), .val (.int v5), .val (.int v6), .val (.int t0), d8, d9] [(.int (2 : Int32)), (.int v4), (.ref b1)])) t
      refine XS.iadd X.here hx rfl (hb hby at_102) rfl ?_
      exact k
    obtain ⟨x135, hx135, hF⟩ := own_lt_e hF
    rw [← hx135]
    obtain ⟨hi103, hF⟩ := own_ck_e hF
    refine own_Goes.via (B := T.setTop (mkF m 112 #[d0, d1, d2, .val (.ref b1), .val (.int v4), .val (.int v5), .val (.int v6), .val (.int t0), d8, d9] [(.int ((own_rd bs_b1 x135) &&& (255 : Int32)))])) (fun t k => ?_) ?_
    · show Steps p.tables e below (T.setTop (mkF m 103 #[d0, d1, d2, .val (.ref b1), .val (.int v4), .val (.int v5), .val (.int v6), .val (.int t0), d8, d9] [(.int x135), (.ref b1)])) t
      refine own_ldB X hx hZ eT A_b1 hi103 rfl (g := (mkF m 103 #[d0, d1, d2, .val (.ref b1), .val (.int v4), .val (.int v5), .val (.int v6), .val (.int t0), d8, d9] [(.int x135), (.ref b1)])) rfl rfl (hb hby at_103) ?_
      show Steps p.tables e below (T.setTop (mkF m 104 #[d0, d1, d2, .val (.ref b1), .val (.int v4), .val (.int v5), .val (.int v6), .val (.int t0), d8, d9] [(.int (own_rd bs_b1 x135))])) t
      refine XS.sipush X.here hx rfl (hb hby at_104) ?_
      show Steps p.tables e below (T.setTop (mkF m 107 #[d0, d1, d2, .val (.ref b1), .val (.int v4), .val (.int v5), .val (.int v6), .val (.int t0), d8, d9] [(.int (255 : Int32)), (.int (own_rd bs_b1 x135))])) t
      refine XS.iand X.here hx rfl (hb hby at_107) rfl ?_
      show Steps p.tables e below (T.setTop (mkF m 108 #[d0, d1, d2, .val (.ref b1), .val (.int v4), .val (.int v5), .val (.int v6), .val (.int t0), d8, d9] [(.int ((own_rd bs_b1 x135) &&& (255 : Int32)))])) t
      refine XS.goto X.here hx rfl (pc0 := 108) (pc' := 112) rfl (hb hby at_108) (by decide) (by decide) ?_
      exact k
    exact b_law_112 cx X eT N K z b1 v4 v5 v6 t0 ((own_rd bs_b1 x135) &&& (255 : Int32)) bs_b1 d0 d1 d2 d8 d9 o_d0 o_d1 o_d2 o_d8 o_d9 A_b1 g_b1 nE_b1 _ hF
  · rw [if_neg hc95] at hF
    refine own_Goes.via (B := T.setTop (mkF m 112 #[d0, d1, d2, .val (.ref b1), .val (.int v4), .val (.int v5), .val (.int v6), .val (.int t0), d8, d9] [(.int (-1 : Int32))])) (fun t k => ?_) ?_
    · show Steps p.tables e below (T.setTop (mkF m 95 #[d0, d1, d2, .val (.ref b1), .val (.int v4), .val (.int v5), .val (.int v6), .val (.int t0), d8, d9] [(.int v5), (.int (v4 + (2 : Int32)))])) t
      refine XS.icmpYes X.here hx rfl (pc0 := 95) (pc' := 111) rfl (hb hby at_95) rfl (flt hc95).2.1 (by decide) (by decide) ?_
      show Steps p.tables e below (T.setTop (mkF m 111 #[d0, d1, d2, .val (.ref b1), .val (.int v4), .val (.int v5), .val (.int v6), .val (.int t0), d8, d9] [])) t
      refine XS.iconst X.here hx rfl (hb hby at_111) ?_
      exact k
    exact b_law_112 cx X eT N K z b1 v4 v5 v6 t0 (-1 : Int32) bs_b1 d0 d1 d2 d8 d9 o_d0 o_d1 o_d2 o_d8 o_d9 A_b1 g_b1 nE_b1 _ hF
set_option maxRecDepth 65536 in
set_option maxHeartbeats 4000000 in
theorem b_law {p : Program} {l : Launch} {e : Env} {s : State} {m : MethodId} {args : Array Value} {below : List Frame} {meth : Method} {c : Code} {Z : State} {a0 : Array Value} {n0 : Nat} {hE : Heap} (cx : Cx_law p s m meth c Z a0) :
    ∀ {T : State} {locs : List Loc} {h : Heap} (X : Stand p l e room_1 s m args below meth c T locs 0 0) (eT : T.heap = h) (N : Fr n0 locs) (K : Keep hE h []) (z : n0 ≤ h.size) (v0 : Int32) (v1 : Int32) (v2 : Int32) (r : Int32), f_law v0 v1 v2 = some r → own_Goes p e below s (Q_law Z hE n0 r) 1 4 (T.setTop (mkF m 0 #[.val (.int v0), .val (.int v1), .val (.int v2), .unset, .unset, .unset, .unset, .unset, .unset, .unset] [])) := by
  have cx' := cx
  obtain ⟨hx, hZ, hw, hby, hml, hown, hret, hlk, hnm⟩ := cx'
  intro T locs h X eT N K z v0 v1 v2 r hF
  unfold f_law at hF
  refine own_Goes.via (B := T.setTop (mkF m 1 #[.val (.int v0), .val (.int v1), .val (.int v2), .unset, .unset, .unset, .unset, .unset, .unset, .unset] [(.int (4 : Int32))])) (fun t k => ?_) ?_
  · show Steps p.tables e below (T.setTop (mkF m 0 #[.val (.int v0), .val (.int v1), .val (.int v2), .unset, .unset, .unset, .unset, .unset, .unset, .unset] [])) t
    refine XS.iconst X.here hx rfl (hb hby at_0) ?_
    exact k
  obtain ⟨T136, h136, k136, X136, e136, E136, A136, st136⟩ := newP X hx hZ (aty := .byte) (w0 hw) eT (g := (mkF m 1 #[.val (.int v0), .val (.int v1), .val (.int v2), .unset, .unset, .unset, .unset, .unset, .unset, .unset] [(.int (4 : Int32))])) rfl (hb hby at_1) rfl (by decide) (cap := 4) (by decide) (by decide) (by decide) (by decide)
  obtain ⟨c136, q136⟩ : ∃ z, z = h.size := ⟨_, rfl⟩
  rw [← q136] at A136 st136
  have A136_c136 : own_Ar Z h136 c136 .byte (([(0 : Int32), (0 : Int32), (0 : Int32), (0 : Int32)] : List Int32).map Value.int) := own_newI A136 (by decide) rfl (kk := 4) (by decide)
  have g136_c136 : n0 ≤ c136 := Nat.le_trans z (Nat.le_of_eq q136.symm)
  have nE136_c136 : hE.size ≤ c136 := Nat.le_trans K.1 (Nat.le_of_eq q136.symm)
  have z136 := Nat.le_trans z E136.1
  have K136_ := K.ext E136
  refine own_Goes.via st136 ?_
  show own_Goes _ _ _ _ _ _ _ (T136.setTop (mkF m 3 #[.val (.int v0), .val (.int v1), .val (.int v2), .unset, .unset, .unset, .unset, .unset, .unset, .unset] [(.ref c136)]))
  refine own_Goes.via (B := T136.setTop (mkF m 8 #[.val (.int v0), .val (.int v1), .val (.int v2), .val (.ref c136), .unset, .unset, .unset, .unset, .unset, .unset] [(.int (v0.toInt8.toInt32)), (.int (0 : Int32)), (.ref c136)])) (fun t k => ?_) ?_
  · show Steps p.tables e below (T136.setTop (mkF m 3 #[.val (.int v0), .val (.int v1), .val (.int v2), .unset, .unset, .unset, .unset, .unset, .unset, .unset] [(.ref c136)])) t
    refine XS.astoreN X136.here hx rfl (hb hby at_3) rfl rfl (l' := #[.val (.int v0), .val (.int v1), .val (.int v2), .val (.ref c136), .unset, .unset, .unset, .unset, .unset, .unset]) rfl ?_
    show Steps p.tables e below (T136.setTop (mkF m 4 #[.val (.int v0), .val (.int v1), .val (.int v2), .val (.ref c136), .unset, .unset, .unset, .unset, .unset, .unset] [])) t
    refine XS.aloadN X136.here hx rfl (hb hby at_4) rfl rfl ?_
    show Steps p.tables e below (T136.setTop (mkF m 5 #[.val (.int v0), .val (.int v1), .val (.int v2), .val (.ref c136), .unset, .unset, .unset, .unset, .unset, .unset] [(.ref c136)])) t
    refine XS.iconst X136.here hx rfl (hb hby at_5) ?_
    show Steps p.tables e below (T136.setTop (mkF m 6 #[.val (.int v0), .val (.int v1), .val (.int v2), .val (.ref c136), .unset, .unset, .unset, .unset, .unset, .unset] [(.int (0 : Int32)), (.ref c136)])) t
    refine XS.iloadN X136.here hx rfl (hb hby at_6) rfl ?_
    show Steps p.tables e below (T136.setTop (mkF m 7 #[.val (.int v0), .val (.int v1), .val (.int v2), .val (.ref c136), .unset, .unset, .unset, .unset, .unset, .unset] [(.int v0), (.int (0 : Int32)), (.ref c136)])) t
    refine XS.i2b X136.here hx rfl (hb hby at_7) rfl ?_
    exact k
  obtain ⟨x137, hx137, hF⟩ := own_lt_e hF
  rw [← hx137]
  obtain ⟨T138, h138, X138, e138, W138, A138_c136, st138⟩ := own_stB X136 hx hZ e136 A136_c136 (own_inbk 0 4 (by decide) (by decide) rfl (by decide)) (g := (mkF m 8 #[.val (.int v0), .val (.int v1), .val (.int v2), .val (.ref c136), .unset, .unset, .unset, .unset, .unset, .unset] [(.int x137), (.int (0 : Int32)), (.ref c136)])) rfl rfl (hb hby at_8)
  refine own_Goes.via st138 ?_
  have z138 := Nat.le_trans z136 (Keep.of_wr W138).1
  have K138_ := K136_.wr W138 (Or.inr nE136_c136)
  have N138 := Fr.snoc X138 N g136_c136
  rw [own_wrk 0 (by decide)] at A138_c136
  have A138_c136 : own_Ar Z h138 c136 .byte (([(x137.toInt8.toInt32), (0 : Int32), (0 : Int32), (0 : Int32)] : List Int32).map Value.int) := A138_c136
  show own_Goes _ _ _ _ _ _ _ (T138.setTop (mkF m 9 #[.val (.int v0), .val (.int v1), .val (.int v2), .val (.ref c136), .unset, .unset, .unset, .unset, .unset, .unset] []))
  refine own_Goes.via (B := T138.setTop (mkF m 16 #[.val (.int v0), .val (.int v1), .val (.int v2), .val (.ref c136), .unset, .unset, .unset, .unset, .unset, .unset] [(.int (((v0.toUInt32 >>> ((8 : Int32) &&& 31).toUInt32).toInt32).toInt8.toInt32)), (.int (1 : Int32)), (.ref c136)])) (fun t k => ?_) ?_
  · show Steps p.tables e below (T138.setTop (mkF m 9 #[.val (.int v0), .val (.int v1), .val (.int v2), .val (.ref c136), .unset, .unset, .unset, .unset, .unset, .unset] [])) t
    refine XS.aloadN X138.here hx rfl (hb hby at_9) rfl rfl ?_
    show Steps p.tables e below (T138.setTop (mkF m 10 #[.val (.int v0), .val (.int v1), .val (.int v2), .val (.ref c136), .unset, .unset, .unset, .unset, .unset, .unset] [(.ref c136)])) t
    refine XS.iconst X138.here hx rfl (hb hby at_10) ?_
    show Steps p.tables e below (T138.setTop (mkF m 11 #[.val (.int v0), .val (.int v1), .val (.int v2), .val (.ref c136), .unset, .unset, .unset, .unset, .unset, .unset] [(.int (1 : Int32)), (.ref c136)])) t
    refine XS.iloadN X138.here hx rfl (hb hby at_11) rfl ?_
    show Steps p.tables e below (T138.setTop (mkF m 12 #[.val (.int v0), .val (.int v1), .val (.int v2), .val (.ref c136), .unset, .unset, .unset, .unset, .unset, .unset] [(.int v0), (.int (1 : Int32)), (.ref c136)])) t
    refine XS.bipush X138.here hx rfl (hb hby at_12) ?_
    show Steps p.tables e below (T138.setTop (mkF m 14 #[.val (.int v0), .val (.int v1), .val (.int v2), .val (.ref c136), .unset, .unset, .unset, .unset, .unset, .unset] [(.int (8 : Int32)), (.int v0), (.int (1 : Int32)), (.ref c136)])) t
    refine XS.iushr X138.here hx rfl (hb hby at_14) rfl ?_
    show Steps p.tables e below (T138.setTop (mkF m 15 #[.val (.int v0), .val (.int v1), .val (.int v2), .val (.ref c136), .unset, .unset, .unset, .unset, .unset, .unset] [(.int ((v0.toUInt32 >>> ((8 : Int32) &&& 31).toUInt32).toInt32)), (.int (1 : Int32)), (.ref c136)])) t
    refine XS.i2b X138.here hx rfl (hb hby at_15) rfl ?_
    exact k
  obtain ⟨x139, hx139, hF⟩ := own_lt_e hF
  rw [← hx139]
  obtain ⟨T140, h140, X140, e140, W140, A140_c136, st140⟩ := own_stB X138 hx hZ e138 A138_c136 (own_inbk 1 4 (by decide) (by decide) rfl (by decide)) (g := (mkF m 16 #[.val (.int v0), .val (.int v1), .val (.int v2), .val (.ref c136), .unset, .unset, .unset, .unset, .unset, .unset] [(.int x139), (.int (1 : Int32)), (.ref c136)])) rfl rfl (hb hby at_16)
  refine own_Goes.via st140 ?_
  have z140 := Nat.le_trans z138 (Keep.of_wr W140).1
  have K140_ := K138_.wr W140 (Or.inr nE136_c136)
  have N140 := Fr.snoc X140 N138 g136_c136
  rw [own_wrk 1 (by decide)] at A140_c136
  have A140_c136 : own_Ar Z h140 c136 .byte (([(x137.toInt8.toInt32), (x139.toInt8.toInt32), (0 : Int32), (0 : Int32)] : List Int32).map Value.int) := A140_c136
  show own_Goes _ _ _ _ _ _ _ (T140.setTop (mkF m 17 #[.val (.int v0), .val (.int v1), .val (.int v2), .val (.ref c136), .unset, .unset, .unset, .unset, .unset, .unset] []))
  refine own_Goes.via (B := T140.setTop (mkF m 24 #[.val (.int v0), .val (.int v1), .val (.int v2), .val (.ref c136), .unset, .unset, .unset, .unset, .unset, .unset] [(.int (((v0.toUInt32 >>> ((16 : Int32) &&& 31).toUInt32).toInt32).toInt8.toInt32)), (.int (2 : Int32)), (.ref c136)])) (fun t k => ?_) ?_
  · show Steps p.tables e below (T140.setTop (mkF m 17 #[.val (.int v0), .val (.int v1), .val (.int v2), .val (.ref c136), .unset, .unset, .unset, .unset, .unset, .unset] [])) t
    refine XS.aloadN X140.here hx rfl (hb hby at_17) rfl rfl ?_
    show Steps p.tables e below (T140.setTop (mkF m 18 #[.val (.int v0), .val (.int v1), .val (.int v2), .val (.ref c136), .unset, .unset, .unset, .unset, .unset, .unset] [(.ref c136)])) t
    refine XS.iconst X140.here hx rfl (hb hby at_18) ?_
    show Steps p.tables e below (T140.setTop (mkF m 19 #[.val (.int v0), .val (.int v1), .val (.int v2), .val (.ref c136), .unset, .unset, .unset, .unset, .unset, .unset] [(.int (2 : Int32)), (.ref c136)])) t
    refine XS.iloadN X140.here hx rfl (hb hby at_19) rfl ?_
    show Steps p.tables e below (T140.setTop (mkF m 20 #[.val (.int v0), .val (.int v1), .val (.int v2), .val (.ref c136), .unset, .unset, .unset, .unset, .unset, .unset] [(.int v0), (.int (2 : Int32)), (.ref c136)])) t
    refine XS.bipush X140.here hx rfl (hb hby at_20) ?_
    show Steps p.tables e below (T140.setTop (mkF m 22 #[.val (.int v0), .val (.int v1), .val (.int v2), .val (.ref c136), .unset, .unset, .unset, .unset, .unset, .unset] [(.int (16 : Int32)), (.int v0), (.int (2 : Int32)), (.ref c136)])) t
    refine XS.iushr X140.here hx rfl (hb hby at_22) rfl ?_
    show Steps p.tables e below (T140.setTop (mkF m 23 #[.val (.int v0), .val (.int v1), .val (.int v2), .val (.ref c136), .unset, .unset, .unset, .unset, .unset, .unset] [(.int ((v0.toUInt32 >>> ((16 : Int32) &&& 31).toUInt32).toInt32)), (.int (2 : Int32)), (.ref c136)])) t
    refine XS.i2b X140.here hx rfl (hb hby at_23) rfl ?_
    exact k
  obtain ⟨x141, hx141, hF⟩ := own_lt_e hF
  rw [← hx141]
  obtain ⟨T142, h142, X142, e142, W142, A142_c136, st142⟩ := own_stB X140 hx hZ e140 A140_c136 (own_inbk 2 4 (by decide) (by decide) rfl (by decide)) (g := (mkF m 24 #[.val (.int v0), .val (.int v1), .val (.int v2), .val (.ref c136), .unset, .unset, .unset, .unset, .unset, .unset] [(.int x141), (.int (2 : Int32)), (.ref c136)])) rfl rfl (hb hby at_24)
  refine own_Goes.via st142 ?_
  have z142 := Nat.le_trans z140 (Keep.of_wr W142).1
  have K142_ := K140_.wr W142 (Or.inr nE136_c136)
  have N142 := Fr.snoc X142 N140 g136_c136
  rw [own_wrk 2 (by decide)] at A142_c136
  have A142_c136 : own_Ar Z h142 c136 .byte (([(x137.toInt8.toInt32), (x139.toInt8.toInt32), (x141.toInt8.toInt32), (0 : Int32)] : List Int32).map Value.int) := A142_c136
  show own_Goes _ _ _ _ _ _ _ (T142.setTop (mkF m 25 #[.val (.int v0), .val (.int v1), .val (.int v2), .val (.ref c136), .unset, .unset, .unset, .unset, .unset, .unset] []))
  refine own_Goes.via (B := T142.setTop (mkF m 32 #[.val (.int v0), .val (.int v1), .val (.int v2), .val (.ref c136), .unset, .unset, .unset, .unset, .unset, .unset] [(.int (((v0.toUInt32 >>> ((24 : Int32) &&& 31).toUInt32).toInt32).toInt8.toInt32)), (.int (3 : Int32)), (.ref c136)])) (fun t k => ?_) ?_
  · show Steps p.tables e below (T142.setTop (mkF m 25 #[.val (.int v0), .val (.int v1), .val (.int v2), .val (.ref c136), .unset, .unset, .unset, .unset, .unset, .unset] [])) t
    refine XS.aloadN X142.here hx rfl (hb hby at_25) rfl rfl ?_
    show Steps p.tables e below (T142.setTop (mkF m 26 #[.val (.int v0), .val (.int v1), .val (.int v2), .val (.ref c136), .unset, .unset, .unset, .unset, .unset, .unset] [(.ref c136)])) t
    refine XS.iconst X142.here hx rfl (hb hby at_26) ?_
    show Steps p.tables e below (T142.setTop (mkF m 27 #[.val (.int v0), .val (.int v1), .val (.int v2), .val (.ref c136), .unset, .unset, .unset, .unset, .unset, .unset] [(.int (3 : Int32)), (.ref c136)])) t
    refine XS.iloadN X142.here hx rfl (hb hby at_27) rfl ?_
    show Steps p.tables e below (T142.setTop (mkF m 28 #[.val (.int v0), .val (.int v1), .val (.int v2), .val (.ref c136), .unset, .unset, .unset, .unset, .unset, .unset] [(.int v0), (.int (3 : Int32)), (.ref c136)])) t
    refine XS.bipush X142.here hx rfl (hb hby at_28) ?_
    show Steps p.tables e below (T142.setTop (mkF m 30 #[.val (.int v0), .val (.int v1), .val (.int v2), .val (.ref c136), .unset, .unset, .unset, .unset, .unset, .unset] [(.int (24 : Int32)), (.int v0), (.int (3 : Int32)), (.ref c136)])) t
    refine XS.iushr X142.here hx rfl (hb hby at_30) rfl ?_
    show Steps p.tables e below (T142.setTop (mkF m 31 #[.val (.int v0), .val (.int v1), .val (.int v2), .val (.ref c136), .unset, .unset, .unset, .unset, .unset, .unset] [(.int ((v0.toUInt32 >>> ((24 : Int32) &&& 31).toUInt32).toInt32)), (.int (3 : Int32)), (.ref c136)])) t
    refine XS.i2b X142.here hx rfl (hb hby at_31) rfl ?_
    exact k
  obtain ⟨x143, hx143, hF⟩ := own_lt_e hF
  rw [← hx143]
  obtain ⟨T144, h144, X144, e144, W144, A144_c136, st144⟩ := own_stB X142 hx hZ e142 A142_c136 (own_inbk 3 4 (by decide) (by decide) rfl (by decide)) (g := (mkF m 32 #[.val (.int v0), .val (.int v1), .val (.int v2), .val (.ref c136), .unset, .unset, .unset, .unset, .unset, .unset] [(.int x143), (.int (3 : Int32)), (.ref c136)])) rfl rfl (hb hby at_32)
  refine own_Goes.via st144 ?_
  have z144 := Nat.le_trans z142 (Keep.of_wr W144).1
  have K144_ := K142_.wr W144 (Or.inr nE136_c136)
  have N144 := Fr.snoc X144 N142 g136_c136
  rw [own_wrk 3 (by decide)] at A144_c136
  have A144_c136 : own_Ar Z h144 c136 .byte (([(x137.toInt8.toInt32), (x139.toInt8.toInt32), (x141.toInt8.toInt32), (x143.toInt8.toInt32)] : List Int32).map Value.int) := A144_c136
  show own_Goes _ _ _ _ _ _ _ (T144.setTop (mkF m 33 #[.val (.int v0), .val (.int v1), .val (.int v2), .val (.ref c136), .unset, .unset, .unset, .unset, .unset, .unset] []))
  refine own_Goes.via (B := T144.setTop (mkF m 36 #[.val (.int v0), .val (.int v1), .val (.int v2), .val (.ref c136), .unset, .unset, .unset, .unset, .unset, .unset] [(.int (v1 &&& (1 : Int32)))])) (fun t k => ?_) ?_
  · show Steps p.tables e below (T144.setTop (mkF m 33 #[.val (.int v0), .val (.int v1), .val (.int v2), .val (.ref c136), .unset, .unset, .unset, .unset, .unset, .unset] [])) t
    refine XS.iloadN X144.here hx rfl (hb hby at_33) rfl ?_
    show Steps p.tables e below (T144.setTop (mkF m 34 #[.val (.int v0), .val (.int v1), .val (.int v2), .val (.ref c136), .unset, .unset, .unset, .unset, .unset, .unset] [(.int v1)])) t
    refine XS.iconst X144.here hx rfl (hb hby at_34) ?_
    show Steps p.tables e below (T144.setTop (mkF m 35 #[.val (.int v0), .val (.int v1), .val (.int v2), .val (.ref c136), .unset, .unset, .unset, .unset, .unset, .unset] [(.int (1 : Int32)), (.int v1)])) t
    refine XS.iand X144.here hx rfl (hb hby at_35) rfl ?_
    exact k
  obtain ⟨x145, hx145, hF⟩ := own_lt_e hF
  rw [← hx145]
  refine own_Goes.via (B := T144.setTop (mkF m 50 #[.val (.int v0), .val (.int v1), .val (.int v2), .val (.ref c136), .val (.int x145), .unset, .unset, .unset, .unset, .unset] [(.int ((4 : Int32) - x145)), (.int (v2 &&& (2147483647 : Int32))), (.int (x145 + (1 : Int32)))])) (fun t k => ?_) ?_
  · show Steps p.tables e below (T144.setTop (mkF m 36 #[.val (.int v0), .val (.int v1), .val (.int v2), .val (.ref c136), .unset, .unset, .unset, .unset, .unset, .unset] [(.int x145)])) t
    refine XS.istore X144.here hx rfl (hb hby at_36) rfl (l' := #[.val (.int v0), .val (.int v1), .val (.int v2), .val (.ref c136), .val (.int x145), .unset, .unset, .unset, .unset, .unset]) rfl ?_
    show Steps p.tables e below (T144.setTop (mkF m 38 #[.val (.int v0), .val (.int v1), .val (.int v2), .val (.ref c136), .val (.int x145), .unset, .unset, .unset, .unset, .unset] [])) t
    refine XS.iload X144.here hx rfl (hb hby at_38) rfl ?_
    show Steps p.tables e below (T144.setTop (mkF m 40 #[.val (.int v0), .val (.int v1), .val (.int v2), .val (.ref c136), .val (.int x145), .unset, .unset, .unset, .unset, .unset] [(.int x145)])) t
    refine XS.iconst X144.here hx rfl (hb hby at_40) ?_
    show Steps p.tables e below (T144.setTop (mkF m 41 #[.val (.int v0), .val (.int v1), .val (.int v2), .val (.ref c136), .val (.int x145), .unset, .unset, .unset, .unset, .unset] [(.int (1 : Int32)), (.int x145)])) t
    refine XS.iadd X144.here hx rfl (hb hby at_41) rfl ?_
    show Steps p.tables e below (T144.setTop (mkF m 42 #[.val (.int v0), .val (.int v1), .val (.int v2), .val (.ref c136), .val (.int x145), .unset, .unset, .unset, .unset, .unset] [(.int (x145 + (1 : Int32)))])) t
    refine XS.iloadN X144.here hx rfl (hb hby at_42) rfl ?_
    show Steps p.tables e below (T144.setTop (mkF m 43 #[.val (.int v0), .val (.int v1), .val (.int v2), .val (.ref c136), .val (.int x145), .unset, .unset, .unset, .unset, .unset] [(.int v2), (.int (x145 + (1 : Int32)))])) t
    refine X144.ldcInt hx hown (mvT hZ (w1 hw)) (g := (mkF m 43 #[.val (.int v0), .val (.int v1), .val (.int v2), .val (.ref c136), .val (.int x145), .unset, .unset, .unset, .unset, .unset] [(.int v2), (.int (x145 + (1 : Int32)))])) rfl (hb hby at_43) _ ?_
    show Steps p.tables e below (T144.setTop (mkF m 45 #[.val (.int v0), .val (.int v1), .val (.int v2), .val (.ref c136), .val (.int x145), .unset, .unset, .unset, .unset, .unset] [(.int (2147483647 : Int32)), (.int v2), (.int (x145 + (1 : Int32)))])) t
    refine XS.iand X144.here hx rfl (hb hby at_45) rfl ?_
    show Steps p.tables e below (T144.setTop (mkF m 46 #[.val (.int v0), .val (.int v1), .val (.int v2), .val (.ref c136), .val (.int x145), .unset, .unset, .unset, .unset, .unset] [(.int (v2 &&& (2147483647 : Int32))), (.int (x145 + (1 : Int32)))])) t
    refine XS.iconst X144.here hx rfl (hb hby at_46) ?_
    show Steps p.tables e below (T144.setTop (mkF m 47 #[.val (.int v0), .val (.int v1), .val (.int v2), .val (.ref c136), .val (.int x145), .unset, .unset, .unset, .unset, .unset] [(.int (4 : Int32)), (.int (v2 &&& (2147483647 : Int32))), (.int (x145 + (1 : Int32)))])) t
    refine XS.iload X144.here hx rfl (hb hby at_47) rfl ?_
    show Steps p.tables e below (T144.setTop (mkF m 49 #[.val (.int v0), .val (.int v1), .val (.int v2), .val (.ref c136), .val (.int x145), .unset, .unset, .unset, .unset, .unset] [(.int x145), (.int (4 : Int32)), (.int (v2 &&& (2147483647 : Int32))), (.int (x145 + (1 : Int32)))])) t
    refine XS.isub X144.here hx rfl (hb hby at_49) rfl ?_
    exact k
  obtain ⟨hz50, hF⟩ := own_ck_e hF
  refine own_Goes.via (B := T144.setTop (mkF m 52 #[.val (.int v0), .val (.int v1), .val (.int v2), .val (.ref c136), .val (.int x145), .unset, .unset, .unset, .unset, .unset] [(.int ((x145 + (1 : Int32)) + ((v2 &&& (2147483647 : Int32)) % ((4 : Int32) - x145))))])) (fun t k => ?_) ?_
  · show Steps p.tables e below (T144.setTop (mkF m 50 #[.val (.int v0), .val (.int v1), .val (.int v2), .val (.ref c136), .val (.int x145), .unset, .unset, .unset, .unset, .unset] [(.int ((4 : Int32) - x145)), (.int (v2 &&& (2147483647 : Int32))), (.int (x145 + (1 : Int32)))])) t
    refine own_irem X144 hx rfl (hb hby at_50) rfl hz50 ?_
    show Steps p.tables e below (T144.setTop (mkF m 51 #[.val (.int v0), .val (.int v1), .val (.int v2), .val (.ref c136), .val (.int x145), .unset, .unset, .unset, .unset, .unset] [(.int ((v2 &&& (2147483647 : Int32)) % ((4 : Int32) - x145))), (.int (x145 + (1 : Int32)))])) t
    refine XS.iadd X144.here hx rfl (hb hby at_51) rfl ?_
    exact k
  obtain ⟨x146, hx146, hF⟩ := own_lt_e hF
  rw [← hx146]
  refine own_Goes.via (B := T144.setTop (mkF m 57 #[.val (.int v0), .val (.int v1), .val (.int v2), .val (.ref c136), .val (.int x145), .val (.int x146), .unset, .unset, .unset, .unset] [(.int x145), (.ref c136)])) (fun t k => ?_) ?_
  · show Steps p.tables e below (T144.setTop (mkF m 52 #[.val (.int v0), .val (.int v1), .val (.int v2), .val (.ref c136), .val (.int x145), .unset, .unset, .unset, .unset, .unset] [(.int x146)])) t
    refine XS.istore X144.here hx rfl (hb hby at_52) rfl (l' := #[.val (.int v0), .val (.int v1), .val (.int v2), .val (.ref c136), .val (.int x145), .val (.int x146), .unset, .unset, .unset, .unset]) rfl ?_
    show Steps p.tables e below (T144.setTop (mkF m 54 #[.val (.int v0), .val (.int v1), .val (.int v2), .val (.ref c136), .val (.int x145), .val (.int x146), .unset, .unset, .unset, .unset] [])) t
    refine XS.aloadN X144.here hx rfl (hb hby at_54) rfl rfl ?_
    show Steps p.tables e below (T144.setTop (mkF m 55 #[.val (.int v0), .val (.int v1), .val (.int v2), .val (.ref c136), .val (.int x145), .val (.int x146), .unset, .unset, .unset, .unset] [(.ref c136)])) t
    refine XS.iload X144.here hx rfl (hb hby at_55) rfl ?_
    exact k
  obtain ⟨hi57, hF⟩ := own_ck_e hF
  refine own_Goes.via (B := T144.setTop (mkF m 62 #[.val (.int v0), .val (.int v1), .val (.int v2), .val (.ref c136), .val (.int x145), .val (.int x146), .unset, .unset, .unset, .unset] [(.int ((own_rd ([(x137.toInt8.toInt32), (x139.toInt8.toInt32), (x141.toInt8.toInt32), (x143.toInt8.toInt32)] : List Int32) x145) &&& (255 : Int32)))])) (fun t k => ?_) ?_
  · show Steps p.tables e below (T144.setTop (mkF m 57 #[.val (.int v0), .val (.int v1), .val (.int v2), .val (.ref c136), .val (.int x145), .val (.int x146), .unset, .unset, .unset, .unset] [(.int x145), (.ref c136)])) t
    refine own_ldB X144 hx hZ e144 A144_c136 hi57 rfl (g := (mkF m 57 #[.val (.int v0), .val (.int v1), .val (.int v2), .val (.ref c136), .val (.int x145), .val (.int x146), .unset, .unset, .unset, .unset] [(.int x145), (.ref c136)])) rfl rfl (hb hby at_57) ?_
    show Steps p.tables e below (T144.setTop (mkF m 58 #[.val (.int v0), .val (.int v1), .val (.int v2), .val (.ref c136), .val (.int x145), .val (.int x146), .unset, .unset, .unset, .unset] [(.int (own_rd ([(x137.toInt8.toInt32), (x139.toInt8.toInt32), (x141.toInt8.toInt32), (x143.toInt8.toInt32)] : List Int32) x145))])) t
    refine XS.sipush X144.here hx rfl (hb hby at_58) ?_
    show Steps p.tables e below (T144.setTop (mkF m 61 #[.val (.int v0), .val (.int v1), .val (.int v2), .val (.ref c136), .val (.int x145), .val (.int x146), .unset, .unset, .unset, .unset] [(.int (255 : Int32)), (.int (own_rd ([(x137.toInt8.toInt32), (x139.toInt8.toInt32), (x141.toInt8.toInt32), (x143.toInt8.toInt32)] : List Int32) x145))])) t
    refine XS.iand X144.here hx rfl (hb hby at_61) rfl ?_
    exact k
  obtain ⟨x147, hx147, hF⟩ := own_lt_e hF
  rw [← hx147]
  refine own_Goes.via (B := T144.setTop (mkF m 70 #[.val (.int v0), .val (.int v1), .val (.int v2), .val (.ref c136), .val (.int x145), .val (.int x146), .val (.int x147), .unset, .unset, .unset] [(.int x146), (.int (x145 + (1 : Int32)))])) (fun t k => ?_) ?_
  · show Steps p.tables e below (T144.setTop (mkF m 62 #[.val (.int v0), .val (.int v1), .val (.int v2), .val (.ref c136), .val (.int x145), .val (.int x146), .unset, .unset, .unset, .unset] [(.int x147)])) t
    refine XS.istore X144.here hx rfl (hb hby at_62) rfl (l' := #[.val (.int v0), .val (.int v1), .val (.int v2), .val (.ref c136), .val (.int x145), .val (.int x146), .val (.int x147), .unset, .unset, .unset]) rfl ?_
    show Steps p.tables e below (T144.setTop (mkF m 64 #[.val (.int v0), .val (.int v1), .val (.int v2), .val (.ref c136), .val (.int x145), .val (.int x146), .val (.int x147), .unset, .unset, .unset] [])) t
    refine XS.iload X144.here hx rfl (hb hby at_64) rfl ?_
    show Steps p.tables e below (T144.setTop (mkF m 66 #[.val (.int v0), .val (.int v1), .val (.int v2), .val (.ref c136), .val (.int x145), .val (.int x146), .val (.int x147), .unset, .unset, .unset] [(.int x145)])) t
    refine XS.iconst X144.here hx rfl (hb hby at_66) ?_
    show Steps p.tables e below (T144.setTop (mkF m 67 #[.val (.int v0), .val (.int v1), .val (.int v2), .val (.ref c136), .val (.int x145), .val (.int x146), .val (.int x147), .unset, .unset, .unset] [(.int (1 : Int32)), (.int x145)])) t
    refine XS.iadd X144.here hx rfl (hb hby at_67) rfl ?_
    show Steps p.tables e below (T144.setTop (mkF m 68 #[.val (.int v0), .val (.int v1), .val (.int v2), .val (.ref c136), .val (.int x145), .val (.int x146), .val (.int x147), .unset, .unset, .unset] [(.int (x145 + (1 : Int32)))])) t
    refine XS.iload X144.here hx rfl (hb hby at_68) rfl ?_
    exact k
  by_cases hc70 : (x145 + (1 : Int32)) < x146
  · rw [if_pos hc70] at hF
    refine own_Goes.via (B := T144.setTop (mkF m 78 #[.val (.int v0), .val (.int v1), .val (.int v2), .val (.ref c136), .val (.int x145), .val (.int x146), .val (.int x147), .unset, .unset, .unset] [(.int (x145 + (1 : Int32))), (.ref c136)])) (fun t k => ?_) ?_
    · show Steps p.tables e below (T144.setTop (mkF m 70 #[.val (.int v0), .val (.int v1), .val (.int v2), .val (.ref c136), .val (.int x145), .val (.int x146), .val (.int x147), .unset, .unset, .unset] [(.int x146), (.int (x145 + (1 : Int32)))])) t
      refine XS.icmpNo X144.here hx rfl (hb hby at_70) rfl (tlt hc70).2.1 ?_
      show Steps p.tables e below (T144.setTop (mkF m 73 #[.val (.int v0), .val (.int v1), .val (.int v2), .val (.ref c136), .val (.int x145), .val (.int x146), .val (.int x147), .unset, .unset, .unset] [])) t
      refine XS.aloadN X144.here hx rfl (hb hby at_73) rfl rfl ?_
      show Steps p.tables e below (T144.setTop (mkF m 74 #[.val (.int v0), .val (.int v1), .val (.int v2), .val (.ref c136), .val (.int x145), .val (.int x146), .val (.int x147), .unset, .unset, .unset] [(.ref c136)])) t
      refine XS.iload X144.here hx rfl (hb hby at_74) rfl ?_
      show Steps p.tables e below (T144.setTop (mkF m 76 #[.val (.int v0), .val (.int v1), .val (.int v2), .val (.ref c136), .val (.int x145), .val (.int x146), .val (.int x147), .unset, .unset, .unset] [(.int x145), (.ref c136)])) t
      refine XS.iconst X144.here hx rfl (hb hby at_76) ?_
      show Steps p.tables e below (T144.setTop (mkF m 77 #[.val (.int v0), .val (.int v1), .val (.int v2), .val (.ref c136), .val (.int x145), .val (.int x146), .val (.int x147), .unset, .unset, .unset] [(.int (1 : Int32)), (.int x145), (.ref c136)])) t
      refine XS.iadd X144.here hx rfl (hb hby at_77) rfl ?_
      exact k
    obtain ⟨x148, hx148, hF⟩ := own_lt_e hF
    rw [← hx148]
    obtain ⟨hi78, hF⟩ := own_ck_e hF
    refine own_Goes.via (B := T144.setTop (mkF m 87 #[.val (.int v0), .val (.int v1), .val (.int v2), .val (.ref c136), .val (.int x145), .val (.int x146), .val (.int x147), .unset, .unset, .unset] [(.int ((own_rd ([(x137.toInt8.toInt32), (x139.toInt8.toInt32), (x141.toInt8.toInt32), (x143.toInt8.toInt32)] : List Int32) x148) &&& (255 : Int32)))])) (fun t k => ?_) ?_
    · show Steps p.tables e below (T144.setTop (mkF m 78 #[.val (.int v0), .val (.int v1), .val (.int v2), .val (.ref c136), .val (.int x145), .val (.int x146), .val (.int x147), .unset, .unset, .unset] [(.int x148), (.ref c136)])) t
      refine own_ldB X144 hx hZ e144 A144_c136 hi78 rfl (g := (mkF m 78 #[.val (.int v0), .val (.int v1), .val (.int v2), .val (.ref c136), .val (.int x145), .val (.int x146), .val (.int x147), .unset, .unset, .unset] [(.int x148), (.ref c136)])) rfl rfl (hb hby at_78) ?_
      show Steps p.tables e below (T144.setTop (mkF m 79 #[.val (.int v0), .val (.int v1), .val (.int v2), .val (.ref c136), .val (.int x145), .val (.int x146), .val (.int x147), .unset, .unset, .unset] [(.int (own_rd ([(x137.toInt8.toInt32), (x139.toInt8.toInt32), (x141.toInt8.toInt32), (x143.toInt8.toInt32)] : List Int32) x148))])) t
      refine XS.sipush X144.here hx rfl (hb hby at_79) ?_
      show Steps p.tables e below (T144.setTop (mkF m 82 #[.val (.int v0), .val (.int v1), .val (.int v2), .val (.ref c136), .val (.int x145), .val (.int x146), .val (.int x147), .unset, .unset, .unset] [(.int (255 : Int32)), (.int (own_rd ([(x137.toInt8.toInt32), (x139.toInt8.toInt32), (x141.toInt8.toInt32), (x143.toInt8.toInt32)] : List Int32) x148))])) t
      refine XS.iand X144.here hx rfl (hb hby at_82) rfl ?_
      show Steps p.tables e below (T144.setTop (mkF m 83 #[.val (.int v0), .val (.int v1), .val (.int v2), .val (.ref c136), .val (.int x145), .val (.int x146), .val (.int x147), .unset, .unset, .unset] [(.int ((own_rd ([(x137.toInt8.toInt32), (x139.toInt8.toInt32), (x141.toInt8.toInt32), (x143.toInt8.toInt32)] : List Int32) x148) &&& (255 : Int32)))])) t
      refine XS.goto X144.here hx rfl (pc0 := 83) (pc' := 87) rfl (hb hby at_83) (by decide) (by decide) ?_
      exact k
    exact b_law_87 cx X144 e144 N144 K144_ z144 c136 x145 x146 x147 ((own_rd ([(x137.toInt8.toInt32), (x139.toInt8.toInt32), (x141.toInt8.toInt32), (x143.toInt8.toInt32)] : List Int32) x148) &&& (255 : Int32)) ([(x137.toInt8.toInt32), (x139.toInt8.toInt32), (x141.toInt8.toInt32), (x143.toInt8.toInt32)] : List Int32) (.val (.int v0)) (.val (.int v1)) (.val (.int v2)) (.unset) (.unset) (.unset) (One.val rfl) (One.val rfl) (One.val rfl) One.u One.u One.u A144_c136 g136_c136 nE136_c136 _ hF
  · rw [if_neg hc70] at hF
    refine own_Goes.via (B := T144.setTop (mkF m 87 #[.val (.int v0), .val (.int v1), .val (.int v2), .val (.ref c136), .val (.int x145), .val (.int x146), .val (.int x147), .unset, .unset, .unset] [(.int (-1 : Int32))])) (fun t k => ?_) ?_
    · show Steps p.tables e below (T144.setTop (mkF m 70 #[.val (.int v0), .val (.int v1), .val (.int v2), .val (.ref c136), .val (.int x145), .val (.int x146), .val (.int x147), .unset, .unset, .unset] [(.int x146), (.int (x145 + (1 : Int32)))])) t
      refine XS.icmpYes X144.here hx rfl (pc0 := 70) (pc' := 86) rfl (hb hby at_70) rfl (flt hc70).2.1 (by decide) (by decide) ?_
      show Steps p.tables e below (T144.setTop (mkF m 86 #[.val (.int v0), .val (.int v1), .val (.int v2), .val (.ref c136), .val (.int x145), .val (.int x146), .val (.int x147), .unset, .unset, .unset] [])) t
      refine XS.iconst X144.here hx rfl (hb hby at_86) ?_
      exact k
    exact b_law_87 cx X144 e144 N144 K144_ z144 c136 x145 x146 x147 (-1 : Int32) ([(x137.toInt8.toInt32), (x139.toInt8.toInt32), (x141.toInt8.toInt32), (x143.toInt8.toInt32)] : List Int32) (.val (.int v0)) (.val (.int v1)) (.val (.int v2)) (.unset) (.unset) (.unset) (One.val rfl) (One.val rfl) (One.val rfl) One.u One.u One.u A144_c136 g136_c136 nE136_c136 _ hF
theorem ef_law (m : MethodId) (x0 : Int32) (x1 : Int32) (x2 : Int32) : entryFrame m #[(.int x0), (.int x1), (.int x2)] maxLocals = mkF m 0 #[.val (.int x0), .val (.int x1), .val (.int x2), .unset, .unset, .unset, .unset, .unset, .unset, .unset] [] := by first | (simp [entryFrame, mkF, argsToLocals, Value.category, maxLocals]; done) | rfl
set_option maxRecDepth 65536 in
set_option maxHeartbeats 4000000 in
theorem rm_law (l : Launch) (Z : State) (a0 : Array Value) (hw : ∀ d ∈ tables_1, d.before a0 Z = true) (ws : List Jvm.Cond) (hE : Heap) (n0 : Nat) (z : n0 ≤ hE.size)  (v0 : Int32) (v1 : Int32) (v2 : Int32) (r : Int32) (hF : (f_law v0 v1 v2) = some r) :
    MetFree l x (head1 (Jvm.Cond.code x code maxLocals ret :: ws) room_1) (fun a U => a = #[(.int v0), (.int v1), (.int v2)] ∧ Z.Warmed39 U.vm ∧ U.heap = hE) (fun _ _ _ _ _ => True) (fun _ U o U' => ∃ v L, o = .returned v ∧ (Q_law Z hE n0 r) v U'.heap L ∧ FrameEnd U o U' L 1 4) := by
  refine MetFree.of_bodySF (plainFor_of_name pn_com_example_binary64_binary64_Utf8CommonCodePointPinLaw) hisR ?_
  intro p e s m args below meth c s₁ Bd hml0 hP hK
  obtain ⟨rfl, hZ, hh⟩ := hP
  have X0 : Stand p l e room_1 s m #[(.int v0), (.int v1), (.int v2)] below meth c s₁ [] 0 0 := Stand.of_body Bd
  have e0 : s₁.heap = hE := by rw [← hh, Bd.state]; rfl
  have cx : Cx_law p s m meth c Z a0 := ⟨Bd.exec, hZ, hw, Bd.bytes, hml0, findClass_of_methodNamed Bd.named, Bd.returns, Bd.notSynchronized, (name_of_methodNamed Bd.named Bd.method).1⟩
  show own_Goes p e below s (Q_law Z hE n0 r) 1 4 (s₁.setTop (entryFrame m #[(.int v0), (.int v1), (.int v2)] maxLocals))
  rw [ef_law]
  exact b_law cx X0 e0 (Fr.nil n0) (Keep.refl _ _) z v0 v1 v2 _ hF
/-! the words of the mirrors -/
theorem own_bs {α β : Type} (x : α) (f : α → Option β) : own_bd (some x) f = f x := by unfold own_bd; exact rfl
theorem own_ls {α β : Type} (x : α) (f : α → Option β) : own_lt x f = f x := by unfold own_lt; exact rfl
theorem own_bn {α : Type} (x : Option α) : own_bd x (fun y => some y) = x := by cases x <;> exact rfl
theorem own_ct {β : Type} {P : Prop} [Decidable P] (x : Option β) (h : P) : own_ck P x = x := by unfold own_ck; exact if_pos h
/-! numbers: ints and longs as integers -/
theorem own_i1 (x : Int32) : -2147483648 ≤ x.toInt := Int32.le_toInt x
theorem own_i2 (x : Int32) : x.toInt < 2147483648 := Int32.toInt_lt x
theorem own_j1 (x : Int64) : -9223372036854775808 ≤ x.toInt := Int64.le_toInt x
theorem own_j2 (x : Int64) : x.toInt < 9223372036854775808 := Int64.toInt_lt x
theorem own_iadd {a b : Int32} (h1 : -2147483648 ≤ a.toInt + b.toInt) (h2 : a.toInt + b.toInt < 2147483648) : (a + b).toInt = a.toInt + b.toInt := by
  rw [Int32.toInt_add]; exact Int.bmod_eq_of_le (by omega) (by omega)
theorem own_isub {a b : Int32} (h1 : -2147483648 ≤ a.toInt - b.toInt) (h2 : a.toInt - b.toInt < 2147483648) : (a - b).toInt = a.toInt - b.toInt := by
  rw [Int32.toInt_sub]; exact Int.bmod_eq_of_le (by omega) (by omega)
theorem own_imul {a b : Int32} (h1 : -2147483648 ≤ a.toInt * b.toInt) (h2 : a.toInt * b.toInt < 2147483648) : (a * b).toInt = a.toInt * b.toInt := by
  rw [Int32.toInt_mul]; exact Int.bmod_eq_of_le (by omega) (by omega)
theorem own_ladd {a b : Int64} (h1 : -9223372036854775808 ≤ a.toInt + b.toInt) (h2 : a.toInt + b.toInt < 9223372036854775808) : (a + b).toInt = a.toInt + b.toInt := by
  rw [Int64.toInt_add]; exact Int.bmod_eq_of_le (by omega) (by omega)
theorem own_lsub {a b : Int64} (h1 : -9223372036854775808 ≤ a.toInt - b.toInt) (h2 : a.toInt - b.toInt < 9223372036854775808) : (a - b).toInt = a.toInt - b.toInt := by
  rw [Int64.toInt_sub]; exact Int.bmod_eq_of_le (by omega) (by omega)
theorem own_lmul {a b : Int64} (h1 : -9223372036854775808 ≤ a.toInt * b.toInt) (h2 : a.toInt * b.toInt < 9223372036854775808) : (a * b).toInt = a.toInt * b.toInt := by
  rw [Int64.toInt_mul]; exact Int.bmod_eq_of_le (by omega) (by omega)
theorem own_imask {x m : Int32} (k : Nat) (hk : k ≤ 31) (hm : m.toBitVec.toNat = 2 ^ k - 1) : (x &&& m).toInt = x.toInt % 2 ^ k := by
  have h1 : (x &&& m).toBitVec.toNat = x.toBitVec.toNat % 2 ^ k := by rw [Int32.toBitVec_and, BitVec.toNat_and, hm, Nat.and_two_pow_sub_one_eq_mod]
  have h3 : x.toBitVec.toNat % 2 ^ k < 2 ^ k := Nat.mod_lt _ (Nat.pow_pos (by decide))
  have h4 : (2 : Nat) ^ k ≤ 2 ^ 31 := Nat.pow_le_pow_right (by decide) hk
  have h2 : (x &&& m).toInt = ((x.toBitVec.toNat % 2 ^ k : Nat) : Int) := by
    show (x &&& m).toBitVec.toInt = _
    rw [BitVec.toInt_eq_toNat_of_lt (by rw [h1]; omega), h1]
  rw [h2]
  have h5 : x.toInt = x.toBitVec.toInt := rfl
  have h6 : ((2 : Int) ^ k) ∣ 4294967296 := by
    have : (4294967296 : Int) = 2 ^ k * 2 ^ (32 - k) := by rw [← Int.pow_add, show k + (32 - k) = 32 by omega]; rfl
    exact ⟨_, this⟩
  rw [h5, BitVec.toInt_eq_toNat_cond]
  split
  · exact Int.natCast_emod _ _
  · rw [Int.natCast_emod, show (((2 ^ 32 : Nat) : Int)) = 4294967296 from rfl, Int.sub_emod, Int.emod_eq_zero_of_dvd h6]; simp
theorem own_lmask {x m : Int64} (k : Nat) (hk : k ≤ 63) (hm : m.toBitVec.toNat = 2 ^ k - 1) : (x &&& m).toInt = x.toInt % 2 ^ k := by
  have h1 : (x &&& m).toBitVec.toNat = x.toBitVec.toNat % 2 ^ k := by rw [Int64.toBitVec_and, BitVec.toNat_and, hm, Nat.and_two_pow_sub_one_eq_mod]
  have h3 : x.toBitVec.toNat % 2 ^ k < 2 ^ k := Nat.mod_lt _ (Nat.pow_pos (by decide))
  have h4 : (2 : Nat) ^ k ≤ 2 ^ 63 := Nat.pow_le_pow_right (by decide) hk
  have h2 : (x &&& m).toInt = ((x.toBitVec.toNat % 2 ^ k : Nat) : Int) := by
    show (x &&& m).toBitVec.toInt = _
    rw [BitVec.toInt_eq_toNat_of_lt (by rw [h1]; omega), h1]
  rw [h2]
  have h5 : x.toInt = x.toBitVec.toInt := rfl
  have h6 : ((2 : Int) ^ k) ∣ 18446744073709551616 := by
    have : (18446744073709551616 : Int) = 2 ^ k * 2 ^ (64 - k) := by rw [← Int.pow_add, show k + (64 - k) = 64 by omega]; rfl
    exact ⟨_, this⟩
  rw [h5, BitVec.toInt_eq_toNat_cond]
  split
  · exact Int.natCast_emod _ _
  · rw [Int.natCast_emod, show (((2 ^ 64 : Nat) : Int)) = 18446744073709551616 from rfl, Int.sub_emod, Int.emod_eq_zero_of_dvd h6]; simp
theorem own_bm32 (x : Int) : x.bmod 4294967296 = (x + 2147483648) % 4294967296 - 2147483648 := by
  unfold Int.bmod; dsimp only; split <;> omega
theorem own_bm64 (x : Int) : x.bmod 18446744073709551616 = (x + 9223372036854775808) % 18446744073709551616 - 9223372036854775808 := by
  unfold Int.bmod; dsimp only; split <;> omega
theorem own_bm8 (x : Int) : x.bmod 256 = (x + 128) % 256 - 128 := by
  unfold Int.bmod; dsimp only; split <;> omega
theorem own_bm16 (x : Int) : x.bmod 65536 = (x + 32768) % 65536 - 32768 := by
  unfold Int.bmod; dsimp only; split <;> omega
theorem own_b8 (x : Int32) : x.toInt8.toInt32.toInt = (x.toInt + 128) % 256 - 128 := by rw [Int8.toInt_toInt32, Int32.toInt_toInt8]; exact own_bm8 _
theorem own_s16 (x : Int32) : x.toInt16.toInt32.toInt = (x.toInt + 32768) % 65536 - 32768 := by rw [Int16.toInt_toInt32, Int32.toInt_toInt16]; exact own_bm16 _
theorem own_l2i (x : Int64) : x.toInt32.toInt = (x.toInt + 2147483648) % 4294967296 - 2147483648 := by rw [Int64.toInt_toInt32]; exact own_bm32 _
theorem own_i2l (x : Int32) : x.toInt64.toInt = x.toInt := Int32.toInt_toInt64 x
theorem own_idiv {a b : Int32} (h1 : 0 ≤ a.toInt) (h2 : 0 < b.toInt) : (a / b).toInt = a.toInt / b.toInt := by
  rw [Int32.toInt_div_of_ne_right a b (fun q => by rw [q] at h2; exact absurd h2 (by decide)), Int.tdiv_eq_ediv_of_nonneg h1]
theorem own_ldiv {a b : Int64} (h1 : 0 ≤ a.toInt) (h2 : 0 < b.toInt) : (a / b).toInt = a.toInt / b.toInt := by
  rw [Int64.toInt_div_of_ne_right a b (fun q => by rw [q] at h2; exact absurd h2 (by decide)), Int.tdiv_eq_ediv_of_nonneg h1]
theorem own_imod {a b : Int32} (h1 : 0 ≤ a.toInt) : (a % b).toInt = a.toInt % b.toInt := by rw [Int32.toInt_mod, Int.tmod_eq_emod_of_nonneg h1]
theorem own_lmod {a b : Int64} (h1 : 0 ≤ a.toInt) : (a % b).toInt = a.toInt % b.toInt := by rw [Int64.toInt_mod, Int.tmod_eq_emod_of_nonneg h1]
theorem own_uI (x : Int32) : (x.toUInt32.toNat : Int) = x.toInt % 4294967296 := by
  have h : x.toInt = x.toBitVec.toInt := rfl
  have q : x.toUInt32.toNat = x.toBitVec.toNat := rfl
  have b := x.toBitVec.isLt
  rw [h, q, BitVec.toInt_eq_toNat_cond]
  split <;> omega
theorem own_uJ (x : Int64) : (x.toUInt64.toNat : Int) = x.toInt % 18446744073709551616 := by
  have h : x.toInt = x.toBitVec.toInt := rfl
  have q : x.toUInt64.toNat = x.toBitVec.toNat := rfl
  have b := x.toBitVec.isLt
  rw [h, q, BitVec.toInt_eq_toNat_cond]
  split <;> omega
theorem own_ofU (u : UInt32) (h : u.toNat < 2147483648) : u.toInt32.toInt = u.toNat := by
  show u.toBitVec.toInt = _
  exact BitVec.toInt_eq_toNat_of_lt (by show 2 * u.toNat < 2 ^ 32; omega)
theorem own_ofUJ (u : UInt64) (h : u.toNat < 9223372036854775808) : u.toInt64.toInt = u.toNat := by
  show u.toBitVec.toInt = _
  exact BitVec.toInt_eq_toNat_of_lt (by show 2 * u.toNat < 2 ^ 64; omega)
/-- Java's >>> on ints by a constant from 1 to 31 -/
theorem own_iushr (x s : Int32) (n : Nat) (h0 : 1 ≤ n) (hn : n < 32) (hs : (s &&& 31).toUInt32.toNat = n) : ((x.toUInt32 >>> (s &&& 31).toUInt32).toInt32).toInt = (x.toInt % 4294967296) / (2 ^ n : Nat) := by
  have e : (x.toUInt32 >>> (s &&& 31).toUInt32).toNat = x.toUInt32.toNat / 2 ^ n := by rw [UInt32.toNat_shiftRight, hs, Nat.mod_eq_of_lt hn, Nat.shiftRight_eq_div_pow]
  have b : x.toUInt32.toNat < 4294967296 := x.toUInt32.toNat_lt
  have c : x.toUInt32.toNat / 2 ^ n ≤ x.toUInt32.toNat / 2 ^ 1 := Nat.div_le_div_left (Nat.pow_le_pow_right (by decide) h0) (by decide)
  rw [own_ofU _ (by rw [e]; omega), e, Int.natCast_ediv, own_uI]
theorem own_lushr (x : Int64) (s : Int32) (n : Nat) (h0 : 1 ≤ n) (hn : n < 64) (hs : (s &&& 0x3f).toInt64.toUInt64.toNat = n) : ((x.toUInt64 >>> (s &&& 0x3f).toInt64.toUInt64).toInt64).toInt = (x.toInt % 18446744073709551616) / (2 ^ n : Nat) := by
  have e : (x.toUInt64 >>> (s &&& 0x3f).toInt64.toUInt64).toNat = x.toUInt64.toNat / 2 ^ n := by rw [UInt64.toNat_shiftRight, hs, Nat.mod_eq_of_lt hn, Nat.shiftRight_eq_div_pow]
  have b : x.toUInt64.toNat < 18446744073709551616 := x.toUInt64.toNat_lt
  have c : x.toUInt64.toNat / 2 ^ n ≤ x.toUInt64.toNat / 2 ^ 1 := Nat.div_le_div_left (Nat.pow_le_pow_right (by decide) h0) (by decide)
  rw [own_ofUJ _ (by rw [e]; omega), e, Int.natCast_ediv, own_uJ]
theorem own_ishl {x s : Int32} (n : Nat) (hs : (s.toBitVec.smod 32).toNat = n) (h0 : 0 ≤ x.toInt) (h1 : x.toInt * (2 ^ n : Nat) < 2147483648) : (x <<< s).toInt = x.toInt * (2 ^ n : Nat) := by
  have h : x.toInt = x.toBitVec.toInt := rfl
  have hx : x.toInt = x.toBitVec.toNat := by
    have b := x.toBitVec.isLt
    rw [h, BitVec.toInt_eq_toNat_cond]; rw [h, BitVec.toInt_eq_toNat_cond] at h0
    split at h0 <;> rename_i q
    · rw [if_pos q]
    · omega
  have e : (x <<< s).toBitVec.toNat = x.toBitVec.toNat * 2 ^ n := by
    rw [Int32.toBitVec_shiftLeft, BitVec.shiftLeft_eq', hs, BitVec.toNat_shiftLeft, Nat.shiftLeft_eq]
    apply Nat.mod_eq_of_lt
    rw [hx] at h1
    omega
  show (x <<< s).toBitVec.toInt = _
  rw [BitVec.toInt_eq_toNat_of_lt (by rw [e]; rw [hx] at h1; omega), e, hx]
  simp
theorem own_lshl {x s : Int64} (n : Nat) (hs : (s.toBitVec.smod 64).toNat = n) (h0 : 0 ≤ x.toInt) (h1 : x.toInt * (2 ^ n : Nat) < 9223372036854775808) : (x <<< s).toInt = x.toInt * (2 ^ n : Nat) := by
  have h : x.toInt = x.toBitVec.toInt := rfl
  have hx : x.toInt = x.toBitVec.toNat := by
    have b := x.toBitVec.isLt
    rw [h, BitVec.toInt_eq_toNat_cond]; rw [h, BitVec.toInt_eq_toNat_cond] at h0
    split at h0 <;> rename_i q
    · rw [if_pos q]
    · omega
  have e : (x <<< s).toBitVec.toNat = x.toBitVec.toNat * 2 ^ n := by
    rw [Int64.toBitVec_shiftLeft, BitVec.shiftLeft_eq', hs, BitVec.toNat_shiftLeft, Nat.shiftLeft_eq]
    apply Nat.mod_eq_of_lt
    rw [hx] at h1
    omega
  show (x <<< s).toBitVec.toInt = _
  rw [BitVec.toInt_eq_toNat_of_lt (by rw [e]; rw [hx] at h1; omega), e, hx]
  simp
theorem own_ishr (x s : Int32) (n : Nat) (hs : (s.toBitVec.smod 32).toNat = n) : (x >>> s).toInt = x.toInt / (2 ^ n : Nat) := by
  show (x >>> s).toBitVec.toInt = _
  rw [Int32.toBitVec_shiftRight, BitVec.sshiftRight', hs, BitVec.toInt_sshiftRight, Int.shiftRight_eq_div_pow]
  rfl
theorem own_lshr (x s : Int64) (n : Nat) (hs : (s.toBitVec.smod 64).toNat = n) : (x >>> s).toInt = x.toInt / (2 ^ n : Nat) := by
  show (x >>> s).toBitVec.toInt = _
  rw [Int64.toBitVec_shiftRight, BitVec.sshiftRight', hs, BitVec.toInt_sshiftRight, Int.shiftRight_eq_div_pow]
  rfl
theorem own_natbit (x k : Nat) : x &&& 2 ^ k = 0 ↔ x / 2 ^ k % 2 = 0 := by
  constructor
  · intro h
    have q : (x &&& 2 ^ k).testBit k = false := by rw [h]; exact Nat.zero_testBit k
    rw [Nat.testBit_and, Nat.testBit_two_pow_self, Bool.and_true, Nat.testBit_eq_decide_div_mod_eq] at q
    have q := of_decide_eq_false q
    omega
  · intro h
    apply Nat.eq_of_testBit_eq
    intro i
    rw [Nat.testBit_and, Nat.zero_testBit, Nat.testBit_two_pow]
    by_cases e : k = i
    · subst e
      rw [Nat.testBit_eq_decide_div_mod_eq, h]; rfl
    · simp [e]
/-- one bit of an int -/
theorem own_ibit (x m : Int32) (k : Nat) (hm : m.toBitVec.toNat = 2 ^ k) : (x &&& m = 0) ↔ x.toInt % 4294967296 / (2 ^ k : Nat) % 2 = 0 := by
  have u : (x.toBitVec.toNat : Int) = x.toInt % 4294967296 := own_uI x
  have z : (0 : Int32).toBitVec.toNat = 0 := rfl
  rw [← u, ← Int.natCast_ediv, ← Int32.toBitVec_inj, ← BitVec.toNat_inj, Int32.toBitVec_and, BitVec.toNat_and, hm, z, own_natbit]
  omega
theorem own_k0 : (0 : Int32).toNatClampNeg = 0 := by decide
theorem own_k1 : (1 : Int32).toNatClampNeg = 1 := by decide
theorem own_k2 : (2 : Int32).toNatClampNeg = 2 := by decide
theorem own_k3 : (3 : Int32).toNatClampNeg = 3 := by decide
theorem own_k4 : (4 : Int32).toNatClampNeg = 4 := by decide
theorem own_k5 : (5 : Int32).toNatClampNeg = 5 := by decide
theorem own_k6 : (6 : Int32).toNatClampNeg = 6 := by decide
theorem own_k7 : (7 : Int32).toNatClampNeg = 7 := by decide
/-- a byte, and what a property of the 256 of them says -/
theorem own_byte {P : Int32 → Prop} (h : ∀ n : Nat, n < 256 → P (Int32.ofNat n)) (x : Int32) (h1 : 0 ≤ x.toInt) (h2 : x.toInt < 256) : P x := by
  have e : x = Int32.ofNat x.toInt.toNat := by
    apply Int32.toInt_inj.mp
    rw [Int32.toInt_ofNat_of_lt (by omega)]; omega
  rw [e]; exact h _ (by omega)
theorem own_192 (x : Int32) (h1 : 0 ≤ x.toInt) (h2 : x.toInt < 256) : (x &&& 192).toInt = x.toInt / 64 * 64 :=
  own_byte (P := fun x => (x &&& 192).toInt = x.toInt / 64 * 64) (by decide +kernel) x h1 h2
/-- the or of two numbers that share no bit -/
theorem own_ior {x y : Int32} (k : Nat) (q : Int) (hq : 0 ≤ q) (hx : x.toInt = (2 ^ k : Nat) * q) (hy : 0 ≤ y.toInt) (hy2 : y.toInt < (2 ^ k : Nat)) : (x ||| y).toInt = x.toInt + y.toInt := by
  have x0 : 0 ≤ x.toInt := by rw [hx]; exact Int.mul_nonneg (Int.natCast_nonneg _) hq
  have ux := own_uI x
  have uy := own_uI y
  have x2 := own_i2 x
  have y2 := own_i2 y
  have nx : x.toUInt32.toNat = 2 ^ k * q.toNat := by
    have : ((2 ^ k * q.toNat : Nat) : Int) = (2 ^ k : Nat) * q := by rw [Int.natCast_mul, Int.toNat_of_nonneg hq]
    omega
  have e : (x ||| y).toBitVec.toNat = x.toUInt32.toNat + y.toUInt32.toNat := by
    rw [Int32.toBitVec_or, BitVec.toNat_or]
    show x.toUInt32.toNat ||| y.toUInt32.toNat = _
    rw [nx]
    exact (Nat.two_pow_add_eq_or_of_lt (by omega) _).symm
  have lt : x.toInt + y.toInt < 2147483648 := by
    by_cases k31 : k ≤ 31
    · have d : (2 ^ 31 : Nat) = 2 ^ k * 2 ^ (31 - k) := by rw [← Nat.pow_add]; congr 1; omega
      have z1 : q.toNat < 2 ^ (31 - k) := by
        apply Nat.lt_of_mul_lt_mul_left (a := 2 ^ k)
        rw [← d, ← nx]; omega
      have z2 : 2 ^ k * (q.toNat + 1) ≤ 2 ^ k * 2 ^ (31 - k) := Nat.mul_le_mul_left _ z1
      rw [← d, Nat.mul_add, ← nx] at z2
      omega
    · have z0 : q = 0 := by
        have z1 : (2 ^ 32 : Nat) ≤ 2 ^ k := Nat.pow_le_pow_right (by decide) (by omega)
        by_cases q0 : q = 0
        · exact q0
        · have z3 : (2 ^ k : Nat) * 1 ≤ ((2 ^ k : Nat) : Int) * q := Int.mul_le_mul_of_nonneg_left (by omega) (Int.natCast_nonneg _)
          omega
      rw [hx, z0]; omega
  show (x ||| y).toBitVec.toInt = _
  rw [BitVec.toInt_eq_toNat_of_lt (by rw [e]; omega), e]
  omega
/-- what the two of them answer, over integers; -1: no such byte -/
def own_spec (l s t : Int) : Int :=
  if 194 ≤ l ∧ l ≤ 223 then (if 128 ≤ s ∧ s ≤ 191 then (l - 192) * 64 + (s - 128) else -1)
  else if 224 ≤ l ∧ l ≤ 237 ∧ 128 ≤ s ∧ s ≤ 191 ∧ 128 ≤ t ∧ t ≤ 191 ∧ (l ≠ 224 ∨ 160 ≤ s) ∧ (l ≠ 237 ∨ s ≤ 159) then (l - 224) * 4096 + (s - 128) * 64 + (t - 128) else -1
theorem own_cont (v : Int32) : f_Utf8CommonCodePointPinLaw_isContinuation v = some (if 128 ≤ v.toInt ∧ v.toInt ≤ 191 then 1 else 0) := by
  unfold f_Utf8CommonCodePointPinLaw_isContinuation
  simp only [Int32.lt_iff_toInt_lt, Int32.reduceToInt]
  repeat' split
  all_goals first | rfl | (exfalso; omega)
theorem own_m1 : (-1 : Int32).toInt = -1 := rfl
theorem own_226 (at_ en l s t E : Int32) (bs : List Int32) (hc : f_Utf8_commonCodePoint at_ en bs = some E) (h1 : 224 ≤ l.toInt) (h2 : l.toInt ≤ 237) (h3 : 128 ≤ s.toInt) (h4 : s.toInt ≤ 191) (h5 : 128 ≤ t.toInt) (h6 : t.toInt ≤ 191)
    (hE : E.toInt = (l.toInt - 224) * 4096 + (s.toInt - 128) * 64 + (t.toInt - 128)) : f_law_226 at_ en l s t bs = some 1 := by
  have a1 : (l - 224).toInt = l.toInt - 224 := own_isub (by simp only [Int32.reduceToInt]; omega) (by simp only [Int32.reduceToInt]; omega)
  have a2 : ((l - 224) * 4096).toInt = (l.toInt - 224) * 4096 := by rw [own_imul (by simp only [a1, Int32.reduceToInt]; omega) (by simp only [a1, Int32.reduceToInt]; omega), a1]; rfl
  have a3 : (s - 128).toInt = s.toInt - 128 := own_isub (by simp only [Int32.reduceToInt]; omega) (by simp only [Int32.reduceToInt]; omega)
  have a4 : ((s - 128) * 64).toInt = (s.toInt - 128) * 64 := by rw [own_imul (by simp only [a3, Int32.reduceToInt]; omega) (by simp only [a3, Int32.reduceToInt]; omega), a3]; rfl
  have a5 : ((l - 224) * 4096 + (s - 128) * 64).toInt = (l.toInt - 224) * 4096 + (s.toInt - 128) * 64 := by rw [own_iadd (by omega) (by omega), a2, a4]
  have a6 : (t - 128).toInt = t.toInt - 128 := own_isub (by simp only [Int32.reduceToInt]; omega) (by simp only [Int32.reduceToInt]; omega)
  unfold f_law_226
  rw [own_ls, hc, own_bs, if_pos]
  rw [← Int32.toInt_inj, hE, own_iadd (by omega) (by omega), a5, a6]
theorem own_112 (at_ en l s t E : Int32) (bs : List Int32) (hc : f_Utf8_commonCodePoint at_ en bs = some E) (h1 : 0 ≤ l.toInt) (h2 : l.toInt ≤ 255) (hE : E.toInt = own_spec l.toInt s.toInt t.toInt) : f_law_112 at_ en l s t bs = some 1 := by
  have m1 := own_m1
  unfold own_spec at hE
  have no : E.toInt = -1 → (own_bd (f_Utf8_commonCodePoint at_ en bs) fun r => if r = (-1 : Int32) then some (1 : Int32) else some 0) = some 1 := fun q => by
    rw [hc, own_bs, if_pos]; rw [← Int32.toInt_inj, q, m1]
  have no2 : f_law_162 at_ en l s t (-1) bs = some 1 ∨ (194 ≤ l.toInt ∧ l.toInt ≤ 223) := by
    by_cases r : 194 ≤ l.toInt ∧ l.toInt ≤ 223
    · exact Or.inr r
    · left
      rw [if_neg r] at hE
      unfold f_law_162
      simp only [own_cont, own_bs, Int32.lt_iff_toInt_lt, Int32.reduceToInt]
      split
      · exact no (by rw [hE, if_neg (by omega)])
      · split
        · exact no (by rw [hE, if_neg (by omega)])
        · by_cases c1 : 128 ≤ s.toInt ∧ s.toInt ≤ 191
          · rw [if_neg (by rw [if_pos c1]; decide)]
            by_cases c2 : 128 ≤ t.toInt ∧ t.toInt ≤ 191
            · rw [if_neg (by rw [if_pos c2]; decide)]
              have g : f_law_210 at_ en l s t (-1) bs = some 1 ∨ (l.toInt = 224 ∧ s.toInt < 160) := by
                by_cases r2 : l.toInt = 224 ∧ s.toInt < 160
                · exact Or.inr r2
                · left
                  unfold f_law_210
                  simp only [← Int32.toInt_inj, Int32.lt_iff_toInt_lt, Int32.reduceToInt]
                  have end' : (l.toInt ≠ 237 ∨ s.toInt ≤ 159) → f_law_226 at_ en l s t bs = some 1 := fun z => by
                    refine own_226 at_ en l s t E bs hc (by omega) (by omega) c1.1 c1.2 c2.1 c2.2 ?_
                    rw [hE, if_pos (by omega)]
                  split
                  · split
                    · rw [hc, own_bs, if_pos]
                      rw [hE, if_neg (by omega)]
                    · exact end' (by omega)
                  · exact end' (by omega)
              simp only [← Int32.toInt_inj, Int32.reduceToInt]
              split
              · split
                · rw [hc, own_bs, if_pos]
                  rw [hE, if_neg (by omega)]
                · rcases g with g | g
                  · exact g
                  · omega
              · rcases g with g | g
                · exact g
                · omega
            · rw [if_pos (by rw [if_neg c2])]
              exact no (by rw [hE, if_neg (by omega)])
          · rw [if_pos (by rw [if_neg c1])]
            exact no (by rw [hE, if_neg (by omega)])
  unfold f_law_112
  simp only [own_cont, own_bs, Int32.lt_iff_toInt_lt, Int32.reduceToInt]
  split
  · rcases no2 with z | z
    · exact z
    · omega
  · split
    · rcases no2 with z | z
      · exact z
      · omega
    · rw [if_pos (by omega)] at hE
      by_cases c1 : 128 ≤ s.toInt ∧ s.toInt ≤ 191
      · rw [if_neg (by rw [if_pos c1]; decide), own_ls, hc, own_bs, if_pos]
        rw [if_pos c1] at hE
        have a1 : (l - 192).toInt = l.toInt - 192 := own_isub (by simp only [Int32.reduceToInt]; omega) (by simp only [Int32.reduceToInt]; omega)
        have a2 : ((l - 192) * 64).toInt = (l.toInt - 192) * 64 := by rw [own_imul (by simp only [a1, Int32.reduceToInt]; omega) (by simp only [a1, Int32.reduceToInt]; omega), a1]; rfl
        have a3 : (s - 128).toInt = s.toInt - 128 := own_isub (by simp only [Int32.reduceToInt]; omega) (by simp only [Int32.reduceToInt]; omega)
        rw [← Int32.toInt_inj, hE, own_iadd (by omega) (by omega), a2, a3]
      · rw [if_pos (by rw [if_neg c1])]
        rw [if_neg c1] at hE
        exact no hE
/-- the method itself, with its second and third byte where they are within -/
theorem own_ccp (bs : List Int32) (at_ en l s t : Int32) (i0 : own_inb bs at_) (hl : l = own_rd bs at_ &&& 255)
    (i1 : at_ + 1 < en → own_inb bs (at_ + 1) ∧ s = own_rd bs (at_ + 1) &&& 255) (j1 : ¬ at_ + 1 < en → s = -1)
    (i2 : at_ + 2 < en → own_inb bs (at_ + 2) ∧ t = own_rd bs (at_ + 2) &&& 255) (j2 : ¬ at_ + 2 < en → t = -1) (h12 : at_ + 2 < en → at_ + 1 < en) :
    ∃ E, f_Utf8_commonCodePoint at_ en bs = some E ∧ E.toInt = own_spec l.toInt s.toInt t.toInt := by
  have m1 := own_m1
  have l8 : l.toInt = (own_rd bs at_).toInt % 2 ^ 8 := by rw [hl]; exact own_imask 8 (by decide) (by decide)
  unfold f_Utf8_commonCodePoint
  rw [own_ct _ i0, own_ls, ← hl]
  simp only [Int32.lt_iff_toInt_lt, Int32.reduceToInt]
  split
  · split
    · exact ⟨_, rfl, by unfold own_spec; rw [m1, if_neg (by omega), if_neg (by omega)]⟩
    · by_cases c : at_ + 1 < en
      · obtain ⟨i1, hs⟩ := i1 c
        have s8 : s.toInt = (own_rd bs (at_ + 1)).toInt % 2 ^ 8 := by rw [hs]; exact own_imask 8 (by decide) (by decide)
        have s9 : (s &&& 192).toInt = s.toInt / 64 * 64 := own_192 s (by omega) (by omega)
        have s6 : (s &&& 63).toInt = s.toInt % 2 ^ 6 := own_imask 6 (by decide) (by decide)
        have l5 : (l &&& 31).toInt = l.toInt % 2 ^ 5 := own_imask 5 (by decide) (by decide)
        have l6 : ((l &&& 31) <<< ((6 : Int32) &&& 31)).toInt = l.toInt % 2 ^ 5 * 64 := by rw [own_ishl 6 (by decide) (by omega) (by rw [l5]; omega), l5]; rfl
        rw [if_pos (Int32.lt_iff_toInt_lt.mp c), own_ls, own_ct _ i1, own_ls, ← hs]
        simp only [← Int32.toInt_inj, s9, Int32.reduceToInt]
        split
        · rw [own_ls]
          refine ⟨_, rfl, ?_⟩
          unfold own_spec
          rw [if_pos (by omega), if_pos (by omega), own_ior 6 (l.toInt % 2 ^ 5) (by omega) (by rw [l6]; omega) (by omega) (by rw [s6]; omega), l6, s6]
          omega
        · exact ⟨_, rfl, by unfold own_spec; rw [m1, if_pos (by omega), if_neg (by omega)]⟩
      · rw [if_neg (fun z => c (Int32.lt_iff_toInt_lt.mpr z))]
        have := j1 c
        subst this
        exact ⟨_, rfl, by unfold own_spec; rw [m1, if_pos (by omega), if_neg (by omega)]⟩
  · split
    · by_cases c : at_ + 2 < en
      · have c1 := h12 c
        obtain ⟨i1, hs⟩ := i1 c1
        obtain ⟨i2, ht⟩ := i2 c
        have s8 : s.toInt = (own_rd bs (at_ + 1)).toInt % 2 ^ 8 := by rw [hs]; exact own_imask 8 (by decide) (by decide)
        have t8 : t.toInt = (own_rd bs (at_ + 2)).toInt % 2 ^ 8 := by rw [ht]; exact own_imask 8 (by decide) (by decide)
        have s9 : (s &&& 192).toInt = s.toInt / 64 * 64 := own_192 s (by omega) (by omega)
        have t9 : (t &&& 192).toInt = t.toInt / 64 * 64 := own_192 t (by omega) (by omega)
        have s6 : (s &&& 63).toInt = s.toInt % 2 ^ 6 := own_imask 6 (by decide) (by decide)
        have t6 : (t &&& 63).toInt = t.toInt % 2 ^ 6 := own_imask 6 (by decide) (by decide)
        have l4 : (l &&& 15).toInt = l.toInt % 2 ^ 4 := own_imask 4 (by decide) (by decide)
        have l12 : ((l &&& 15) <<< ((12 : Int32) &&& 31)).toInt = l.toInt % 2 ^ 4 * 4096 := by rw [own_ishl 12 (by decide) (by omega) (by rw [l4]; omega), l4]; rfl
        have s12 : ((s &&& 63) <<< ((6 : Int32) &&& 31)).toInt = s.toInt % 2 ^ 6 * 64 := by rw [own_ishl 6 (by decide) (by omega) (by rw [s6]; omega), s6]; rfl
        have o1 : (((l &&& 15) <<< ((12 : Int32) &&& 31)) ||| ((s &&& 63) <<< ((6 : Int32) &&& 31))).toInt = l.toInt % 2 ^ 4 * 4096 + s.toInt % 2 ^ 6 * 64 := by
          rw [own_ior 12 (l.toInt % 2 ^ 4) (by omega) (by rw [l12]; omega) (by omega) (by rw [s12]; omega), l12, s12]
        have o2 : ((((l &&& 15) <<< ((12 : Int32) &&& 31)) ||| ((s &&& 63) <<< ((6 : Int32) &&& 31))) ||| (t &&& 63)).toInt = l.toInt % 2 ^ 4 * 4096 + s.toInt % 2 ^ 6 * 64 + t.toInt % 2 ^ 6 := by
          rw [own_ior 6 (l.toInt % 2 ^ 4 * 64 + s.toInt % 2 ^ 6) (by omega) (by rw [o1]; omega) (by omega) (by rw [t6]; omega), o1, t6]
        have s14 : ((s &&& 192) <<< ((8 : Int32) &&& 31)).toInt = s.toInt / 64 * 64 * 256 := by rw [own_ishl 8 (by decide) (by omega) (by rw [s9]; omega), s9]; rfl
        have o3 : (((s &&& 192) <<< ((8 : Int32) &&& 31)) ||| (t &&& 192)).toInt = s.toInt / 64 * 64 * 256 + t.toInt / 64 * 64 := by
          rw [own_ior 8 (s.toInt / 64 * 64) (by omega) (by rw [s14]; omega) (by omega) (by rw [t9]; omega), s14, t9]
        rw [if_pos (Int32.lt_iff_toInt_lt.mp c), own_ls, own_ct _ i1, own_ls, own_ls, own_ct _ i2, own_ls, own_ls, ← hs, ← ht]
        generalize ((((l &&& 15) <<< ((12 : Int32) &&& 31)) ||| ((s &&& 63) <<< ((6 : Int32) &&& 31))) ||| (t &&& 63)) = V at *
        unfold f_Utf8_commonCodePoint_104
        simp only [← Int32.toInt_inj, Int32.lt_iff_toInt_lt, o3, o2, Int32.reduceToInt]
        split
        · rw [if_neg (by decide)]
          split
          · exact ⟨_, rfl, by unfold own_spec; rw [m1, if_neg (by omega), if_neg (by omega)]⟩
          · split
            · exact ⟨_, rfl, by unfold own_spec; rw [o2, if_neg (by omega), if_pos (by omega)]; omega⟩
            · exact ⟨_, rfl, by unfold own_spec; rw [m1, if_neg (by omega), if_neg (by omega)]⟩
        · rw [if_pos (by decide)]
          exact ⟨_, rfl, by unfold own_spec; rw [m1, if_neg (by omega), if_neg (by omega)]⟩
      · rw [if_neg (fun z => c (Int32.lt_iff_toInt_lt.mpr z))]
        have := j2 c
        subst this
        exact ⟨_, rfl, by unfold own_spec; rw [m1, if_neg (by omega), if_neg (by omega)]⟩
    · exact ⟨_, rfl, by unfold own_spec; rw [m1, if_neg (by omega), if_neg (by omega)]⟩
theorem own_law (p st sp : Int32) : f_law p st sp = some 1 := by
  have a1 : (st &&& (1 : Int32)).toInt = st.toInt % 2 ^ 1 := own_imask 1 (by decide) (by decide)
  have p1 : (sp &&& (2147483647 : Int32)).toInt = sp.toInt % 2 ^ 31 := own_imask 31 (by decide) (by decide)
  unfold f_law
  rw [own_ls, own_ls, own_ls, own_ls, own_ls]
  generalize hL : ([p.toInt8.toInt32.toInt8.toInt32, ((p.toUInt32 >>> ((8 : Int32) &&& 31).toUInt32).toInt32).toInt8.toInt32.toInt8.toInt32, ((p.toUInt32 >>> ((16 : Int32) &&& 31).toUInt32).toInt32).toInt8.toInt32.toInt8.toInt32, ((p.toUInt32 >>> ((24 : Int32) &&& 31).toUInt32).toInt32).toInt8.toInt32.toInt8.toInt32] : List Int32) = L
  have len : L.length = 4 := by rw [← hL]; rfl
  generalize st &&& (1 : Int32) = a at *
  have e4 : ((4 : Int32) - a).toInt = 4 - a.toInt := own_isub (by simp only [Int32.reduceToInt]; omega) (by simp only [Int32.reduceToInt]; omega)
  have nz : ¬ (4 : Int32) - a = 0 := by rw [← Int32.toInt_inj, e4]; simp only [Int32.reduceToInt]; omega
  rw [own_ct _ nz, own_ls]
  have r1 : ((sp &&& (2147483647 : Int32)) % (4 - a)).toInt = (sp.toInt % 2 ^ 31) % (4 - a.toInt) := by rw [own_imod (by omega), p1, e4]
  have b1 : 0 ≤ (sp.toInt % 2 ^ 31) % (4 - a.toInt) := Int.emod_nonneg _ (by omega)
  have b2 : (sp.toInt % 2 ^ 31) % (4 - a.toInt) < 4 - a.toInt := Int.emod_lt_of_pos _ (by omega)
  have a2 : (a + 1).toInt = a.toInt + 1 := by rw [own_iadd (by simp only [Int32.reduceToInt]; omega) (by simp only [Int32.reduceToInt]; omega)]; rfl
  have a3 : (a + 2).toInt = a.toInt + 2 := by rw [own_iadd (by simp only [Int32.reduceToInt]; omega) (by simp only [Int32.reduceToInt]; omega)]; rfl
  have en : (a + 1 + (sp &&& (2147483647 : Int32)) % (4 - a)).toInt = a.toInt + 1 + (sp.toInt % 2 ^ 31) % (4 - a.toInt) := by rw [own_iadd (by omega) (by omega), a2, r1]
  generalize a + 1 + (sp &&& (2147483647 : Int32)) % (4 - a) = e at *
  have inb : ∀ j : Int32, 0 ≤ j.toInt → j.toInt < 4 → own_inb L j := fun j h1 h2 => by
    refine ⟨?_, ?_⟩
    · rw [Int32.lt_iff_toInt_lt]; simp only [Int32.reduceToInt]; omega
    · rw [len, Int32.toNatClampNeg]; omega
  have i0 := inb a (by omega) (by omega)
  rw [own_ct _ i0, own_ls]
  have l8 : (own_rd L a &&& (255 : Int32)).toInt = (own_rd L a).toInt % 2 ^ 8 := own_imask 8 (by decide) (by decide)
  have third : ∀ s : Int32, (a + 1 < e → own_inb L (a + 1) ∧ s = own_rd L (a + 1) &&& 255) → (¬ a + 1 < e → s = -1) → f_law_87 a e (own_rd L a &&& 255) s L = some 1 := by
    intro s q1 q2
    unfold f_law_87
    by_cases c : a + 2 < e
    · have i2 := inb (a + 2) (by omega) (by rw [Int32.lt_iff_toInt_lt] at c; omega)
      rw [if_pos c, own_ls, own_ct _ i2]
      obtain ⟨E, hE, hE2⟩ := own_ccp L a e _ s (own_rd L (a + 2) &&& 255) i0 rfl q1 q2 (fun _ => ⟨i2, rfl⟩) (fun z => absurd c z) (fun _ => by rw [Int32.lt_iff_toInt_lt] at c ⊢; omega)
      exact own_112 _ _ _ _ _ E L hE (by omega) (by omega) hE2
    · rw [if_neg c]
      obtain ⟨E, hE, hE2⟩ := own_ccp L a e _ s (-1) i0 rfl q1 q2 (fun z => absurd z c) (fun _ => rfl) (fun z => absurd z c)
      exact own_112 _ _ _ _ _ E L hE (by omega) (by omega) hE2
  by_cases c : a + 1 < e
  · have i1 := inb (a + 1) (by omega) (by rw [Int32.lt_iff_toInt_lt] at c; omega)
    rw [if_pos c, own_ls, own_ct _ i1]
    exact third _ (fun _ => ⟨i1, rfl⟩) (fun z => absurd c z)
  · rw [if_neg c]
    exact third _ (fun z => absurd z c) (fun _ => rfl)

set_option maxRecDepth 65536 in
set_option maxHeartbeats 4000000 in
theorem comes_1 {Post : Tables → Env → Array Value → State → Outcome → State → Prop} (hpost : ∀ tb e args s v u, (limb_1_1.after args s (.returned v) u = true ∧ limb_1_2.after args s (.returned v) u = true ∧ True) → FrameEnd s (.returned v) u (Jvm.fieldLocs frame_1_writes args s ++ Jvm.arrayLocs frame_1_arrays args s ++ Jvm.staticLocs frame_1_statics s) 16 128 → Post tb e args s (.returned v) u) :
    ArmFor flags0 classFile x code maxLocals ret World_1 tables_1 room_1 Calls_1 rest_1 Pre_1 Post := by
  intro l hfl _ _ p e ha hc hk s m args below hf hA hF happ hP
  obtain ⟨hcalls, hrest, hpre⟩ := hP
  obtain ⟨-, -, -, hnamed, -, -, -, hat⟩ := (Spec.applies_iff hf).mp happ
  obtain ⟨hg, hn⟩ := and_e (Cond.before_iff.mp (show (Jvm.Cond.and given_1 narrow_1).before args s = true from hpre))
  obtain ⟨gc, g0⟩ := and_e hg
  obtain ⟨ga0, g1⟩ := and_e g0
  obtain ⟨ga1, g2⟩ := and_e g1
  have ga2 := g2
  obtain ⟨w0, w1, w2, rfl⟩ : ∃ w0 w1 w2 : Value, args = #[w0, w1, w2] := by
    have hs : args.size = 3 := by simpa [Cond.value, given_1] using gc
    obtain ⟨L⟩ := args
    match L, hs with
    | [w0, w1, w2], _ => exact ⟨w0, w1, w2, rfl⟩
  have hw := fun d (hd : d ∈ tables_1) => atoms_spec (ws := Jvm.Cond.code x code maxLocals ret :: tables_1) hat d (List.mem_cons_of_mem _ hd)
  obtain ⟨i0, ei0⟩ := is_v ga0
  obtain rfl : w0 = (.int i0) := Option.some.inj ei0
  obtain ⟨i1, ei1⟩ := is_v ga1
  obtain rfl : w1 = (.int i1) := Option.some.inj ei1
  obtain ⟨i2, ei2⟩ := is_v ga2
  obtain rfl : w2 = (.int i2) := Option.some.inj ei2
  obtain ⟨n, o, h1, h2, h3, _, L, rfl, hQ, hq⟩ := rm_law l s _ hw tables_1 s.heap s.heap.size (Nat.le_refl _) i0 i1 i2 1 (own_law i0 i1 i2) p e ha hc hk s m _ below hf ((Spec.applies_iff_loose hf).mp happ).1 ⟨rfl, State.Warmed39.refl s, rfl⟩ trivial
  obtain ⟨rfl, N, -⟩ := hQ
  refine ⟨n, _, h1, h2, h3, hpost _ _ _ _ _ _ ⟨Cond.after_iff.mpr rfl, Cond.after_iff.mpr (eq_i res_at (Term.int_eval (1)) rfl), trivial⟩ ⟨hq.1, hq.2.1, (hq.2.2.sift fun y hy => Or.inr (N y hy)).mono (by decide) (by decide)⟩⟩
theorem main_1_1 : Claimed_1_1 := comes_1 fun _ _ _ _ _ _ h hF => ⟨h.1, hF⟩
theorem main_1_2 : Claimed_1_2 := comes_1 fun _ _ _ _ _ _ h hF => ⟨h.2.1, hF⟩
end Jvm.Pilot.@@N@@
namespace Jvm.Pilot.@@N@@
open Jvm Jvm.ClassFile Sem Op Lib Jvm.Free Jvm.Stand Jvm.Pilot.@@N@@.Jvm.D
/-! MADE BY PROGRAM (witnessworld.py) out of the Statement's table words and the real class files: 9 classes; the members and pool entries that the words name. The judged class is class 1, her method 2. -/
namespace start1
open Jvm.ClassFile
def u (s : String) : CpInfo := .utf8 (stringToUtf16 s)
/-- a pool by its gaps: so many unusable entries, then the entry; so many at the end -/
def gap : Nat → List CpInfo → List CpInfo
  | 0, r => r
  | n + 1, r => .unusable :: gap n r
def poolList (es : List (Nat × CpInfo)) (last : Nat) : List CpInfo := es.foldr (fun e r => gap e.1 (e.2 :: r)) (gap last [])
def pool (es : List (Nat × CpInfo)) (last : Nat) : Array CpInfo := ⟨poolList es last⟩
def fileOf (pool : Array CpInfo) (this : Nat) (attrs : Array Attribute := #[]) (ms : Array MethodInfo := #[]) (fl : Nat := 33) (sup : Nat := 0) (ifs : Array Nat := #[]) (fds : Array FieldInfo := #[]) : ClassFile where
  minorVersion := 0
  majorVersion := 65
  constantPool := pool
  accessFlags := fl
  thisClass := this
  superClass := sup
  interfaces := ifs
  fields := fds
  methods := ms
  attributes := attrs
def plain (name : String) (sup : Option ClassId) : Class where
  name := name
  kind := .ordinary
  loader := none
  accessFlags := 33
  super := sup
  interfaces := #[]
  cf := none
  fields := #[]
  methods := #[]
  instanceTypes := #[]
  staticTypes := #[]
  resolved := #[]
  callSites := []
  init := .initialized
  statics := none
  mirror := none

def pool0 : Array CpInfo := pool [(5, u "<init>"), (0, u "()V"), (1, .class_ 10), (1, u "java/lang/Object")] 113

def k0m0 : Method := { name := "<init>", desc := "()V", sig := { parameters := [], returnType := none }, accessFlags := 1, code := none }
/-- java/lang/Object -/
def k0 : Class := { plain "java/lang/Object" none with
  accessFlags := 33
  interfaces := #[]
  cf := some (fileOf pool0 8 #[] #[{ accessFlags := 1, nameIndex := 5, descriptorIndex := 6, attributes := #[] }] 33 0 #[] #[])
  fields := #[]
  methods := #[k0m0]
  instanceTypes := #[]
  staticTypes := #[]
  resolved := Array.replicate 124 none
  statics := none }

def pool1 : Array CpInfo := pool [(2, .class_ 4), (1, u "java/lang/Object"), (0, u "<init>"), (0, u "()V"), (0, .integer 2147483647), (0, .methodref 9 10), (0, .class_ 11), (0, .nameAndType 12 13), (0, u "com/example/binary64/binary64/Utf8CommonCodePointPinLaw"), (0, u "isContinuation"), (0, u "(I)Z"), (0, .methodref 15 16), (0, .class_ 17), (0, .nameAndType 18 19), (0, u "com/example/binary64/binary64/Utf8"), (0, u "commonCodePoint"), (0, u "([BII)I"), (3, u "law"), (0, u "(III)Z")] 4

def k1m0 : Method := { name := "<init>", desc := "()V", sig := { parameters := [], returnType := none }, accessFlags := 1, code := none }
def k1c1 : Code := { maxStack := 2, maxLocals := 1, code := method_2_code, exceptionTable := #[], attributes := #[] }
def k1m1 : Method := { name := "isContinuation", desc := "(I)Z", sig := { parameters := [.int], returnType := some .boolean }, accessFlags := 10, code := some k1c1 }
def k1c2 : Code := { maxStack := 4, maxLocals := 10, code := code, exceptionTable := #[], attributes := #[] }
def k1m2 : Method := { name := "law", desc := "(III)Z", sig := { parameters := [.int, .int, .int], returnType := some .boolean }, accessFlags := 9, code := some k1c2 }
/-- com/example/binary64/binary64/Utf8CommonCodePointPinLaw -/
def k1 : Class := { plain "com/example/binary64/binary64/Utf8CommonCodePointPinLaw" (some 0) with
  accessFlags := 49
  interfaces := #[]
  cf := some (fileOf pool1 9 #[] #[{ accessFlags := 1, nameIndex := 5, descriptorIndex := 6, attributes := #[] }, { accessFlags := 10, nameIndex := 12, descriptorIndex := 13, attributes := #[] }, { accessFlags := 9, nameIndex := 23, descriptorIndex := 24, attributes := #[] }] 49 2 #[] #[])
  fields := #[]
  methods := #[k1m0, k1m1, k1m2]
  instanceTypes := #[]
  staticTypes := #[]
  resolved := Array.replicate 29 none
  statics := none }

def pool2 : Array CpInfo := pool [(2, .class_ 4), (1, u "java/lang/Object"), (0, u "<init>"), (0, u "()V"), (0, .class_ 8), (0, u "com/example/binary64/binary64/Utf8"), (0, .integer 32896), (2, .integer 55296), (36, u "NEVER_USED"), (0, u "I"), (2, u "LONE_CONTINUATION"), (1, u "CUT_SHORT"), (1, u "OVERLONG"), (1, u "SURROGATE"), (1, u "TOO_LARGE"), (4, u "([BII)I"), (2, u "commonCodePoint")] 23

def k2m0 : Method := { name := "<init>", desc := "()V", sig := { parameters := [], returnType := none }, accessFlags := 2, code := none }
def k2c1 : Code := { maxStack := 3, maxLocals := 9, code := prog_50_method_4_code, exceptionTable := #[], attributes := #[] }
def k2m1 : Method := { name := "commonCodePoint", desc := "([BII)I", sig := { parameters := [(.array .byte), .int, .int], returnType := some .int }, accessFlags := 8, code := some k2c1 }
/-- com/example/binary64/binary64/Utf8 -/
def k2 : Class := { plain "com/example/binary64/binary64/Utf8" (some 0) with
  accessFlags := 48
  interfaces := #[]
  cf := some (fileOf pool2 7 #[] #[{ accessFlags := 2, nameIndex := 5, descriptorIndex := 6, attributes := #[] }, { accessFlags := 8, nameIndex := 69, descriptorIndex := 66, attributes := #[] }] 48 2 #[] #[{ accessFlags := 24, nameIndex := 49, descriptorIndex := 50, attributes := #[] }, { accessFlags := 24, nameIndex := 53, descriptorIndex := 50, attributes := #[] }, { accessFlags := 24, nameIndex := 55, descriptorIndex := 50, attributes := #[] }, { accessFlags := 24, nameIndex := 57, descriptorIndex := 50, attributes := #[] }, { accessFlags := 24, nameIndex := 59, descriptorIndex := 50, attributes := #[] }, { accessFlags := 24, nameIndex := 61, descriptorIndex := 50, attributes := #[] }])
  fields := #[{ name := "NEVER_USED", type := .int, accessFlags := 24, slot := 0, constantValue := 0 }, { name := "LONE_CONTINUATION", type := .int, accessFlags := 24, slot := 1, constantValue := 0 }, { name := "CUT_SHORT", type := .int, accessFlags := 24, slot := 2, constantValue := 0 }, { name := "OVERLONG", type := .int, accessFlags := 24, slot := 3, constantValue := 0 }, { name := "SURROGATE", type := .int, accessFlags := 24, slot := 4, constantValue := 0 }, { name := "TOO_LARGE", type := .int, accessFlags := 24, slot := 5, constantValue := 0 }]
  methods := #[k2m0, k2m1]
  instanceTypes := #[]
  staticTypes := #[.int, .int, .int, .int, .int, .int]
  resolved := Array.replicate 93 none
  statics := none }

def pool3 : Array CpInfo := pool [(1, u "java/lang/Cloneable"), (0, .class_ 1), (0, u "java/lang/Object"), (0, .class_ 3)] 3

/-- java/lang/Cloneable -/
def k3 : Class := { plain "java/lang/Cloneable" (some 0) with
  accessFlags := 1537
  interfaces := #[]
  cf := some (fileOf pool3 2 #[] #[] 1537 4 #[] #[])
  fields := #[]
  methods := #[]
  instanceTypes := #[]
  staticTypes := #[]
  resolved := Array.replicate 8 none
  statics := none }

def pool4 : Array CpInfo := pool [(1, u "java/io/Serializable"), (0, .class_ 1), (0, u "java/lang/Object"), (0, .class_ 3)] 3

/-- java/io/Serializable -/
def k4 : Class := { plain "java/io/Serializable" (some 0) with
  accessFlags := 1537
  interfaces := #[]
  cf := some (fileOf pool4 2 #[] #[] 1537 4 #[] #[])
  fields := #[]
  methods := #[]
  instanceTypes := #[]
  staticTypes := #[]
  resolved := Array.replicate 8 none
  statics := none }

/-- the primitive byte -/
def k5 : Class := { plain "byte" none with kind := .primitive 'B', accessFlags := 0x411 }
/-- [B -/
def k6 : Class := { plain "[B" (some 0) with kind := .array 5 .byte, interfaces := #[3, 4], accessFlags := 1041 }

/-- the primitive int -/
def k7 : Class := { plain "int" none with kind := .primitive 'I', accessFlags := 0x411 }
/-- [I -/
def k8 : Class := { plain "[I" (some 0) with kind := .array 7 .int, interfaces := #[3, 4], accessFlags := 1041 }

def heap : Heap := #[]
def classes : Array Class := #[k0, k1, k2, k3, k4, k5, k6, k7, k8]
def interned : List (Array UInt16 × Addr) := []
def slotsUsed : Nat := 0
def theMethod : MethodId := ⟨1, 2⟩
def args0 : Array Value := #[.int 5, .int 5, .int 5]
def aboutOver (below : List Frame) : State where
  vm := { classes := classes, interned := interned.toArray }
  heap := heap
  slotsUsed := slotsUsed
  threads := #[{ frames := .invoking theMethod args0 :: below }]
def below0 : List Frame := [.native { method := ⟨0, 0⟩, args := #[] }]
def about1 : State := aboutOver below0
def p0 : Program := .bare "" "" ""
def e0 : Env := launch0.env 0 0 0
theorem w_frames : about1.frames = Frame.invoking theMethod args0 :: below0 := rfl
set_option maxRecDepth 65536 in
theorem w_args : argsFit about1.vm theMethod args0 = true := by decide +kernel
set_option maxRecDepth 65536 in
theorem w_heap : heapFits about1 = true := by decide +kernel
set_option maxRecDepth 65536 in
theorem w_runnable : about1.curStatus? = some .runnable := by decide +kernel
set_option maxRecDepth 65536 in
theorem w_alone : about1.alone = true := by decide +kernel
set_option maxRecDepth 65536 in
theorem w_named : about1.methodNamed? x = some theMethod := by decide +kernel
set_option maxRecDepth 65536 in
theorem w_hears : about1.hears theMethod below0 = true := by decide +kernel
set_option maxRecDepth 65536 in
theorem w_ripe : about1.ripe theMethod args0 below0 = true := by decide +kernel
theorem w_running : about1.status = .running := rfl
set_option maxRecDepth 65536 in
theorem w_room : about1.hasRoom e0.platform room_1 = true :=
  launch0.hasRoom_least _ room_1 (by decide +kernel) (by decide +kernel) (by decide +kernel) (by decide +kernel) (by decide +kernel) (by decide +kernel)
theorem allAtoms_all (ts : List Jvm.Cond) (a : Array Jvm.Value) (st : Jvm.State) : (allAtoms ts).before a st = ts.all (fun c => c.before a st) := by
  induction ts with
  | nil => rfl
  | cons c t ih =>
    show (Jvm.Cond.and c (allAtoms t)).before a st = _
    rw [Jvm.Cond.before_and, ih, List.all_cons]
def words1 : List Jvm.Cond := Jvm.Cond.code x code maxLocals ret :: tables_1
/-- a 'code' word, met by the world's own term for the bytes: nothing is compared byte by byte -/
theorem code_word {y : MethodName} {bytes : ByteArray} {mx : Nat} {rt : Option FieldType} {a : Array Value} {s : State} {m : MethodId} {meth : Method} {c : Code} (h1 : s.methodNamed? y = some m) (h2 : s.vm.method? m = some meth) (h3 : meth.code = some c) (h4 : c.code = bytes)
    (h5 : (c.maxLocals == mx && c.exceptionTable.isEmpty && decide (c.maxStack ≤ mostOperands) && decide (meth.sig.returnType = rt) && !meth.locks && decide (parseMethodDescriptor y.desc = some meth.sig)) = true) : (Jvm.Cond.code y bytes mx rt).before a s = true := by
  simp only [Bool.and_eq_true, beq_iff_eq, Bool.not_eq_true', decide_eq_true_eq] at h5
  obtain ⟨⟨⟨⟨⟨g1, g2⟩, g3⟩, g4⟩, g5⟩, g6⟩ := h5
  simp [Cond.before, Cond.holds, Cond.value, h1, h2, h3, h4, g1, g2, g3, g4, g5, g6]
def isCode : Jvm.Cond → Bool
  | .code _ _ _ _ => true
  | _ => false
theorem all_split {L : List Jvm.Cond} {P : Jvm.Cond → Bool} (h1 : L.all (fun c => isCode c || P c) = true) (h2 : ∀ c ∈ L.filter isCode, P c = true) : L.all P = true := by
  refine List.all_eq_true.mpr fun c hc => ?_
  have h := List.all_eq_true.mp h1 c hc
  rcases Bool.eq_false_or_eq_true (isCode c) with hi | hi
  · exact h2 c (List.mem_filter.mpr ⟨hc, hi⟩)
  · simpa [hi] using h
set_option maxRecDepth 65536 in
theorem w_c0 : (Jvm.Cond.code x code maxLocals ret).before args0 about1 = true := code_word (m := ⟨1, 2⟩) (meth := k1m2) (c := k1c2) (by decide +kernel) rfl rfl rfl (by decide +kernel)
set_option maxRecDepth 65536 in
theorem w_c1 : (Jvm.Cond.code ({ cls := "com/example/binary64/binary64/Utf8", name := "commonCodePoint", desc := "([BII)I" } : Jvm.MethodName) prog_50_method_4_code (9 : Nat) (Option.some Jvm.ClassFile.FieldType.int)).before args0 about1 = true := code_word (m := ⟨2, 1⟩) (meth := k2m1) (c := k2c1) (by decide +kernel) rfl rfl rfl (by decide +kernel)
set_option maxRecDepth 65536 in
theorem w_c2 : (Jvm.Cond.code ({ cls := "com/example/binary64/binary64/Utf8CommonCodePointPinLaw", name := "isContinuation", desc := "(I)Z" } : Jvm.MethodName) method_2_code (1 : Nat) (Option.some Jvm.ClassFile.FieldType.boolean)).before args0 about1 = true := code_word (m := ⟨1, 1⟩) (meth := k1m1) (c := k1c1) (by decide +kernel) rfl rfl rfl (by decide +kernel)
def codes1 : List Jvm.Cond := [Jvm.Cond.code x code maxLocals ret, Jvm.Cond.code ({ cls := "com/example/binary64/binary64/Utf8", name := "commonCodePoint", desc := "([BII)I" } : Jvm.MethodName) prog_50_method_4_code (9 : Nat) (Option.some Jvm.ClassFile.FieldType.int), Jvm.Cond.code ({ cls := "com/example/binary64/binary64/Utf8CommonCodePointPinLaw", name := "isContinuation", desc := "(I)Z" } : Jvm.MethodName) method_2_code (1 : Nat) (Option.some Jvm.ClassFile.FieldType.boolean)]
set_option maxRecDepth 65536 in
theorem codes_eq : words1.filter isCode = codes1 := rfl
theorem w_codes : ∀ c ∈ words1.filter isCode, c.before args0 about1 = true := by
  rw [codes_eq]
  intro c hc
  simp only [codes1, List.mem_cons, List.not_mem_nil, or_false] at hc
  rcases hc with rfl | rfl | rfl
  · exact w_c0
  · exact w_c1
  · exact w_c2
set_option maxRecDepth 65536 in
theorem w_t1 : words1.all (fun c => isCode c || c.before args0 about1) = true := by decide +kernel
theorem w_tables : (allAtoms (Jvm.Cond.code x code maxLocals ret :: tables_1)).before args0 about1 = true := by
  rw [allAtoms_all]
  show words1.all (fun c => c.before args0 about1) = true
  refine all_split ?_ w_codes
  rw [w_t1]
set_option maxRecDepth 65536 in
theorem w_case : (Jvm.Cond.and given_1 narrow_1).before args0 about1 = true := by decide +kernel
theorem w_applies : (headSpec (Jvm.Cond.code x code maxLocals ret :: tables_1) room_1).applies x e0.platform about1 = true :=
  (Spec.applies_iff w_frames).mpr ⟨w_running, w_runnable, w_alone, w_named, w_hears, w_ripe, w_room, w_tables⟩
theorem atStart : AtStart classFile x code maxLocals ret World_1 tables_1 room_1 Calls_1 rest_1 Pre_1 launch0 p0 e0 about1 theMethod args0 below0 :=
  ⟨lists_1, trivial, launch0.admits_env _ _ _, launch0.least_env, fairChoices_fair.cas, fairChoices_fair.clock, w_frames, w_args, w_heap, w_applies, trivial, trivial, w_case⟩
end start1
theorem witness_1 : WitnessClaimed_1 := ⟨start1.p0, start1.e0, start1.about1, start1.theMethod, start1.args0, start1.below0, start1.atStart⟩
end Jvm.Pilot.@@N@@
