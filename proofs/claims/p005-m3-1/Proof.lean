import JvmDerived
import JvmDerived.Pilot.@@N@@Statement
import JvmDerived.Pilot.@@N@@Code
set_option linter.unusedVariables false
set_option linter.unusedSimpArgs false
namespace Jvm.Pilot.@@N@@
open Jvm Jvm.ClassFile Sem Op Lib Jvm.Free Jvm.Stand Jvm.LawKit Jvm.RoadKit Bundle Jvm.Pilot.@@N@@.Jvm.D
/-! 1. the words of the mirrors: a named value, a check, a call -/
def own_lt {α β : Type} (x : α) (f : α → Option β) : Option β := f x
def own_ck {β : Type} (P : Prop) [Decidable P] (x : Option β) : Option β := if P then x else none
def own_bd {α β : Type} (x : Option α) (f : α → Option β) : Option β := x.bind f
theorem own_lt_e {α β : Type} {x : α} {f : α → Option β} {r : β} (h : own_lt x f = some r) : ∃ v, v = x ∧ f v = some r := ⟨x, rfl, h⟩
theorem own_ck_e {β : Type} {P : Prop} [Decidable P] {x : Option β} {r : β} (h : own_ck P x = some r) : P ∧ x = some r := by
  unfold own_ck at h
  by_cases q : P
  · rw [if_pos q] at h; exact ⟨q, h⟩
  · rw [if_neg q] at h; cases h
theorem own_bd_e {α β : Type} {x : Option α} {f : α → Option β} {r : β} (h : own_bd x f = some r) : ∃ v, x = some v ∧ f v = some r := by
  unfold own_bd at h
  cases x with
  | none => cases h
  | some v => exact ⟨v, rfl, h⟩
abbrev own_inb {α : Type} (bs : List α) (j : Int32) : Prop := ¬ j < 0 ∧ j.toNatClampNeg < bs.length
def own_rd {α : Type} [OfNat α 0] (bs : List α) (j : Int32) : α := bs.getD j.toNatClampNeg 0
def own_wr {α : Type} (bs : List α) (j : Int32) (v : α) : List α := bs.set j.toNatClampNeg v
def own_sz {α : Type} (bs : List α) : Int32 := bs.length.toInt32
/-! 2. a run that comes to an end as Q says -/
def own_Goes (p : Program) (e : Env) (below : List Frame) (s : State) (Q : Option Value → Heap → List Loc → Prop) (ce sl : Nat) (A : State) : Prop :=
  ∃ s₂ o, Steps p.tables e below A s₂ ∧ s₂.status = .running ∧ Ended s₂ below o ∧ ∃ v L, o = .returned v ∧ Q v s₂.heap L ∧ FrameEnd s o s₂ L ce sl
section Own
variable {p : Program} {l : Launch} {e : Env} {R : Room} {s : State} {m : MethodId} {args : Array Value} {below : List Frame} {meth : Method} {c : Code} {T : State} {locs : List Loc} {cells slots : Nat} {Z : State} {h h' : Heap} {Q : Option Value → Heap → List Loc → Prop} {ce sl : Nat}
theorem own_Goes.via {A B : State} (q : ∀ t, Steps p.tables e below B t → Steps p.tables e below A t) (g : own_Goes p e below s Q ce sl B) : own_Goes p e below s Q ce sl A := by
  obtain ⟨s₂, o, h1, r⟩ := g
  exact ⟨s₂, o, q _ h1, r⟩
theorem own_Goes.tr {A B : State} (q : Steps p.tables e below A B) (g : own_Goes p e below s Q ce sl B) : own_Goes p e below s Q ce sl A := g.via fun _ k => q.trans k
theorem own_retV (X : Stand p l e R s m args below meth c T locs cells slots) (hx : p.tables.exec = Jvm.exec) {pc : Nat} {Ls : Array Slot} (hret : meth.sig.returnType = none) (hlk : meth.locks = false) (hd : decode c.code pc = .ok (.return_, 1)) (eT : T.heap = h) (hQ : Q none h locs) (hc : cells ≤ ce) (hs : slots ≤ sl) :
    own_Goes p e below s Q ce sl (T.setTop (mkF m pc Ls [])) := by
  obtain ⟨fs, hr, hrun, hended, hW, hsame⟩ := X.leave (v := none) (fun _ => rfl) hlk
  refine ⟨_, _, ?_, hrun, hended, _, _, rfl, ?_, ⟨_, rfl⟩, hW, hsame.mono hc hs⟩
  · exact X.returnOut hx hret hd hr
  · show Q none T.heap locs
    rw [eT]; exact hQ
theorem own_retI (X : Stand p l e R s m args below meth c T locs cells slots) (hx : p.tables.exec = Jvm.exec) {pc : Nat} {Ls : Array Slot} {z : Int32} {rest : List Value} (hret : meth.sig.returnType = some .int) (hlk : meth.locks = false) (hd : decode c.code pc = .ok (.ireturn, 1)) (eT : T.heap = h) (hQ : Q (some (.int z)) h locs) (hc : cells ≤ ce) (hs : slots ≤ sl) :
    own_Goes p e below s Q ce sl (T.setTop (mkF m pc Ls (.int z :: rest))) := by
  obtain ⟨fs, hr, hrun, hended, hW, hsame⟩ := X.leave (v := some (.int z)) (fun h => by rw [hret] at h; cases h) hlk
  refine ⟨_, _, ?_, hrun, hended, _, _, rfl, ?_, ⟨_, rfl⟩, hW, hsame.mono hc hs⟩
  · exact retOut X hx hret rfl (Or.inl ⟨rfl, Or.inl rfl, z, rfl⟩) hd hr
  · show Q _ T.heap locs
    rw [eT]; exact hQ
theorem own_retJ (X : Stand p l e R s m args below meth c T locs cells slots) (hx : p.tables.exec = Jvm.exec) {pc : Nat} {Ls : Array Slot} {z : Int64} {rest : List Value} (hret : meth.sig.returnType = some .long) (hlk : meth.locks = false) (hd : decode c.code pc = .ok (.lreturn, 1)) (eT : T.heap = h) (hQ : Q (some (.long z)) h locs) (hc : cells ≤ ce) (hs : slots ≤ sl) :
    own_Goes p e below s Q ce sl (T.setTop (mkF m pc Ls (.long z :: rest))) := by
  obtain ⟨fs, hr, hrun, hended, hW, hsame⟩ := X.leave (v := some (.long z)) (fun h => by rw [hret] at h; cases h) hlk
  refine ⟨_, _, ?_, hrun, hended, _, _, rfl, ?_, ⟨_, rfl⟩, hW, hsame.mono hc hs⟩
  · exact retOut X hx hret rfl (Or.inr (Or.inl ⟨rfl, rfl, z, rfl⟩)) hd hr
  · show Q _ T.heap locs
    rw [eT]; exact hQ
theorem own_retR (X : Stand p l e R s m args below meth c T locs cells slots) (hx : p.tables.exec = Jvm.exec) {pc : Nat} {Ls : Array Slot} {t : FieldType} {w : Value} {rest : List Value} (hret : meth.sig.returnType = some t) (hlk : meth.locks = false) (hd : decode c.code pc = .ok (.areturn, 1)) (ht : t.isReference = true) (eT : T.heap = h) (hw : w.isRef = true) (hQ : Q (some w) h locs) (hc : cells ≤ ce) (hs : slots ≤ sl) :
    own_Goes p e below s Q ce sl (T.setTop (mkF m pc Ls (w :: rest))) := by
  obtain ⟨fs, hr, hrun, hended, hW, hsame⟩ := X.leave (v := some w) (fun h => by rw [hret] at h; cases h) hlk
  refine ⟨_, _, ?_, hrun, hended, _, _, rfl, ?_, ⟨_, rfl⟩, hW, hsame.mono hc hs⟩
  · exact retOut X hx hret (by cases t <;> first | (cases ht; done) | rfl) (Or.inr (Or.inr (Or.inr (Or.inr ⟨rfl, ht, hw⟩)))) hd hr
  · show Q _ T.heap locs
    rw [eT]; exact hQ
theorem own_retN (X : Stand p l e R s m args below meth c T locs cells slots) (hx : p.tables.exec = Jvm.exec) {pc : Nat} {Ls : Array Slot} {z v : Int32} {t : FieldType} {rest : List Value} (hret : meth.sig.returnType = some t) (hlk : meth.locks = false) (ht : t = .boolean ∨ t = .byte ∨ t = .char ∨ t = .short) (hd : decode c.code pc = .ok (.ireturn, 1)) (eT : T.heap = h) (hv : nar t z = v) (hQ : Q (some (.int v)) h locs) (hc : cells ≤ ce) (hs : slots ≤ sl) :
    own_Goes p e below s Q ce sl (T.setTop (mkF m pc Ls (.int z :: rest))) := by
  subst hv
  obtain ⟨fs, hr, hrun, hended, hW, hsame⟩ := X.leave (v := some (.int (nar t z))) (fun h => by rw [hret] at h; cases h) hlk
  refine ⟨_, _, ?_, hrun, hended, _, _, rfl, ?_, ⟨_, rfl⟩, hW, hsame.mono hc hs⟩
  · exact retN X hx hret ht hd hr
  · show Q _ T.heap locs
    rw [eT]; exact hQ
/-! 3. single steps -/
theorem own_irem {g : JFrame} {target : State} (X : Stand p l e R s m args below meth c T locs cells slots) (hx : p.tables.exec = Jvm.exec) (hg : g.method = m) {x y : Int32} {rest : List Value} (hd : decode c.code g.pc = .ok (.irem, 1)) (hs : g.stack = .int y :: .int x :: rest) (hy : y ≠ 0)
    (hr : Steps p.tables e below (T.setTop { g with pc := g.pc + 1, stack := .int (x % y) :: rest }) target) : Steps p.tables e below (T.setTop g) target := iremM X hx hg hd hs hy hr
theorem own_lrem {g : JFrame} {target : State} (X : Stand p l e R s m args below meth c T locs cells slots) (hx : p.tables.exec = Jvm.exec) (hg : g.method = m) {x y : Int64} {rest : List Value} (hd : decode c.code g.pc = .ok (.lrem, 1)) (hs : g.stack = .long y :: .long x :: rest) (hy : y ≠ 0)
    (hr : Steps p.tables e below (T.setTop { g with pc := g.pc + 1, stack := .long (x % y) :: rest }) target) : Steps p.tables e below (T.setTop g) target :=
  XS.lrem X.here hx hg hd hs hy (by rw [lrem_mod]; exact hr)
theorem own_tltL {x y : Int64} (q : x < y) : ifCond.holds .lt (lcmpW x y) = true ∧ ifCond.holds .ge (lcmpW x y) = false := by
  rw [if0, if0]; exact ⟨(tlt ((lw_lt x y).mpr q)).1, (tlt ((lw_lt x y).mpr q)).2.1⟩
theorem own_fltL {x y : Int64} (q : ¬ x < y) : ifCond.holds .lt (lcmpW x y) = false ∧ ifCond.holds .ge (lcmpW x y) = true := by
  rw [if0, if0]; exact ⟨(flt fun z => q ((lw_lt x y).mp z)).1, (flt fun z => q ((lw_lt x y).mp z)).2.1⟩
theorem own_tgtL {x y : Int64} (q : y < x) : ifCond.holds .gt (lcmpW x y) = true ∧ ifCond.holds .le (lcmpW x y) = false := by
  rw [if0, if0]; exact ⟨(tlt ((lw_gt x y).mpr q)).2.2.1, (tlt ((lw_gt x y).mpr q)).2.2.2⟩
theorem own_fgtL {x y : Int64} (q : ¬ y < x) : ifCond.holds .gt (lcmpW x y) = false ∧ ifCond.holds .le (lcmpW x y) = true := by
  rw [if0, if0]; exact ⟨(flt fun z => q ((lw_gt x y).mp z)).2.2.1, (flt fun z => q ((lw_gt x y).mp z)).2.2.2⟩
theorem own_teqL {x y : Int64} (q : x = y) : ifCond.holds .eq (lcmpW x y) = true ∧ ifCond.holds .ne (lcmpW x y) = false := by
  rw [if0, if0]; exact ⟨(teq ((lw_eq x y).mpr q)).1, (teq ((lw_eq x y).mpr q)).2⟩
theorem own_feqL {x y : Int64} (q : ¬ x = y) : ifCond.holds .eq (lcmpW x y) = false ∧ ifCond.holds .ne (lcmpW x y) = true := by
  rw [if0, if0]; exact ⟨(feq fun z => q ((lw_eq x y).mp z)).1, (feq fun z => q ((lw_eq x y).mp z)).2⟩
theorem own_st1 {L : Array Slot} {i : Nat} {v : Value} {o : Slot} {L' : Array Slot} (hold : L[i]? = some o) (ho : One o) (hv : v.category = 1) (hL : L.setIfInBounds i (.val v) = L' := by rfl) : storeLocals L i v = some L' := hL ▸ XS.store1 hold ho hv
theorem own_privSel {s : State} {args : Array Value} {y : MethodName} {n : Nat} (wi : (Cond.instantiable y.cls n).before args s = true) (hp : s.PrivateAt y) (hinst : (Cond.instanceMethod y).before args s = true) (hy : y.cls ≠ "java/lang/invoke/MethodHandle" ∧ y.cls ≠ "java/lang/invoke/VarHandle") : (Cond.selects y.cls y y).before args s = true := by
  obtain ⟨c, k, h1, h2, -, h3, -⟩ := Cond.instantiable_spec wi
  exact selects_self_of_private h1 h2 (Bool.or_eq_false_iff.mp h3).1 hp hinst hy
theorem own_st2 {L L' : Array Slot} {i : Nat} {x : Int64} {o1 o2 : Slot} (h1 : L[i]? = some o1) (h2 : L[i + 1]? = some o2) (q1 : One o1) (q2 : One o2) (hL : (L.setIfInBounds i (.val (.long x))).setIfInBounds (i + 1) .second = L' := by rfl) : storeLocals L i (.long x) = some L' := by
  subst hL
  obtain ⟨b1, g1⟩ := Array.getElem?_eq_some_iff.mp h1
  obtain ⟨b2, g2⟩ := Array.getElem?_eq_some_iff.mp h2
  have hc : (Value.long x).category = 2 := rfl
  rcases q1 with rfl | ⟨w, rfl, hw⟩ <;> rcases q2 with rfl | ⟨w', rfl, hw'⟩ <;> simp [storeLocals, storeSelf, setAt, hc, *]
/-! 4. arrays: what lies in them, as a list -/
def own_Ar (Z : State) (h : Heap) (a : Addr) (ty : FieldType) (vs : List Value) : Prop := ∃ c : Cell, Arr Z h a c ty ∧ c.slots.toList = vs ∧ vs.length < 2 ^ 31 ∧ ∀ v ∈ vs, fits ty v = true
variable {a b : Addr} {ty : FieldType} {vs : List Value}
theorem own_Ar.lt (F : own_Ar Z h a ty vs) : a < h.size := by obtain ⟨c, A, -⟩ := F; exact A.lt
theorem own_Ar.ext (F : own_Ar Z h a ty vs) (E : Ext h h') : own_Ar Z h' a ty vs := by obtain ⟨c, A, r⟩ := F; exact ⟨c, A.ext E, r⟩
theorem own_Ar.other {k : Nat} {v : Value} (F : own_Ar Z h b ty vs) (W : Wr h h' a k v) (q : b ≠ a) : own_Ar Z h' b ty vs := by obtain ⟨c, A, r⟩ := F; exact ⟨c, A.other W q, r⟩
theorem own_Ar.keep {ws : List Addr} (F : own_Ar Z h a ty vs) (K : Keep h h' ws) (q : a ∉ ws) : own_Ar Z h' a ty vs := by obtain ⟨c, A, r⟩ := F; exact ⟨c, ⟨K.2.1 a c A.1 q, A.2⟩, r⟩
theorem own_Ar.size {c : Cell} (q : c.slots.toList = vs) : c.slots.size = vs.length := by rw [← q]; simp
theorem own_in {c : Cell} {j : Int32} (q : c.slots.toList = vs) (hj : own_inb vs j) : ¬ (j < 0 ∨ c.slots.size ≤ j.toNatClampNeg) := by
  rw [own_Ar.size q]
  rintro (r | r)
  · exact hj.1 r
  · exact absurd hj.2 (Nat.not_lt.mpr r)
theorem own_get {c : Cell} {i : Nat} (q : c.slots.toList = vs) (d : Value) (hi : i < vs.length) : c.slots[i]? = some (vs.getD i d) := by
  have e : c.slots = vs.toArray := by rw [← q]
  rw [e]
  simp [List.getD, hi]
theorem own_set {c : Cell} {i : Nat} {v : Value} (q : c.slots.toList = vs) : (c.setSlot i v).slots.toList = vs.set i v := by
  have e : c.slots = vs.toArray := by rw [← q]
  simp [Cell.setSlot, e]
theorem own_fits {i : Nat} {v : Value} (q : ∀ v ∈ vs, fits ty v = true) (hv : fits ty v = true) : ∀ u ∈ vs.set i v, fits ty u = true := fun u hu => by
  rcases List.mem_or_eq_of_mem_set hu with r | r
  · exact q u r
  · rw [r]; exact hv
theorem own_mapGet {bs : List Int32} {i : Nat} (hi : i < bs.length) : (bs.map Value.int).getD i (.int 0) = .int (bs.getD i 0) := by simp [List.getD, hi]
theorem own_mapGetJ {bs : List Int64} {i : Nat} (hi : i < bs.length) : (bs.map Value.long).getD i (.long 0) = .long (bs.getD i 0) := by simp [List.getD, hi]
theorem own_mapSet {bs : List Int32} {i : Nat} {v : Int32} : (bs.map Value.int).set i (.int v) = (bs.set i v).map Value.int := by simp
theorem own_mapSetJ {bs : List Int64} {i : Nat} {v : Int64} : (bs.map Value.long).set i (.long v) = (bs.set i v).map Value.long := by simp
theorem own_inbM {α : Type} {f : α → Value} {bs : List α} {j : Int32} (q : own_inb bs j) : own_inb (bs.map f) j := ⟨q.1, by rw [List.length_map]; exact q.2⟩
theorem own_wrk {α : Type} {bs : List α} {j : Int32} {v : α} (k : Nat) (hk : j.toNatClampNeg = k) : own_wr bs j v = bs.set k v := by rw [own_wr, hk]
theorem own_rdk {α : Type} [OfNat α 0] {bs : List α} {j : Int32} (k : Nat) (hk : j.toNatClampNeg = k) : own_rd bs j = bs.getD k 0 := by rw [own_rd, hk]
theorem own_inbk {α : Type} {bs : List α} {j : Int32} (k n : Nat) (h0 : ¬ j < 0) (hk : j.toNatClampNeg = k) (hl : bs.length = n) (hkn : k < n) : own_inb bs j := ⟨h0, by rw [hk, hl]; exact hkn⟩
theorem own_len {α : Type} {f : α → Value} {bs : List α} (X : Stand p l e R s m args below meth c T locs cells slots) (hx : p.tables.exec = Jvm.exec) (hZ : Z.Warmed39 s.vm) (eT : T.heap = h) (A : own_Ar Z h a ty (bs.map f)) {g : JFrame} (hg : g.method = m) {rest : List Value} (hs : g.stack = .ref a :: rest) (hd : decode c.code g.pc = .ok (.arraylength, 1)) {target : State}
    (hr : Steps p.tables e below (T.setTop { g with pc := g.pc + 1, stack := .int (own_sz bs) :: rest }) target) : Steps p.tables e below (T.setTop g) target := by
  obtain ⟨cl, A, q, -⟩ := A
  refine X.arraylength hx (by rw [eT]; exact A.1) (State.isArrayOf_alike hZ.alike A.2.1) hg hs hd _ ?_
  rw [own_Ar.size q, List.length_map]; exact hr
theorem own_ldI {bs : List Int32} {j v : Int32} (X : Stand p l e R s m args below meth c T locs cells slots) (hx : p.tables.exec = Jvm.exec) (hZ : Z.Warmed39 s.vm) (eT : T.heap = h) (A : own_Ar Z h a .int (bs.map Value.int)) (hj : own_inb bs j) (hv : own_rd bs j = v) {g : JFrame} (hg : g.method = m) {rest : List Value} (hs : g.stack = .int j :: .ref a :: rest) (hd : decode c.code g.pc = .ok (.iaload, 1)) {target : State}
    (hr : Steps p.tables e below (T.setTop { g with pc := g.pc + 1, stack := .int v :: rest }) target) : Steps p.tables e below (T.setTop g) target := by
  subst hv
  obtain ⟨cl, A, q, -⟩ := A
  exact X.iaload hx (by rw [eT]; exact A.1) (State.isArrayOf_alike hZ.alike A.2.1) A.2.2 (own_in q (own_inbM hj)) ((own_get q (.int 0) (own_inbM hj).2).trans (congrArg some (own_mapGet hj.2))) hg hs hd _ hr
theorem own_ldB {bs : List Int32} {j v : Int32} (X : Stand p l e R s m args below meth c T locs cells slots) (hx : p.tables.exec = Jvm.exec) (hZ : Z.Warmed39 s.vm) (eT : T.heap = h) (A : own_Ar Z h a .byte (bs.map Value.int)) (hj : own_inb bs j) (hv : own_rd bs j = v) {g : JFrame} (hg : g.method = m) {rest : List Value} (hs : g.stack = .int j :: .ref a :: rest) (hd : decode c.code g.pc = .ok (.baload, 1)) {target : State}
    (hr : Steps p.tables e below (T.setTop { g with pc := g.pc + 1, stack := .int v :: rest }) target) : Steps p.tables e below (T.setTop g) target := by
  subst hv
  obtain ⟨cl, A, q, -⟩ := A
  exact X.baloadBytes hx (by rw [eT]; exact A.1) (State.isArrayOf_alike hZ.alike A.2.1) A.2.2 (own_in q (own_inbM hj)) ((own_get q (.int 0) (own_inbM hj).2).trans (congrArg some (own_mapGet hj.2))) hg hs hd _ hr
theorem own_ldZ {bs : List Int32} {j v : Int32} (X : Stand p l e R s m args below meth c T locs cells slots) (hx : p.tables.exec = Jvm.exec) (hZ : Z.Warmed39 s.vm) (eT : T.heap = h) (A : own_Ar Z h a .boolean (bs.map Value.int)) (hj : own_inb bs j) (hv : own_rd bs j = v) {g : JFrame} (hg : g.method = m) {rest : List Value} (hs : g.stack = .int j :: .ref a :: rest) (hd : decode c.code g.pc = .ok (.baload, 1)) {target : State}
    (hr : Steps p.tables e below (T.setTop { g with pc := g.pc + 1, stack := .int v :: rest }) target) : Steps p.tables e below (T.setTop g) target := by
  subst hv
  obtain ⟨cl, A, q, -⟩ := A
  exact X.baloadBooleans hx (by rw [eT]; exact A.1) (State.isArrayOf_alike hZ.alike A.2.1) A.2.2 (own_in q (own_inbM hj)) ((own_get q (.int 0) (own_inbM hj).2).trans (congrArg some (own_mapGet hj.2))) hg hs hd _ hr
theorem own_ldJ {bs : List Int64} {j : Int32} {v : Int64} (X : Stand p l e R s m args below meth c T locs cells slots) (hx : p.tables.exec = Jvm.exec) (hZ : Z.Warmed39 s.vm) (eT : T.heap = h) (A : own_Ar Z h a .long (bs.map Value.long)) (hj : own_inb bs j) (hv : own_rd bs j = v) {g : JFrame} (hg : g.method = m) {rest : List Value} (hs : g.stack = .int j :: .ref a :: rest) (hd : decode c.code g.pc = .ok (.laload, 1)) {target : State}
    (hr : Steps p.tables e below (T.setTop { g with pc := g.pc + 1, stack := .long v :: rest }) target) : Steps p.tables e below (T.setTop g) target := by
  subst hv
  obtain ⟨cl, A, q, -⟩ := A
  exact X.laload hx (by rw [eT]; exact A.1) (State.isArrayOf_alike hZ.alike A.2.1) A.2.2 (own_in q (own_inbM hj)) ((own_get q (.long 0) (own_inbM hj).2).trans (congrArg some (own_mapGetJ hj.2))) hg hs hd _ hr
theorem own_stI {bs : List Int32} {j x : Int32} (X : Stand p l e R s m args below meth c T locs cells slots) (hx : p.tables.exec = Jvm.exec) (hZ : Z.Warmed39 s.vm) (eT : T.heap = h) (A : own_Ar Z h a .int (bs.map Value.int)) (hj : own_inb bs j) {g : JFrame} (hg : g.method = m) {rest : List Value} (hs : g.stack = .int x :: .int j :: .ref a :: rest) (hd : decode c.code g.pc = .ok (.iastore, 1)) :
    ∃ T' h', Stand p l e R s m args below meth c T' (locs ++ [⟨a, j.toNatClampNeg⟩]) cells slots ∧ T'.heap = h' ∧ Wr h h' a j.toNatClampNeg (.int x) ∧ own_Ar Z h' a .int ((own_wr bs j x).map Value.int) ∧ ∀ target, Steps p.tables e below (T'.setTop { g with pc := g.pc + 1, stack := rest }) target → Steps p.tables e below (T.setTop g) target := by
  obtain ⟨cl, A, q, r, ft⟩ := A
  obtain ⟨T', h', X', e', W, st⟩ := stI X hx hZ eT A (own_in q (own_inbM hj)) hg hs hd
  exact ⟨T', h', X', e', W, ⟨_, A.same W, (own_set q).trans own_mapSet, by simpa [own_wr] using r, own_mapSet ▸ own_fits ft rfl⟩, st⟩
theorem own_stB {bs : List Int32} {j x : Int32} (X : Stand p l e R s m args below meth c T locs cells slots) (hx : p.tables.exec = Jvm.exec) (hZ : Z.Warmed39 s.vm) (eT : T.heap = h) (A : own_Ar Z h a .byte (bs.map Value.int)) (hj : own_inb bs j) {g : JFrame} (hg : g.method = m) {rest : List Value} (hs : g.stack = .int x :: .int j :: .ref a :: rest) (hd : decode c.code g.pc = .ok (.bastore, 1)) :
    ∃ T' h', Stand p l e R s m args below meth c T' (locs ++ [⟨a, j.toNatClampNeg⟩]) cells slots ∧ T'.heap = h' ∧ Wr h h' a j.toNatClampNeg (.int x.toInt8.toInt32) ∧ own_Ar Z h' a .byte ((own_wr bs j x.toInt8.toInt32).map Value.int) ∧ ∀ target, Steps p.tables e below (T'.setTop { g with pc := g.pc + 1, stack := rest }) target → Steps p.tables e below (T.setTop g) target := by
  obtain ⟨cl, A, q, r, ft⟩ := A
  obtain ⟨T', h', X', e', W, st⟩ := stB X hx hZ eT A (own_in q (own_inbM hj)) hg hs hd
  exact ⟨T', h', X', e', W, ⟨_, A.same W, (own_set q).trans own_mapSet, by simpa [own_wr] using r, own_mapSet ▸ own_fits ft (fits_nar_byte _)⟩, st⟩
theorem own_stZ {bs : List Int32} {j x : Int32} (X : Stand p l e R s m args below meth c T locs cells slots) (hx : p.tables.exec = Jvm.exec) (hZ : Z.Warmed39 s.vm) (eT : T.heap = h) (A : own_Ar Z h a .boolean (bs.map Value.int)) (hj : own_inb bs j) {g : JFrame} (hg : g.method = m) {rest : List Value} (hs : g.stack = .int x :: .int j :: .ref a :: rest) (hd : decode c.code g.pc = .ok (.bastore, 1)) :
    ∃ T' h', Stand p l e R s m args below meth c T' (locs ++ [⟨a, j.toNatClampNeg⟩]) cells slots ∧ T'.heap = h' ∧ Wr h h' a j.toNatClampNeg (.int (x &&& 1)) ∧ own_Ar Z h' a .boolean ((own_wr bs j (x &&& 1)).map Value.int) ∧ ∀ target, Steps p.tables e below (T'.setTop { g with pc := g.pc + 1, stack := rest }) target → Steps p.tables e below (T.setTop g) target := by
  obtain ⟨cl, A, q, r, ft⟩ := A
  obtain ⟨T', h', X', e', W, st⟩ := stZ X hx hZ eT A (own_in q (own_inbM hj)) hg hs hd
  exact ⟨T', h', X', e', W, ⟨_, A.same W, (own_set q).trans own_mapSet, by simpa [own_wr] using r, own_mapSet ▸ own_fits ft (fits_nar_bool _)⟩, st⟩
theorem own_stJ {bs : List Int64} {j : Int32} {x : Int64} (X : Stand p l e R s m args below meth c T locs cells slots) (hx : p.tables.exec = Jvm.exec) (hZ : Z.Warmed39 s.vm) (eT : T.heap = h) (A : own_Ar Z h a .long (bs.map Value.long)) (hj : own_inb bs j) {g : JFrame} (hg : g.method = m) {rest : List Value} (hs : g.stack = .long x :: .int j :: .ref a :: rest) (hd : decode c.code g.pc = .ok (.lastore, 1)) :
    ∃ T' h', Stand p l e R s m args below meth c T' (locs ++ [⟨a, j.toNatClampNeg⟩]) cells slots ∧ T'.heap = h' ∧ Wr h h' a j.toNatClampNeg (.long x) ∧ own_Ar Z h' a .long ((own_wr bs j x).map Value.long) ∧ ∀ target, Steps p.tables e below (T'.setTop { g with pc := g.pc + 1, stack := rest }) target → Steps p.tables e below (T.setTop g) target := by
  obtain ⟨cl, A, q, r, ft⟩ := A
  obtain ⟨T', h', X', e', W, st⟩ := stJ X hx hZ eT A (own_in q (own_inbM hj)) hg hs hd
  exact ⟨T', h', X', e', W, ⟨_, A.same W, (own_set q).trans own_mapSetJ, by simpa [own_wr] using r, own_mapSetJ ▸ own_fits ft rfl⟩, st⟩
theorem own_newI {k : ClassId} {n : Int32} {kk : Nat} (A : Arr Z h a (newA k ty n) ty) (q : ¬ n < 0) (hd : defaultValue ty = .int 0) (hk : n.toNatClampNeg = kk) : own_Ar Z h a ty ((List.replicate kk (0 : Int32)).map Value.int) := hk ▸
  ⟨_, A, by simp [newA, hd], by rw [List.length_map, List.length_replicate]; exact (back32 q).2, fun v hv => by
    rw [List.map_replicate] at hv
    rw [(List.mem_replicate.mp hv).2, ← hd]; cases ty <;> rfl⟩
theorem own_newJ {k : ClassId} {n : Int32} {kk : Nat} (A : Arr Z h a (newA k ty n) ty) (q : ¬ n < 0) (hd : defaultValue ty = .long 0) (hk : n.toNatClampNeg = kk) : own_Ar Z h a ty ((List.replicate kk (0 : Int64)).map Value.long) := hk ▸
  ⟨_, A, by simp [newA, hd], by rw [List.length_map, List.length_replicate]; exact (back32 q).2, fun v hv => by
    rw [List.map_replicate] at hv
    rw [(List.mem_replicate.mp hv).2, ← hd]; cases ty <;> rfl⟩
end Own
theorem w0 {a0 : Array Value} {Z : State} (hw : ∀ d ∈ tables_1, d.before a0 Z = true) : ((Jvm.Cond.constant "com/example/binary64/binary64/Utf8WritePinLaw" (7 : Nat) (2097151 : Int32))).before a0 Z = true := hw _ (List.mem_of_getElem? (i := 0) rfl)
theorem w1 {a0 : Array Value} {Z : State} (hw : ∀ d ∈ tables_1, d.before a0 Z = true) : ((Jvm.Cond.constant "com/example/binary64/binary64/Utf8WritePinLaw" (8 : Nat) (1114112 : Int32))).before a0 Z = true := hw _ (List.mem_of_getElem? (i := 1) rfl)
theorem w2 {a0 : Array Value} {Z : State} (hw : ∀ d ∈ tables_1, d.before a0 Z = true) : ((Jvm.Cond.arrayClass Jvm.ClassFile.FieldType.byte)).before a0 Z = true := hw _ (List.mem_of_getElem? (i := 2) rfl)
theorem w3 {a0 : Array Value} {Z : State} (hw : ∀ d ∈ tables_1, d.before a0 Z = true) : ((Jvm.Cond.constant "com/example/binary64/binary64/Utf8WritePinLaw" (10 : Nat) (55296 : Int32))).before a0 Z = true := hw _ (List.mem_of_getElem? (i := 3) rfl)
theorem w4 {a0 : Array Value} {Z : State} (hw : ∀ d ∈ tables_1, d.before a0 Z = true) : ((Jvm.Cond.methodLink "com/example/binary64/binary64/Utf8WritePinLaw" (12 : Nat) ({ cls := "com/example/binary64/binary64/Utf8", name := "write", desc := "(I[BI)I" } : Jvm.MethodName))).before a0 Z = true := hw _ (List.mem_of_getElem? (i := 4) rfl)
theorem w5 {a0 : Array Value} {Z : State} (hw : ∀ d ∈ tables_1, d.before a0 Z = true) : ((Jvm.Cond.static ({ cls := "com/example/binary64/binary64/Utf8", name := "write", desc := "(I[BI)I" } : Jvm.MethodName))).before a0 Z = true := hw _ (List.mem_of_getElem? (i := 5) rfl)
theorem w6 {a0 : Array Value} {Z : State} (hw : ∀ d ∈ tables_1, d.before a0 Z = true) : ((Jvm.Cond.initialized "com/example/binary64/binary64/Utf8")).before a0 Z = true := hw _ (List.mem_of_getElem? (i := 6) rfl)
theorem w7 {a0 : Array Value} {Z : State} (hw : ∀ d ∈ tables_1, d.before a0 Z = true) : ((Jvm.Cond.code ({ cls := "com/example/binary64/binary64/Utf8", name := "write", desc := "(I[BI)I" } : Jvm.MethodName) prog_50_method_5_code (4 : Nat) (Option.some Jvm.ClassFile.FieldType.int))).before a0 Z = true := hw _ (List.mem_of_getElem? (i := 7) rfl)
theorem w8 {a0 : Array Value} {Z : State} (hw : ∀ d ∈ tables_1, d.before a0 Z = true) : ((Jvm.Cond.methodLink "com/example/binary64/binary64/Utf8WritePinLaw" (18 : Nat) ({ cls := "com/example/binary64/binary64/Utf8WritePinLaw", name := "outside", desc := "([BIIIB)Z" } : Jvm.MethodName))).before a0 Z = true := hw _ (List.mem_of_getElem? (i := 8) rfl)
theorem w9 {a0 : Array Value} {Z : State} (hw : ∀ d ∈ tables_1, d.before a0 Z = true) : ((Jvm.Cond.static ({ cls := "com/example/binary64/binary64/Utf8WritePinLaw", name := "outside", desc := "([BIIIB)Z" } : Jvm.MethodName))).before a0 Z = true := hw _ (List.mem_of_getElem? (i := 9) rfl)
theorem w10 {a0 : Array Value} {Z : State} (hw : ∀ d ∈ tables_1, d.before a0 Z = true) : ((Jvm.Cond.initialized "com/example/binary64/binary64/Utf8WritePinLaw")).before a0 Z = true := hw _ (List.mem_of_getElem? (i := 10) rfl)
theorem w11 {a0 : Array Value} {Z : State} (hw : ∀ d ∈ tables_1, d.before a0 Z = true) : ((Jvm.Cond.code ({ cls := "com/example/binary64/binary64/Utf8WritePinLaw", name := "outside", desc := "([BIIIB)Z" } : Jvm.MethodName) method_3_code (5 : Nat) (Option.some Jvm.ClassFile.FieldType.boolean))).before a0 Z = true := hw _ (List.mem_of_getElem? (i := 11) rfl)
theorem w12 {a0 : Array Value} {Z : State} (hw : ∀ d ∈ tables_1, d.before a0 Z = true) : ((Jvm.Cond.methodLink "com/example/binary64/binary64/Utf8WritePinLaw" (24 : Nat) ({ cls := "com/example/binary64/binary64/Utf8", name := "sequenceLength", desc := "([BII)I" } : Jvm.MethodName))).before a0 Z = true := hw _ (List.mem_of_getElem? (i := 12) rfl)
theorem w13 {a0 : Array Value} {Z : State} (hw : ∀ d ∈ tables_1, d.before a0 Z = true) : ((Jvm.Cond.static ({ cls := "com/example/binary64/binary64/Utf8", name := "sequenceLength", desc := "([BII)I" } : Jvm.MethodName))).before a0 Z = true := hw _ (List.mem_of_getElem? (i := 13) rfl)
theorem w14 {a0 : Array Value} {Z : State} (hw : ∀ d ∈ tables_1, d.before a0 Z = true) : ((Jvm.Cond.code ({ cls := "com/example/binary64/binary64/Utf8", name := "sequenceLength", desc := "([BII)I" } : Jvm.MethodName) prog_50_method_2_code (7 : Nat) (Option.some Jvm.ClassFile.FieldType.int))).before a0 Z = true := hw _ (List.mem_of_getElem? (i := 14) rfl)
theorem w15 {a0 : Array Value} {Z : State} (hw : ∀ d ∈ tables_1, d.before a0 Z = true) : ((Jvm.Cond.methodLink "com/example/binary64/binary64/Utf8WritePinLaw" (28 : Nat) ({ cls := "com/example/binary64/binary64/Utf8", name := "codePoint", desc := "([BII)I" } : Jvm.MethodName))).before a0 Z = true := hw _ (List.mem_of_getElem? (i := 15) rfl)
theorem w16 {a0 : Array Value} {Z : State} (hw : ∀ d ∈ tables_1, d.before a0 Z = true) : ((Jvm.Cond.static ({ cls := "com/example/binary64/binary64/Utf8", name := "codePoint", desc := "([BII)I" } : Jvm.MethodName))).before a0 Z = true := hw _ (List.mem_of_getElem? (i := 16) rfl)
theorem w17 {a0 : Array Value} {Z : State} (hw : ∀ d ∈ tables_1, d.before a0 Z = true) : ((Jvm.Cond.code ({ cls := "com/example/binary64/binary64/Utf8", name := "codePoint", desc := "([BII)I" } : Jvm.MethodName) prog_50_method_3_code (5 : Nat) (Option.some Jvm.ClassFile.FieldType.int))).before a0 Z = true := hw _ (List.mem_of_getElem? (i := 17) rfl)
theorem w18 {a0 : Array Value} {Z : State} (hw : ∀ d ∈ tables_1, d.before a0 Z = true) : ((Jvm.Cond.constant "com/example/binary64/binary64/Utf8WritePinLaw" (9 : Nat) (65536 : Int32))).before a0 Z = true := hw _ (List.mem_of_getElem? (i := 18) rfl)
theorem w19 {a0 : Array Value} {Z : State} (hw : ∀ d ∈ tables_1, d.before a0 Z = true) : ((Jvm.Cond.constant "com/example/binary64/binary64/Utf8WritePinLaw" (11 : Nat) (57343 : Int32))).before a0 Z = true := hw _ (List.mem_of_getElem? (i := 19) rfl)
theorem w20 {a0 : Array Value} {Z : State} (hw : ∀ d ∈ tables_1, d.before a0 Z = true) : ((Jvm.Cond.constant "com/example/binary64/binary64/Utf8" (15 : Nat) (65536 : Int32))).before a0 Z = true := hw _ (List.mem_of_getElem? (i := 20) rfl)
theorem pn_com_example_binary64_binary64_Utf8 : plainName "com/example/binary64/binary64/Utf8" = true := by first | (simp [plainName, overriddenIn]; done) | decide +kernel
theorem pn_com_example_binary64_binary64_Utf8WritePinLaw : plainName "com/example/binary64/binary64/Utf8WritePinLaw" = true := by first | (simp [plainName, overriddenIn]; done) | decide +kernel
theorem pd_0 : parseMethodDescriptor "(I[BI)I" = some ⟨[.int, (.array .byte), .int], some .int⟩ := by decide +kernel
theorem pd_1 : parseMethodDescriptor "([BIIIB)Z" = some ⟨[(.array .byte), .int, .int, .int, .byte], some .boolean⟩ := by decide +kernel
theorem pd_2 : parseMethodDescriptor "([BII)I" = some ⟨[(.array .byte), .int, .int], some .int⟩ := by decide +kernel
theorem dUtf8_write_0 : decode prog_50_method_5_code 0 = .ok (.iload_n 0, 1) := by decide +kernel
theorem dUtf8_write_1 : decode prog_50_method_5_code 1 = .ok (.sipush 128, 3) := by decide +kernel
theorem dUtf8_write_4 : decode prog_50_method_5_code 4 = .ok (.if_icmp .ge 15, 3) := by decide +kernel
theorem dUtf8_write_7 : decode prog_50_method_5_code 7 = .ok (.aload_n 1, 1) := by decide +kernel
theorem dUtf8_write_8 : decode prog_50_method_5_code 8 = .ok (.iload_n 2, 1) := by decide +kernel
theorem dUtf8_write_9 : decode prog_50_method_5_code 9 = .ok (.iload_n 0, 1) := by decide +kernel
theorem dUtf8_write_10 : decode prog_50_method_5_code 10 = .ok (.i2b, 1) := by decide +kernel
theorem dUtf8_write_11 : decode prog_50_method_5_code 11 = .ok (.bastore, 1) := by decide +kernel
theorem dUtf8_write_12 : decode prog_50_method_5_code 12 = .ok (.iload_n 2, 1) := by decide +kernel
theorem dUtf8_write_13 : decode prog_50_method_5_code 13 = .ok (.iconst 1, 1) := by decide +kernel
theorem dUtf8_write_14 : decode prog_50_method_5_code 14 = .ok (.iadd, 1) := by decide +kernel
theorem dUtf8_write_15 : decode prog_50_method_5_code 15 = .ok (.istore_n 3, 1) := by decide +kernel
theorem dUtf8_write_16 : decode prog_50_method_5_code 16 = .ok (.goto 163, 3) := by decide +kernel
theorem dUtf8_write_19 : decode prog_50_method_5_code 19 = .ok (.iload_n 0, 1) := by decide +kernel
theorem dUtf8_write_20 : decode prog_50_method_5_code 20 = .ok (.sipush 2048, 3) := by decide +kernel
theorem dUtf8_write_23 : decode prog_50_method_5_code 23 = .ok (.if_icmp .ge 36, 3) := by decide +kernel
theorem dUtf8_write_26 : decode prog_50_method_5_code 26 = .ok (.aload_n 1, 1) := by decide +kernel
theorem dUtf8_write_27 : decode prog_50_method_5_code 27 = .ok (.iload_n 2, 1) := by decide +kernel
theorem dUtf8_write_28 : decode prog_50_method_5_code 28 = .ok (.sipush 192, 3) := by decide +kernel
theorem dUtf8_write_31 : decode prog_50_method_5_code 31 = .ok (.iload_n 0, 1) := by decide +kernel
theorem dUtf8_write_32 : decode prog_50_method_5_code 32 = .ok (.bipush 6, 2) := by decide +kernel
theorem dUtf8_write_34 : decode prog_50_method_5_code 34 = .ok (.ishr, 1) := by decide +kernel
theorem dUtf8_write_35 : decode prog_50_method_5_code 35 = .ok (.ior, 1) := by decide +kernel
theorem dUtf8_write_36 : decode prog_50_method_5_code 36 = .ok (.i2b, 1) := by decide +kernel
theorem dUtf8_write_37 : decode prog_50_method_5_code 37 = .ok (.bastore, 1) := by decide +kernel
theorem dUtf8_write_38 : decode prog_50_method_5_code 38 = .ok (.aload_n 1, 1) := by decide +kernel
theorem dUtf8_write_39 : decode prog_50_method_5_code 39 = .ok (.iload_n 2, 1) := by decide +kernel
theorem dUtf8_write_40 : decode prog_50_method_5_code 40 = .ok (.iconst 1, 1) := by decide +kernel
theorem dUtf8_write_41 : decode prog_50_method_5_code 41 = .ok (.iadd, 1) := by decide +kernel
theorem dUtf8_write_42 : decode prog_50_method_5_code 42 = .ok (.sipush 128, 3) := by decide +kernel
theorem dUtf8_write_45 : decode prog_50_method_5_code 45 = .ok (.iload_n 0, 1) := by decide +kernel
theorem dUtf8_write_46 : decode prog_50_method_5_code 46 = .ok (.bipush 63, 2) := by decide +kernel
theorem dUtf8_write_48 : decode prog_50_method_5_code 48 = .ok (.iand, 1) := by decide +kernel
theorem dUtf8_write_49 : decode prog_50_method_5_code 49 = .ok (.ior, 1) := by decide +kernel
theorem dUtf8_write_50 : decode prog_50_method_5_code 50 = .ok (.i2b, 1) := by decide +kernel
theorem dUtf8_write_51 : decode prog_50_method_5_code 51 = .ok (.bastore, 1) := by decide +kernel
theorem dUtf8_write_52 : decode prog_50_method_5_code 52 = .ok (.iload_n 2, 1) := by decide +kernel
theorem dUtf8_write_53 : decode prog_50_method_5_code 53 = .ok (.iconst 2, 1) := by decide +kernel
theorem dUtf8_write_54 : decode prog_50_method_5_code 54 = .ok (.iadd, 1) := by decide +kernel
theorem dUtf8_write_55 : decode prog_50_method_5_code 55 = .ok (.istore_n 3, 1) := by decide +kernel
theorem dUtf8_write_56 : decode prog_50_method_5_code 56 = .ok (.goto 123, 3) := by decide +kernel
theorem dUtf8_write_59 : decode prog_50_method_5_code 59 = .ok (.iload_n 0, 1) := by decide +kernel
theorem dUtf8_write_60 : decode prog_50_method_5_code 60 = .ok (.ldc 15, 2) := by decide +kernel
theorem dUtf8_write_62 : decode prog_50_method_5_code 62 = .ok (.if_icmp .ge 53, 3) := by decide +kernel
theorem dUtf8_write_65 : decode prog_50_method_5_code 65 = .ok (.aload_n 1, 1) := by decide +kernel
theorem dUtf8_write_66 : decode prog_50_method_5_code 66 = .ok (.iload_n 2, 1) := by decide +kernel
theorem dUtf8_write_67 : decode prog_50_method_5_code 67 = .ok (.sipush 224, 3) := by decide +kernel
theorem dUtf8_write_70 : decode prog_50_method_5_code 70 = .ok (.iload_n 0, 1) := by decide +kernel
theorem dUtf8_write_71 : decode prog_50_method_5_code 71 = .ok (.bipush 12, 2) := by decide +kernel
theorem dUtf8_write_73 : decode prog_50_method_5_code 73 = .ok (.ishr, 1) := by decide +kernel
theorem dUtf8_write_74 : decode prog_50_method_5_code 74 = .ok (.ior, 1) := by decide +kernel
theorem dUtf8_write_75 : decode prog_50_method_5_code 75 = .ok (.i2b, 1) := by decide +kernel
theorem dUtf8_write_76 : decode prog_50_method_5_code 76 = .ok (.bastore, 1) := by decide +kernel
theorem dUtf8_write_77 : decode prog_50_method_5_code 77 = .ok (.aload_n 1, 1) := by decide +kernel
theorem dUtf8_write_78 : decode prog_50_method_5_code 78 = .ok (.iload_n 2, 1) := by decide +kernel
theorem dUtf8_write_79 : decode prog_50_method_5_code 79 = .ok (.iconst 1, 1) := by decide +kernel
theorem dUtf8_write_80 : decode prog_50_method_5_code 80 = .ok (.iadd, 1) := by decide +kernel
theorem dUtf8_write_81 : decode prog_50_method_5_code 81 = .ok (.sipush 128, 3) := by decide +kernel
theorem dUtf8_write_84 : decode prog_50_method_5_code 84 = .ok (.iload_n 0, 1) := by decide +kernel
theorem dUtf8_write_85 : decode prog_50_method_5_code 85 = .ok (.bipush 6, 2) := by decide +kernel
theorem dUtf8_write_87 : decode prog_50_method_5_code 87 = .ok (.ishr, 1) := by decide +kernel
theorem dUtf8_write_88 : decode prog_50_method_5_code 88 = .ok (.bipush 63, 2) := by decide +kernel
theorem dUtf8_write_90 : decode prog_50_method_5_code 90 = .ok (.iand, 1) := by decide +kernel
theorem dUtf8_write_91 : decode prog_50_method_5_code 91 = .ok (.ior, 1) := by decide +kernel
theorem dUtf8_write_92 : decode prog_50_method_5_code 92 = .ok (.i2b, 1) := by decide +kernel
theorem dUtf8_write_93 : decode prog_50_method_5_code 93 = .ok (.bastore, 1) := by decide +kernel
theorem dUtf8_write_94 : decode prog_50_method_5_code 94 = .ok (.aload_n 1, 1) := by decide +kernel
theorem dUtf8_write_95 : decode prog_50_method_5_code 95 = .ok (.iload_n 2, 1) := by decide +kernel
theorem dUtf8_write_96 : decode prog_50_method_5_code 96 = .ok (.iconst 2, 1) := by decide +kernel
theorem dUtf8_write_97 : decode prog_50_method_5_code 97 = .ok (.iadd, 1) := by decide +kernel
theorem dUtf8_write_98 : decode prog_50_method_5_code 98 = .ok (.sipush 128, 3) := by decide +kernel
theorem dUtf8_write_101 : decode prog_50_method_5_code 101 = .ok (.iload_n 0, 1) := by decide +kernel
theorem dUtf8_write_102 : decode prog_50_method_5_code 102 = .ok (.bipush 63, 2) := by decide +kernel
theorem dUtf8_write_104 : decode prog_50_method_5_code 104 = .ok (.iand, 1) := by decide +kernel
theorem dUtf8_write_105 : decode prog_50_method_5_code 105 = .ok (.ior, 1) := by decide +kernel
theorem dUtf8_write_106 : decode prog_50_method_5_code 106 = .ok (.i2b, 1) := by decide +kernel
theorem dUtf8_write_107 : decode prog_50_method_5_code 107 = .ok (.bastore, 1) := by decide +kernel
theorem dUtf8_write_108 : decode prog_50_method_5_code 108 = .ok (.iload_n 2, 1) := by decide +kernel
theorem dUtf8_write_109 : decode prog_50_method_5_code 109 = .ok (.iconst 3, 1) := by decide +kernel
theorem dUtf8_write_110 : decode prog_50_method_5_code 110 = .ok (.iadd, 1) := by decide +kernel
theorem dUtf8_write_111 : decode prog_50_method_5_code 111 = .ok (.istore_n 3, 1) := by decide +kernel
theorem dUtf8_write_112 : decode prog_50_method_5_code 112 = .ok (.goto 67, 3) := by decide +kernel
theorem dUtf8_write_115 : decode prog_50_method_5_code 115 = .ok (.aload_n 1, 1) := by decide +kernel
theorem dUtf8_write_116 : decode prog_50_method_5_code 116 = .ok (.iload_n 2, 1) := by decide +kernel
theorem dUtf8_write_117 : decode prog_50_method_5_code 117 = .ok (.sipush 240, 3) := by decide +kernel
theorem dUtf8_write_120 : decode prog_50_method_5_code 120 = .ok (.iload_n 0, 1) := by decide +kernel
theorem dUtf8_write_121 : decode prog_50_method_5_code 121 = .ok (.bipush 18, 2) := by decide +kernel
theorem dUtf8_write_123 : decode prog_50_method_5_code 123 = .ok (.ishr, 1) := by decide +kernel
theorem dUtf8_write_124 : decode prog_50_method_5_code 124 = .ok (.ior, 1) := by decide +kernel
theorem dUtf8_write_125 : decode prog_50_method_5_code 125 = .ok (.i2b, 1) := by decide +kernel
theorem dUtf8_write_126 : decode prog_50_method_5_code 126 = .ok (.bastore, 1) := by decide +kernel
theorem dUtf8_write_127 : decode prog_50_method_5_code 127 = .ok (.aload_n 1, 1) := by decide +kernel
theorem dUtf8_write_128 : decode prog_50_method_5_code 128 = .ok (.iload_n 2, 1) := by decide +kernel
theorem dUtf8_write_129 : decode prog_50_method_5_code 129 = .ok (.iconst 1, 1) := by decide +kernel
theorem dUtf8_write_130 : decode prog_50_method_5_code 130 = .ok (.iadd, 1) := by decide +kernel
theorem dUtf8_write_131 : decode prog_50_method_5_code 131 = .ok (.sipush 128, 3) := by decide +kernel
theorem dUtf8_write_134 : decode prog_50_method_5_code 134 = .ok (.iload_n 0, 1) := by decide +kernel
theorem dUtf8_write_135 : decode prog_50_method_5_code 135 = .ok (.bipush 12, 2) := by decide +kernel
theorem dUtf8_write_137 : decode prog_50_method_5_code 137 = .ok (.ishr, 1) := by decide +kernel
theorem dUtf8_write_138 : decode prog_50_method_5_code 138 = .ok (.bipush 63, 2) := by decide +kernel
theorem dUtf8_write_140 : decode prog_50_method_5_code 140 = .ok (.iand, 1) := by decide +kernel
theorem dUtf8_write_141 : decode prog_50_method_5_code 141 = .ok (.ior, 1) := by decide +kernel
theorem dUtf8_write_142 : decode prog_50_method_5_code 142 = .ok (.i2b, 1) := by decide +kernel
theorem dUtf8_write_143 : decode prog_50_method_5_code 143 = .ok (.bastore, 1) := by decide +kernel
theorem dUtf8_write_144 : decode prog_50_method_5_code 144 = .ok (.aload_n 1, 1) := by decide +kernel
theorem dUtf8_write_145 : decode prog_50_method_5_code 145 = .ok (.iload_n 2, 1) := by decide +kernel
theorem dUtf8_write_146 : decode prog_50_method_5_code 146 = .ok (.iconst 2, 1) := by decide +kernel
theorem dUtf8_write_147 : decode prog_50_method_5_code 147 = .ok (.iadd, 1) := by decide +kernel
theorem dUtf8_write_148 : decode prog_50_method_5_code 148 = .ok (.sipush 128, 3) := by decide +kernel
theorem dUtf8_write_151 : decode prog_50_method_5_code 151 = .ok (.iload_n 0, 1) := by decide +kernel
theorem dUtf8_write_152 : decode prog_50_method_5_code 152 = .ok (.bipush 6, 2) := by decide +kernel
theorem dUtf8_write_154 : decode prog_50_method_5_code 154 = .ok (.ishr, 1) := by decide +kernel
theorem dUtf8_write_155 : decode prog_50_method_5_code 155 = .ok (.bipush 63, 2) := by decide +kernel
theorem dUtf8_write_157 : decode prog_50_method_5_code 157 = .ok (.iand, 1) := by decide +kernel
theorem dUtf8_write_158 : decode prog_50_method_5_code 158 = .ok (.ior, 1) := by decide +kernel
theorem dUtf8_write_159 : decode prog_50_method_5_code 159 = .ok (.i2b, 1) := by decide +kernel
theorem dUtf8_write_160 : decode prog_50_method_5_code 160 = .ok (.bastore, 1) := by decide +kernel
theorem dUtf8_write_161 : decode prog_50_method_5_code 161 = .ok (.aload_n 1, 1) := by decide +kernel
theorem dUtf8_write_162 : decode prog_50_method_5_code 162 = .ok (.iload_n 2, 1) := by decide +kernel
theorem dUtf8_write_163 : decode prog_50_method_5_code 163 = .ok (.iconst 3, 1) := by decide +kernel
theorem dUtf8_write_164 : decode prog_50_method_5_code 164 = .ok (.iadd, 1) := by decide +kernel
theorem dUtf8_write_165 : decode prog_50_method_5_code 165 = .ok (.sipush 128, 3) := by decide +kernel
theorem dUtf8_write_168 : decode prog_50_method_5_code 168 = .ok (.iload_n 0, 1) := by decide +kernel
theorem dUtf8_write_169 : decode prog_50_method_5_code 169 = .ok (.bipush 63, 2) := by decide +kernel
theorem dUtf8_write_171 : decode prog_50_method_5_code 171 = .ok (.iand, 1) := by decide +kernel
theorem dUtf8_write_172 : decode prog_50_method_5_code 172 = .ok (.ior, 1) := by decide +kernel
theorem dUtf8_write_173 : decode prog_50_method_5_code 173 = .ok (.i2b, 1) := by decide +kernel
theorem dUtf8_write_174 : decode prog_50_method_5_code 174 = .ok (.bastore, 1) := by decide +kernel
theorem dUtf8_write_175 : decode prog_50_method_5_code 175 = .ok (.iload_n 2, 1) := by decide +kernel
theorem dUtf8_write_176 : decode prog_50_method_5_code 176 = .ok (.iconst 4, 1) := by decide +kernel
theorem dUtf8_write_177 : decode prog_50_method_5_code 177 = .ok (.iadd, 1) := by decide +kernel
theorem dUtf8_write_178 : decode prog_50_method_5_code 178 = .ok (.istore_n 3, 1) := by decide +kernel
theorem dUtf8_write_179 : decode prog_50_method_5_code 179 = .ok (.iload_n 3, 1) := by decide +kernel
theorem dUtf8_write_180 : decode prog_50_method_5_code 180 = .ok (.ireturn, 1) := by decide +kernel
theorem dUtf8WritePinLaw_outside_0 : decode method_3_code 0 = .ok (.iload_n 1, 1) := by decide +kernel
theorem dUtf8WritePinLaw_outside_1 : decode method_3_code 1 = .ok (.iload_n 2, 1) := by decide +kernel
theorem dUtf8WritePinLaw_outside_2 : decode method_3_code 2 = .ok (.if_icmp .lt 8, 3) := by decide +kernel
theorem dUtf8WritePinLaw_outside_5 : decode method_3_code 5 = .ok (.iload_n 1, 1) := by decide +kernel
theorem dUtf8WritePinLaw_outside_6 : decode method_3_code 6 = .ok (.iload_n 3, 1) := by decide +kernel
theorem dUtf8WritePinLaw_outside_7 : decode method_3_code 7 = .ok (.if_icmp .lt 11, 3) := by decide +kernel
theorem dUtf8WritePinLaw_outside_10 : decode method_3_code 10 = .ok (.aload_n 0, 1) := by decide +kernel
theorem dUtf8WritePinLaw_outside_11 : decode method_3_code 11 = .ok (.iload_n 1, 1) := by decide +kernel
theorem dUtf8WritePinLaw_outside_12 : decode method_3_code 12 = .ok (.baload, 1) := by decide +kernel
theorem dUtf8WritePinLaw_outside_13 : decode method_3_code 13 = .ok (.iload 4, 2) := by decide +kernel
theorem dUtf8WritePinLaw_outside_15 : decode method_3_code 15 = .ok (.if_icmp .ne 7, 3) := by decide +kernel
theorem dUtf8WritePinLaw_outside_18 : decode method_3_code 18 = .ok (.iconst 1, 1) := by decide +kernel
theorem dUtf8WritePinLaw_outside_19 : decode method_3_code 19 = .ok (.goto 4, 3) := by decide +kernel
theorem dUtf8WritePinLaw_outside_22 : decode method_3_code 22 = .ok (.iconst 0, 1) := by decide +kernel
theorem dUtf8WritePinLaw_outside_23 : decode method_3_code 23 = .ok (.ireturn, 1) := by decide +kernel
theorem dUtf8_sequenceLength_0 : decode prog_50_method_2_code 0 = .ok (.aload_n 0, 1) := by decide +kernel
theorem dUtf8_sequenceLength_1 : decode prog_50_method_2_code 1 = .ok (.iload_n 1, 1) := by decide +kernel
theorem dUtf8_sequenceLength_2 : decode prog_50_method_2_code 2 = .ok (.baload, 1) := by decide +kernel
theorem dUtf8_sequenceLength_3 : decode prog_50_method_2_code 3 = .ok (.sipush 255, 3) := by decide +kernel
theorem dUtf8_sequenceLength_6 : decode prog_50_method_2_code 6 = .ok (.iand, 1) := by decide +kernel
theorem dUtf8_sequenceLength_7 : decode prog_50_method_2_code 7 = .ok (.istore_n 3, 1) := by decide +kernel
theorem dUtf8_sequenceLength_8 : decode prog_50_method_2_code 8 = .ok (.iload_n 3, 1) := by decide +kernel
theorem dUtf8_sequenceLength_9 : decode prog_50_method_2_code 9 = .ok (.sipush 128, 3) := by decide +kernel
theorem dUtf8_sequenceLength_12 : decode prog_50_method_2_code 12 = .ok (.if_icmp .ge 9, 3) := by decide +kernel
theorem dUtf8_sequenceLength_15 : decode prog_50_method_2_code 15 = .ok (.iconst 1, 1) := by decide +kernel
theorem dUtf8_sequenceLength_16 : decode prog_50_method_2_code 16 = .ok (.istore 4, 2) := by decide +kernel
theorem dUtf8_sequenceLength_18 : decode prog_50_method_2_code 18 = .ok (.goto 66, 3) := by decide +kernel
theorem dUtf8_sequenceLength_21 : decode prog_50_method_2_code 21 = .ok (.iload_n 3, 1) := by decide +kernel
theorem dUtf8_sequenceLength_22 : decode prog_50_method_2_code 22 = .ok (.sipush 192, 3) := by decide +kernel
theorem dUtf8_sequenceLength_25 : decode prog_50_method_2_code 25 = .ok (.if_icmp .ge 10, 3) := by decide +kernel
theorem dUtf8_sequenceLength_28 : decode prog_50_method_2_code 28 = .ok (.bipush (-2), 2) := by decide +kernel
theorem dUtf8_sequenceLength_30 : decode prog_50_method_2_code 30 = .ok (.istore 4, 2) := by decide +kernel
theorem dUtf8_sequenceLength_32 : decode prog_50_method_2_code 32 = .ok (.goto 52, 3) := by decide +kernel
theorem dUtf8_sequenceLength_35 : decode prog_50_method_2_code 35 = .ok (.iload_n 3, 1) := by decide +kernel
theorem dUtf8_sequenceLength_36 : decode prog_50_method_2_code 36 = .ok (.sipush 194, 3) := by decide +kernel
theorem dUtf8_sequenceLength_39 : decode prog_50_method_2_code 39 = .ok (.if_icmp .lt 10, 3) := by decide +kernel
theorem dUtf8_sequenceLength_42 : decode prog_50_method_2_code 42 = .ok (.iload_n 3, 1) := by decide +kernel
theorem dUtf8_sequenceLength_43 : decode prog_50_method_2_code 43 = .ok (.sipush 244, 3) := by decide +kernel
theorem dUtf8_sequenceLength_46 : decode prog_50_method_2_code 46 = .ok (.if_icmp .le 9, 3) := by decide +kernel
theorem dUtf8_sequenceLength_49 : decode prog_50_method_2_code 49 = .ok (.iconst (-1), 1) := by decide +kernel
theorem dUtf8_sequenceLength_50 : decode prog_50_method_2_code 50 = .ok (.istore 4, 2) := by decide +kernel
theorem dUtf8_sequenceLength_52 : decode prog_50_method_2_code 52 = .ok (.goto 32, 3) := by decide +kernel
theorem dUtf8_sequenceLength_55 : decode prog_50_method_2_code 55 = .ok (.iload_n 3, 1) := by decide +kernel
theorem dUtf8_sequenceLength_56 : decode prog_50_method_2_code 56 = .ok (.sipush 224, 3) := by decide +kernel
theorem dUtf8_sequenceLength_59 : decode prog_50_method_2_code 59 = .ok (.if_icmp .ge 9, 3) := by decide +kernel
theorem dUtf8_sequenceLength_62 : decode prog_50_method_2_code 62 = .ok (.iconst 2, 1) := by decide +kernel
theorem dUtf8_sequenceLength_63 : decode prog_50_method_2_code 63 = .ok (.istore 4, 2) := by decide +kernel
theorem dUtf8_sequenceLength_65 : decode prog_50_method_2_code 65 = .ok (.goto 19, 3) := by decide +kernel
theorem dUtf8_sequenceLength_68 : decode prog_50_method_2_code 68 = .ok (.iload_n 3, 1) := by decide +kernel
theorem dUtf8_sequenceLength_69 : decode prog_50_method_2_code 69 = .ok (.sipush 240, 3) := by decide +kernel
theorem dUtf8_sequenceLength_72 : decode prog_50_method_2_code 72 = .ok (.if_icmp .ge 9, 3) := by decide +kernel
theorem dUtf8_sequenceLength_75 : decode prog_50_method_2_code 75 = .ok (.iconst 3, 1) := by decide +kernel
theorem dUtf8_sequenceLength_76 : decode prog_50_method_2_code 76 = .ok (.istore 4, 2) := by decide +kernel
theorem dUtf8_sequenceLength_78 : decode prog_50_method_2_code 78 = .ok (.goto 6, 3) := by decide +kernel
theorem dUtf8_sequenceLength_81 : decode prog_50_method_2_code 81 = .ok (.iconst 4, 1) := by decide +kernel
theorem dUtf8_sequenceLength_82 : decode prog_50_method_2_code 82 = .ok (.istore 4, 2) := by decide +kernel
theorem dUtf8_sequenceLength_84 : decode prog_50_method_2_code 84 = .ok (.iload 4, 2) := by decide +kernel
theorem dUtf8_sequenceLength_86 : decode prog_50_method_2_code 86 = .ok (.iconst 2, 1) := by decide +kernel
theorem dUtf8_sequenceLength_87 : decode prog_50_method_2_code 87 = .ok (.if_icmp .ge 6, 3) := by decide +kernel
theorem dUtf8_sequenceLength_90 : decode prog_50_method_2_code 90 = .ok (.iload 4, 2) := by decide +kernel
theorem dUtf8_sequenceLength_92 : decode prog_50_method_2_code 92 = .ok (.ireturn, 1) := by decide +kernel
theorem dUtf8_sequenceLength_93 : decode prog_50_method_2_code 93 = .ok (.iconst 1, 1) := by decide +kernel
theorem dUtf8_sequenceLength_94 : decode prog_50_method_2_code 94 = .ok (.istore 5, 2) := by decide +kernel
theorem dUtf8_sequenceLength_96 : decode prog_50_method_2_code 96 = .ok (.iload 5, 2) := by decide +kernel
theorem dUtf8_sequenceLength_98 : decode prog_50_method_2_code 98 = .ok (.iload 4, 2) := by decide +kernel
theorem dUtf8_sequenceLength_100 : decode prog_50_method_2_code 100 = .ok (.if_icmp .ge 36, 3) := by decide +kernel
theorem dUtf8_sequenceLength_103 : decode prog_50_method_2_code 103 = .ok (.iload_n 1, 1) := by decide +kernel
theorem dUtf8_sequenceLength_104 : decode prog_50_method_2_code 104 = .ok (.iload 5, 2) := by decide +kernel
theorem dUtf8_sequenceLength_106 : decode prog_50_method_2_code 106 = .ok (.iadd, 1) := by decide +kernel
theorem dUtf8_sequenceLength_107 : decode prog_50_method_2_code 107 = .ok (.iload_n 2, 1) := by decide +kernel
theorem dUtf8_sequenceLength_108 : decode prog_50_method_2_code 108 = .ok (.if_icmp .eq 19, 3) := by decide +kernel
theorem dUtf8_sequenceLength_111 : decode prog_50_method_2_code 111 = .ok (.aload_n 0, 1) := by decide +kernel
theorem dUtf8_sequenceLength_112 : decode prog_50_method_2_code 112 = .ok (.iload_n 1, 1) := by decide +kernel
theorem dUtf8_sequenceLength_113 : decode prog_50_method_2_code 113 = .ok (.iload 5, 2) := by decide +kernel
theorem dUtf8_sequenceLength_115 : decode prog_50_method_2_code 115 = .ok (.iadd, 1) := by decide +kernel
theorem dUtf8_sequenceLength_116 : decode prog_50_method_2_code 116 = .ok (.baload, 1) := by decide +kernel
theorem dUtf8_sequenceLength_117 : decode prog_50_method_2_code 117 = .ok (.sipush 192, 3) := by decide +kernel
theorem dUtf8_sequenceLength_120 : decode prog_50_method_2_code 120 = .ok (.iand, 1) := by decide +kernel
theorem dUtf8_sequenceLength_121 : decode prog_50_method_2_code 121 = .ok (.sipush 128, 3) := by decide +kernel
theorem dUtf8_sequenceLength_124 : decode prog_50_method_2_code 124 = .ok (.if_icmp .eq 6, 3) := by decide +kernel
theorem dUtf8_sequenceLength_127 : decode prog_50_method_2_code 127 = .ok (.bipush (-3), 2) := by decide +kernel
theorem dUtf8_sequenceLength_129 : decode prog_50_method_2_code 129 = .ok (.ireturn, 1) := by decide +kernel
theorem dUtf8_sequenceLength_130 : decode prog_50_method_2_code 130 = .ok (.iinc 5 1, 3) := by decide +kernel
theorem dUtf8_sequenceLength_133 : decode prog_50_method_2_code 133 = .ok (.goto (-37), 3) := by decide +kernel
theorem dUtf8_sequenceLength_136 : decode prog_50_method_2_code 136 = .ok (.aload_n 0, 1) := by decide +kernel
theorem dUtf8_sequenceLength_137 : decode prog_50_method_2_code 137 = .ok (.iload_n 1, 1) := by decide +kernel
theorem dUtf8_sequenceLength_138 : decode prog_50_method_2_code 138 = .ok (.iconst 1, 1) := by decide +kernel
theorem dUtf8_sequenceLength_139 : decode prog_50_method_2_code 139 = .ok (.iadd, 1) := by decide +kernel
theorem dUtf8_sequenceLength_140 : decode prog_50_method_2_code 140 = .ok (.baload, 1) := by decide +kernel
theorem dUtf8_sequenceLength_141 : decode prog_50_method_2_code 141 = .ok (.sipush 255, 3) := by decide +kernel
theorem dUtf8_sequenceLength_144 : decode prog_50_method_2_code 144 = .ok (.iand, 1) := by decide +kernel
theorem dUtf8_sequenceLength_145 : decode prog_50_method_2_code 145 = .ok (.istore 5, 2) := by decide +kernel
theorem dUtf8_sequenceLength_147 : decode prog_50_method_2_code 147 = .ok (.iload_n 3, 1) := by decide +kernel
theorem dUtf8_sequenceLength_148 : decode prog_50_method_2_code 148 = .ok (.sipush 224, 3) := by decide +kernel
theorem dUtf8_sequenceLength_151 : decode prog_50_method_2_code 151 = .ok (.if_icmp .ne 11, 3) := by decide +kernel
theorem dUtf8_sequenceLength_154 : decode prog_50_method_2_code 154 = .ok (.iload 5, 2) := by decide +kernel
theorem dUtf8_sequenceLength_156 : decode prog_50_method_2_code 156 = .ok (.sipush 160, 3) := by decide +kernel
theorem dUtf8_sequenceLength_159 : decode prog_50_method_2_code 159 = .ok (.if_icmp .lt 18, 3) := by decide +kernel
theorem dUtf8_sequenceLength_162 : decode prog_50_method_2_code 162 = .ok (.iload_n 3, 1) := by decide +kernel
theorem dUtf8_sequenceLength_163 : decode prog_50_method_2_code 163 = .ok (.sipush 240, 3) := by decide +kernel
theorem dUtf8_sequenceLength_166 : decode prog_50_method_2_code 166 = .ok (.if_icmp .ne 18, 3) := by decide +kernel
theorem dUtf8_sequenceLength_169 : decode prog_50_method_2_code 169 = .ok (.iload 5, 2) := by decide +kernel
theorem dUtf8_sequenceLength_171 : decode prog_50_method_2_code 171 = .ok (.sipush 144, 3) := by decide +kernel
theorem dUtf8_sequenceLength_174 : decode prog_50_method_2_code 174 = .ok (.if_icmp .ge 10, 3) := by decide +kernel
theorem dUtf8_sequenceLength_177 : decode prog_50_method_2_code 177 = .ok (.bipush (-4), 2) := by decide +kernel
theorem dUtf8_sequenceLength_179 : decode prog_50_method_2_code 179 = .ok (.istore 6, 2) := by decide +kernel
theorem dUtf8_sequenceLength_181 : decode prog_50_method_2_code 181 = .ok (.goto 51, 3) := by decide +kernel
theorem dUtf8_sequenceLength_184 : decode prog_50_method_2_code 184 = .ok (.iload_n 3, 1) := by decide +kernel
theorem dUtf8_sequenceLength_185 : decode prog_50_method_2_code 185 = .ok (.sipush 237, 3) := by decide +kernel
theorem dUtf8_sequenceLength_188 : decode prog_50_method_2_code 188 = .ok (.if_icmp .ne 18, 3) := by decide +kernel
theorem dUtf8_sequenceLength_191 : decode prog_50_method_2_code 191 = .ok (.iload 5, 2) := by decide +kernel
theorem dUtf8_sequenceLength_193 : decode prog_50_method_2_code 193 = .ok (.sipush 159, 3) := by decide +kernel
theorem dUtf8_sequenceLength_196 : decode prog_50_method_2_code 196 = .ok (.if_icmp .le 10, 3) := by decide +kernel
theorem dUtf8_sequenceLength_199 : decode prog_50_method_2_code 199 = .ok (.bipush (-5), 2) := by decide +kernel
theorem dUtf8_sequenceLength_201 : decode prog_50_method_2_code 201 = .ok (.istore 6, 2) := by decide +kernel
theorem dUtf8_sequenceLength_203 : decode prog_50_method_2_code 203 = .ok (.goto 29, 3) := by decide +kernel
theorem dUtf8_sequenceLength_206 : decode prog_50_method_2_code 206 = .ok (.iload_n 3, 1) := by decide +kernel
theorem dUtf8_sequenceLength_207 : decode prog_50_method_2_code 207 = .ok (.sipush 244, 3) := by decide +kernel
theorem dUtf8_sequenceLength_210 : decode prog_50_method_2_code 210 = .ok (.if_icmp .ne 18, 3) := by decide +kernel
theorem dUtf8_sequenceLength_213 : decode prog_50_method_2_code 213 = .ok (.iload 5, 2) := by decide +kernel
theorem dUtf8_sequenceLength_215 : decode prog_50_method_2_code 215 = .ok (.sipush 143, 3) := by decide +kernel
theorem dUtf8_sequenceLength_218 : decode prog_50_method_2_code 218 = .ok (.if_icmp .le 10, 3) := by decide +kernel
theorem dUtf8_sequenceLength_221 : decode prog_50_method_2_code 221 = .ok (.bipush (-6), 2) := by decide +kernel
theorem dUtf8_sequenceLength_223 : decode prog_50_method_2_code 223 = .ok (.istore 6, 2) := by decide +kernel
theorem dUtf8_sequenceLength_225 : decode prog_50_method_2_code 225 = .ok (.goto 7, 3) := by decide +kernel
theorem dUtf8_sequenceLength_228 : decode prog_50_method_2_code 228 = .ok (.iload 4, 2) := by decide +kernel
theorem dUtf8_sequenceLength_230 : decode prog_50_method_2_code 230 = .ok (.istore 6, 2) := by decide +kernel
theorem dUtf8_sequenceLength_232 : decode prog_50_method_2_code 232 = .ok (.iload 6, 2) := by decide +kernel
theorem dUtf8_sequenceLength_234 : decode prog_50_method_2_code 234 = .ok (.ireturn, 1) := by decide +kernel
theorem dUtf8_codePoint_0 : decode prog_50_method_3_code 0 = .ok (.iload_n 2, 1) := by decide +kernel
theorem dUtf8_codePoint_1 : decode prog_50_method_3_code 1 = .ok (.iconst 1, 1) := by decide +kernel
theorem dUtf8_codePoint_2 : decode prog_50_method_3_code 2 = .ok (.if_icmp .ne 9, 3) := by decide +kernel
theorem dUtf8_codePoint_5 : decode prog_50_method_3_code 5 = .ok (.aload_n 0, 1) := by decide +kernel
theorem dUtf8_codePoint_6 : decode prog_50_method_3_code 6 = .ok (.iload_n 1, 1) := by decide +kernel
theorem dUtf8_codePoint_7 : decode prog_50_method_3_code 7 = .ok (.baload, 1) := by decide +kernel
theorem dUtf8_codePoint_8 : decode prog_50_method_3_code 8 = .ok (.goto 14, 3) := by decide +kernel
theorem dUtf8_codePoint_11 : decode prog_50_method_3_code 11 = .ok (.aload_n 0, 1) := by decide +kernel
theorem dUtf8_codePoint_12 : decode prog_50_method_3_code 12 = .ok (.iload_n 1, 1) := by decide +kernel
theorem dUtf8_codePoint_13 : decode prog_50_method_3_code 13 = .ok (.baload, 1) := by decide +kernel
theorem dUtf8_codePoint_14 : decode prog_50_method_3_code 14 = .ok (.sipush 255, 3) := by decide +kernel
theorem dUtf8_codePoint_17 : decode prog_50_method_3_code 17 = .ok (.iload_n 2, 1) := by decide +kernel
theorem dUtf8_codePoint_18 : decode prog_50_method_3_code 18 = .ok (.iconst 1, 1) := by decide +kernel
theorem dUtf8_codePoint_19 : decode prog_50_method_3_code 19 = .ok (.iadd, 1) := by decide +kernel
theorem dUtf8_codePoint_20 : decode prog_50_method_3_code 20 = .ok (.ishr, 1) := by decide +kernel
theorem dUtf8_codePoint_21 : decode prog_50_method_3_code 21 = .ok (.iand, 1) := by decide +kernel
theorem dUtf8_codePoint_22 : decode prog_50_method_3_code 22 = .ok (.istore_n 3, 1) := by decide +kernel
theorem dUtf8_codePoint_23 : decode prog_50_method_3_code 23 = .ok (.iconst 1, 1) := by decide +kernel
theorem dUtf8_codePoint_24 : decode prog_50_method_3_code 24 = .ok (.istore 4, 2) := by decide +kernel
theorem dUtf8_codePoint_26 : decode prog_50_method_3_code 26 = .ok (.iload 4, 2) := by decide +kernel
theorem dUtf8_codePoint_28 : decode prog_50_method_3_code 28 = .ok (.iload_n 2, 1) := by decide +kernel
theorem dUtf8_codePoint_29 : decode prog_50_method_3_code 29 = .ok (.if_icmp .ge 24, 3) := by decide +kernel
theorem dUtf8_codePoint_32 : decode prog_50_method_3_code 32 = .ok (.iload_n 3, 1) := by decide +kernel
theorem dUtf8_codePoint_33 : decode prog_50_method_3_code 33 = .ok (.bipush 6, 2) := by decide +kernel
theorem dUtf8_codePoint_35 : decode prog_50_method_3_code 35 = .ok (.ishl, 1) := by decide +kernel
theorem dUtf8_codePoint_36 : decode prog_50_method_3_code 36 = .ok (.aload_n 0, 1) := by decide +kernel
theorem dUtf8_codePoint_37 : decode prog_50_method_3_code 37 = .ok (.iload_n 1, 1) := by decide +kernel
theorem dUtf8_codePoint_38 : decode prog_50_method_3_code 38 = .ok (.iload 4, 2) := by decide +kernel
theorem dUtf8_codePoint_40 : decode prog_50_method_3_code 40 = .ok (.iadd, 1) := by decide +kernel
theorem dUtf8_codePoint_41 : decode prog_50_method_3_code 41 = .ok (.baload, 1) := by decide +kernel
theorem dUtf8_codePoint_42 : decode prog_50_method_3_code 42 = .ok (.bipush 63, 2) := by decide +kernel
theorem dUtf8_codePoint_44 : decode prog_50_method_3_code 44 = .ok (.iand, 1) := by decide +kernel
theorem dUtf8_codePoint_45 : decode prog_50_method_3_code 45 = .ok (.ior, 1) := by decide +kernel
theorem dUtf8_codePoint_46 : decode prog_50_method_3_code 46 = .ok (.istore_n 3, 1) := by decide +kernel
theorem dUtf8_codePoint_47 : decode prog_50_method_3_code 47 = .ok (.iinc 4 1, 3) := by decide +kernel
theorem dUtf8_codePoint_50 : decode prog_50_method_3_code 50 = .ok (.goto (-24), 3) := by decide +kernel
theorem dUtf8_codePoint_53 : decode prog_50_method_3_code 53 = .ok (.iload_n 3, 1) := by decide +kernel
theorem dUtf8_codePoint_54 : decode prog_50_method_3_code 54 = .ok (.ireturn, 1) := by decide +kernel
/-! com/example/binary64/binary64/Utf8.write:(I[BI)I -/
def f_Utf8_write (v0 : Int32) (v2 : Int32) (bs_a1 : List Int32) : Option (Int32 × (List Int32)) :=
  if v0 < (128 : Int32) then
    own_lt (v0.toInt8.toInt32) fun x131 =>
    own_ck (own_inb bs_a1 v2) <|
    own_lt (own_wr bs_a1 v2 (x131.toInt8.toInt32)) fun bs133 =>
    own_lt (v2 + (1 : Int32)) fun x134 =>
    some (x134, bs133)
  else
    if v0 < (2048 : Int32) then
      own_lt (((192 : Int32) ||| (v0 >>> ((6 : Int32) &&& 31))).toInt8.toInt32) fun x135 =>
      own_ck (own_inb bs_a1 v2) <|
      own_lt (own_wr bs_a1 v2 (x135.toInt8.toInt32)) fun bs137 =>
      own_lt (((128 : Int32) ||| (v0 &&& (63 : Int32))).toInt8.toInt32) fun x138 =>
      own_lt (v2 + (1 : Int32)) fun x139 =>
      own_ck (own_inb bs137 x139) <|
      own_lt (own_wr bs137 x139 (x138.toInt8.toInt32)) fun bs141 =>
      own_lt (v2 + (2 : Int32)) fun x142 =>
      some (x142, bs141)
    else
      if v0 < (65536 : Int32) then
        own_lt (((224 : Int32) ||| (v0 >>> ((12 : Int32) &&& 31))).toInt8.toInt32) fun x143 =>
        own_ck (own_inb bs_a1 v2) <|
        own_lt (own_wr bs_a1 v2 (x143.toInt8.toInt32)) fun bs145 =>
        own_lt (((128 : Int32) ||| ((v0 >>> ((6 : Int32) &&& 31)) &&& (63 : Int32))).toInt8.toInt32) fun x146 =>
        own_lt (v2 + (1 : Int32)) fun x147 =>
        own_ck (own_inb bs145 x147) <|
        own_lt (own_wr bs145 x147 (x146.toInt8.toInt32)) fun bs149 =>
        own_lt (((128 : Int32) ||| (v0 &&& (63 : Int32))).toInt8.toInt32) fun x150 =>
        own_lt (v2 + (2 : Int32)) fun x151 =>
        own_ck (own_inb bs149 x151) <|
        own_lt (own_wr bs149 x151 (x150.toInt8.toInt32)) fun bs153 =>
        own_lt (v2 + (3 : Int32)) fun x154 =>
        some (x154, bs153)
      else
        own_lt (((240 : Int32) ||| (v0 >>> ((18 : Int32) &&& 31))).toInt8.toInt32) fun x155 =>
        own_ck (own_inb bs_a1 v2) <|
        own_lt (own_wr bs_a1 v2 (x155.toInt8.toInt32)) fun bs157 =>
        own_lt (((128 : Int32) ||| ((v0 >>> ((12 : Int32) &&& 31)) &&& (63 : Int32))).toInt8.toInt32) fun x158 =>
        own_lt (v2 + (1 : Int32)) fun x159 =>
        own_ck (own_inb bs157 x159) <|
        own_lt (own_wr bs157 x159 (x158.toInt8.toInt32)) fun bs161 =>
        own_lt (((128 : Int32) ||| ((v0 >>> ((6 : Int32) &&& 31)) &&& (63 : Int32))).toInt8.toInt32) fun x162 =>
        own_lt (v2 + (2 : Int32)) fun x163 =>
        own_ck (own_inb bs161 x163) <|
        own_lt (own_wr bs161 x163 (x162.toInt8.toInt32)) fun bs165 =>
        own_lt (((128 : Int32) ||| (v0 &&& (63 : Int32))).toInt8.toInt32) fun x166 =>
        own_lt (v2 + (3 : Int32)) fun x167 =>
        own_ck (own_inb bs165 x167) <|
        own_lt (own_wr bs165 x167 (x166.toInt8.toInt32)) fun bs169 =>
        own_lt (v2 + (4 : Int32)) fun x170 =>
        some (x170, bs169)
def Q_Utf8_write (Z : State) (hE : Heap) (n0 : Nat) (a1 : Addr) (r : Int32 × (List Int32)) (v : Option Value) (h : Heap) (L : List Loc) : Prop := v = some (.int r.1) ∧ Fr n0 L ∧ Keep hE h [a1] ∧ own_Ar Z h a1 .byte (r.2.map Value.int)
def Cx_Utf8_write (p : Program) (s : State) (m : MethodId) (meth : Method) (c : Code) (Z : State) (a0 : Array Value) : Prop := p.tables.exec = Jvm.exec ∧ Z.Warmed39 s.vm ∧ (∀ d ∈ tables_1, d.before a0 Z = true) ∧ c.code = prog_50_method_5_code ∧ c.maxLocals = 4 ∧ s.vm.findClass "com/example/binary64/binary64/Utf8" = some m.cls ∧ meth.sig.returnType = some .int ∧ meth.locks = false ∧ meth.name = "write"
set_option maxRecDepth 65536 in
set_option maxHeartbeats 4000000 in
theorem b_Utf8_write {p : Program} {l : Launch} {e : Env} {s : State} {m : MethodId} {args : Array Value} {below : List Frame} {meth : Method} {c : Code} {Z : State} {a0 : Array Value} {n0 : Nat} {hE : Heap} (cx : Cx_Utf8_write p s m meth c Z a0) (a1 : Addr) :
    ∀ {T : State} {locs : List Loc} {h : Heap} (X : Stand p l e ({ frames := 0, cells := 0, slots := 0, locals := 0 } : Room) s m args below meth c T locs 0 0) (eT : T.heap = h) (N : Fr n0 locs) (K : Keep hE h [a1]) (z : n0 ≤ h.size) (v0 : Int32) (v2 : Int32) (bs_a1 : List Int32) (A_a1 : own_Ar Z h a1 .byte (bs_a1.map Value.int)) (g_a1 : n0 ≤ a1) (r : Int32 × (List Int32)), f_Utf8_write v0 v2 bs_a1 = some r → own_Goes p e below s (Q_Utf8_write Z hE n0 a1 r) 0 0 (T.setTop (mkF m 0 #[.val (.int v0), .val (.ref a1), .val (.int v2), .unset] [])) := by
  have cx' := cx
  obtain ⟨hx, hZ, hw, hby, hml, hown, hret, hlk, hnm⟩ := cx'
  intro T locs h X eT N K z v0 v2 bs_a1 A_a1 g_a1 r hF
  unfold f_Utf8_write at hF
  refine own_Goes.via (B := T.setTop (mkF m 4 #[.val (.int v0), .val (.ref a1), .val (.int v2), .unset] [(.int (128 : Int32)), (.int v0)])) (fun t k => ?_) ?_
  · show Steps p.tables e below (T.setTop (mkF m 0 #[.val (.int v0), .val (.ref a1), .val (.int v2), .unset] [])) t
    refine XS.iloadN X.here hx rfl (hb hby dUtf8_write_0) rfl ?_
    show Steps p.tables e below (T.setTop (mkF m 1 #[.val (.int v0), .val (.ref a1), .val (.int v2), .unset] [(.int v0)])) t
    refine XS.sipush X.here hx rfl (hb hby dUtf8_write_1) ?_
    exact k
  by_cases hc4 : v0 < (128 : Int32)
  · rw [if_pos hc4] at hF
    refine own_Goes.via (B := T.setTop (mkF m 11 #[.val (.int v0), .val (.ref a1), .val (.int v2), .unset] [(.int (v0.toInt8.toInt32)), (.int v2), (.ref a1)])) (fun t k => ?_) ?_
    · show Steps p.tables e below (T.setTop (mkF m 4 #[.val (.int v0), .val (.ref a1), .val (.int v2), .unset] [(.int (128 : Int32)), (.int v0)])) t
      refine XS.icmpNo X.here hx rfl (hb hby dUtf8_write_4) rfl (tlt hc4).2.1 ?_
      show Steps p.tables e below (T.setTop (mkF m 7 #[.val (.int v0), .val (.ref a1), .val (.int v2), .unset] [])) t
      refine XS.aloadN X.here hx rfl (hb hby dUtf8_write_7) rfl rfl ?_
      show Steps p.tables e below (T.setTop (mkF m 8 #[.val (.int v0), .val (.ref a1), .val (.int v2), .unset] [(.ref a1)])) t
      refine XS.iloadN X.here hx rfl (hb hby dUtf8_write_8) rfl ?_
      show Steps p.tables e below (T.setTop (mkF m 9 #[.val (.int v0), .val (.ref a1), .val (.int v2), .unset] [(.int v2), (.ref a1)])) t
      refine XS.iloadN X.here hx rfl (hb hby dUtf8_write_9) rfl ?_
      show Steps p.tables e below (T.setTop (mkF m 10 #[.val (.int v0), .val (.ref a1), .val (.int v2), .unset] [(.int v0), (.int v2), (.ref a1)])) t
      refine XS.i2b X.here hx rfl (hb hby dUtf8_write_10) rfl ?_
      exact k
    obtain ⟨x131, hx131, hF⟩ := own_lt_e hF
    rw [← hx131]
    obtain ⟨hi11, hF⟩ := own_ck_e hF
    obtain ⟨T132, h132, X132, e132, W132, A132_a1, st132⟩ := own_stB X hx hZ eT A_a1 hi11 (g := (mkF m 11 #[.val (.int v0), .val (.ref a1), .val (.int v2), .unset] [(.int x131), (.int v2), (.ref a1)])) rfl rfl (hb hby dUtf8_write_11)
    refine own_Goes.via st132 ?_
    have z132 := Nat.le_trans z (Keep.of_wr W132).1
    have K132_ := K.wr W132 (Or.inl (List.mem_of_getElem? (i := 0) rfl))
    have N132 := Fr.snoc X132 N g_a1
    have A132_a1 : own_Ar Z h132 a1 .byte ((own_wr bs_a1 v2 (x131.toInt8.toInt32)).map Value.int) := A132_a1
    show own_Goes _ _ _ _ _ _ _ (T132.setTop (mkF m 12 #[.val (.int v0), .val (.ref a1), .val (.int v2), .unset] []))
    obtain ⟨bs133, hbs133, hF⟩ := own_lt_e hF
    rw [← hbs133] at A132_a1
    refine own_Goes.via (B := T132.setTop (mkF m 15 #[.val (.int v0), .val (.ref a1), .val (.int v2), .unset] [(.int (v2 + (1 : Int32)))])) (fun t k => ?_) ?_
    · show Steps p.tables e below (T132.setTop (mkF m 12 #[.val (.int v0), .val (.ref a1), .val (.int v2), .unset] [])) t
      refine XS.iloadN X132.here hx rfl (hb hby dUtf8_write_12) rfl ?_
      show Steps p.tables e below (T132.setTop (mkF m 13 #[.val (.int v0), .val (.ref a1), .val (.int v2), .unset] [(.int v2)])) t
      refine XS.iconst X132.here hx rfl (hb hby dUtf8_write_13) ?_
      show Steps p.tables e below (T132.setTop (mkF m 14 #[.val (.int v0), .val (.ref a1), .val (.int v2), .unset] [(.int (1 : Int32)), (.int v2)])) t
      refine XS.iadd X132.here hx rfl (hb hby dUtf8_write_14) rfl ?_
      exact k
    obtain ⟨x134, hx134, hF⟩ := own_lt_e hF
    rw [← hx134]
    refine own_Goes.via (B := T132.setTop (mkF m 180 #[.val (.int v0), .val (.ref a1), .val (.int v2), .val (.int x134)] [(.int x134)])) (fun t k => ?_) ?_
    · show Steps p.tables e below (T132.setTop (mkF m 15 #[.val (.int v0), .val (.ref a1), .val (.int v2), .unset] [(.int x134)])) t
      refine XS.istoreN X132.here hx rfl (hb hby dUtf8_write_15) rfl (l' := #[.val (.int v0), .val (.ref a1), .val (.int v2), .val (.int x134)]) rfl ?_
      show Steps p.tables e below (T132.setTop (mkF m 16 #[.val (.int v0), .val (.ref a1), .val (.int v2), .val (.int x134)] [])) t
      refine XS.goto X132.here hx rfl (pc0 := 16) (pc' := 179) rfl (hb hby dUtf8_write_16) (by decide) (by decide) ?_
      show Steps p.tables e below (T132.setTop (mkF m 179 #[.val (.int v0), .val (.ref a1), .val (.int v2), .val (.int x134)] [])) t
      refine XS.iloadN X132.here hx rfl (hb hby dUtf8_write_179) rfl ?_
      exact k
    obtain rfl : (x134, bs133) = r := Option.some.inj hF
    exact own_retI X132 hx hret hlk (hb hby dUtf8_write_180) e132 ⟨rfl, N132, K132_, A132_a1⟩ (by decide) (by decide)
  · rw [if_neg hc4] at hF
    refine own_Goes.via (B := T.setTop (mkF m 23 #[.val (.int v0), .val (.ref a1), .val (.int v2), .unset] [(.int (2048 : Int32)), (.int v0)])) (fun t k => ?_) ?_
    · show Steps p.tables e below (T.setTop (mkF m 4 #[.val (.int v0), .val (.ref a1), .val (.int v2), .unset] [(.int (128 : Int32)), (.int v0)])) t
      refine XS.icmpYes X.here hx rfl (pc0 := 4) (pc' := 19) rfl (hb hby dUtf8_write_4) rfl (flt hc4).2.1 (by decide) (by decide) ?_
      show Steps p.tables e below (T.setTop (mkF m 19 #[.val (.int v0), .val (.ref a1), .val (.int v2), .unset] [])) t
      refine XS.iloadN X.here hx rfl (hb hby dUtf8_write_19) rfl ?_
      show Steps p.tables e below (T.setTop (mkF m 20 #[.val (.int v0), .val (.ref a1), .val (.int v2), .unset] [(.int v0)])) t
      refine XS.sipush X.here hx rfl (hb hby dUtf8_write_20) ?_
      exact k
    by_cases hc23 : v0 < (2048 : Int32)
    · rw [if_pos hc23] at hF
      refine own_Goes.via (B := T.setTop (mkF m 37 #[.val (.int v0), .val (.ref a1), .val (.int v2), .unset] [(.int (((192 : Int32) ||| (v0 >>> ((6 : Int32) &&& 31))).toInt8.toInt32)), (.int v2), (.ref a1)])) (fun t k => ?_) ?_
      · show Steps p.tables e below (T.setTop (mkF m 23 #[.val (.int v0), .val (.ref a1), .val (.int v2), .unset] [(.int (2048 : Int32)), (.int v0)])) t
        refine XS.icmpNo X.here hx rfl (hb hby dUtf8_write_23) rfl (tlt hc23).2.1 ?_
        show Steps p.tables e below (T.setTop (mkF m 26 #[.val (.int v0), .val (.ref a1), .val (.int v2), .unset] [])) t
        refine XS.aloadN X.here hx rfl (hb hby dUtf8_write_26) rfl rfl ?_
        show Steps p.tables e below (T.setTop (mkF m 27 #[.val (.int v0), .val (.ref a1), .val (.int v2), .unset] [(.ref a1)])) t
        refine XS.iloadN X.here hx rfl (hb hby dUtf8_write_27) rfl ?_
        show Steps p.tables e below (T.setTop (mkF m 28 #[.val (.int v0), .val (.ref a1), .val (.int v2), .unset] [(.int v2), (.ref a1)])) t
        refine XS.sipush X.here hx rfl (hb hby dUtf8_write_28) ?_
        show Steps p.tables e below (T.setTop (mkF m 31 #[.val (.int v0), .val (.ref a1), .val (.int v2), .unset] [(.int (192 : Int32)), (.int v2), (.ref a1)])) t
        refine XS.iloadN X.here hx rfl (hb hby dUtf8_write_31) rfl ?_
        show Steps p.tables e below (T.setTop (mkF m 32 #[.val (.int v0), .val (.ref a1), .val (.int v2), .unset] [(.int v0), (.int (192 : Int32)), (.int v2), (.ref a1)])) t
        refine XS.bipush X.here hx rfl (hb hby dUtf8_write_32) ?_
        show Steps p.tables e below (T.setTop (mkF m 34 #[.val (.int v0), .val (.ref a1), .val (.int v2), .unset] [(.int (6 : Int32)), (.int v0), (.int (192 : Int32)), (.int v2), (.ref a1)])) t
        refine XS.ishr X.here hx rfl (hb hby dUtf8_write_34) rfl ?_
        show Steps p.tables e below (T.setTop (mkF m 35 #[.val (.int v0), .val (.ref a1), .val (.int v2), .unset] [(.int (v0 >>> ((6 : Int32) &&& 31))), (.int (192 : Int32)), (.int v2), (.ref a1)])) t
        refine XS.ior X.here hx rfl (hb hby dUtf8_write_35) rfl ?_
        show Steps p.tables e below (T.setTop (mkF m 36 #[.val (.int v0), .val (.ref a1), .val (.int v2), .unset] [(.int ((192 : Int32) ||| (v0 >>> ((6 : Int32) &&& 31)))), (.int v2), (.ref a1)])) t
        refine XS.i2b X.here hx rfl (hb hby dUtf8_write_36) rfl ?_
        exact k
      obtain ⟨x135, hx135, hF⟩ := own_lt_e hF
      rw [← hx135]
      obtain ⟨hi37, hF⟩ := own_ck_e hF
      obtain ⟨T136, h136, X136, e136, W136, A136_a1, st136⟩ := own_stB X hx hZ eT A_a1 hi37 (g := (mkF m 37 #[.val (.int v0), .val (.ref a1), .val (.int v2), .unset] [(.int x135), (.int v2), (.ref a1)])) rfl rfl (hb hby dUtf8_write_37)
      refine own_Goes.via st136 ?_
      have z136 := Nat.le_trans z (Keep.of_wr W136).1
      have K136_ := K.wr W136 (Or.inl (List.mem_of_getElem? (i := 0) rfl))
      have N136 := Fr.snoc X136 N g_a1
      have A136_a1 : own_Ar Z h136 a1 .byte ((own_wr bs_a1 v2 (x135.toInt8.toInt32)).map Value.int) := A136_a1
      show own_Goes _ _ _ _ _ _ _ (T136.setTop (mkF m 38 #[.val (.int v0), .val (.ref a1), .val (.int v2), .unset] []))
      obtain ⟨bs137, hbs137, hF⟩ := own_lt_e hF
      rw [← hbs137] at A136_a1
      refine own_Goes.via (B := T136.setTop (mkF m 51 #[.val (.int v0), .val (.ref a1), .val (.int v2), .unset] [(.int (((128 : Int32) ||| (v0 &&& (63 : Int32))).toInt8.toInt32)), (.int (v2 + (1 : Int32))), (.ref a1)])) (fun t k => ?_) ?_
      · show Steps p.tables e below (T136.setTop (mkF m 38 #[.val (.int v0), .val (.ref a1), .val (.int v2), .unset] [])) t
        refine XS.aloadN X136.here hx rfl (hb hby dUtf8_write_38) rfl rfl ?_
        show Steps p.tables e below (T136.setTop (mkF m 39 #[.val (.int v0), .val (.ref a1), .val (.int v2), .unset] [(.ref a1)])) t
        refine XS.iloadN X136.here hx rfl (hb hby dUtf8_write_39) rfl ?_
        show Steps p.tables e below (T136.setTop (mkF m 40 #[.val (.int v0), .val (.ref a1), .val (.int v2), .unset] [(.int v2), (.ref a1)])) t
        refine XS.iconst X136.here hx rfl (hb hby dUtf8_write_40) ?_
        show Steps p.tables e below (T136.setTop (mkF m 41 #[.val (.int v0), .val (.ref a1), .val (.int v2), .unset] [(.int (1 : Int32)), (.int v2), (.ref a1)])) t
        refine XS.iadd X136.here hx rfl (hb hby dUtf8_write_41) rfl ?_
        show Steps p.tables e below (T136.setTop (mkF m 42 #[.val (.int v0), .val (.ref a1), .val (.int v2), .unset] [(.int (v2 + (1 : Int32))), (.ref a1)])) t
        refine XS.sipush X136.here hx rfl (hb hby dUtf8_write_42) ?_
        show Steps p.tables e below (T136.setTop (mkF m 45 #[.val (.int v0), .val (.ref a1), .val (.int v2), .unset] [(.int (128 : Int32)), (.int (v2 + (1 : Int32))), (.ref a1)])) t
        refine XS.iloadN X136.here hx rfl (hb hby dUtf8_write_45) rfl ?_
        show Steps p.tables e below (T136.setTop (mkF m 46 #[.val (.int v0), .val (.ref a1), .val (.int v2), .unset] [(.int v0), (.int (128 : Int32)), (.int (v2 + (1 : Int32))), (.ref a1)])) t
        refine XS.bipush X136.here hx rfl (hb hby dUtf8_write_46) ?_
        show Steps p.tables e below (T136.setTop (mkF m 48 #[.val (.int v0), .val (.ref a1), .val (.int v2), .unset] [(.int (63 : Int32)), (.int v0), (.int (128 : Int32)), (.int (v2 + (1 : Int32))), (.ref a1)])) t
        refine XS.iand X136.here hx rfl (hb hby dUtf8_write_48) rfl ?_
        show Steps p.tables e below (T136.setTop (mkF m 49 #[.val (.int v0), .val (.ref a1), .val (.int v2), .unset] [(.int (v0 &&& (63 : Int32))), (.int (128 : Int32)), (.int (v2 + (1 : Int32))), (.ref a1)])) t
        refine XS.ior X136.here hx rfl (hb hby dUtf8_write_49) rfl ?_
        show Steps p.tables e below (T136.setTop (mkF m 50 #[.val (.int v0), .val (.ref a1), .val (.int v2), .unset] [(.int ((128 : Int32) ||| (v0 &&& (63 : Int32)))), (.int (v2 + (1 : Int32))), (.ref a1)])) t
        refine XS.i2b X136.here hx rfl (hb hby dUtf8_write_50) rfl ?_
        exact k
      obtain ⟨x138, hx138, hF⟩ := own_lt_e hF
      rw [← hx138]
      obtain ⟨x139, hx139, hF⟩ := own_lt_e hF
      rw [← hx139]
      obtain ⟨hi51, hF⟩ := own_ck_e hF
      obtain ⟨T140, h140, X140, e140, W140, A140_a1, st140⟩ := own_stB X136 hx hZ e136 A136_a1 hi51 (g := (mkF m 51 #[.val (.int v0), .val (.ref a1), .val (.int v2), .unset] [(.int x138), (.int x139), (.ref a1)])) rfl rfl (hb hby dUtf8_write_51)
      refine own_Goes.via st140 ?_
      have z140 := Nat.le_trans z136 (Keep.of_wr W140).1
      have K140_ := K136_.wr W140 (Or.inl (List.mem_of_getElem? (i := 0) rfl))
      have N140 := Fr.snoc X140 N136 g_a1
      have A140_a1 : own_Ar Z h140 a1 .byte ((own_wr bs137 x139 (x138.toInt8.toInt32)).map Value.int) := A140_a1
      show own_Goes _ _ _ _ _ _ _ (T140.setTop (mkF m 52 #[.val (.int v0), .val (.ref a1), .val (.int v2), .unset] []))
      obtain ⟨bs141, hbs141, hF⟩ := own_lt_e hF
      rw [← hbs141] at A140_a1
      refine own_Goes.via (B := T140.setTop (mkF m 55 #[.val (.int v0), .val (.ref a1), .val (.int v2), .unset] [(.int (v2 + (2 : Int32)))])) (fun t k => ?_) ?_
      · show Steps p.tables e below (T140.setTop (mkF m 52 #[.val (.int v0), .val (.ref a1), .val (.int v2), .unset] [])) t
        refine XS.iloadN X140.here hx rfl (hb hby dUtf8_write_52) rfl ?_
        show Steps p.tables e below (T140.setTop (mkF m 53 #[.val (.int v0), .val (.ref a1), .val (.int v2), .unset] [(.int v2)])) t
        refine XS.iconst X140.here hx rfl (hb hby dUtf8_write_53) ?_
        show Steps p.tables e below (T140.setTop (mkF m 54 #[.val (.int v0), .val (.ref a1), .val (.int v2), .unset] [(.int (2 : Int32)), (.int v2)])) t
        refine XS.iadd X140.here hx rfl (hb hby dUtf8_write_54) rfl ?_
        exact k
      obtain ⟨x142, hx142, hF⟩ := own_lt_e hF
      rw [← hx142]
      refine own_Goes.via (B := T140.setTop (mkF m 180 #[.val (.int v0), .val (.ref a1), .val (.int v2), .val (.int x142)] [(.int x142)])) (fun t k => ?_) ?_
      · show Steps p.tables e below (T140.setTop (mkF m 55 #[.val (.int v0), .val (.ref a1), .val (.int v2), .unset] [(.int x142)])) t
        refine XS.istoreN X140.here hx rfl (hb hby dUtf8_write_55) rfl (l' := #[.val (.int v0), .val (.ref a1), .val (.int v2), .val (.int x142)]) rfl ?_
        show Steps p.tables e below (T140.setTop (mkF m 56 #[.val (.int v0), .val (.ref a1), .val (.int v2), .val (.int x142)] [])) t
        refine XS.goto X140.here hx rfl (pc0 := 56) (pc' := 179) rfl (hb hby dUtf8_write_56) (by decide) (by decide) ?_
        show Steps p.tables e below (T140.setTop (mkF m 179 #[.val (.int v0), .val (.ref a1), .val (.int v2), .val (.int x142)] [])) t
        refine XS.iloadN X140.here hx rfl (hb hby dUtf8_write_179) rfl ?_
        exact k
      obtain rfl : (x142, bs141) = r := Option.some.inj hF
      exact own_retI X140 hx hret hlk (hb hby dUtf8_write_180) e140 ⟨rfl, N140, K140_, A140_a1⟩ (by decide) (by decide)
    · rw [if_neg hc23] at hF
      refine own_Goes.via (B := T.setTop (mkF m 62 #[.val (.int v0), .val (.ref a1), .val (.int v2), .unset] [(.int (65536 : Int32)), (.int v0)])) (fun t k => ?_) ?_
      · show Steps p.tables e below (T.setTop (mkF m 23 #[.val (.int v0), .val (.ref a1), .val (.int v2), .unset] [(.int (2048 : Int32)), (.int v0)])) t
        refine XS.icmpYes X.here hx rfl (pc0 := 23) (pc' := 59) rfl (hb hby dUtf8_write_23) rfl (flt hc23).2.1 (by decide) (by decide) ?_
        show Steps p.tables e below (T.setTop (mkF m 59 #[.val (.int v0), .val (.ref a1), .val (.int v2), .unset] [])) t
        refine XS.iloadN X.here hx rfl (hb hby dUtf8_write_59) rfl ?_
        show Steps p.tables e below (T.setTop (mkF m 60 #[.val (.int v0), .val (.ref a1), .val (.int v2), .unset] [(.int v0)])) t
        refine X.ldcInt hx hown (mvT hZ (w20 hw)) (g := (mkF m 60 #[.val (.int v0), .val (.ref a1), .val (.int v2), .unset] [(.int v0)])) rfl (hb hby dUtf8_write_60) _ ?_
        exact k
      by_cases hc62 : v0 < (65536 : Int32)
      · rw [if_pos hc62] at hF
        refine own_Goes.via (B := T.setTop (mkF m 76 #[.val (.int v0), .val (.ref a1), .val (.int v2), .unset] [(.int (((224 : Int32) ||| (v0 >>> ((12 : Int32) &&& 31))).toInt8.toInt32)), (.int v2), (.ref a1)])) (fun t k => ?_) ?_
        · show Steps p.tables e below (T.setTop (mkF m 62 #[.val (.int v0), .val (.ref a1), .val (.int v2), .unset] [(.int (65536 : Int32)), (.int v0)])) t
          refine XS.icmpNo X.here hx rfl (hb hby dUtf8_write_62) rfl (tlt hc62).2.1 ?_
          show Steps p.tables e below (T.setTop (mkF m 65 #[.val (.int v0), .val (.ref a1), .val (.int v2), .unset] [])) t
          refine XS.aloadN X.here hx rfl (hb hby dUtf8_write_65) rfl rfl ?_
          show Steps p.tables e below (T.setTop (mkF m 66 #[.val (.int v0), .val (.ref a1), .val (.int v2), .unset] [(.ref a1)])) t
          refine XS.iloadN X.here hx rfl (hb hby dUtf8_write_66) rfl ?_
          show Steps p.tables e below (T.setTop (mkF m 67 #[.val (.int v0), .val (.ref a1), .val (.int v2), .unset] [(.int v2), (.ref a1)])) t
          refine XS.sipush X.here hx rfl (hb hby dUtf8_write_67) ?_
          show Steps p.tables e below (T.setTop (mkF m 70 #[.val (.int v0), .val (.ref a1), .val (.int v2), .unset] [(.int (224 : Int32)), (.int v2), (.ref a1)])) t
          refine XS.iloadN X.here hx rfl (hb hby dUtf8_write_70) rfl ?_
          show Steps p.tables e below (T.setTop (mkF m 71 #[.val (.int v0), .val (.ref a1), .val (.int v2), .unset] [(.int v0), (.int (224 : Int32)), (.int v2), (.ref a1)])) t
          refine XS.bipush X.here hx rfl (hb hby dUtf8_write_71) ?_
          show Steps p.tables e below (T.setTop (mkF m 73 #[.val (.int v0), .val (.ref a1), .val (.int v2), .unset] [(.int (12 : Int32)), (.int v0), (.int (224 : Int32)), (.int v2), (.ref a1)])) t
          refine XS.ishr X.here hx rfl (hb hby dUtf8_write_73) rfl ?_
          show Steps p.tables e below (T.setTop (mkF m 74 #[.val (.int v0), .val (.ref a1), .val (.int v2), .unset] [(.int (v0 >>> ((12 : Int32) &&& 31))), (.int (224 : Int32)), (.int v2), (.ref a1)])) t
          refine XS.ior X.here hx rfl (hb hby dUtf8_write_74) rfl ?_
          show Steps p.tables e below (T.setTop (mkF m 75 #[.val (.int v0), .val (.ref a1), .val (.int v2), .unset] [(.int ((224 : Int32) ||| (v0 >>> ((12 : Int32) &&& 31)))), (.int v2), (.ref a1)])) t
          refine XS.i2b X.here hx rfl (hb hby dUtf8_write_75) rfl ?_
          exact k
        obtain ⟨x143, hx143, hF⟩ := own_lt_e hF
        rw [← hx143]
        obtain ⟨hi76, hF⟩ := own_ck_e hF
        obtain ⟨T144, h144, X144, e144, W144, A144_a1, st144⟩ := own_stB X hx hZ eT A_a1 hi76 (g := (mkF m 76 #[.val (.int v0), .val (.ref a1), .val (.int v2), .unset] [(.int x143), (.int v2), (.ref a1)])) rfl rfl (hb hby dUtf8_write_76)
        refine own_Goes.via st144 ?_
        have z144 := Nat.le_trans z (Keep.of_wr W144).1
        have K144_ := K.wr W144 (Or.inl (List.mem_of_getElem? (i := 0) rfl))
        have N144 := Fr.snoc X144 N g_a1
        have A144_a1 : own_Ar Z h144 a1 .byte ((own_wr bs_a1 v2 (x143.toInt8.toInt32)).map Value.int) := A144_a1
        show own_Goes _ _ _ _ _ _ _ (T144.setTop (mkF m 77 #[.val (.int v0), .val (.ref a1), .val (.int v2), .unset] []))
        obtain ⟨bs145, hbs145, hF⟩ := own_lt_e hF
        rw [← hbs145] at A144_a1
        refine own_Goes.via (B := T144.setTop (mkF m 93 #[.val (.int v0), .val (.ref a1), .val (.int v2), .unset] [(.int (((128 : Int32) ||| ((v0 >>> ((6 : Int32) &&& 31)) &&& (63 : Int32))).toInt8.toInt32)), (.int (v2 + (1 : Int32))), (.ref a1)])) (fun t k => ?_) ?_
        · show Steps p.tables e below (T144.setTop (mkF m 77 #[.val (.int v0), .val (.ref a1), .val (.int v2), .unset] [])) t
          refine XS.aloadN X144.here hx rfl (hb hby dUtf8_write_77) rfl rfl ?_
          show Steps p.tables e below (T144.setTop (mkF m 78 #[.val (.int v0), .val (.ref a1), .val (.int v2), .unset] [(.ref a1)])) t
          refine XS.iloadN X144.here hx rfl (hb hby dUtf8_write_78) rfl ?_
          show Steps p.tables e below (T144.setTop (mkF m 79 #[.val (.int v0), .val (.ref a1), .val (.int v2), .unset] [(.int v2), (.ref a1)])) t
          refine XS.iconst X144.here hx rfl (hb hby dUtf8_write_79) ?_
          show Steps p.tables e below (T144.setTop (mkF m 80 #[.val (.int v0), .val (.ref a1), .val (.int v2), .unset] [(.int (1 : Int32)), (.int v2), (.ref a1)])) t
          refine XS.iadd X144.here hx rfl (hb hby dUtf8_write_80) rfl ?_
          show Steps p.tables e below (T144.setTop (mkF m 81 #[.val (.int v0), .val (.ref a1), .val (.int v2), .unset] [(.int (v2 + (1 : Int32))), (.ref a1)])) t
          refine XS.sipush X144.here hx rfl (hb hby dUtf8_write_81) ?_
          show Steps p.tables e below (T144.setTop (mkF m 84 #[.val (.int v0), .val (.ref a1), .val (.int v2), .unset] [(.int (128 : Int32)), (.int (v2 + (1 : Int32))), (.ref a1)])) t
          refine XS.iloadN X144.here hx rfl (hb hby dUtf8_write_84) rfl ?_
          show Steps p.tables e below (T144.setTop (mkF m 85 #[.val (.int v0), .val (.ref a1), .val (.int v2), .unset] [(.int v0), (.int (128 : Int32)), (.int (v2 + (1 : Int32))), (.ref a1)])) t
          refine XS.bipush X144.here hx rfl (hb hby dUtf8_write_85) ?_
          show Steps p.tables e below (T144.setTop (mkF m 87 #[.val (.int v0), .val (.ref a1), .val (.int v2), .unset] [(.int (6 : Int32)), (.int v0), (.int (128 : Int32)), (.int (v2 + (1 : Int32))), (.ref a1)])) t
          refine XS.ishr X144.here hx rfl (hb hby dUtf8_write_87) rfl ?_
          show Steps p.tables e below (T144.setTop (mkF m 88 #[.val (.int v0), .val (.ref a1), .val (.int v2), .unset] [(.int (v0 >>> ((6 : Int32) &&& 31))), (.int (128 : Int32)), (.int (v2 + (1 : Int32))), (.ref a1)])) t
          refine XS.bipush X144.here hx rfl (hb hby dUtf8_write_88) ?_
          show Steps p.tables e below (T144.setTop (mkF m 90 #[.val (.int v0), .val (.ref a1), .val (.int v2), .unset] [(.int (63 : Int32)), (.int (v0 >>> ((6 : Int32) &&& 31))), (.int (128 : Int32)), (.int (v2 + (1 : Int32))), (.ref a1)])) t
          refine XS.iand X144.here hx rfl (hb hby dUtf8_write_90) rfl ?_
          show Steps p.tables e below (T144.setTop (mkF m 91 #[.val (.int v0), .val (.ref a1), .val (.int v2), .unset] [(.int ((v0 >>> ((6 : Int32) &&& 31)) &&& (63 : Int32))), (.int (128 : Int32)), (.int (v2 + (1 : Int32))), (.ref a1)])) t
          refine XS.ior X144.here hx rfl (hb hby dUtf8_write_91) rfl ?_
          show Steps p.tables e below (T144.setTop (mkF m 92 #[.val (.int v0), .val (.ref a1), .val (.int v2), .unset] [(.int ((128 : Int32) ||| ((v0 >>> ((6 : Int32) &&& 31)) &&& (63 : Int32)))), (.int (v2 + (1 : Int32))), (.ref a1)])) t
          refine XS.i2b X144.here hx rfl (hb hby dUtf8_write_92) rfl ?_
          exact k
        obtain ⟨x146, hx146, hF⟩ := own_lt_e hF
        rw [← hx146]
        obtain ⟨x147, hx147, hF⟩ := own_lt_e hF
        rw [← hx147]
        obtain ⟨hi93, hF⟩ := own_ck_e hF
        obtain ⟨T148, h148, X148, e148, W148, A148_a1, st148⟩ := own_stB X144 hx hZ e144 A144_a1 hi93 (g := (mkF m 93 #[.val (.int v0), .val (.ref a1), .val (.int v2), .unset] [(.int x146), (.int x147), (.ref a1)])) rfl rfl (hb hby dUtf8_write_93)
        refine own_Goes.via st148 ?_
        have z148 := Nat.le_trans z144 (Keep.of_wr W148).1
        have K148_ := K144_.wr W148 (Or.inl (List.mem_of_getElem? (i := 0) rfl))
        have N148 := Fr.snoc X148 N144 g_a1
        have A148_a1 : own_Ar Z h148 a1 .byte ((own_wr bs145 x147 (x146.toInt8.toInt32)).map Value.int) := A148_a1
        show own_Goes _ _ _ _ _ _ _ (T148.setTop (mkF m 94 #[.val (.int v0), .val (.ref a1), .val (.int v2), .unset] []))
        obtain ⟨bs149, hbs149, hF⟩ := own_lt_e hF
        rw [← hbs149] at A148_a1
        refine own_Goes.via (B := T148.setTop (mkF m 107 #[.val (.int v0), .val (.ref a1), .val (.int v2), .unset] [(.int (((128 : Int32) ||| (v0 &&& (63 : Int32))).toInt8.toInt32)), (.int (v2 + (2 : Int32))), (.ref a1)])) (fun t k => ?_) ?_
        · show Steps p.tables e below (T148.setTop (mkF m 94 #[.val (.int v0), .val (.ref a1), .val (.int v2), .unset] [])) t
          refine XS.aloadN X148.here hx rfl (hb hby dUtf8_write_94) rfl rfl ?_
          show Steps p.tables e below (T148.setTop (mkF m 95 #[.val (.int v0), .val (.ref a1), .val (.int v2), .unset] [(.ref a1)])) t
          refine XS.iloadN X148.here hx rfl (hb hby dUtf8_write_95) rfl ?_
          show Steps p.tables e below (T148.setTop (mkF m 96 #[.val (.int v0), .val (.ref a1), .val (.int v2), .unset] [(.int v2), (.ref a1)])) t
          refine XS.iconst X148.here hx rfl (hb hby dUtf8_write_96) ?_
          show Steps p.tables e below (T148.setTop (mkF m 97 #[.val (.int v0), .val (.ref a1), .val (.int v2), .unset] [(.int (2 : Int32)), (.int v2), (.ref a1)])) t
          refine XS.iadd X148.here hx rfl (hb hby dUtf8_write_97) rfl ?_
          show Steps p.tables e below (T148.setTop (mkF m 98 #[.val (.int v0), .val (.ref a1), .val (.int v2), .unset] [(.int (v2 + (2 : Int32))), (.ref a1)])) t
          refine XS.sipush X148.here hx rfl (hb hby dUtf8_write_98) ?_
          show Steps p.tables e below (T148.setTop (mkF m 101 #[.val (.int v0), .val (.ref a1), .val (.int v2), .unset] [(.int (128 : Int32)), (.int (v2 + (2 : Int32))), (.ref a1)])) t
          refine XS.iloadN X148.here hx rfl (hb hby dUtf8_write_101) rfl ?_
          show Steps p.tables e below (T148.setTop (mkF m 102 #[.val (.int v0), .val (.ref a1), .val (.int v2), .unset] [(.int v0), (.int (128 : Int32)), (.int (v2 + (2 : Int32))), (.ref a1)])) t
          refine XS.bipush X148.here hx rfl (hb hby dUtf8_write_102) ?_
          show Steps p.tables e below (T148.setTop (mkF m 104 #[.val (.int v0), .val (.ref a1), .val (.int v2), .unset] [(.int (63 : Int32)), (.int v0), (.int (128 : Int32)), (.int (v2 + (2 : Int32))), (.ref a1)])) t
          refine XS.iand X148.here hx rfl (hb hby dUtf8_write_104) rfl ?_
          show Steps p.tables e below (T148.setTop (mkF m 105 #[.val (.int v0), .val (.ref a1), .val (.int v2), .unset] [(.int (v0 &&& (63 : Int32))), (.int (128 : Int32)), (.int (v2 + (2 : Int32))), (.ref a1)])) t
          refine XS.ior X148.here hx rfl (hb hby dUtf8_write_105) rfl ?_
          show Steps p.tables e below (T148.setTop (mkF m 106 #[.val (.int v0), .val (.ref a1), .val (.int v2), .unset] [(.int ((128 : Int32) ||| (v0 &&& (63 : Int32)))), (.int (v2 + (2 : Int32))), (.ref a1)])) t
          refine XS.i2b X148.here hx rfl (hb hby dUtf8_write_106) rfl ?_
          exact k
        obtain ⟨x150, hx150, hF⟩ := own_lt_e hF
        rw [← hx150]
        obtain ⟨x151, hx151, hF⟩ := own_lt_e hF
        rw [← hx151]
        obtain ⟨hi107, hF⟩ := own_ck_e hF
        obtain ⟨T152, h152, X152, e152, W152, A152_a1, st152⟩ := own_stB X148 hx hZ e148 A148_a1 hi107 (g := (mkF m 107 #[.val (.int v0), .val (.ref a1), .val (.int v2), .unset] [(.int x150), (.int x151), (.ref a1)])) rfl rfl (hb hby dUtf8_write_107)
        refine own_Goes.via st152 ?_
        have z152 := Nat.le_trans z148 (Keep.of_wr W152).1
        have K152_ := K148_.wr W152 (Or.inl (List.mem_of_getElem? (i := 0) rfl))
        have N152 := Fr.snoc X152 N148 g_a1
        have A152_a1 : own_Ar Z h152 a1 .byte ((own_wr bs149 x151 (x150.toInt8.toInt32)).map Value.int) := A152_a1
        show own_Goes _ _ _ _ _ _ _ (T152.setTop (mkF m 108 #[.val (.int v0), .val (.ref a1), .val (.int v2), .unset] []))
        obtain ⟨bs153, hbs153, hF⟩ := own_lt_e hF
        rw [← hbs153] at A152_a1
        refine own_Goes.via (B := T152.setTop (mkF m 111 #[.val (.int v0), .val (.ref a1), .val (.int v2), .unset] [(.int (v2 + (3 : Int32)))])) (fun t k => ?_) ?_
        · show Steps p.tables e below (T152.setTop (mkF m 108 #[.val (.int v0), .val (.ref a1), .val (.int v2), .unset] [])) t
          refine XS.iloadN X152.here hx rfl (hb hby dUtf8_write_108) rfl ?_
          show Steps p.tables e below (T152.setTop (mkF m 109 #[.val (.int v0), .val (.ref a1), .val (.int v2), .unset] [(.int v2)])) t
          refine XS.iconst X152.here hx rfl (hb hby dUtf8_write_109) ?_
          show Steps p.tables e below (T152.setTop (mkF m 110 #[.val (.int v0), .val (.ref a1), .val (.int v2), .unset] [(.int (3 : Int32)), (.int v2)])) t
          refine XS.iadd X152.here hx rfl (hb hby dUtf8_write_110) rfl ?_
          exact k
        obtain ⟨x154, hx154, hF⟩ := own_lt_e hF
        rw [← hx154]
        refine own_Goes.via (B := T152.setTop (mkF m 180 #[.val (.int v0), .val (.ref a1), .val (.int v2), .val (.int x154)] [(.int x154)])) (fun t k => ?_) ?_
        · show Steps p.tables e below (T152.setTop (mkF m 111 #[.val (.int v0), .val (.ref a1), .val (.int v2), .unset] [(.int x154)])) t
          refine XS.istoreN X152.here hx rfl (hb hby dUtf8_write_111) rfl (l' := #[.val (.int v0), .val (.ref a1), .val (.int v2), .val (.int x154)]) rfl ?_
          show Steps p.tables e below (T152.setTop (mkF m 112 #[.val (.int v0), .val (.ref a1), .val (.int v2), .val (.int x154)] [])) t
          refine XS.goto X152.here hx rfl (pc0 := 112) (pc' := 179) rfl (hb hby dUtf8_write_112) (by decide) (by decide) ?_
          show Steps p.tables e below (T152.setTop (mkF m 179 #[.val (.int v0), .val (.ref a1), .val (.int v2), .val (.int x154)] [])) t
          refine XS.iloadN X152.here hx rfl (hb hby dUtf8_write_179) rfl ?_
          exact k
        obtain rfl : (x154, bs153) = r := Option.some.inj hF
        exact own_retI X152 hx hret hlk (hb hby dUtf8_write_180) e152 ⟨rfl, N152, K152_, A152_a1⟩ (by decide) (by decide)
      · rw [if_neg hc62] at hF
        refine own_Goes.via (B := T.setTop (mkF m 126 #[.val (.int v0), .val (.ref a1), .val (.int v2), .unset] [(.int (((240 : Int32) ||| (v0 >>> ((18 : Int32) &&& 31))).toInt8.toInt32)), (.int v2), (.ref a1)])) (fun t k => ?_) ?_
        · show Steps p.tables e below (T.setTop (mkF m 62 #[.val (.int v0), .val (.ref a1), .val (.int v2), .unset] [(.int (65536 : Int32)), (.int v0)])) t
          refine XS.icmpYes X.here hx rfl (pc0 := 62) (pc' := 115) rfl (hb hby dUtf8_write_62) rfl (flt hc62).2.1 (by decide) (by decide) ?_
          show Steps p.tables e below (T.setTop (mkF m 115 #[.val (.int v0), .val (.ref a1), .val (.int v2), .unset] [])) t
          refine XS.aloadN X.here hx rfl (hb hby dUtf8_write_115) rfl rfl ?_
          show Steps p.tables e below (T.setTop (mkF m 116 #[.val (.int v0), .val (.ref a1), .val (.int v2), .unset] [(.ref a1)])) t
          refine XS.iloadN X.here hx rfl (hb hby dUtf8_write_116) rfl ?_
          show Steps p.tables e below (T.setTop (mkF m 117 #[.val (.int v0), .val (.ref a1), .val (.int v2), .unset] [(.int v2), (.ref a1)])) t
          refine XS.sipush X.here hx rfl (hb hby dUtf8_write_117) ?_
          show Steps p.tables e below (T.setTop (mkF m 120 #[.val (.int v0), .val (.ref a1), .val (.int v2), .unset] [(.int (240 : Int32)), (.int v2), (.ref a1)])) t
          refine XS.iloadN X.here hx rfl (hb hby dUtf8_write_120) rfl ?_
          show Steps p.tables e below (T.setTop (mkF m 121 #[.val (.int v0), .val (.ref a1), .val (.int v2), .unset] [(.int v0), (.int (240 : Int32)), (.int v2), (.ref a1)])) t
          refine XS.bipush X.here hx rfl (hb hby dUtf8_write_121) ?_
          show Steps p.tables e below (T.setTop (mkF m 123 #[.val (.int v0), .val (.ref a1), .val (.int v2), .unset] [(.int (18 : Int32)), (.int v0), (.int (240 : Int32)), (.int v2), (.ref a1)])) t
          refine XS.ishr X.here hx rfl (hb hby dUtf8_write_123) rfl ?_
          show Steps p.tables e below (T.setTop (mkF m 124 #[.val (.int v0), .val (.ref a1), .val (.int v2), .unset] [(.int (v0 >>> ((18 : Int32) &&& 31))), (.int (240 : Int32)), (.int v2), (.ref a1)])) t
          refine XS.ior X.here hx rfl (hb hby dUtf8_write_124) rfl ?_
          show Steps p.tables e below (T.setTop (mkF m 125 #[.val (.int v0), .val (.ref a1), .val (.int v2), .unset] [(.int ((240 : Int32) ||| (v0 >>> ((18 : Int32) &&& 31)))), (.int v2), (.ref a1)])) t
          refine XS.i2b X.here hx rfl (hb hby dUtf8_write_125) rfl ?_
          exact k
        obtain ⟨x155, hx155, hF⟩ := own_lt_e hF
        rw [← hx155]
        obtain ⟨hi126, hF⟩ := own_ck_e hF
        obtain ⟨T156, h156, X156, e156, W156, A156_a1, st156⟩ := own_stB X hx hZ eT A_a1 hi126 (g := (mkF m 126 #[.val (.int v0), .val (.ref a1), .val (.int v2), .unset] [(.int x155), (.int v2), (.ref a1)])) rfl rfl (hb hby dUtf8_write_126)
        refine own_Goes.via st156 ?_
        have z156 := Nat.le_trans z (Keep.of_wr W156).1
        have K156_ := K.wr W156 (Or.inl (List.mem_of_getElem? (i := 0) rfl))
        have N156 := Fr.snoc X156 N g_a1
        have A156_a1 : own_Ar Z h156 a1 .byte ((own_wr bs_a1 v2 (x155.toInt8.toInt32)).map Value.int) := A156_a1
        show own_Goes _ _ _ _ _ _ _ (T156.setTop (mkF m 127 #[.val (.int v0), .val (.ref a1), .val (.int v2), .unset] []))
        obtain ⟨bs157, hbs157, hF⟩ := own_lt_e hF
        rw [← hbs157] at A156_a1
        refine own_Goes.via (B := T156.setTop (mkF m 143 #[.val (.int v0), .val (.ref a1), .val (.int v2), .unset] [(.int (((128 : Int32) ||| ((v0 >>> ((12 : Int32) &&& 31)) &&& (63 : Int32))).toInt8.toInt32)), (.int (v2 + (1 : Int32))), (.ref a1)])) (fun t k => ?_) ?_
        · show Steps p.tables e below (T156.setTop (mkF m 127 #[.val (.int v0), .val (.ref a1), .val (.int v2), .unset] [])) t
          refine XS.aloadN X156.here hx rfl (hb hby dUtf8_write_127) rfl rfl ?_
          show Steps p.tables e below (T156.setTop (mkF m 128 #[.val (.int v0), .val (.ref a1), .val (.int v2), .unset] [(.ref a1)])) t
          refine XS.iloadN X156.here hx rfl (hb hby dUtf8_write_128) rfl ?_
          show Steps p.tables e below (T156.setTop (mkF m 129 #[.val (.int v0), .val (.ref a1), .val (.int v2), .unset] [(.int v2), (.ref a1)])) t
          refine XS.iconst X156.here hx rfl (hb hby dUtf8_write_129) ?_
          show Steps p.tables e below (T156.setTop (mkF m 130 #[.val (.int v0), .val (.ref a1), .val (.int v2), .unset] [(.int (1 : Int32)), (.int v2), (.ref a1)])) t
          refine XS.iadd X156.here hx rfl (hb hby dUtf8_write_130) rfl ?_
          show Steps p.tables e below (T156.setTop (mkF m 131 #[.val (.int v0), .val (.ref a1), .val (.int v2), .unset] [(.int (v2 + (1 : Int32))), (.ref a1)])) t
          refine XS.sipush X156.here hx rfl (hb hby dUtf8_write_131) ?_
          show Steps p.tables e below (T156.setTop (mkF m 134 #[.val (.int v0), .val (.ref a1), .val (.int v2), .unset] [(.int (128 : Int32)), (.int (v2 + (1 : Int32))), (.ref a1)])) t
          refine XS.iloadN X156.here hx rfl (hb hby dUtf8_write_134) rfl ?_
          show Steps p.tables e below (T156.setTop (mkF m 135 #[.val (.int v0), .val (.ref a1), .val (.int v2), .unset] [(.int v0), (.int (128 : Int32)), (.int (v2 + (1 : Int32))), (.ref a1)])) t
          refine XS.bipush X156.here hx rfl (hb hby dUtf8_write_135) ?_
          show Steps p.tables e below (T156.setTop (mkF m 137 #[.val (.int v0), .val (.ref a1), .val (.int v2), .unset] [(.int (12 : Int32)), (.int v0), (.int (128 : Int32)), (.int (v2 + (1 : Int32))), (.ref a1)])) t
          refine XS.ishr X156.here hx rfl (hb hby dUtf8_write_137) rfl ?_
          show Steps p.tables e below (T156.setTop (mkF m 138 #[.val (.int v0), .val (.ref a1), .val (.int v2), .unset] [(.int (v0 >>> ((12 : Int32) &&& 31))), (.int (128 : Int32)), (.int (v2 + (1 : Int32))), (.ref a1)])) t
          refine XS.bipush X156.here hx rfl (hb hby dUtf8_write_138) ?_
          show Steps p.tables e below (T156.setTop (mkF m 140 #[.val (.int v0), .val (.ref a1), .val (.int v2), .unset] [(.int (63 : Int32)), (.int (v0 >>> ((12 : Int32) &&& 31))), (.int (128 : Int32)), (.int (v2 + (1 : Int32))), (.ref a1)])) t
          refine XS.iand X156.here hx rfl (hb hby dUtf8_write_140) rfl ?_
          show Steps p.tables e below (T156.setTop (mkF m 141 #[.val (.int v0), .val (.ref a1), .val (.int v2), .unset] [(.int ((v0 >>> ((12 : Int32) &&& 31)) &&& (63 : Int32))), (.int (128 : Int32)), (.int (v2 + (1 : Int32))), (.ref a1)])) t
          refine XS.ior X156.here hx rfl (hb hby dUtf8_write_141) rfl ?_
          show Steps p.tables e below (T156.setTop (mkF m 142 #[.val (.int v0), .val (.ref a1), .val (.int v2), .unset] [(.int ((128 : Int32) ||| ((v0 >>> ((12 : Int32) &&& 31)) &&& (63 : Int32)))), (.int (v2 + (1 : Int32))), (.ref a1)])) t
          refine XS.i2b X156.here hx rfl (hb hby dUtf8_write_142) rfl ?_
          exact k
        obtain ⟨x158, hx158, hF⟩ := own_lt_e hF
        rw [← hx158]
        obtain ⟨x159, hx159, hF⟩ := own_lt_e hF
        rw [← hx159]
        obtain ⟨hi143, hF⟩ := own_ck_e hF
        obtain ⟨T160, h160, X160, e160, W160, A160_a1, st160⟩ := own_stB X156 hx hZ e156 A156_a1 hi143 (g := (mkF m 143 #[.val (.int v0), .val (.ref a1), .val (.int v2), .unset] [(.int x158), (.int x159), (.ref a1)])) rfl rfl (hb hby dUtf8_write_143)
        refine own_Goes.via st160 ?_
        have z160 := Nat.le_trans z156 (Keep.of_wr W160).1
        have K160_ := K156_.wr W160 (Or.inl (List.mem_of_getElem? (i := 0) rfl))
        have N160 := Fr.snoc X160 N156 g_a1
        have A160_a1 : own_Ar Z h160 a1 .byte ((own_wr bs157 x159 (x158.toInt8.toInt32)).map Value.int) := A160_a1
        show own_Goes _ _ _ _ _ _ _ (T160.setTop (mkF m 144 #[.val (.int v0), .val (.ref a1), .val (.int v2), .unset] []))
        obtain ⟨bs161, hbs161, hF⟩ := own_lt_e hF
        rw [← hbs161] at A160_a1
        refine own_Goes.via (B := T160.setTop (mkF m 160 #[.val (.int v0), .val (.ref a1), .val (.int v2), .unset] [(.int (((128 : Int32) ||| ((v0 >>> ((6 : Int32) &&& 31)) &&& (63 : Int32))).toInt8.toInt32)), (.int (v2 + (2 : Int32))), (.ref a1)])) (fun t k => ?_) ?_
        · show Steps p.tables e below (T160.setTop (mkF m 144 #[.val (.int v0), .val (.ref a1), .val (.int v2), .unset] [])) t
          refine XS.aloadN X160.here hx rfl (hb hby dUtf8_write_144) rfl rfl ?_
          show Steps p.tables e below (T160.setTop (mkF m 145 #[.val (.int v0), .val (.ref a1), .val (.int v2), .unset] [(.ref a1)])) t
          refine XS.iloadN X160.here hx rfl (hb hby dUtf8_write_145) rfl ?_
          show Steps p.tables e below (T160.setTop (mkF m 146 #[.val (.int v0), .val (.ref a1), .val (.int v2), .unset] [(.int v2), (.ref a1)])) t
          refine XS.iconst X160.here hx rfl (hb hby dUtf8_write_146) ?_
          show Steps p.tables e below (T160.setTop (mkF m 147 #[.val (.int v0), .val (.ref a1), .val (.int v2), .unset] [(.int (2 : Int32)), (.int v2), (.ref a1)])) t
          refine XS.iadd X160.here hx rfl (hb hby dUtf8_write_147) rfl ?_
          show Steps p.tables e below (T160.setTop (mkF m 148 #[.val (.int v0), .val (.ref a1), .val (.int v2), .unset] [(.int (v2 + (2 : Int32))), (.ref a1)])) t
          refine XS.sipush X160.here hx rfl (hb hby dUtf8_write_148) ?_
          show Steps p.tables e below (T160.setTop (mkF m 151 #[.val (.int v0), .val (.ref a1), .val (.int v2), .unset] [(.int (128 : Int32)), (.int (v2 + (2 : Int32))), (.ref a1)])) t
          refine XS.iloadN X160.here hx rfl (hb hby dUtf8_write_151) rfl ?_
          show Steps p.tables e below (T160.setTop (mkF m 152 #[.val (.int v0), .val (.ref a1), .val (.int v2), .unset] [(.int v0), (.int (128 : Int32)), (.int (v2 + (2 : Int32))), (.ref a1)])) t
          refine XS.bipush X160.here hx rfl (hb hby dUtf8_write_152) ?_
          show Steps p.tables e below (T160.setTop (mkF m 154 #[.val (.int v0), .val (.ref a1), .val (.int v2), .unset] [(.int (6 : Int32)), (.int v0), (.int (128 : Int32)), (.int (v2 + (2 : Int32))), (.ref a1)])) t
          refine XS.ishr X160.here hx rfl (hb hby dUtf8_write_154) rfl ?_
          show Steps p.tables e below (T160.setTop (mkF m 155 #[.val (.int v0), .val (.ref a1), .val (.int v2), .unset] [(.int (v0 >>> ((6 : Int32) &&& 31))), (.int (128 : Int32)), (.int (v2 + (2 : Int32))), (.ref a1)])) t
          refine XS.bipush X160.here hx rfl (hb hby dUtf8_write_155) ?_
          show Steps p.tables e below (T160.setTop (mkF m 157 #[.val (.int v0), .val (.ref a1), .val (.int v2), .unset] [(.int (63 : Int32)), (.int (v0 >>> ((6 : Int32) &&& 31))), (.int (128 : Int32)), (.int (v2 + (2 : Int32))), (.ref a1)])) t
          refine XS.iand X160.here hx rfl (hb hby dUtf8_write_157) rfl ?_
          show Steps p.tables e below (T160.setTop (mkF m 158 #[.val (.int v0), .val (.ref a1), .val (.int v2), .unset] [(.int ((v0 >>> ((6 : Int32) &&& 31)) &&& (63 : Int32))), (.int (128 : Int32)), (.int (v2 + (2 : Int32))), (.ref a1)])) t
          refine XS.ior X160.here hx rfl (hb hby dUtf8_write_158) rfl ?_
          show Steps p.tables e below (T160.setTop (mkF m 159 #[.val (.int v0), .val (.ref a1), .val (.int v2), .unset] [(.int ((128 : Int32) ||| ((v0 >>> ((6 : Int32) &&& 31)) &&& (63 : Int32)))), (.int (v2 + (2 : Int32))), (.ref a1)])) t
          refine XS.i2b X160.here hx rfl (hb hby dUtf8_write_159) rfl ?_
          exact k
        obtain ⟨x162, hx162, hF⟩ := own_lt_e hF
        rw [← hx162]
        obtain ⟨x163, hx163, hF⟩ := own_lt_e hF
        rw [← hx163]
        obtain ⟨hi160, hF⟩ := own_ck_e hF
        obtain ⟨T164, h164, X164, e164, W164, A164_a1, st164⟩ := own_stB X160 hx hZ e160 A160_a1 hi160 (g := (mkF m 160 #[.val (.int v0), .val (.ref a1), .val (.int v2), .unset] [(.int x162), (.int x163), (.ref a1)])) rfl rfl (hb hby dUtf8_write_160)
        refine own_Goes.via st164 ?_
        have z164 := Nat.le_trans z160 (Keep.of_wr W164).1
        have K164_ := K160_.wr W164 (Or.inl (List.mem_of_getElem? (i := 0) rfl))
        have N164 := Fr.snoc X164 N160 g_a1
        have A164_a1 : own_Ar Z h164 a1 .byte ((own_wr bs161 x163 (x162.toInt8.toInt32)).map Value.int) := A164_a1
        show own_Goes _ _ _ _ _ _ _ (T164.setTop (mkF m 161 #[.val (.int v0), .val (.ref a1), .val (.int v2), .unset] []))
        obtain ⟨bs165, hbs165, hF⟩ := own_lt_e hF
        rw [← hbs165] at A164_a1
        refine own_Goes.via (B := T164.setTop (mkF m 174 #[.val (.int v0), .val (.ref a1), .val (.int v2), .unset] [(.int (((128 : Int32) ||| (v0 &&& (63 : Int32))).toInt8.toInt32)), (.int (v2 + (3 : Int32))), (.ref a1)])) (fun t k => ?_) ?_
        · show Steps p.tables e below (T164.setTop (mkF m 161 #[.val (.int v0), .val (.ref a1), .val (.int v2), .unset] [])) t
          refine XS.aloadN X164.here hx rfl (hb hby dUtf8_write_161) rfl rfl ?_
          show Steps p.tables e below (T164.setTop (mkF m 162 #[.val (.int v0), .val (.ref a1), .val (.int v2), .unset] [(.ref a1)])) t
          refine XS.iloadN X164.here hx rfl (hb hby dUtf8_write_162) rfl ?_
          show Steps p.tables e below (T164.setTop (mkF m 163 #[.val (.int v0), .val (.ref a1), .val (.int v2), .unset] [(.int v2), (.ref a1)])) t
          refine XS.iconst X164.here hx rfl (hb hby dUtf8_write_163) ?_
          show Steps p.tables e below (T164.setTop (mkF m 164 #[.val (.int v0), .val (.ref a1), .val (.int v2), .unset] [(.int (3 : Int32)), (.int v2), (.ref a1)])) t
          refine XS.iadd X164.here hx rfl (hb hby dUtf8_write_164) rfl ?_
          show Steps p.tables e below (T164.setTop (mkF m 165 #[.val (.int v0), .val (.ref a1), .val (.int v2), .unset] [(.int (v2 + (3 : Int32))), (.ref a1)])) t
          refine XS.sipush X164.here hx rfl (hb hby dUtf8_write_165) ?_
          show Steps p.tables e below (T164.setTop (mkF m 168 #[.val (.int v0), .val (.ref a1), .val (.int v2), .unset] [(.int (128 : Int32)), (.int (v2 + (3 : Int32))), (.ref a1)])) t
          refine XS.iloadN X164.here hx rfl (hb hby dUtf8_write_168) rfl ?_
          show Steps p.tables e below (T164.setTop (mkF m 169 #[.val (.int v0), .val (.ref a1), .val (.int v2), .unset] [(.int v0), (.int (128 : Int32)), (.int (v2 + (3 : Int32))), (.ref a1)])) t
          refine XS.bipush X164.here hx rfl (hb hby dUtf8_write_169) ?_
          show Steps p.tables e below (T164.setTop (mkF m 171 #[.val (.int v0), .val (.ref a1), .val (.int v2), .unset] [(.int (63 : Int32)), (.int v0), (.int (128 : Int32)), (.int (v2 + (3 : Int32))), (.ref a1)])) t
          refine XS.iand X164.here hx rfl (hb hby dUtf8_write_171) rfl ?_
          show Steps p.tables e below (T164.setTop (mkF m 172 #[.val (.int v0), .val (.ref a1), .val (.int v2), .unset] [(.int (v0 &&& (63 : Int32))), (.int (128 : Int32)), (.int (v2 + (3 : Int32))), (.ref a1)])) t
          refine XS.ior X164.here hx rfl (hb hby dUtf8_write_172) rfl ?_
          show Steps p.tables e below (T164.setTop (mkF m 173 #[.val (.int v0), .val (.ref a1), .val (.int v2), .unset] [(.int ((128 : Int32) ||| (v0 &&& (63 : Int32)))), (.int (v2 + (3 : Int32))), (.ref a1)])) t
          refine XS.i2b X164.here hx rfl (hb hby dUtf8_write_173) rfl ?_
          exact k
        obtain ⟨x166, hx166, hF⟩ := own_lt_e hF
        rw [← hx166]
        obtain ⟨x167, hx167, hF⟩ := own_lt_e hF
        rw [← hx167]
        obtain ⟨hi174, hF⟩ := own_ck_e hF
        obtain ⟨T168, h168, X168, e168, W168, A168_a1, st168⟩ := own_stB X164 hx hZ e164 A164_a1 hi174 (g := (mkF m 174 #[.val (.int v0), .val (.ref a1), .val (.int v2), .unset] [(.int x166), (.int x167), (.ref a1)])) rfl rfl (hb hby dUtf8_write_174)
        refine own_Goes.via st168 ?_
        have z168 := Nat.le_trans z164 (Keep.of_wr W168).1
        have K168_ := K164_.wr W168 (Or.inl (List.mem_of_getElem? (i := 0) rfl))
        have N168 := Fr.snoc X168 N164 g_a1
        have A168_a1 : own_Ar Z h168 a1 .byte ((own_wr bs165 x167 (x166.toInt8.toInt32)).map Value.int) := A168_a1
        show own_Goes _ _ _ _ _ _ _ (T168.setTop (mkF m 175 #[.val (.int v0), .val (.ref a1), .val (.int v2), .unset] []))
        obtain ⟨bs169, hbs169, hF⟩ := own_lt_e hF
        rw [← hbs169] at A168_a1
        refine own_Goes.via (B := T168.setTop (mkF m 178 #[.val (.int v0), .val (.ref a1), .val (.int v2), .unset] [(.int (v2 + (4 : Int32)))])) (fun t k => ?_) ?_
        · show Steps p.tables e below (T168.setTop (mkF m 175 #[.val (.int v0), .val (.ref a1), .val (.int v2), .unset] [])) t
          refine XS.iloadN X168.here hx rfl (hb hby dUtf8_write_175) rfl ?_
          show Steps p.tables e below (T168.setTop (mkF m 176 #[.val (.int v0), .val (.ref a1), .val (.int v2), .unset] [(.int v2)])) t
          refine XS.iconst X168.here hx rfl (hb hby dUtf8_write_176) ?_
          show Steps p.tables e below (T168.setTop (mkF m 177 #[.val (.int v0), .val (.ref a1), .val (.int v2), .unset] [(.int (4 : Int32)), (.int v2)])) t
          refine XS.iadd X168.here hx rfl (hb hby dUtf8_write_177) rfl ?_
          exact k
        obtain ⟨x170, hx170, hF⟩ := own_lt_e hF
        rw [← hx170]
        refine own_Goes.via (B := T168.setTop (mkF m 180 #[.val (.int v0), .val (.ref a1), .val (.int v2), .val (.int x170)] [(.int x170)])) (fun t k => ?_) ?_
        · show Steps p.tables e below (T168.setTop (mkF m 178 #[.val (.int v0), .val (.ref a1), .val (.int v2), .unset] [(.int x170)])) t
          refine XS.istoreN X168.here hx rfl (hb hby dUtf8_write_178) rfl (l' := #[.val (.int v0), .val (.ref a1), .val (.int v2), .val (.int x170)]) rfl ?_
          show Steps p.tables e below (T168.setTop (mkF m 179 #[.val (.int v0), .val (.ref a1), .val (.int v2), .val (.int x170)] [])) t
          refine XS.iloadN X168.here hx rfl (hb hby dUtf8_write_179) rfl ?_
          exact k
        obtain rfl : (x170, bs169) = r := Option.some.inj hF
        exact own_retI X168 hx hret hlk (hb hby dUtf8_write_180) e168 ⟨rfl, N168, K168_, A168_a1⟩ (by decide) (by decide)
theorem ef_Utf8_write (m : MethodId) (x0 : Int32) (x1 : Addr) (x2 : Int32) : entryFrame m #[(.int x0), (.ref x1), (.int x2)] 4 = mkF m 0 #[.val (.int x0), .val (.ref x1), .val (.int x2), .unset] [] := by first | (simp [entryFrame, mkF, argsToLocals, Value.category]; done) | rfl
set_option maxRecDepth 65536 in
set_option maxHeartbeats 4000000 in
theorem rm_Utf8_write (l : Launch) (Z : State) (a0 : Array Value) (hw : ∀ d ∈ tables_1, d.before a0 Z = true) (ws : List Jvm.Cond) (hE : Heap) (n0 : Nat) (z : n0 ≤ hE.size) (a1 : Addr) (v0 : Int32) (v2 : Int32) (bs_a1 : List Int32) (A_a1 : own_Ar Z hE a1 .byte (bs_a1.map Value.int)) (g_a1 : n0 ≤ a1) (r : Int32 × (List Int32)) (hF : (f_Utf8_write v0 v2 bs_a1) = some r) :
    MetFree l (⟨"com/example/binary64/binary64/Utf8", "write", "(I[BI)I"⟩ : MethodName) (head1 (Jvm.Cond.code (⟨"com/example/binary64/binary64/Utf8", "write", "(I[BI)I"⟩ : MethodName) prog_50_method_5_code 4 (some .int) :: ws) ({ frames := 0, cells := 0, slots := 0, locals := 0 } : Room)) (fun a U => a = #[(.int v0), (.ref a1), (.int v2)] ∧ Z.Warmed39 U.vm ∧ U.heap = hE) (fun _ _ _ _ _ => True) (fun _ U o U' => ∃ v L, o = .returned v ∧ (Q_Utf8_write Z hE n0 a1 r) v U'.heap L ∧ FrameEnd U o U' L ({ frames := 0, cells := 0, slots := 0, locals := 0 } : Room).cells ({ frames := 0, cells := 0, slots := 0, locals := 0 } : Room).slots) := by
  refine MetFree.of_bodySF (plainFor_of_name pn_com_example_binary64_binary64_Utf8) hisR ?_
  intro p e s m args below meth c s₁ Bd hml0 hP hK
  obtain ⟨rfl, hZ, hh⟩ := hP
  have X0 : Stand p l e ({ frames := 0, cells := 0, slots := 0, locals := 0 } : Room) s m #[(.int v0), (.ref a1), (.int v2)] below meth c s₁ [] 0 0 := Stand.of_body Bd
  have e0 : s₁.heap = hE := by rw [← hh, Bd.state]; rfl
  have cx : Cx_Utf8_write p s m meth c Z a0 := ⟨Bd.exec, hZ, hw, Bd.bytes, hml0, findClass_of_methodNamed Bd.named, Bd.returns, Bd.notSynchronized, (name_of_methodNamed Bd.named Bd.method).1⟩
  show own_Goes p e below s (Q_Utf8_write Z hE n0 a1 r) ({ frames := 0, cells := 0, slots := 0, locals := 0 } : Room).cells ({ frames := 0, cells := 0, slots := 0, locals := 0 } : Room).slots (s₁.setTop (entryFrame m #[(.int v0), (.ref a1), (.int v2)] 4))
  rw [ef_Utf8_write]
  exact b_Utf8_write cx a1 X0 e0 (Fr.nil n0) (Keep.refl _ _) z v0 v2 bs_a1 A_a1 g_a1 _ hF
/-! com/example/binary64/binary64/Utf8WritePinLaw.outside:([BIIIB)Z -/
def f_Utf8WritePinLaw_outside (v1 : Int32) (v2 : Int32) (v3 : Int32) (v4 : Int32) (bs_a1 : List Int32) : Option (Int32) :=
  if v1 < v2 then
    own_ck (own_inb bs_a1 v1) <|
    if (own_rd bs_a1 v1) = v4 then
      some (1 : Int32)
    else
      some (0 : Int32)
  else
    if v1 < v3 then
      some (1 : Int32)
    else
      own_ck (own_inb bs_a1 v1) <|
      if (own_rd bs_a1 v1) = v4 then
        some (1 : Int32)
      else
        some (0 : Int32)
def Q_Utf8WritePinLaw_outside (Z : State) (hE : Heap) (n0 : Nat) (a1 : Addr) (r : Int32) (v : Option Value) (h : Heap) (L : List Loc) : Prop := v = some (.int r) ∧ Fr n0 L ∧ h = hE
def Cx_Utf8WritePinLaw_outside (p : Program) (s : State) (m : MethodId) (meth : Method) (c : Code) (Z : State) (a0 : Array Value) : Prop := p.tables.exec = Jvm.exec ∧ Z.Warmed39 s.vm ∧ (∀ d ∈ tables_1, d.before a0 Z = true) ∧ c.code = method_3_code ∧ c.maxLocals = 5 ∧ s.vm.findClass "com/example/binary64/binary64/Utf8WritePinLaw" = some m.cls ∧ meth.sig.returnType = some .boolean ∧ meth.locks = false ∧ meth.name = "outside"
set_option maxRecDepth 65536 in
set_option maxHeartbeats 4000000 in
theorem b_Utf8WritePinLaw_outside {p : Program} {l : Launch} {e : Env} {s : State} {m : MethodId} {args : Array Value} {below : List Frame} {meth : Method} {c : Code} {Z : State} {a0 : Array Value} {n0 : Nat} {hE : Heap} (cx : Cx_Utf8WritePinLaw_outside p s m meth c Z a0) (a1 : Addr) :
    ∀ {T : State} {locs : List Loc} (X : Stand p l e ({ frames := 0, cells := 0, slots := 0, locals := 0 } : Room) s m args below meth c T locs 0 0) (eT : T.heap = hE) (N : Fr n0 locs) (z : n0 ≤ hE.size) (v1 : Int32) (v2 : Int32) (v3 : Int32) (v4 : Int32) (bs_a1 : List Int32) (A_a1 : own_Ar Z hE a1 .byte (bs_a1.map Value.int)) (g_a1 : n0 ≤ a1) (r : Int32), f_Utf8WritePinLaw_outside v1 v2 v3 v4 bs_a1 = some r → own_Goes p e below s (Q_Utf8WritePinLaw_outside Z hE n0 a1 r) 0 0 (T.setTop (mkF m 0 #[.val (.ref a1), .val (.int v1), .val (.int v2), .val (.int v3), .val (.int v4)] [])) := by
  have cx' := cx
  obtain ⟨hx, hZ, hw, hby, hml, hown, hret, hlk, hnm⟩ := cx'
  intro T locs X eT N z v1 v2 v3 v4 bs_a1 A_a1 g_a1 r hF
  unfold f_Utf8WritePinLaw_outside at hF
  refine own_Goes.via (B := T.setTop (mkF m 2 #[.val (.ref a1), .val (.int v1), .val (.int v2), .val (.int v3), .val (.int v4)] [(.int v2), (.int v1)])) (fun t k => ?_) ?_
  · show Steps p.tables e below (T.setTop (mkF m 0 #[.val (.ref a1), .val (.int v1), .val (.int v2), .val (.int v3), .val (.int v4)] [])) t
    refine XS.iloadN X.here hx rfl (hb hby dUtf8WritePinLaw_outside_0) rfl ?_
    show Steps p.tables e below (T.setTop (mkF m 1 #[.val (.ref a1), .val (.int v1), .val (.int v2), .val (.int v3), .val (.int v4)] [(.int v1)])) t
    refine XS.iloadN X.here hx rfl (hb hby dUtf8WritePinLaw_outside_1) rfl ?_
    exact k
  by_cases hc2 : v1 < v2
  · rw [if_pos hc2] at hF
    refine own_Goes.via (B := T.setTop (mkF m 12 #[.val (.ref a1), .val (.int v1), .val (.int v2), .val (.int v3), .val (.int v4)] [(.int v1), (.ref a1)])) (fun t k => ?_) ?_
    · show Steps p.tables e below (T.setTop (mkF m 2 #[.val (.ref a1), .val (.int v1), .val (.int v2), .val (.int v3), .val (.int v4)] [(.int v2), (.int v1)])) t
      refine XS.icmpYes X.here hx rfl (pc0 := 2) (pc' := 10) rfl (hb hby dUtf8WritePinLaw_outside_2) rfl (tlt hc2).1 (by decide) (by decide) ?_
      show Steps p.tables e below (T.setTop (mkF m 10 #[.val (.ref a1), .val (.int v1), .val (.int v2), .val (.int v3), .val (.int v4)] [])) t
      refine XS.aloadN X.here hx rfl (hb hby dUtf8WritePinLaw_outside_10) rfl rfl ?_
      show Steps p.tables e below (T.setTop (mkF m 11 #[.val (.ref a1), .val (.int v1), .val (.int v2), .val (.int v3), .val (.int v4)] [(.ref a1)])) t
      refine XS.iloadN X.here hx rfl (hb hby dUtf8WritePinLaw_outside_11) rfl ?_
      exact k
    obtain ⟨hi12, hF⟩ := own_ck_e hF
    refine own_Goes.via (B := T.setTop (mkF m 15 #[.val (.ref a1), .val (.int v1), .val (.int v2), .val (.int v3), .val (.int v4)] [(.int v4), (.int (own_rd bs_a1 v1))])) (fun t k => ?_) ?_
    · show Steps p.tables e below (T.setTop (mkF m 12 #[.val (.ref a1), .val (.int v1), .val (.int v2), .val (.int v3), .val (.int v4)] [(.int v1), (.ref a1)])) t
      refine own_ldB X hx hZ eT A_a1 hi12 rfl (g := (mkF m 12 #[.val (.ref a1), .val (.int v1), .val (.int v2), .val (.int v3), .val (.int v4)] [(.int v1), (.ref a1)])) rfl rfl (hb hby dUtf8WritePinLaw_outside_12) ?_
      show Steps p.tables e below (T.setTop (mkF m 13 #[.val (.ref a1), .val (.int v1), .val (.int v2), .val (.int v3), .val (.int v4)] [(.int (own_rd bs_a1 v1))])) t
      refine XS.iload X.here hx rfl (hb hby dUtf8WritePinLaw_outside_13) rfl ?_
      exact k
    by_cases hc15 : (own_rd bs_a1 v1) = v4
    · rw [if_pos hc15] at hF
      refine own_Goes.via (B := T.setTop (mkF m 23 #[.val (.ref a1), .val (.int v1), .val (.int v2), .val (.int v3), .val (.int v4)] [(.int (1 : Int32))])) (fun t k => ?_) ?_
      · show Steps p.tables e below (T.setTop (mkF m 15 #[.val (.ref a1), .val (.int v1), .val (.int v2), .val (.int v3), .val (.int v4)] [(.int v4), (.int (own_rd bs_a1 v1))])) t
        refine XS.icmpNo X.here hx rfl (hb hby dUtf8WritePinLaw_outside_15) rfl (teq hc15).2 ?_
        show Steps p.tables e below (T.setTop (mkF m 18 #[.val (.ref a1), .val (.int v1), .val (.int v2), .val (.int v3), .val (.int v4)] [])) t
        refine XS.iconst X.here hx rfl (hb hby dUtf8WritePinLaw_outside_18) ?_
        show Steps p.tables e below (T.setTop (mkF m 19 #[.val (.ref a1), .val (.int v1), .val (.int v2), .val (.int v3), .val (.int v4)] [(.int (1 : Int32))])) t
        refine XS.goto X.here hx rfl (pc0 := 19) (pc' := 23) rfl (hb hby dUtf8WritePinLaw_outside_19) (by decide) (by decide) ?_
        exact k
      obtain rfl : (1 : Int32) = r := Option.some.inj hF
      exact own_retN X hx (t := .boolean) hret hlk (by simp) (hb hby dUtf8WritePinLaw_outside_23) eT (v := (1 : Int32)) (by decide) ⟨rfl, N, rfl⟩ (by decide) (by decide)
    · rw [if_neg hc15] at hF
      refine own_Goes.via (B := T.setTop (mkF m 23 #[.val (.ref a1), .val (.int v1), .val (.int v2), .val (.int v3), .val (.int v4)] [(.int (0 : Int32))])) (fun t k => ?_) ?_
      · show Steps p.tables e below (T.setTop (mkF m 15 #[.val (.ref a1), .val (.int v1), .val (.int v2), .val (.int v3), .val (.int v4)] [(.int v4), (.int (own_rd bs_a1 v1))])) t
        refine XS.icmpYes X.here hx rfl (pc0 := 15) (pc' := 22) rfl (hb hby dUtf8WritePinLaw_outside_15) rfl (feq hc15).2 (by decide) (by decide) ?_
        show Steps p.tables e below (T.setTop (mkF m 22 #[.val (.ref a1), .val (.int v1), .val (.int v2), .val (.int v3), .val (.int v4)] [])) t
        refine XS.iconst X.here hx rfl (hb hby dUtf8WritePinLaw_outside_22) ?_
        exact k
      obtain rfl : (0 : Int32) = r := Option.some.inj hF
      exact own_retN X hx (t := .boolean) hret hlk (by simp) (hb hby dUtf8WritePinLaw_outside_23) eT (v := (0 : Int32)) (by decide) ⟨rfl, N, rfl⟩ (by decide) (by decide)
  · rw [if_neg hc2] at hF
    refine own_Goes.via (B := T.setTop (mkF m 7 #[.val (.ref a1), .val (.int v1), .val (.int v2), .val (.int v3), .val (.int v4)] [(.int v3), (.int v1)])) (fun t k => ?_) ?_
    · show Steps p.tables e below (T.setTop (mkF m 2 #[.val (.ref a1), .val (.int v1), .val (.int v2), .val (.int v3), .val (.int v4)] [(.int v2), (.int v1)])) t
      refine XS.icmpNo X.here hx rfl (hb hby dUtf8WritePinLaw_outside_2) rfl (flt hc2).1 ?_
      show Steps p.tables e below (T.setTop (mkF m 5 #[.val (.ref a1), .val (.int v1), .val (.int v2), .val (.int v3), .val (.int v4)] [])) t
      refine XS.iloadN X.here hx rfl (hb hby dUtf8WritePinLaw_outside_5) rfl ?_
      show Steps p.tables e below (T.setTop (mkF m 6 #[.val (.ref a1), .val (.int v1), .val (.int v2), .val (.int v3), .val (.int v4)] [(.int v1)])) t
      refine XS.iloadN X.here hx rfl (hb hby dUtf8WritePinLaw_outside_6) rfl ?_
      exact k
    by_cases hc7 : v1 < v3
    · rw [if_pos hc7] at hF
      refine own_Goes.via (B := T.setTop (mkF m 23 #[.val (.ref a1), .val (.int v1), .val (.int v2), .val (.int v3), .val (.int v4)] [(.int (1 : Int32))])) (fun t k => ?_) ?_
      · show Steps p.tables e below (T.setTop (mkF m 7 #[.val (.ref a1), .val (.int v1), .val (.int v2), .val (.int v3), .val (.int v4)] [(.int v3), (.int v1)])) t
        refine XS.icmpYes X.here hx rfl (pc0 := 7) (pc' := 18) rfl (hb hby dUtf8WritePinLaw_outside_7) rfl (tlt hc7).1 (by decide) (by decide) ?_
        show Steps p.tables e below (T.setTop (mkF m 18 #[.val (.ref a1), .val (.int v1), .val (.int v2), .val (.int v3), .val (.int v4)] [])) t
        refine XS.iconst X.here hx rfl (hb hby dUtf8WritePinLaw_outside_18) ?_
        show Steps p.tables e below (T.setTop (mkF m 19 #[.val (.ref a1), .val (.int v1), .val (.int v2), .val (.int v3), .val (.int v4)] [(.int (1 : Int32))])) t
        refine XS.goto X.here hx rfl (pc0 := 19) (pc' := 23) rfl (hb hby dUtf8WritePinLaw_outside_19) (by decide) (by decide) ?_
        exact k
      obtain rfl : (1 : Int32) = r := Option.some.inj hF
      exact own_retN X hx (t := .boolean) hret hlk (by simp) (hb hby dUtf8WritePinLaw_outside_23) eT (v := (1 : Int32)) (by decide) ⟨rfl, N, rfl⟩ (by decide) (by decide)
    · rw [if_neg hc7] at hF
      refine own_Goes.via (B := T.setTop (mkF m 12 #[.val (.ref a1), .val (.int v1), .val (.int v2), .val (.int v3), .val (.int v4)] [(.int v1), (.ref a1)])) (fun t k => ?_) ?_
      · show Steps p.tables e below (T.setTop (mkF m 7 #[.val (.ref a1), .val (.int v1), .val (.int v2), .val (.int v3), .val (.int v4)] [(.int v3), (.int v1)])) t
        refine XS.icmpNo X.here hx rfl (hb hby dUtf8WritePinLaw_outside_7) rfl (flt hc7).1 ?_
        show Steps p.tables e below (T.setTop (mkF m 10 #[.val (.ref a1), .val (.int v1), .val (.int v2), .val (.int v3), .val (.int v4)] [])) t
        refine XS.aloadN X.here hx rfl (hb hby dUtf8WritePinLaw_outside_10) rfl rfl ?_
        show Steps p.tables e below (T.setTop (mkF m 11 #[.val (.ref a1), .val (.int v1), .val (.int v2), .val (.int v3), .val (.int v4)] [(.ref a1)])) t
        refine XS.iloadN X.here hx rfl (hb hby dUtf8WritePinLaw_outside_11) rfl ?_
        exact k
      obtain ⟨hi12, hF⟩ := own_ck_e hF
      refine own_Goes.via (B := T.setTop (mkF m 15 #[.val (.ref a1), .val (.int v1), .val (.int v2), .val (.int v3), .val (.int v4)] [(.int v4), (.int (own_rd bs_a1 v1))])) (fun t k => ?_) ?_
      · show Steps p.tables e below (T.setTop (mkF m 12 #[.val (.ref a1), .val (.int v1), .val (.int v2), .val (.int v3), .val (.int v4)] [(.int v1), (.ref a1)])) t
        refine own_ldB X hx hZ eT A_a1 hi12 rfl (g := (mkF m 12 #[.val (.ref a1), .val (.int v1), .val (.int v2), .val (.int v3), .val (.int v4)] [(.int v1), (.ref a1)])) rfl rfl (hb hby dUtf8WritePinLaw_outside_12) ?_
        show Steps p.tables e below (T.setTop (mkF m 13 #[.val (.ref a1), .val (.int v1), .val (.int v2), .val (.int v3), .val (.int v4)] [(.int (own_rd bs_a1 v1))])) t
        refine XS.iload X.here hx rfl (hb hby dUtf8WritePinLaw_outside_13) rfl ?_
        exact k
      by_cases hc15 : (own_rd bs_a1 v1) = v4
      · rw [if_pos hc15] at hF
        refine own_Goes.via (B := T.setTop (mkF m 23 #[.val (.ref a1), .val (.int v1), .val (.int v2), .val (.int v3), .val (.int v4)] [(.int (1 : Int32))])) (fun t k => ?_) ?_
        · show Steps p.tables e below (T.setTop (mkF m 15 #[.val (.ref a1), .val (.int v1), .val (.int v2), .val (.int v3), .val (.int v4)] [(.int v4), (.int (own_rd bs_a1 v1))])) t
          refine XS.icmpNo X.here hx rfl (hb hby dUtf8WritePinLaw_outside_15) rfl (teq hc15).2 ?_
          show Steps p.tables e below (T.setTop (mkF m 18 #[.val (.ref a1), .val (.int v1), .val (.int v2), .val (.int v3), .val (.int v4)] [])) t
          refine XS.iconst X.here hx rfl (hb hby dUtf8WritePinLaw_outside_18) ?_
          show Steps p.tables e below (T.setTop (mkF m 19 #[.val (.ref a1), .val (.int v1), .val (.int v2), .val (.int v3), .val (.int v4)] [(.int (1 : Int32))])) t
          refine XS.goto X.here hx rfl (pc0 := 19) (pc' := 23) rfl (hb hby dUtf8WritePinLaw_outside_19) (by decide) (by decide) ?_
          exact k
        obtain rfl : (1 : Int32) = r := Option.some.inj hF
        exact own_retN X hx (t := .boolean) hret hlk (by simp) (hb hby dUtf8WritePinLaw_outside_23) eT (v := (1 : Int32)) (by decide) ⟨rfl, N, rfl⟩ (by decide) (by decide)
      · rw [if_neg hc15] at hF
        refine own_Goes.via (B := T.setTop (mkF m 23 #[.val (.ref a1), .val (.int v1), .val (.int v2), .val (.int v3), .val (.int v4)] [(.int (0 : Int32))])) (fun t k => ?_) ?_
        · show Steps p.tables e below (T.setTop (mkF m 15 #[.val (.ref a1), .val (.int v1), .val (.int v2), .val (.int v3), .val (.int v4)] [(.int v4), (.int (own_rd bs_a1 v1))])) t
          refine XS.icmpYes X.here hx rfl (pc0 := 15) (pc' := 22) rfl (hb hby dUtf8WritePinLaw_outside_15) rfl (feq hc15).2 (by decide) (by decide) ?_
          show Steps p.tables e below (T.setTop (mkF m 22 #[.val (.ref a1), .val (.int v1), .val (.int v2), .val (.int v3), .val (.int v4)] [])) t
          refine XS.iconst X.here hx rfl (hb hby dUtf8WritePinLaw_outside_22) ?_
          exact k
        obtain rfl : (0 : Int32) = r := Option.some.inj hF
        exact own_retN X hx (t := .boolean) hret hlk (by simp) (hb hby dUtf8WritePinLaw_outside_23) eT (v := (0 : Int32)) (by decide) ⟨rfl, N, rfl⟩ (by decide) (by decide)
theorem ef_Utf8WritePinLaw_outside (m : MethodId) (x0 : Addr) (x1 : Int32) (x2 : Int32) (x3 : Int32) (x4 : Int32) : entryFrame m #[(.ref x0), (.int x1), (.int x2), (.int x3), (.int x4)] 5 = mkF m 0 #[.val (.ref x0), .val (.int x1), .val (.int x2), .val (.int x3), .val (.int x4)] [] := by first | (simp [entryFrame, mkF, argsToLocals, Value.category]; done) | rfl
set_option maxRecDepth 65536 in
set_option maxHeartbeats 4000000 in
theorem rm_Utf8WritePinLaw_outside (l : Launch) (Z : State) (a0 : Array Value) (hw : ∀ d ∈ tables_1, d.before a0 Z = true) (ws : List Jvm.Cond) (hE : Heap) (n0 : Nat) (z : n0 ≤ hE.size) (a1 : Addr) (v1 : Int32) (v2 : Int32) (v3 : Int32) (v4 : Int32) (bs_a1 : List Int32) (A_a1 : own_Ar Z hE a1 .byte (bs_a1.map Value.int)) (g_a1 : n0 ≤ a1) (r : Int32) (hF : (f_Utf8WritePinLaw_outside v1 v2 v3 v4 bs_a1) = some r) :
    MetFree l (⟨"com/example/binary64/binary64/Utf8WritePinLaw", "outside", "([BIIIB)Z"⟩ : MethodName) (head1 (Jvm.Cond.code (⟨"com/example/binary64/binary64/Utf8WritePinLaw", "outside", "([BIIIB)Z"⟩ : MethodName) method_3_code 5 (some .boolean) :: ws) ({ frames := 0, cells := 0, slots := 0, locals := 0 } : Room)) (fun a U => a = #[(.ref a1), (.int v1), (.int v2), (.int v3), (.int v4)] ∧ Z.Warmed39 U.vm ∧ U.heap = hE) (fun _ _ _ _ _ => True) (fun _ U o U' => ∃ v L, o = .returned v ∧ (Q_Utf8WritePinLaw_outside Z hE n0 a1 r) v U'.heap L ∧ FrameEnd U o U' L ({ frames := 0, cells := 0, slots := 0, locals := 0 } : Room).cells ({ frames := 0, cells := 0, slots := 0, locals := 0 } : Room).slots) := by
  refine MetFree.of_bodySF (plainFor_of_name pn_com_example_binary64_binary64_Utf8WritePinLaw) hisR ?_
  intro p e s m args below meth c s₁ Bd hml0 hP hK
  obtain ⟨rfl, hZ, hh⟩ := hP
  have X0 : Stand p l e ({ frames := 0, cells := 0, slots := 0, locals := 0 } : Room) s m #[(.ref a1), (.int v1), (.int v2), (.int v3), (.int v4)] below meth c s₁ [] 0 0 := Stand.of_body Bd
  have e0 : s₁.heap = hE := by rw [← hh, Bd.state]; rfl
  have cx : Cx_Utf8WritePinLaw_outside p s m meth c Z a0 := ⟨Bd.exec, hZ, hw, Bd.bytes, hml0, findClass_of_methodNamed Bd.named, Bd.returns, Bd.notSynchronized, (name_of_methodNamed Bd.named Bd.method).1⟩
  show own_Goes p e below s (Q_Utf8WritePinLaw_outside Z hE n0 a1 r) ({ frames := 0, cells := 0, slots := 0, locals := 0 } : Room).cells ({ frames := 0, cells := 0, slots := 0, locals := 0 } : Room).slots (s₁.setTop (entryFrame m #[(.ref a1), (.int v1), (.int v2), (.int v3), (.int v4)] 5))
  rw [ef_Utf8WritePinLaw_outside]
  exact b_Utf8WritePinLaw_outside cx a1 X0 e0 (Fr.nil n0) z v1 v2 v3 v4 bs_a1 A_a1 g_a1 _ hF
/-! com/example/binary64/binary64/Utf8.sequenceLength:([BII)I -/
def f_Utf8_sequenceLength_206 (v3 : Int32) (v4 : Int32) (v5 : Int32) (bs_a1 : List Int32) : Option (Int32) :=
  if v3 = (244 : Int32) then
    if (143 : Int32) < v5 then
      some (-6 : Int32)
    else
      some v4
  else
    some v4
def f_Utf8_sequenceLength_162 (v3 : Int32) (v4 : Int32) (v5 : Int32) (bs_a1 : List Int32) : Option (Int32) :=
  if v3 = (240 : Int32) then
    if v5 < (144 : Int32) then
      some (-4 : Int32)
    else
      if v3 = (237 : Int32) then
        if (159 : Int32) < v5 then
          some (-5 : Int32)
        else
          (f_Utf8_sequenceLength_206 v3 v4 v5 bs_a1)
      else
        (f_Utf8_sequenceLength_206 v3 v4 v5 bs_a1)
  else
    if v3 = (237 : Int32) then
      if (159 : Int32) < v5 then
        some (-5 : Int32)
      else
        (f_Utf8_sequenceLength_206 v3 v4 v5 bs_a1)
    else
      (f_Utf8_sequenceLength_206 v3 v4 v5 bs_a1)
def f_Utf8_sequenceLength_96 : Nat → Int32 → Int32 → Int32 → Int32 → Int32 → (List Int32) → Option (Int32)
  | 0, _, _, _, _, _, _ => none
  | n + 1, v1, v2, v3, v4, v5, bs_a1 =>
    if v5 < v4 then
      if (v1 + v5) = v2 then
        some (-3 : Int32)
      else
        own_lt (v1 + v5) fun x188 =>
        own_ck (own_inb bs_a1 x188) <|
        if ((own_rd bs_a1 x188) &&& (192 : Int32)) = (128 : Int32) then
          own_lt (v5 + (1 : Int32)) fun x189 =>
          (f_Utf8_sequenceLength_96 n) v1 v2 v3 v4 x189 bs_a1
        else
          some (-3 : Int32)
    else
      own_lt (v1 + (1 : Int32)) fun x190 =>
      own_ck (own_inb bs_a1 x190) <|
      own_lt ((own_rd bs_a1 x190) &&& (255 : Int32)) fun x191 =>
      if v3 = (224 : Int32) then
        if x191 < (160 : Int32) then
          some (-4 : Int32)
        else
          (f_Utf8_sequenceLength_162 v3 v4 x191 bs_a1)
      else
        (f_Utf8_sequenceLength_162 v3 v4 x191 bs_a1)
def f_Utf8_sequenceLength (v1 : Int32) (v2 : Int32) (bs_a1 : List Int32) : Option (Int32) :=
  own_ck (own_inb bs_a1 v1) <|
  own_lt ((own_rd bs_a1 v1) &&& (255 : Int32)) fun x192 =>
  if x192 < (128 : Int32) then
    some (1 : Int32)
  else
    if x192 < (192 : Int32) then
      some (-2 : Int32)
    else
      if x192 < (194 : Int32) then
        some (-1 : Int32)
      else
        if (244 : Int32) < x192 then
          some (-1 : Int32)
        else
          if x192 < (224 : Int32) then
            (f_Utf8_sequenceLength_96 100 v1 v2 x192 (2 : Int32) (1 : Int32) bs_a1)
          else
            if x192 < (240 : Int32) then
              (f_Utf8_sequenceLength_96 100 v1 v2 x192 (3 : Int32) (1 : Int32) bs_a1)
            else
              (f_Utf8_sequenceLength_96 100 v1 v2 x192 (4 : Int32) (1 : Int32) bs_a1)
def Q_Utf8_sequenceLength (Z : State) (hE : Heap) (n0 : Nat) (a1 : Addr) (r : Int32) (v : Option Value) (h : Heap) (L : List Loc) : Prop := v = some (.int r) ∧ Fr n0 L ∧ h = hE
def Cx_Utf8_sequenceLength (p : Program) (s : State) (m : MethodId) (meth : Method) (c : Code) (Z : State) (a0 : Array Value) : Prop := p.tables.exec = Jvm.exec ∧ Z.Warmed39 s.vm ∧ (∀ d ∈ tables_1, d.before a0 Z = true) ∧ c.code = prog_50_method_2_code ∧ c.maxLocals = 7 ∧ s.vm.findClass "com/example/binary64/binary64/Utf8" = some m.cls ∧ meth.sig.returnType = some .int ∧ meth.locks = false ∧ meth.name = "sequenceLength"
set_option maxRecDepth 65536 in
set_option maxHeartbeats 4000000 in
theorem b_Utf8_sequenceLength_206 {p : Program} {l : Launch} {e : Env} {s : State} {m : MethodId} {args : Array Value} {below : List Frame} {meth : Method} {c : Code} {Z : State} {a0 : Array Value} {n0 : Nat} {hE : Heap} (cx : Cx_Utf8_sequenceLength p s m meth c Z a0) (a1 : Addr) :
    ∀ {T : State} {locs : List Loc} (X : Stand p l e ({ frames := 0, cells := 0, slots := 0, locals := 0 } : Room) s m args below meth c T locs 0 0) (eT : T.heap = hE) (N : Fr n0 locs) (z : n0 ≤ hE.size) (v3 : Int32) (v4 : Int32) (v5 : Int32) (bs_a1 : List Int32) (d0 : Slot) (d1 : Slot) (d2 : Slot) (d6 : Slot) (o_d0 : One d0) (o_d1 : One d1) (o_d2 : One d2) (o_d6 : One d6) (A_a1 : own_Ar Z hE a1 .byte (bs_a1.map Value.int)) (g_a1 : n0 ≤ a1) (r : Int32), f_Utf8_sequenceLength_206 v3 v4 v5 bs_a1 = some r → own_Goes p e below s (Q_Utf8_sequenceLength Z hE n0 a1 r) 0 0 (T.setTop (mkF m 206 #[d0, d1, d2, .val (.int v3), .val (.int v4), .val (.int v5), d6] [])) := by
  have cx' := cx
  obtain ⟨hx, hZ, hw, hby, hml, hown, hret, hlk, hnm⟩ := cx'
  intro T locs X eT N z v3 v4 v5 bs_a1 d0 d1 d2 d6 o_d0 o_d1 o_d2 o_d6 A_a1 g_a1 r hF
  unfold f_Utf8_sequenceLength_206 at hF
  refine own_Goes.via (B := T.setTop (mkF m 210 #[d0, d1, d2, .val (.int v3), .val (.int v4), .val (.int v5), d6] [(.int (244 : Int32)), (.int v3)])) (fun t k => ?_) ?_
  · show Steps p.tables e below (T.setTop (mkF m 206 #[d0, d1, d2, .val (.int v3), .val (.int v4), .val (.int v5), d6] [])) t
    refine XS.iloadN X.here hx rfl (hb hby dUtf8_sequenceLength_206) rfl ?_
    show Steps p.tables e below (T.setTop (mkF m 207 #[d0, d1, d2, .val (.int v3), .val (.int v4), .val (.int v5), d6] [(.int v3)])) t
    refine XS.sipush X.here hx rfl (hb hby dUtf8_sequenceLength_207) ?_
    exact k
  by_cases hc210 : v3 = (244 : Int32)
  · rw [if_pos hc210] at hF
    refine own_Goes.via (B := T.setTop (mkF m 218 #[d0, d1, d2, .val (.int v3), .val (.int v4), .val (.int v5), d6] [(.int (143 : Int32)), (.int v5)])) (fun t k => ?_) ?_
    · show Steps p.tables e below (T.setTop (mkF m 210 #[d0, d1, d2, .val (.int v3), .val (.int v4), .val (.int v5), d6] [(.int (244 : Int32)), (.int v3)])) t
      refine XS.icmpNo X.here hx rfl (hb hby dUtf8_sequenceLength_210) rfl (teq hc210).2 ?_
      show Steps p.tables e below (T.setTop (mkF m 213 #[d0, d1, d2, .val (.int v3), .val (.int v4), .val (.int v5), d6] [])) t
      refine XS.iload X.here hx rfl (hb hby dUtf8_sequenceLength_213) rfl ?_
      show Steps p.tables e below (T.setTop (mkF m 215 #[d0, d1, d2, .val (.int v3), .val (.int v4), .val (.int v5), d6] [(.int v5)])) t
      refine XS.sipush X.here hx rfl (hb hby dUtf8_sequenceLength_215) ?_
      exact k
    by_cases hc218 : (143 : Int32) < v5
    · rw [if_pos hc218] at hF
      refine own_Goes.via (B := T.setTop (mkF m 234 #[d0, d1, d2, .val (.int v3), .val (.int v4), .val (.int v5), .val (.int (-6 : Int32))] [(.int (-6 : Int32))])) (fun t k => ?_) ?_
      · show Steps p.tables e below (T.setTop (mkF m 218 #[d0, d1, d2, .val (.int v3), .val (.int v4), .val (.int v5), d6] [(.int (143 : Int32)), (.int v5)])) t
        refine XS.icmpNo X.here hx rfl (hb hby dUtf8_sequenceLength_218) rfl (tlt hc218).2.2.2 ?_
        show Steps p.tables e below (T.setTop (mkF m 221 #[d0, d1, d2, .val (.int v3), .val (.int v4), .val (.int v5), d6] [])) t
        refine XS.bipush X.here hx rfl (hb hby dUtf8_sequenceLength_221) ?_
        show Steps p.tables e below (T.setTop (mkF m 223 #[d0, d1, d2, .val (.int v3), .val (.int v4), .val (.int v5), d6] [(.int (-6 : Int32))])) t
        refine XS.istoreS X.here hx rfl (hb hby dUtf8_sequenceLength_223) rfl rfl o_d6 ?_
        show Steps p.tables e below (T.setTop (mkF m 225 #[d0, d1, d2, .val (.int v3), .val (.int v4), .val (.int v5), .val (.int (-6 : Int32))] [])) t
        refine XS.goto X.here hx rfl (pc0 := 225) (pc' := 232) rfl (hb hby dUtf8_sequenceLength_225) (by decide) (by decide) ?_
        show Steps p.tables e below (T.setTop (mkF m 232 #[d0, d1, d2, .val (.int v3), .val (.int v4), .val (.int v5), .val (.int (-6 : Int32))] [])) t
        refine XS.iload X.here hx rfl (hb hby dUtf8_sequenceLength_232) rfl ?_
        exact k
      obtain rfl : (-6 : Int32) = r := Option.some.inj hF
      exact own_retI X hx hret hlk (hb hby dUtf8_sequenceLength_234) eT ⟨rfl, N, rfl⟩ (by decide) (by decide)
    · rw [if_neg hc218] at hF
      refine own_Goes.via (B := T.setTop (mkF m 234 #[d0, d1, d2, .val (.int v3), .val (.int v4), .val (.int v5), .val (.int v4)] [(.int v4)])) (fun t k => ?_) ?_
      · show Steps p.tables e below (T.setTop (mkF m 218 #[d0, d1, d2, .val (.int v3), .val (.int v4), .val (.int v5), d6] [(.int (143 : Int32)), (.int v5)])) t
        refine XS.icmpYes X.here hx rfl (pc0 := 218) (pc' := 228) rfl (hb hby dUtf8_sequenceLength_218) rfl (flt hc218).2.2.2 (by decide) (by decide) ?_
        show Steps p.tables e below (T.setTop (mkF m 228 #[d0, d1, d2, .val (.int v3), .val (.int v4), .val (.int v5), d6] [])) t
        refine XS.iload X.here hx rfl (hb hby dUtf8_sequenceLength_228) rfl ?_
        show Steps p.tables e below (T.setTop (mkF m 230 #[d0, d1, d2, .val (.int v3), .val (.int v4), .val (.int v5), d6] [(.int v4)])) t
        refine XS.istoreS X.here hx rfl (hb hby dUtf8_sequenceLength_230) rfl rfl o_d6 ?_
        show Steps p.tables e below (T.setTop (mkF m 232 #[d0, d1, d2, .val (.int v3), .val (.int v4), .val (.int v5), .val (.int v4)] [])) t
        refine XS.iload X.here hx rfl (hb hby dUtf8_sequenceLength_232) rfl ?_
        exact k
      obtain rfl : v4 = r := Option.some.inj hF
      exact own_retI X hx hret hlk (hb hby dUtf8_sequenceLength_234) eT ⟨rfl, N, rfl⟩ (by decide) (by decide)
  · rw [if_neg hc210] at hF
    refine own_Goes.via (B := T.setTop (mkF m 234 #[d0, d1, d2, .val (.int v3), .val (.int v4), .val (.int v5), .val (.int v4)] [(.int v4)])) (fun t k => ?_) ?_
    · show Steps p.tables e below (T.setTop (mkF m 210 #[d0, d1, d2, .val (.int v3), .val (.int v4), .val (.int v5), d6] [(.int (244 : Int32)), (.int v3)])) t
      refine XS.icmpYes X.here hx rfl (pc0 := 210) (pc' := 228) rfl (hb hby dUtf8_sequenceLength_210) rfl (feq hc210).2 (by decide) (by decide) ?_
      show Steps p.tables e below (T.setTop (mkF m 228 #[d0, d1, d2, .val (.int v3), .val (.int v4), .val (.int v5), d6] [])) t
      refine XS.iload X.here hx rfl (hb hby dUtf8_sequenceLength_228) rfl ?_
      show Steps p.tables e below (T.setTop (mkF m 230 #[d0, d1, d2, .val (.int v3), .val (.int v4), .val (.int v5), d6] [(.int v4)])) t
      refine XS.istoreS X.here hx rfl (hb hby dUtf8_sequenceLength_230) rfl rfl o_d6 ?_
      show Steps p.tables e below (T.setTop (mkF m 232 #[d0, d1, d2, .val (.int v3), .val (.int v4), .val (.int v5), .val (.int v4)] [])) t
      refine XS.iload X.here hx rfl (hb hby dUtf8_sequenceLength_232) rfl ?_
      exact k
    obtain rfl : v4 = r := Option.some.inj hF
    exact own_retI X hx hret hlk (hb hby dUtf8_sequenceLength_234) eT ⟨rfl, N, rfl⟩ (by decide) (by decide)
set_option maxRecDepth 65536 in
set_option maxHeartbeats 4000000 in
theorem b_Utf8_sequenceLength_162 {p : Program} {l : Launch} {e : Env} {s : State} {m : MethodId} {args : Array Value} {below : List Frame} {meth : Method} {c : Code} {Z : State} {a0 : Array Value} {n0 : Nat} {hE : Heap} (cx : Cx_Utf8_sequenceLength p s m meth c Z a0) (a1 : Addr) :
    ∀ {T : State} {locs : List Loc} (X : Stand p l e ({ frames := 0, cells := 0, slots := 0, locals := 0 } : Room) s m args below meth c T locs 0 0) (eT : T.heap = hE) (N : Fr n0 locs) (z : n0 ≤ hE.size) (v3 : Int32) (v4 : Int32) (v5 : Int32) (bs_a1 : List Int32) (d0 : Slot) (d1 : Slot) (d2 : Slot) (d6 : Slot) (o_d0 : One d0) (o_d1 : One d1) (o_d2 : One d2) (o_d6 : One d6) (A_a1 : own_Ar Z hE a1 .byte (bs_a1.map Value.int)) (g_a1 : n0 ≤ a1) (r : Int32), f_Utf8_sequenceLength_162 v3 v4 v5 bs_a1 = some r → own_Goes p e below s (Q_Utf8_sequenceLength Z hE n0 a1 r) 0 0 (T.setTop (mkF m 162 #[d0, d1, d2, .val (.int v3), .val (.int v4), .val (.int v5), d6] [])) := by
  have cx' := cx
  obtain ⟨hx, hZ, hw, hby, hml, hown, hret, hlk, hnm⟩ := cx'
  intro T locs X eT N z v3 v4 v5 bs_a1 d0 d1 d2 d6 o_d0 o_d1 o_d2 o_d6 A_a1 g_a1 r hF
  unfold f_Utf8_sequenceLength_162 at hF
  refine own_Goes.via (B := T.setTop (mkF m 166 #[d0, d1, d2, .val (.int v3), .val (.int v4), .val (.int v5), d6] [(.int (240 : Int32)), (.int v3)])) (fun t k => ?_) ?_
  · show Steps p.tables e below (T.setTop (mkF m 162 #[d0, d1, d2, .val (.int v3), .val (.int v4), .val (.int v5), d6] [])) t
    refine XS.iloadN X.here hx rfl (hb hby dUtf8_sequenceLength_162) rfl ?_
    show Steps p.tables e below (T.setTop (mkF m 163 #[d0, d1, d2, .val (.int v3), .val (.int v4), .val (.int v5), d6] [(.int v3)])) t
    refine XS.sipush X.here hx rfl (hb hby dUtf8_sequenceLength_163) ?_
    exact k
  by_cases hc166 : v3 = (240 : Int32)
  · rw [if_pos hc166] at hF
    refine own_Goes.via (B := T.setTop (mkF m 174 #[d0, d1, d2, .val (.int v3), .val (.int v4), .val (.int v5), d6] [(.int (144 : Int32)), (.int v5)])) (fun t k => ?_) ?_
    · show Steps p.tables e below (T.setTop (mkF m 166 #[d0, d1, d2, .val (.int v3), .val (.int v4), .val (.int v5), d6] [(.int (240 : Int32)), (.int v3)])) t
      refine XS.icmpNo X.here hx rfl (hb hby dUtf8_sequenceLength_166) rfl (teq hc166).2 ?_
      show Steps p.tables e below (T.setTop (mkF m 169 #[d0, d1, d2, .val (.int v3), .val (.int v4), .val (.int v5), d6] [])) t
      refine XS.iload X.here hx rfl (hb hby dUtf8_sequenceLength_169) rfl ?_
      show Steps p.tables e below (T.setTop (mkF m 171 #[d0, d1, d2, .val (.int v3), .val (.int v4), .val (.int v5), d6] [(.int v5)])) t
      refine XS.sipush X.here hx rfl (hb hby dUtf8_sequenceLength_171) ?_
      exact k
    by_cases hc174 : v5 < (144 : Int32)
    · rw [if_pos hc174] at hF
      refine own_Goes.via (B := T.setTop (mkF m 234 #[d0, d1, d2, .val (.int v3), .val (.int v4), .val (.int v5), .val (.int (-4 : Int32))] [(.int (-4 : Int32))])) (fun t k => ?_) ?_
      · show Steps p.tables e below (T.setTop (mkF m 174 #[d0, d1, d2, .val (.int v3), .val (.int v4), .val (.int v5), d6] [(.int (144 : Int32)), (.int v5)])) t
        refine XS.icmpNo X.here hx rfl (hb hby dUtf8_sequenceLength_174) rfl (tlt hc174).2.1 ?_
        show Steps p.tables e below (T.setTop (mkF m 177 #[d0, d1, d2, .val (.int v3), .val (.int v4), .val (.int v5), d6] [])) t
        refine XS.bipush X.here hx rfl (hb hby dUtf8_sequenceLength_177) ?_
        show Steps p.tables e below (T.setTop (mkF m 179 #[d0, d1, d2, .val (.int v3), .val (.int v4), .val (.int v5), d6] [(.int (-4 : Int32))])) t
        refine XS.istoreS X.here hx rfl (hb hby dUtf8_sequenceLength_179) rfl rfl o_d6 ?_
        show Steps p.tables e below (T.setTop (mkF m 181 #[d0, d1, d2, .val (.int v3), .val (.int v4), .val (.int v5), .val (.int (-4 : Int32))] [])) t
        refine XS.goto X.here hx rfl (pc0 := 181) (pc' := 232) rfl (hb hby dUtf8_sequenceLength_181) (by decide) (by decide) ?_
        show Steps p.tables e below (T.setTop (mkF m 232 #[d0, d1, d2, .val (.int v3), .val (.int v4), .val (.int v5), .val (.int (-4 : Int32))] [])) t
        refine XS.iload X.here hx rfl (hb hby dUtf8_sequenceLength_232) rfl ?_
        exact k
      obtain rfl : (-4 : Int32) = r := Option.some.inj hF
      exact own_retI X hx hret hlk (hb hby dUtf8_sequenceLength_234) eT ⟨rfl, N, rfl⟩ (by decide) (by decide)
    · rw [if_neg hc174] at hF
      refine own_Goes.via (B := T.setTop (mkF m 188 #[d0, d1, d2, .val (.int v3), .val (.int v4), .val (.int v5), d6] [(.int (237 : Int32)), (.int v3)])) (fun t k => ?_) ?_
      · show Steps p.tables e below (T.setTop (mkF m 174 #[d0, d1, d2, .val (.int v3), .val (.int v4), .val (.int v5), d6] [(.int (144 : Int32)), (.int v5)])) t
        refine XS.icmpYes X.here hx rfl (pc0 := 174) (pc' := 184) rfl (hb hby dUtf8_sequenceLength_174) rfl (flt hc174).2.1 (by decide) (by decide) ?_
        show Steps p.tables e below (T.setTop (mkF m 184 #[d0, d1, d2, .val (.int v3), .val (.int v4), .val (.int v5), d6] [])) t
        refine XS.iloadN X.here hx rfl (hb hby dUtf8_sequenceLength_184) rfl ?_
        show Steps p.tables e below (T.setTop (mkF m 185 #[d0, d1, d2, .val (.int v3), .val (.int v4), .val (.int v5), d6] [(.int v3)])) t
        refine XS.sipush X.here hx rfl (hb hby dUtf8_sequenceLength_185) ?_
        exact k
      by_cases hc188 : v3 = (237 : Int32)
      · rw [if_pos hc188] at hF
        refine own_Goes.via (B := T.setTop (mkF m 196 #[d0, d1, d2, .val (.int v3), .val (.int v4), .val (.int v5), d6] [(.int (159 : Int32)), (.int v5)])) (fun t k => ?_) ?_
        · show Steps p.tables e below (T.setTop (mkF m 188 #[d0, d1, d2, .val (.int v3), .val (.int v4), .val (.int v5), d6] [(.int (237 : Int32)), (.int v3)])) t
          refine XS.icmpNo X.here hx rfl (hb hby dUtf8_sequenceLength_188) rfl (teq hc188).2 ?_
          show Steps p.tables e below (T.setTop (mkF m 191 #[d0, d1, d2, .val (.int v3), .val (.int v4), .val (.int v5), d6] [])) t
          refine XS.iload X.here hx rfl (hb hby dUtf8_sequenceLength_191) rfl ?_
          show Steps p.tables e below (T.setTop (mkF m 193 #[d0, d1, d2, .val (.int v3), .val (.int v4), .val (.int v5), d6] [(.int v5)])) t
          refine XS.sipush X.here hx rfl (hb hby dUtf8_sequenceLength_193) ?_
          exact k
        by_cases hc196 : (159 : Int32) < v5
        · rw [if_pos hc196] at hF
          refine own_Goes.via (B := T.setTop (mkF m 234 #[d0, d1, d2, .val (.int v3), .val (.int v4), .val (.int v5), .val (.int (-5 : Int32))] [(.int (-5 : Int32))])) (fun t k => ?_) ?_
          · show Steps p.tables e below (T.setTop (mkF m 196 #[d0, d1, d2, .val (.int v3), .val (.int v4), .val (.int v5), d6] [(.int (159 : Int32)), (.int v5)])) t
            refine XS.icmpNo X.here hx rfl (hb hby dUtf8_sequenceLength_196) rfl (tlt hc196).2.2.2 ?_
            show Steps p.tables e below (T.setTop (mkF m 199 #[d0, d1, d2, .val (.int v3), .val (.int v4), .val (.int v5), d6] [])) t
            refine XS.bipush X.here hx rfl (hb hby dUtf8_sequenceLength_199) ?_
            show Steps p.tables e below (T.setTop (mkF m 201 #[d0, d1, d2, .val (.int v3), .val (.int v4), .val (.int v5), d6] [(.int (-5 : Int32))])) t
            refine XS.istoreS X.here hx rfl (hb hby dUtf8_sequenceLength_201) rfl rfl o_d6 ?_
            show Steps p.tables e below (T.setTop (mkF m 203 #[d0, d1, d2, .val (.int v3), .val (.int v4), .val (.int v5), .val (.int (-5 : Int32))] [])) t
            refine XS.goto X.here hx rfl (pc0 := 203) (pc' := 232) rfl (hb hby dUtf8_sequenceLength_203) (by decide) (by decide) ?_
            show Steps p.tables e below (T.setTop (mkF m 232 #[d0, d1, d2, .val (.int v3), .val (.int v4), .val (.int v5), .val (.int (-5 : Int32))] [])) t
            refine XS.iload X.here hx rfl (hb hby dUtf8_sequenceLength_232) rfl ?_
            exact k
          obtain rfl : (-5 : Int32) = r := Option.some.inj hF
          exact own_retI X hx hret hlk (hb hby dUtf8_sequenceLength_234) eT ⟨rfl, N, rfl⟩ (by decide) (by decide)
        · rw [if_neg hc196] at hF
          refine own_Goes.via (B := T.setTop (mkF m 206 #[d0, d1, d2, .val (.int v3), .val (.int v4), .val (.int v5), d6] [])) (fun t k => ?_) ?_
          · show Steps p.tables e below (T.setTop (mkF m 196 #[d0, d1, d2, .val (.int v3), .val (.int v4), .val (.int v5), d6] [(.int (159 : Int32)), (.int v5)])) t
            refine XS.icmpYes X.here hx rfl (pc0 := 196) (pc' := 206) rfl (hb hby dUtf8_sequenceLength_196) rfl (flt hc196).2.2.2 (by decide) (by decide) ?_
            exact k
          exact b_Utf8_sequenceLength_206 cx a1 X eT N z v3 v4 v5 bs_a1 d0 d1 d2 d6 o_d0 o_d1 o_d2 o_d6 A_a1 g_a1 _ hF
      · rw [if_neg hc188] at hF
        refine own_Goes.via (B := T.setTop (mkF m 206 #[d0, d1, d2, .val (.int v3), .val (.int v4), .val (.int v5), d6] [])) (fun t k => ?_) ?_
        · show Steps p.tables e below (T.setTop (mkF m 188 #[d0, d1, d2, .val (.int v3), .val (.int v4), .val (.int v5), d6] [(.int (237 : Int32)), (.int v3)])) t
          refine XS.icmpYes X.here hx rfl (pc0 := 188) (pc' := 206) rfl (hb hby dUtf8_sequenceLength_188) rfl (feq hc188).2 (by decide) (by decide) ?_
          exact k
        exact b_Utf8_sequenceLength_206 cx a1 X eT N z v3 v4 v5 bs_a1 d0 d1 d2 d6 o_d0 o_d1 o_d2 o_d6 A_a1 g_a1 _ hF
  · rw [if_neg hc166] at hF
    refine own_Goes.via (B := T.setTop (mkF m 188 #[d0, d1, d2, .val (.int v3), .val (.int v4), .val (.int v5), d6] [(.int (237 : Int32)), (.int v3)])) (fun t k => ?_) ?_
    · show Steps p.tables e below (T.setTop (mkF m 166 #[d0, d1, d2, .val (.int v3), .val (.int v4), .val (.int v5), d6] [(.int (240 : Int32)), (.int v3)])) t
      refine XS.icmpYes X.here hx rfl (pc0 := 166) (pc' := 184) rfl (hb hby dUtf8_sequenceLength_166) rfl (feq hc166).2 (by decide) (by decide) ?_
      show Steps p.tables e below (T.setTop (mkF m 184 #[d0, d1, d2, .val (.int v3), .val (.int v4), .val (.int v5), d6] [])) t
      refine XS.iloadN X.here hx rfl (hb hby dUtf8_sequenceLength_184) rfl ?_
      show Steps p.tables e below (T.setTop (mkF m 185 #[d0, d1, d2, .val (.int v3), .val (.int v4), .val (.int v5), d6] [(.int v3)])) t
      refine XS.sipush X.here hx rfl (hb hby dUtf8_sequenceLength_185) ?_
      exact k
    by_cases hc188 : v3 = (237 : Int32)
    · rw [if_pos hc188] at hF
      refine own_Goes.via (B := T.setTop (mkF m 196 #[d0, d1, d2, .val (.int v3), .val (.int v4), .val (.int v5), d6] [(.int (159 : Int32)), (.int v5)])) (fun t k => ?_) ?_
      · show Steps p.tables e below (T.setTop (mkF m 188 #[d0, d1, d2, .val (.int v3), .val (.int v4), .val (.int v5), d6] [(.int (237 : Int32)), (.int v3)])) t
        refine XS.icmpNo X.here hx rfl (hb hby dUtf8_sequenceLength_188) rfl (teq hc188).2 ?_
        show Steps p.tables e below (T.setTop (mkF m 191 #[d0, d1, d2, .val (.int v3), .val (.int v4), .val (.int v5), d6] [])) t
        refine XS.iload X.here hx rfl (hb hby dUtf8_sequenceLength_191) rfl ?_
        show Steps p.tables e below (T.setTop (mkF m 193 #[d0, d1, d2, .val (.int v3), .val (.int v4), .val (.int v5), d6] [(.int v5)])) t
        refine XS.sipush X.here hx rfl (hb hby dUtf8_sequenceLength_193) ?_
        exact k
      by_cases hc196 : (159 : Int32) < v5
      · rw [if_pos hc196] at hF
        refine own_Goes.via (B := T.setTop (mkF m 234 #[d0, d1, d2, .val (.int v3), .val (.int v4), .val (.int v5), .val (.int (-5 : Int32))] [(.int (-5 : Int32))])) (fun t k => ?_) ?_
        · show Steps p.tables e below (T.setTop (mkF m 196 #[d0, d1, d2, .val (.int v3), .val (.int v4), .val (.int v5), d6] [(.int (159 : Int32)), (.int v5)])) t
          refine XS.icmpNo X.here hx rfl (hb hby dUtf8_sequenceLength_196) rfl (tlt hc196).2.2.2 ?_
          show Steps p.tables e below (T.setTop (mkF m 199 #[d0, d1, d2, .val (.int v3), .val (.int v4), .val (.int v5), d6] [])) t
          refine XS.bipush X.here hx rfl (hb hby dUtf8_sequenceLength_199) ?_
          show Steps p.tables e below (T.setTop (mkF m 201 #[d0, d1, d2, .val (.int v3), .val (.int v4), .val (.int v5), d6] [(.int (-5 : Int32))])) t
          refine XS.istoreS X.here hx rfl (hb hby dUtf8_sequenceLength_201) rfl rfl o_d6 ?_
          show Steps p.tables e below (T.setTop (mkF m 203 #[d0, d1, d2, .val (.int v3), .val (.int v4), .val (.int v5), .val (.int (-5 : Int32))] [])) t
          refine XS.goto X.here hx rfl (pc0 := 203) (pc' := 232) rfl (hb hby dUtf8_sequenceLength_203) (by decide) (by decide) ?_
          show Steps p.tables e below (T.setTop (mkF m 232 #[d0, d1, d2, .val (.int v3), .val (.int v4), .val (.int v5), .val (.int (-5 : Int32))] [])) t
          refine XS.iload X.here hx rfl (hb hby dUtf8_sequenceLength_232) rfl ?_
          exact k
        obtain rfl : (-5 : Int32) = r := Option.some.inj hF
        exact own_retI X hx hret hlk (hb hby dUtf8_sequenceLength_234) eT ⟨rfl, N, rfl⟩ (by decide) (by decide)
      · rw [if_neg hc196] at hF
        refine own_Goes.via (B := T.setTop (mkF m 206 #[d0, d1, d2, .val (.int v3), .val (.int v4), .val (.int v5), d6] [])) (fun t k => ?_) ?_
        · show Steps p.tables e below (T.setTop (mkF m 196 #[d0, d1, d2, .val (.int v3), .val (.int v4), .val (.int v5), d6] [(.int (159 : Int32)), (.int v5)])) t
          refine XS.icmpYes X.here hx rfl (pc0 := 196) (pc' := 206) rfl (hb hby dUtf8_sequenceLength_196) rfl (flt hc196).2.2.2 (by decide) (by decide) ?_
          exact k
        exact b_Utf8_sequenceLength_206 cx a1 X eT N z v3 v4 v5 bs_a1 d0 d1 d2 d6 o_d0 o_d1 o_d2 o_d6 A_a1 g_a1 _ hF
    · rw [if_neg hc188] at hF
      refine own_Goes.via (B := T.setTop (mkF m 206 #[d0, d1, d2, .val (.int v3), .val (.int v4), .val (.int v5), d6] [])) (fun t k => ?_) ?_
      · show Steps p.tables e below (T.setTop (mkF m 188 #[d0, d1, d2, .val (.int v3), .val (.int v4), .val (.int v5), d6] [(.int (237 : Int32)), (.int v3)])) t
        refine XS.icmpYes X.here hx rfl (pc0 := 188) (pc' := 206) rfl (hb hby dUtf8_sequenceLength_188) rfl (feq hc188).2 (by decide) (by decide) ?_
        exact k
      exact b_Utf8_sequenceLength_206 cx a1 X eT N z v3 v4 v5 bs_a1 d0 d1 d2 d6 o_d0 o_d1 o_d2 o_d6 A_a1 g_a1 _ hF
set_option maxRecDepth 65536 in
set_option maxHeartbeats 4000000 in
theorem b_Utf8_sequenceLength_96 {p : Program} {l : Launch} {e : Env} {s : State} {m : MethodId} {args : Array Value} {below : List Frame} {meth : Method} {c : Code} {Z : State} {a0 : Array Value} {n0 : Nat} {hE : Heap} (cx : Cx_Utf8_sequenceLength p s m meth c Z a0) (a1 : Addr) (n : Nat) :
    ∀ {T : State} {locs : List Loc} (X : Stand p l e ({ frames := 0, cells := 0, slots := 0, locals := 0 } : Room) s m args below meth c T locs 0 0) (eT : T.heap = hE) (N : Fr n0 locs) (z : n0 ≤ hE.size) (v1 : Int32) (v2 : Int32) (v3 : Int32) (v4 : Int32) (v5 : Int32) (bs_a1 : List Int32) (d6 : Slot) (o_d6 : One d6) (A_a1 : own_Ar Z hE a1 .byte (bs_a1.map Value.int)) (g_a1 : n0 ≤ a1) (r : Int32), f_Utf8_sequenceLength_96 n v1 v2 v3 v4 v5 bs_a1 = some r → own_Goes p e below s (Q_Utf8_sequenceLength Z hE n0 a1 r) 0 0 (T.setTop (mkF m 96 #[.val (.ref a1), .val (.int v1), .val (.int v2), .val (.int v3), .val (.int v4), .val (.int v5), d6] [])) := by
  have cx' := cx
  obtain ⟨hx, hZ, hw, hby, hml, hown, hret, hlk, hnm⟩ := cx'
  induction n with
  | zero =>
    intro T locs X eT N z v1 v2 v3 v4 v5 bs_a1 d6 o_d6 A_a1 g_a1 r hF
    cases hF
  | succ n ih =>
    intro T locs X eT N z v1 v2 v3 v4 v5 bs_a1 d6 o_d6 A_a1 g_a1 r hF
    rw [f_Utf8_sequenceLength_96] at hF
    refine own_Goes.via (B := T.setTop (mkF m 100 #[.val (.ref a1), .val (.int v1), .val (.int v2), .val (.int v3), .val (.int v4), .val (.int v5), d6] [(.int v4), (.int v5)])) (fun t k => ?_) ?_
    · show Steps p.tables e below (T.setTop (mkF m 96 #[.val (.ref a1), .val (.int v1), .val (.int v2), .val (.int v3), .val (.int v4), .val (.int v5), d6] [])) t
      refine XS.iload X.here hx rfl (hb hby dUtf8_sequenceLength_96) rfl ?_
      show Steps p.tables e below (T.setTop (mkF m 98 #[.val (.ref a1), .val (.int v1), .val (.int v2), .val (.int v3), .val (.int v4), .val (.int v5), d6] [(.int v5)])) t
      refine XS.iload X.here hx rfl (hb hby dUtf8_sequenceLength_98) rfl ?_
      exact k
    by_cases hc100 : v5 < v4
    · rw [if_pos hc100] at hF
      refine own_Goes.via (B := T.setTop (mkF m 108 #[.val (.ref a1), .val (.int v1), .val (.int v2), .val (.int v3), .val (.int v4), .val (.int v5), d6] [(.int v2), (.int (v1 + v5))])) (fun t k => ?_) ?_
      · show Steps p.tables e below (T.setTop (mkF m 100 #[.val (.ref a1), .val (.int v1), .val (.int v2), .val (.int v3), .val (.int v4), .val (.int v5), d6] [(.int v4), (.int v5)])) t
        refine XS.icmpNo X.here hx rfl (hb hby dUtf8_sequenceLength_100) rfl (tlt hc100).2.1 ?_
        show Steps p.tables e below (T.setTop (mkF m 103 #[.val (.ref a1), .val (.int v1), .val (.int v2), .val (.int v3), .val (.int v4), .val (.int v5), d6] [])) t
        refine XS.iloadN X.here hx rfl (hb hby dUtf8_sequenceLength_103) rfl ?_
        show Steps p.tables e below (T.setTop (mkF m 104 #[.val (.ref a1), .val (.int v1), .val (.int v2), .val (.int v3), .val (.int v4), .val (.int v5), d6] [(.int v1)])) t
        refine XS.iload X.here hx rfl (hb hby dUtf8_sequenceLength_104) rfl ?_
        show Steps p.tables e below (T.setTop (mkF m 106 #[.val (.ref a1), .val (.int v1), .val (.int v2), .val (.int v3), .val (.int v4), .val (.int v5), d6] [(.int v5), (.int v1)])) t
        refine XS.iadd X.here hx rfl (hb hby dUtf8_sequenceLength_106) rfl ?_
        show Steps p.tables e below (T.setTop (mkF m 107 #[.val (.ref a1), .val (.int v1), .val (.int v2), .val (.int v3), .val (.int v4), .val (.int v5), d6] [(.int (v1 + v5))])) t
        refine XS.iloadN X.here hx rfl (hb hby dUtf8_sequenceLength_107) rfl ?_
        exact k
      by_cases hc108 : (v1 + v5) = v2
      · rw [if_pos hc108] at hF
        refine own_Goes.via (B := T.setTop (mkF m 129 #[.val (.ref a1), .val (.int v1), .val (.int v2), .val (.int v3), .val (.int v4), .val (.int v5), d6] [(.int (-3 : Int32))])) (fun t k => ?_) ?_
        · show Steps p.tables e below (T.setTop (mkF m 108 #[.val (.ref a1), .val (.int v1), .val (.int v2), .val (.int v3), .val (.int v4), .val (.int v5), d6] [(.int v2), (.int (v1 + v5))])) t
          refine XS.icmpYes X.here hx rfl (pc0 := 108) (pc' := 127) rfl (hb hby dUtf8_sequenceLength_108) rfl (teq hc108).1 (by decide) (by decide) ?_
          show Steps p.tables e below (T.setTop (mkF m 127 #[.val (.ref a1), .val (.int v1), .val (.int v2), .val (.int v3), .val (.int v4), .val (.int v5), d6] [])) t
          refine XS.bipush X.here hx rfl (hb hby dUtf8_sequenceLength_127) ?_
          exact k
        obtain rfl : (-3 : Int32) = r := Option.some.inj hF
        exact own_retI X hx hret hlk (hb hby dUtf8_sequenceLength_129) eT ⟨rfl, N, rfl⟩ (by decide) (by decide)
      · rw [if_neg hc108] at hF
        refine own_Goes.via (B := T.setTop (mkF m 116 #[.val (.ref a1), .val (.int v1), .val (.int v2), .val (.int v3), .val (.int v4), .val (.int v5), d6] [(.int (v1 + v5)), (.ref a1)])) (fun t k => ?_) ?_
        · show Steps p.tables e below (T.setTop (mkF m 108 #[.val (.ref a1), .val (.int v1), .val (.int v2), .val (.int v3), .val (.int v4), .val (.int v5), d6] [(.int v2), (.int (v1 + v5))])) t
          refine XS.icmpNo X.here hx rfl (hb hby dUtf8_sequenceLength_108) rfl (feq hc108).1 ?_
          show Steps p.tables e below (T.setTop (mkF m 111 #[.val (.ref a1), .val (.int v1), .val (.int v2), .val (.int v3), .val (.int v4), .val (.int v5), d6] [])) t
          refine XS.aloadN X.here hx rfl (hb hby dUtf8_sequenceLength_111) rfl rfl ?_
          show Steps p.tables e below (T.setTop (mkF m 112 #[.val (.ref a1), .val (.int v1), .val (.int v2), .val (.int v3), .val (.int v4), .val (.int v5), d6] [(.ref a1)])) t
          refine XS.iloadN X.here hx rfl (hb hby dUtf8_sequenceLength_112) rfl ?_
          show Steps p.tables e below (T.setTop (mkF m 113 #[.val (.ref a1), .val (.int v1), .val (.int v2), .val (.int v3), .val (.int v4), .val (.int v5), d6] [(.int v1), (.ref a1)])) t
          refine XS.iload X.here hx rfl (hb hby dUtf8_sequenceLength_113) rfl ?_
          show Steps p.tables e below (T.setTop (mkF m 115 #[.val (.ref a1), .val (.int v1), .val (.int v2), .val (.int v3), .val (.int v4), .val (.int v5), d6] [(.int v5), (.int v1), (.ref a1)])) t
          refine XS.iadd X.here hx rfl (hb hby dUtf8_sequenceLength_115) rfl ?_
          exact k
        obtain ⟨x188, hx188, hF⟩ := own_lt_e hF
        rw [← hx188]
        obtain ⟨hi116, hF⟩ := own_ck_e hF
        refine own_Goes.via (B := T.setTop (mkF m 124 #[.val (.ref a1), .val (.int v1), .val (.int v2), .val (.int v3), .val (.int v4), .val (.int v5), d6] [(.int (128 : Int32)), (.int ((own_rd bs_a1 x188) &&& (192 : Int32)))])) (fun t k => ?_) ?_
        · show Steps p.tables e below (T.setTop (mkF m 116 #[.val (.ref a1), .val (.int v1), .val (.int v2), .val (.int v3), .val (.int v4), .val (.int v5), d6] [(.int x188), (.ref a1)])) t
          refine own_ldB X hx hZ eT A_a1 hi116 rfl (g := (mkF m 116 #[.val (.ref a1), .val (.int v1), .val (.int v2), .val (.int v3), .val (.int v4), .val (.int v5), d6] [(.int x188), (.ref a1)])) rfl rfl (hb hby dUtf8_sequenceLength_116) ?_
          show Steps p.tables e below (T.setTop (mkF m 117 #[.val (.ref a1), .val (.int v1), .val (.int v2), .val (.int v3), .val (.int v4), .val (.int v5), d6] [(.int (own_rd bs_a1 x188))])) t
          refine XS.sipush X.here hx rfl (hb hby dUtf8_sequenceLength_117) ?_
          show Steps p.tables e below (T.setTop (mkF m 120 #[.val (.ref a1), .val (.int v1), .val (.int v2), .val (.int v3), .val (.int v4), .val (.int v5), d6] [(.int (192 : Int32)), (.int (own_rd bs_a1 x188))])) t
          refine XS.iand X.here hx rfl (hb hby dUtf8_sequenceLength_120) rfl ?_
          show Steps p.tables e below (T.setTop (mkF m 121 #[.val (.ref a1), .val (.int v1), .val (.int v2), .val (.int v3), .val (.int v4), .val (.int v5), d6] [(.int ((own_rd bs_a1 x188) &&& (192 : Int32)))])) t
          refine XS.sipush X.here hx rfl (hb hby dUtf8_sequenceLength_121) ?_
          exact k
        by_cases hc124 : ((own_rd bs_a1 x188) &&& (192 : Int32)) = (128 : Int32)
        · rw [if_pos hc124] at hF
          refine own_Goes.via (B := T.setTop (mkF m 133 #[.val (.ref a1), .val (.int v1), .val (.int v2), .val (.int v3), .val (.int v4), .val (.int (v5 + (1 : Int32))), d6] [])) (fun t k => ?_) ?_
          · show Steps p.tables e below (T.setTop (mkF m 124 #[.val (.ref a1), .val (.int v1), .val (.int v2), .val (.int v3), .val (.int v4), .val (.int v5), d6] [(.int (128 : Int32)), (.int ((own_rd bs_a1 x188) &&& (192 : Int32)))])) t
            refine XS.icmpYes X.here hx rfl (pc0 := 124) (pc' := 130) rfl (hb hby dUtf8_sequenceLength_124) rfl (teq hc124).1 (by decide) (by decide) ?_
            show Steps p.tables e below (T.setTop (mkF m 130 #[.val (.ref a1), .val (.int v1), .val (.int v2), .val (.int v3), .val (.int v4), .val (.int v5), d6] [])) t
            refine XS.iinc X.here hx rfl (hb hby dUtf8_sequenceLength_130) rfl (l' := #[.val (.ref a1), .val (.int v1), .val (.int v2), .val (.int v3), .val (.int v4), .val (.int (v5 + (1 : Int32))), d6]) rfl ?_
            exact k
          obtain ⟨x189, hx189, hF⟩ := own_lt_e hF
          rw [← hx189]
          refine own_Goes.via (B := T.setTop (mkF m 96 #[.val (.ref a1), .val (.int v1), .val (.int v2), .val (.int v3), .val (.int v4), .val (.int x189), d6] [])) (fun t k => ?_) ?_
          · show Steps p.tables e below (T.setTop (mkF m 133 #[.val (.ref a1), .val (.int v1), .val (.int v2), .val (.int v3), .val (.int v4), .val (.int x189), d6] [])) t
            refine XS.goto X.here hx rfl (pc0 := 133) (pc' := 96) rfl (hb hby dUtf8_sequenceLength_133) (by decide) (by decide) ?_
            exact k
          exact ih X eT N z v1 v2 v3 v4 x189 bs_a1 d6 o_d6 A_a1 g_a1 _ hF
        · rw [if_neg hc124] at hF
          refine own_Goes.via (B := T.setTop (mkF m 129 #[.val (.ref a1), .val (.int v1), .val (.int v2), .val (.int v3), .val (.int v4), .val (.int v5), d6] [(.int (-3 : Int32))])) (fun t k => ?_) ?_
          · show Steps p.tables e below (T.setTop (mkF m 124 #[.val (.ref a1), .val (.int v1), .val (.int v2), .val (.int v3), .val (.int v4), .val (.int v5), d6] [(.int (128 : Int32)), (.int ((own_rd bs_a1 x188) &&& (192 : Int32)))])) t
            refine XS.icmpNo X.here hx rfl (hb hby dUtf8_sequenceLength_124) rfl (feq hc124).1 ?_
            show Steps p.tables e below (T.setTop (mkF m 127 #[.val (.ref a1), .val (.int v1), .val (.int v2), .val (.int v3), .val (.int v4), .val (.int v5), d6] [])) t
            refine XS.bipush X.here hx rfl (hb hby dUtf8_sequenceLength_127) ?_
            exact k
          obtain rfl : (-3 : Int32) = r := Option.some.inj hF
          exact own_retI X hx hret hlk (hb hby dUtf8_sequenceLength_129) eT ⟨rfl, N, rfl⟩ (by decide) (by decide)
    · rw [if_neg hc100] at hF
      refine own_Goes.via (B := T.setTop (mkF m 140 #[.val (.ref a1), .val (.int v1), .val (.int v2), .val (.int v3), .val (.int v4), .val (.int v5), d6] [(.int (v1 + (1 : Int32))), (.ref a1)])) (fun t k => ?_) ?_
      · show Steps p.tables e below (T.setTop (mkF m 100 #[.val (.ref a1), .val (.int v1), .val (.int v2), .val (.int v3), .val (.int v4), .val (.int v5), d6] [(.int v4), (.int v5)])) t
        refine XS.icmpYes X.here hx rfl (pc0 := 100) (pc' := 136) rfl (hb hby dUtf8_sequenceLength_100) rfl (flt hc100).2.1 (by decide) (by decide) ?_
        show Steps p.tables e below (T.setTop (mkF m 136 #[.val (.ref a1), .val (.int v1), .val (.int v2), .val (.int v3), .val (.int v4), .val (.int v5), d6] [])) t
        refine XS.aloadN X.here hx rfl (hb hby dUtf8_sequenceLength_136) rfl rfl ?_
        show Steps p.tables e below (T.setTop (mkF m 137 #[.val (.ref a1), .val (.int v1), .val (.int v2), .val (.int v3), .val (.int v4), .val (.int v5), d6] [(.ref a1)])) t
        refine XS.iloadN X.here hx rfl (hb hby dUtf8_sequenceLength_137) rfl ?_
        show Steps p.tables e below (T.setTop (mkF m 138 #[.val (.ref a1), .val (.int v1), .val (.int v2), .val (.int v3), .val (.int v4), .val (.int v5), d6] [(.int v1), (.ref a1)])) t
        refine XS.iconst X.here hx rfl (hb hby dUtf8_sequenceLength_138) ?_
        show Steps p.tables e below (T.setTop (mkF m 139 #[.val (.ref a1), .val (.int v1), .val (.int v2), .val (.int v3), .val (.int v4), .val (.int v5), d6] [(.int (1 : Int32)), (.int v1), (.ref a1)])) t
        refine XS.iadd X.here hx rfl (hb hby dUtf8_sequenceLength_139) rfl ?_
        exact k
      obtain ⟨x190, hx190, hF⟩ := own_lt_e hF
      rw [← hx190]
      obtain ⟨hi140, hF⟩ := own_ck_e hF
      refine own_Goes.via (B := T.setTop (mkF m 145 #[.val (.ref a1), .val (.int v1), .val (.int v2), .val (.int v3), .val (.int v4), .val (.int v5), d6] [(.int ((own_rd bs_a1 x190) &&& (255 : Int32)))])) (fun t k => ?_) ?_
      · show Steps p.tables e below (T.setTop (mkF m 140 #[.val (.ref a1), .val (.int v1), .val (.int v2), .val (.int v3), .val (.int v4), .val (.int v5), d6] [(.int x190), (.ref a1)])) t
        refine own_ldB X hx hZ eT A_a1 hi140 rfl (g := (mkF m 140 #[.val (.ref a1), .val (.int v1), .val (.int v2), .val (.int v3), .val (.int v4), .val (.int v5), d6] [(.int x190), (.ref a1)])) rfl rfl (hb hby dUtf8_sequenceLength_140) ?_
        show Steps p.tables e below (T.setTop (mkF m 141 #[.val (.ref a1), .val (.int v1), .val (.int v2), .val (.int v3), .val (.int v4), .val (.int v5), d6] [(.int (own_rd bs_a1 x190))])) t
        refine XS.sipush X.here hx rfl (hb hby dUtf8_sequenceLength_141) ?_
        show Steps p.tables e below (T.setTop (mkF m 144 #[.val (.ref a1), .val (.int v1), .val (.int v2), .val (.int v3), .val (.int v4), .val (.int v5), d6] [(.int (255 : Int32)), (.int (own_rd bs_a1 x190))])) t
        refine XS.iand X.here hx rfl (hb hby dUtf8_sequenceLength_144) rfl ?_
        exact k
      obtain ⟨x191, hx191, hF⟩ := own_lt_e hF
      rw [← hx191]
      refine own_Goes.via (B := T.setTop (mkF m 151 #[.val (.ref a1), .val (.int v1), .val (.int v2), .val (.int v3), .val (.int v4), .val (.int x191), d6] [(.int (224 : Int32)), (.int v3)])) (fun t k => ?_) ?_
      · show Steps p.tables e below (T.setTop (mkF m 145 #[.val (.ref a1), .val (.int v1), .val (.int v2), .val (.int v3), .val (.int v4), .val (.int v5), d6] [(.int x191)])) t
        refine XS.istore X.here hx rfl (hb hby dUtf8_sequenceLength_145) rfl (l' := #[.val (.ref a1), .val (.int v1), .val (.int v2), .val (.int v3), .val (.int v4), .val (.int x191), d6]) rfl ?_
        show Steps p.tables e below (T.setTop (mkF m 147 #[.val (.ref a1), .val (.int v1), .val (.int v2), .val (.int v3), .val (.int v4), .val (.int x191), d6] [])) t
        refine XS.iloadN X.here hx rfl (hb hby dUtf8_sequenceLength_147) rfl ?_
        show Steps p.tables e below (T.setTop (mkF m 148 #[.val (.ref a1), .val (.int v1), .val (.int v2), .val (.int v3), .val (.int v4), .val (.int x191), d6] [(.int v3)])) t
        refine XS.sipush X.here hx rfl (hb hby dUtf8_sequenceLength_148) ?_
        exact k
      by_cases hc151 : v3 = (224 : Int32)
      · rw [if_pos hc151] at hF
        refine own_Goes.via (B := T.setTop (mkF m 159 #[.val (.ref a1), .val (.int v1), .val (.int v2), .val (.int v3), .val (.int v4), .val (.int x191), d6] [(.int (160 : Int32)), (.int x191)])) (fun t k => ?_) ?_
        · show Steps p.tables e below (T.setTop (mkF m 151 #[.val (.ref a1), .val (.int v1), .val (.int v2), .val (.int v3), .val (.int v4), .val (.int x191), d6] [(.int (224 : Int32)), (.int v3)])) t
          refine XS.icmpNo X.here hx rfl (hb hby dUtf8_sequenceLength_151) rfl (teq hc151).2 ?_
          show Steps p.tables e below (T.setTop (mkF m 154 #[.val (.ref a1), .val (.int v1), .val (.int v2), .val (.int v3), .val (.int v4), .val (.int x191), d6] [])) t
          refine XS.iload X.here hx rfl (hb hby dUtf8_sequenceLength_154) rfl ?_
          show Steps p.tables e below (T.setTop (mkF m 156 #[.val (.ref a1), .val (.int v1), .val (.int v2), .val (.int v3), .val (.int v4), .val (.int x191), d6] [(.int x191)])) t
          refine XS.sipush X.here hx rfl (hb hby dUtf8_sequenceLength_156) ?_
          exact k
        by_cases hc159 : x191 < (160 : Int32)
        · rw [if_pos hc159] at hF
          refine own_Goes.via (B := T.setTop (mkF m 234 #[.val (.ref a1), .val (.int v1), .val (.int v2), .val (.int v3), .val (.int v4), .val (.int x191), .val (.int (-4 : Int32))] [(.int (-4 : Int32))])) (fun t k => ?_) ?_
          · show Steps p.tables e below (T.setTop (mkF m 159 #[.val (.ref a1), .val (.int v1), .val (.int v2), .val (.int v3), .val (.int v4), .val (.int x191), d6] [(.int (160 : Int32)), (.int x191)])) t
            refine XS.icmpYes X.here hx rfl (pc0 := 159) (pc' := 177) rfl (hb hby dUtf8_sequenceLength_159) rfl (tlt hc159).1 (by decide) (by decide) ?_
            show Steps p.tables e below (T.setTop (mkF m 177 #[.val (.ref a1), .val (.int v1), .val (.int v2), .val (.int v3), .val (.int v4), .val (.int x191), d6] [])) t
            refine XS.bipush X.here hx rfl (hb hby dUtf8_sequenceLength_177) ?_
            show Steps p.tables e below (T.setTop (mkF m 179 #[.val (.ref a1), .val (.int v1), .val (.int v2), .val (.int v3), .val (.int v4), .val (.int x191), d6] [(.int (-4 : Int32))])) t
            refine XS.istoreS X.here hx rfl (hb hby dUtf8_sequenceLength_179) rfl rfl o_d6 ?_
            show Steps p.tables e below (T.setTop (mkF m 181 #[.val (.ref a1), .val (.int v1), .val (.int v2), .val (.int v3), .val (.int v4), .val (.int x191), .val (.int (-4 : Int32))] [])) t
            refine XS.goto X.here hx rfl (pc0 := 181) (pc' := 232) rfl (hb hby dUtf8_sequenceLength_181) (by decide) (by decide) ?_
            show Steps p.tables e below (T.setTop (mkF m 232 #[.val (.ref a1), .val (.int v1), .val (.int v2), .val (.int v3), .val (.int v4), .val (.int x191), .val (.int (-4 : Int32))] [])) t
            refine XS.iload X.here hx rfl (hb hby dUtf8_sequenceLength_232) rfl ?_
            exact k
          obtain rfl : (-4 : Int32) = r := Option.some.inj hF
          exact own_retI X hx hret hlk (hb hby dUtf8_sequenceLength_234) eT ⟨rfl, N, rfl⟩ (by decide) (by decide)
        · rw [if_neg hc159] at hF
          refine own_Goes.via (B := T.setTop (mkF m 162 #[.val (.ref a1), .val (.int v1), .val (.int v2), .val (.int v3), .val (.int v4), .val (.int x191), d6] [])) (fun t k => ?_) ?_
          · show Steps p.tables e below (T.setTop (mkF m 159 #[.val (.ref a1), .val (.int v1), .val (.int v2), .val (.int v3), .val (.int v4), .val (.int x191), d6] [(.int (160 : Int32)), (.int x191)])) t
            refine XS.icmpNo X.here hx rfl (hb hby dUtf8_sequenceLength_159) rfl (flt hc159).1 ?_
            exact k
          exact b_Utf8_sequenceLength_162 cx a1 X eT N z v3 v4 x191 bs_a1 (.val (.ref a1)) (.val (.int v1)) (.val (.int v2)) d6 (One.val rfl) (One.val rfl) (One.val rfl) o_d6 A_a1 g_a1 _ hF
      · rw [if_neg hc151] at hF
        refine own_Goes.via (B := T.setTop (mkF m 162 #[.val (.ref a1), .val (.int v1), .val (.int v2), .val (.int v3), .val (.int v4), .val (.int x191), d6] [])) (fun t k => ?_) ?_
        · show Steps p.tables e below (T.setTop (mkF m 151 #[.val (.ref a1), .val (.int v1), .val (.int v2), .val (.int v3), .val (.int v4), .val (.int x191), d6] [(.int (224 : Int32)), (.int v3)])) t
          refine XS.icmpYes X.here hx rfl (pc0 := 151) (pc' := 162) rfl (hb hby dUtf8_sequenceLength_151) rfl (feq hc151).2 (by decide) (by decide) ?_
          exact k
        exact b_Utf8_sequenceLength_162 cx a1 X eT N z v3 v4 x191 bs_a1 (.val (.ref a1)) (.val (.int v1)) (.val (.int v2)) d6 (One.val rfl) (One.val rfl) (One.val rfl) o_d6 A_a1 g_a1 _ hF
set_option maxRecDepth 65536 in
set_option maxHeartbeats 4000000 in
theorem b_Utf8_sequenceLength {p : Program} {l : Launch} {e : Env} {s : State} {m : MethodId} {args : Array Value} {below : List Frame} {meth : Method} {c : Code} {Z : State} {a0 : Array Value} {n0 : Nat} {hE : Heap} (cx : Cx_Utf8_sequenceLength p s m meth c Z a0) (a1 : Addr) :
    ∀ {T : State} {locs : List Loc} (X : Stand p l e ({ frames := 0, cells := 0, slots := 0, locals := 0 } : Room) s m args below meth c T locs 0 0) (eT : T.heap = hE) (N : Fr n0 locs) (z : n0 ≤ hE.size) (v1 : Int32) (v2 : Int32) (bs_a1 : List Int32) (A_a1 : own_Ar Z hE a1 .byte (bs_a1.map Value.int)) (g_a1 : n0 ≤ a1) (r : Int32), f_Utf8_sequenceLength v1 v2 bs_a1 = some r → own_Goes p e below s (Q_Utf8_sequenceLength Z hE n0 a1 r) 0 0 (T.setTop (mkF m 0 #[.val (.ref a1), .val (.int v1), .val (.int v2), .unset, .unset, .unset, .unset] [])) := by
  have cx' := cx
  obtain ⟨hx, hZ, hw, hby, hml, hown, hret, hlk, hnm⟩ := cx'
  intro T locs X eT N z v1 v2 bs_a1 A_a1 g_a1 r hF
  unfold f_Utf8_sequenceLength at hF
  refine own_Goes.via (B := T.setTop (mkF m 2 #[.val (.ref a1), .val (.int v1), .val (.int v2), .unset, .unset, .unset, .unset] [(.int v1), (.ref a1)])) (fun t k => ?_) ?_
  · show Steps p.tables e below (T.setTop (mkF m 0 #[.val (.ref a1), .val (.int v1), .val (.int v2), .unset, .unset, .unset, .unset] [])) t
    refine XS.aloadN X.here hx rfl (hb hby dUtf8_sequenceLength_0) rfl rfl ?_
    show Steps p.tables e below (T.setTop (mkF m 1 #[.val (.ref a1), .val (.int v1), .val (.int v2), .unset, .unset, .unset, .unset] [(.ref a1)])) t
    refine XS.iloadN X.here hx rfl (hb hby dUtf8_sequenceLength_1) rfl ?_
    exact k
  obtain ⟨hi2, hF⟩ := own_ck_e hF
  refine own_Goes.via (B := T.setTop (mkF m 7 #[.val (.ref a1), .val (.int v1), .val (.int v2), .unset, .unset, .unset, .unset] [(.int ((own_rd bs_a1 v1) &&& (255 : Int32)))])) (fun t k => ?_) ?_
  · show Steps p.tables e below (T.setTop (mkF m 2 #[.val (.ref a1), .val (.int v1), .val (.int v2), .unset, .unset, .unset, .unset] [(.int v1), (.ref a1)])) t
    refine own_ldB X hx hZ eT A_a1 hi2 rfl (g := (mkF m 2 #[.val (.ref a1), .val (.int v1), .val (.int v2), .unset, .unset, .unset, .unset] [(.int v1), (.ref a1)])) rfl rfl (hb hby dUtf8_sequenceLength_2) ?_
    show Steps p.tables e below (T.setTop (mkF m 3 #[.val (.ref a1), .val (.int v1), .val (.int v2), .unset, .unset, .unset, .unset] [(.int (own_rd bs_a1 v1))])) t
    refine XS.sipush X.here hx rfl (hb hby dUtf8_sequenceLength_3) ?_
    show Steps p.tables e below (T.setTop (mkF m 6 #[.val (.ref a1), .val (.int v1), .val (.int v2), .unset, .unset, .unset, .unset] [(.int (255 : Int32)), (.int (own_rd bs_a1 v1))])) t
    refine XS.iand X.here hx rfl (hb hby dUtf8_sequenceLength_6) rfl ?_
    exact k
  obtain ⟨x192, hx192, hF⟩ := own_lt_e hF
  rw [← hx192]
  refine own_Goes.via (B := T.setTop (mkF m 12 #[.val (.ref a1), .val (.int v1), .val (.int v2), .val (.int x192), .unset, .unset, .unset] [(.int (128 : Int32)), (.int x192)])) (fun t k => ?_) ?_
  · show Steps p.tables e below (T.setTop (mkF m 7 #[.val (.ref a1), .val (.int v1), .val (.int v2), .unset, .unset, .unset, .unset] [(.int x192)])) t
    refine XS.istoreN X.here hx rfl (hb hby dUtf8_sequenceLength_7) rfl (l' := #[.val (.ref a1), .val (.int v1), .val (.int v2), .val (.int x192), .unset, .unset, .unset]) rfl ?_
    show Steps p.tables e below (T.setTop (mkF m 8 #[.val (.ref a1), .val (.int v1), .val (.int v2), .val (.int x192), .unset, .unset, .unset] [])) t
    refine XS.iloadN X.here hx rfl (hb hby dUtf8_sequenceLength_8) rfl ?_
    show Steps p.tables e below (T.setTop (mkF m 9 #[.val (.ref a1), .val (.int v1), .val (.int v2), .val (.int x192), .unset, .unset, .unset] [(.int x192)])) t
    refine XS.sipush X.here hx rfl (hb hby dUtf8_sequenceLength_9) ?_
    exact k
  by_cases hc12 : x192 < (128 : Int32)
  · rw [if_pos hc12] at hF
    refine own_Goes.via (B := T.setTop (mkF m 92 #[.val (.ref a1), .val (.int v1), .val (.int v2), .val (.int x192), .val (.int (1 : Int32)), .unset, .unset] [(.int (1 : Int32))])) (fun t k => ?_) ?_
    · show Steps p.tables e below (T.setTop (mkF m 12 #[.val (.ref a1), .val (.int v1), .val (.int v2), .val (.int x192), .unset, .unset, .unset] [(.int (128 : Int32)), (.int x192)])) t
      refine XS.icmpNo X.here hx rfl (hb hby dUtf8_sequenceLength_12) rfl (tlt hc12).2.1 ?_
      show Steps p.tables e below (T.setTop (mkF m 15 #[.val (.ref a1), .val (.int v1), .val (.int v2), .val (.int x192), .unset, .unset, .unset] [])) t
      refine XS.iconst X.here hx rfl (hb hby dUtf8_sequenceLength_15) ?_
      show Steps p.tables e below (T.setTop (mkF m 16 #[.val (.ref a1), .val (.int v1), .val (.int v2), .val (.int x192), .unset, .unset, .unset] [(.int (1 : Int32))])) t
      refine XS.istore X.here hx rfl (hb hby dUtf8_sequenceLength_16) rfl (l' := #[.val (.ref a1), .val (.int v1), .val (.int v2), .val (.int x192), .val (.int (1 : Int32)), .unset, .unset]) rfl ?_
      show Steps p.tables e below (T.setTop (mkF m 18 #[.val (.ref a1), .val (.int v1), .val (.int v2), .val (.int x192), .val (.int (1 : Int32)), .unset, .unset] [])) t
      refine XS.goto X.here hx rfl (pc0 := 18) (pc' := 84) rfl (hb hby dUtf8_sequenceLength_18) (by decide) (by decide) ?_
      show Steps p.tables e below (T.setTop (mkF m 84 #[.val (.ref a1), .val (.int v1), .val (.int v2), .val (.int x192), .val (.int (1 : Int32)), .unset, .unset] [])) t
      refine XS.iload X.here hx rfl (hb hby dUtf8_sequenceLength_84) rfl ?_
      show Steps p.tables e below (T.setTop (mkF m 86 #[.val (.ref a1), .val (.int v1), .val (.int v2), .val (.int x192), .val (.int (1 : Int32)), .unset, .unset] [(.int (1 : Int32))])) t
      refine XS.iconst X.here hx rfl (hb hby dUtf8_sequenceLength_86) ?_
      show Steps p.tables e below (T.setTop (mkF m 87 #[.val (.ref a1), .val (.int v1), .val (.int v2), .val (.int x192), .val (.int (1 : Int32)), .unset, .unset] [(.int (2 : Int32)), (.int (1 : Int32))])) t
      refine XS.icmpNo X.here hx rfl (hb hby dUtf8_sequenceLength_87) rfl (tlt (by decide : (1 : Int32) < (2 : Int32))).2.1 ?_
      show Steps p.tables e below (T.setTop (mkF m 90 #[.val (.ref a1), .val (.int v1), .val (.int v2), .val (.int x192), .val (.int (1 : Int32)), .unset, .unset] [])) t
      refine XS.iload X.here hx rfl (hb hby dUtf8_sequenceLength_90) rfl ?_
      exact k
    obtain rfl : (1 : Int32) = r := Option.some.inj hF
    exact own_retI X hx hret hlk (hb hby dUtf8_sequenceLength_92) eT ⟨rfl, N, rfl⟩ (by decide) (by decide)
  · rw [if_neg hc12] at hF
    refine own_Goes.via (B := T.setTop (mkF m 25 #[.val (.ref a1), .val (.int v1), .val (.int v2), .val (.int x192), .unset, .unset, .unset] [(.int (192 : Int32)), (.int x192)])) (fun t k => ?_) ?_
    · show Steps p.tables e below (T.setTop (mkF m 12 #[.val (.ref a1), .val (.int v1), .val (.int v2), .val (.int x192), .unset, .unset, .unset] [(.int (128 : Int32)), (.int x192)])) t
      refine XS.icmpYes X.here hx rfl (pc0 := 12) (pc' := 21) rfl (hb hby dUtf8_sequenceLength_12) rfl (flt hc12).2.1 (by decide) (by decide) ?_
      show Steps p.tables e below (T.setTop (mkF m 21 #[.val (.ref a1), .val (.int v1), .val (.int v2), .val (.int x192), .unset, .unset, .unset] [])) t
      refine XS.iloadN X.here hx rfl (hb hby dUtf8_sequenceLength_21) rfl ?_
      show Steps p.tables e below (T.setTop (mkF m 22 #[.val (.ref a1), .val (.int v1), .val (.int v2), .val (.int x192), .unset, .unset, .unset] [(.int x192)])) t
      refine XS.sipush X.here hx rfl (hb hby dUtf8_sequenceLength_22) ?_
      exact k
    by_cases hc25 : x192 < (192 : Int32)
    · rw [if_pos hc25] at hF
      refine own_Goes.via (B := T.setTop (mkF m 92 #[.val (.ref a1), .val (.int v1), .val (.int v2), .val (.int x192), .val (.int (-2 : Int32)), .unset, .unset] [(.int (-2 : Int32))])) (fun t k => ?_) ?_
      · show Steps p.tables e below (T.setTop (mkF m 25 #[.val (.ref a1), .val (.int v1), .val (.int v2), .val (.int x192), .unset, .unset, .unset] [(.int (192 : Int32)), (.int x192)])) t
        refine XS.icmpNo X.here hx rfl (hb hby dUtf8_sequenceLength_25) rfl (tlt hc25).2.1 ?_
        show Steps p.tables e below (T.setTop (mkF m 28 #[.val (.ref a1), .val (.int v1), .val (.int v2), .val (.int x192), .unset, .unset, .unset] [])) t
        refine XS.bipush X.here hx rfl (hb hby dUtf8_sequenceLength_28) ?_
        show Steps p.tables e below (T.setTop (mkF m 30 #[.val (.ref a1), .val (.int v1), .val (.int v2), .val (.int x192), .unset, .unset, .unset] [(.int (-2 : Int32))])) t
        refine XS.istore X.here hx rfl (hb hby dUtf8_sequenceLength_30) rfl (l' := #[.val (.ref a1), .val (.int v1), .val (.int v2), .val (.int x192), .val (.int (-2 : Int32)), .unset, .unset]) rfl ?_
        show Steps p.tables e below (T.setTop (mkF m 32 #[.val (.ref a1), .val (.int v1), .val (.int v2), .val (.int x192), .val (.int (-2 : Int32)), .unset, .unset] [])) t
        refine XS.goto X.here hx rfl (pc0 := 32) (pc' := 84) rfl (hb hby dUtf8_sequenceLength_32) (by decide) (by decide) ?_
        show Steps p.tables e below (T.setTop (mkF m 84 #[.val (.ref a1), .val (.int v1), .val (.int v2), .val (.int x192), .val (.int (-2 : Int32)), .unset, .unset] [])) t
        refine XS.iload X.here hx rfl (hb hby dUtf8_sequenceLength_84) rfl ?_
        show Steps p.tables e below (T.setTop (mkF m 86 #[.val (.ref a1), .val (.int v1), .val (.int v2), .val (.int x192), .val (.int (-2 : Int32)), .unset, .unset] [(.int (-2 : Int32))])) t
        refine XS.iconst X.here hx rfl (hb hby dUtf8_sequenceLength_86) ?_
        show Steps p.tables e below (T.setTop (mkF m 87 #[.val (.ref a1), .val (.int v1), .val (.int v2), .val (.int x192), .val (.int (-2 : Int32)), .unset, .unset] [(.int (2 : Int32)), (.int (-2 : Int32))])) t
        refine XS.icmpNo X.here hx rfl (hb hby dUtf8_sequenceLength_87) rfl (tlt (by decide : (-2 : Int32) < (2 : Int32))).2.1 ?_
        show Steps p.tables e below (T.setTop (mkF m 90 #[.val (.ref a1), .val (.int v1), .val (.int v2), .val (.int x192), .val (.int (-2 : Int32)), .unset, .unset] [])) t
        refine XS.iload X.here hx rfl (hb hby dUtf8_sequenceLength_90) rfl ?_
        exact k
      obtain rfl : (-2 : Int32) = r := Option.some.inj hF
      exact own_retI X hx hret hlk (hb hby dUtf8_sequenceLength_92) eT ⟨rfl, N, rfl⟩ (by decide) (by decide)
    · rw [if_neg hc25] at hF
      refine own_Goes.via (B := T.setTop (mkF m 39 #[.val (.ref a1), .val (.int v1), .val (.int v2), .val (.int x192), .unset, .unset, .unset] [(.int (194 : Int32)), (.int x192)])) (fun t k => ?_) ?_
      · show Steps p.tables e below (T.setTop (mkF m 25 #[.val (.ref a1), .val (.int v1), .val (.int v2), .val (.int x192), .unset, .unset, .unset] [(.int (192 : Int32)), (.int x192)])) t
        refine XS.icmpYes X.here hx rfl (pc0 := 25) (pc' := 35) rfl (hb hby dUtf8_sequenceLength_25) rfl (flt hc25).2.1 (by decide) (by decide) ?_
        show Steps p.tables e below (T.setTop (mkF m 35 #[.val (.ref a1), .val (.int v1), .val (.int v2), .val (.int x192), .unset, .unset, .unset] [])) t
        refine XS.iloadN X.here hx rfl (hb hby dUtf8_sequenceLength_35) rfl ?_
        show Steps p.tables e below (T.setTop (mkF m 36 #[.val (.ref a1), .val (.int v1), .val (.int v2), .val (.int x192), .unset, .unset, .unset] [(.int x192)])) t
        refine XS.sipush X.here hx rfl (hb hby dUtf8_sequenceLength_36) ?_
        exact k
      by_cases hc39 : x192 < (194 : Int32)
      · rw [if_pos hc39] at hF
        refine own_Goes.via (B := T.setTop (mkF m 92 #[.val (.ref a1), .val (.int v1), .val (.int v2), .val (.int x192), .val (.int (-1 : Int32)), .unset, .unset] [(.int (-1 : Int32))])) (fun t k => ?_) ?_
        · show Steps p.tables e below (T.setTop (mkF m 39 #[.val (.ref a1), .val (.int v1), .val (.int v2), .val (.int x192), .unset, .unset, .unset] [(.int (194 : Int32)), (.int x192)])) t
          refine XS.icmpYes X.here hx rfl (pc0 := 39) (pc' := 49) rfl (hb hby dUtf8_sequenceLength_39) rfl (tlt hc39).1 (by decide) (by decide) ?_
          show Steps p.tables e below (T.setTop (mkF m 49 #[.val (.ref a1), .val (.int v1), .val (.int v2), .val (.int x192), .unset, .unset, .unset] [])) t
          refine XS.iconst X.here hx rfl (hb hby dUtf8_sequenceLength_49) ?_
          show Steps p.tables e below (T.setTop (mkF m 50 #[.val (.ref a1), .val (.int v1), .val (.int v2), .val (.int x192), .unset, .unset, .unset] [(.int (-1 : Int32))])) t
          refine XS.istore X.here hx rfl (hb hby dUtf8_sequenceLength_50) rfl (l' := #[.val (.ref a1), .val (.int v1), .val (.int v2), .val (.int x192), .val (.int (-1 : Int32)), .unset, .unset]) rfl ?_
          show Steps p.tables e below (T.setTop (mkF m 52 #[.val (.ref a1), .val (.int v1), .val (.int v2), .val (.int x192), .val (.int (-1 : Int32)), .unset, .unset] [])) t
          refine XS.goto X.here hx rfl (pc0 := 52) (pc' := 84) rfl (hb hby dUtf8_sequenceLength_52) (by decide) (by decide) ?_
          show Steps p.tables e below (T.setTop (mkF m 84 #[.val (.ref a1), .val (.int v1), .val (.int v2), .val (.int x192), .val (.int (-1 : Int32)), .unset, .unset] [])) t
          refine XS.iload X.here hx rfl (hb hby dUtf8_sequenceLength_84) rfl ?_
          show Steps p.tables e below (T.setTop (mkF m 86 #[.val (.ref a1), .val (.int v1), .val (.int v2), .val (.int x192), .val (.int (-1 : Int32)), .unset, .unset] [(.int (-1 : Int32))])) t
          refine XS.iconst X.here hx rfl (hb hby dUtf8_sequenceLength_86) ?_
          show Steps p.tables e below (T.setTop (mkF m 87 #[.val (.ref a1), .val (.int v1), .val (.int v2), .val (.int x192), .val (.int (-1 : Int32)), .unset, .unset] [(.int (2 : Int32)), (.int (-1 : Int32))])) t
          refine XS.icmpNo X.here hx rfl (hb hby dUtf8_sequenceLength_87) rfl (tlt (by decide : (-1 : Int32) < (2 : Int32))).2.1 ?_
          show Steps p.tables e below (T.setTop (mkF m 90 #[.val (.ref a1), .val (.int v1), .val (.int v2), .val (.int x192), .val (.int (-1 : Int32)), .unset, .unset] [])) t
          refine XS.iload X.here hx rfl (hb hby dUtf8_sequenceLength_90) rfl ?_
          exact k
        obtain rfl : (-1 : Int32) = r := Option.some.inj hF
        exact own_retI X hx hret hlk (hb hby dUtf8_sequenceLength_92) eT ⟨rfl, N, rfl⟩ (by decide) (by decide)
      · rw [if_neg hc39] at hF
        refine own_Goes.via (B := T.setTop (mkF m 46 #[.val (.ref a1), .val (.int v1), .val (.int v2), .val (.int x192), .unset, .unset, .unset] [(.int (244 : Int32)), (.int x192)])) (fun t k => ?_) ?_
        · show Steps p.tables e below (T.setTop (mkF m 39 #[.val (.ref a1), .val (.int v1), .val (.int v2), .val (.int x192), .unset, .unset, .unset] [(.int (194 : Int32)), (.int x192)])) t
          refine XS.icmpNo X.here hx rfl (hb hby dUtf8_sequenceLength_39) rfl (flt hc39).1 ?_
          show Steps p.tables e below (T.setTop (mkF m 42 #[.val (.ref a1), .val (.int v1), .val (.int v2), .val (.int x192), .unset, .unset, .unset] [])) t
          refine XS.iloadN X.here hx rfl (hb hby dUtf8_sequenceLength_42) rfl ?_
          show Steps p.tables e below (T.setTop (mkF m 43 #[.val (.ref a1), .val (.int v1), .val (.int v2), .val (.int x192), .unset, .unset, .unset] [(.int x192)])) t
          refine XS.sipush X.here hx rfl (hb hby dUtf8_sequenceLength_43) ?_
          exact k
        by_cases hc46 : (244 : Int32) < x192
        · rw [if_pos hc46] at hF
          refine own_Goes.via (B := T.setTop (mkF m 92 #[.val (.ref a1), .val (.int v1), .val (.int v2), .val (.int x192), .val (.int (-1 : Int32)), .unset, .unset] [(.int (-1 : Int32))])) (fun t k => ?_) ?_
          · show Steps p.tables e below (T.setTop (mkF m 46 #[.val (.ref a1), .val (.int v1), .val (.int v2), .val (.int x192), .unset, .unset, .unset] [(.int (244 : Int32)), (.int x192)])) t
            refine XS.icmpNo X.here hx rfl (hb hby dUtf8_sequenceLength_46) rfl (tlt hc46).2.2.2 ?_
            show Steps p.tables e below (T.setTop (mkF m 49 #[.val (.ref a1), .val (.int v1), .val (.int v2), .val (.int x192), .unset, .unset, .unset] [])) t
            refine XS.iconst X.here hx rfl (hb hby dUtf8_sequenceLength_49) ?_
            show Steps p.tables e below (T.setTop (mkF m 50 #[.val (.ref a1), .val (.int v1), .val (.int v2), .val (.int x192), .unset, .unset, .unset] [(.int (-1 : Int32))])) t
            refine XS.istore X.here hx rfl (hb hby dUtf8_sequenceLength_50) rfl (l' := #[.val (.ref a1), .val (.int v1), .val (.int v2), .val (.int x192), .val (.int (-1 : Int32)), .unset, .unset]) rfl ?_
            show Steps p.tables e below (T.setTop (mkF m 52 #[.val (.ref a1), .val (.int v1), .val (.int v2), .val (.int x192), .val (.int (-1 : Int32)), .unset, .unset] [])) t
            refine XS.goto X.here hx rfl (pc0 := 52) (pc' := 84) rfl (hb hby dUtf8_sequenceLength_52) (by decide) (by decide) ?_
            show Steps p.tables e below (T.setTop (mkF m 84 #[.val (.ref a1), .val (.int v1), .val (.int v2), .val (.int x192), .val (.int (-1 : Int32)), .unset, .unset] [])) t
            refine XS.iload X.here hx rfl (hb hby dUtf8_sequenceLength_84) rfl ?_
            show Steps p.tables e below (T.setTop (mkF m 86 #[.val (.ref a1), .val (.int v1), .val (.int v2), .val (.int x192), .val (.int (-1 : Int32)), .unset, .unset] [(.int (-1 : Int32))])) t
            refine XS.iconst X.here hx rfl (hb hby dUtf8_sequenceLength_86) ?_
            show Steps p.tables e below (T.setTop (mkF m 87 #[.val (.ref a1), .val (.int v1), .val (.int v2), .val (.int x192), .val (.int (-1 : Int32)), .unset, .unset] [(.int (2 : Int32)), (.int (-1 : Int32))])) t
            refine XS.icmpNo X.here hx rfl (hb hby dUtf8_sequenceLength_87) rfl (tlt (by decide : (-1 : Int32) < (2 : Int32))).2.1 ?_
            show Steps p.tables e below (T.setTop (mkF m 90 #[.val (.ref a1), .val (.int v1), .val (.int v2), .val (.int x192), .val (.int (-1 : Int32)), .unset, .unset] [])) t
            refine XS.iload X.here hx rfl (hb hby dUtf8_sequenceLength_90) rfl ?_
            exact k
          obtain rfl : (-1 : Int32) = r := Option.some.inj hF
          exact own_retI X hx hret hlk (hb hby dUtf8_sequenceLength_92) eT ⟨rfl, N, rfl⟩ (by decide) (by decide)
        · rw [if_neg hc46] at hF
          refine own_Goes.via (B := T.setTop (mkF m 59 #[.val (.ref a1), .val (.int v1), .val (.int v2), .val (.int x192), .unset, .unset, .unset] [(.int (224 : Int32)), (.int x192)])) (fun t k => ?_) ?_
          · show Steps p.tables e below (T.setTop (mkF m 46 #[.val (.ref a1), .val (.int v1), .val (.int v2), .val (.int x192), .unset, .unset, .unset] [(.int (244 : Int32)), (.int x192)])) t
            refine XS.icmpYes X.here hx rfl (pc0 := 46) (pc' := 55) rfl (hb hby dUtf8_sequenceLength_46) rfl (flt hc46).2.2.2 (by decide) (by decide) ?_
            show Steps p.tables e below (T.setTop (mkF m 55 #[.val (.ref a1), .val (.int v1), .val (.int v2), .val (.int x192), .unset, .unset, .unset] [])) t
            refine XS.iloadN X.here hx rfl (hb hby dUtf8_sequenceLength_55) rfl ?_
            show Steps p.tables e below (T.setTop (mkF m 56 #[.val (.ref a1), .val (.int v1), .val (.int v2), .val (.int x192), .unset, .unset, .unset] [(.int x192)])) t
            refine XS.sipush X.here hx rfl (hb hby dUtf8_sequenceLength_56) ?_
            exact k
          by_cases hc59 : x192 < (224 : Int32)
          · rw [if_pos hc59] at hF
            refine own_Goes.via (B := T.setTop (mkF m 96 #[.val (.ref a1), .val (.int v1), .val (.int v2), .val (.int x192), .val (.int (2 : Int32)), .val (.int (1 : Int32)), .unset] [])) (fun t k => ?_) ?_
            · show Steps p.tables e below (T.setTop (mkF m 59 #[.val (.ref a1), .val (.int v1), .val (.int v2), .val (.int x192), .unset, .unset, .unset] [(.int (224 : Int32)), (.int x192)])) t
              refine XS.icmpNo X.here hx rfl (hb hby dUtf8_sequenceLength_59) rfl (tlt hc59).2.1 ?_
              show Steps p.tables e below (T.setTop (mkF m 62 #[.val (.ref a1), .val (.int v1), .val (.int v2), .val (.int x192), .unset, .unset, .unset] [])) t
              refine XS.iconst X.here hx rfl (hb hby dUtf8_sequenceLength_62) ?_
              show Steps p.tables e below (T.setTop (mkF m 63 #[.val (.ref a1), .val (.int v1), .val (.int v2), .val (.int x192), .unset, .unset, .unset] [(.int (2 : Int32))])) t
              refine XS.istore X.here hx rfl (hb hby dUtf8_sequenceLength_63) rfl (l' := #[.val (.ref a1), .val (.int v1), .val (.int v2), .val (.int x192), .val (.int (2 : Int32)), .unset, .unset]) rfl ?_
              show Steps p.tables e below (T.setTop (mkF m 65 #[.val (.ref a1), .val (.int v1), .val (.int v2), .val (.int x192), .val (.int (2 : Int32)), .unset, .unset] [])) t
              refine XS.goto X.here hx rfl (pc0 := 65) (pc' := 84) rfl (hb hby dUtf8_sequenceLength_65) (by decide) (by decide) ?_
              show Steps p.tables e below (T.setTop (mkF m 84 #[.val (.ref a1), .val (.int v1), .val (.int v2), .val (.int x192), .val (.int (2 : Int32)), .unset, .unset] [])) t
              refine XS.iload X.here hx rfl (hb hby dUtf8_sequenceLength_84) rfl ?_
              show Steps p.tables e below (T.setTop (mkF m 86 #[.val (.ref a1), .val (.int v1), .val (.int v2), .val (.int x192), .val (.int (2 : Int32)), .unset, .unset] [(.int (2 : Int32))])) t
              refine XS.iconst X.here hx rfl (hb hby dUtf8_sequenceLength_86) ?_
              show Steps p.tables e below (T.setTop (mkF m 87 #[.val (.ref a1), .val (.int v1), .val (.int v2), .val (.int x192), .val (.int (2 : Int32)), .unset, .unset] [(.int (2 : Int32)), (.int (2 : Int32))])) t
              refine XS.icmpYes X.here hx rfl (pc0 := 87) (pc' := 93) rfl (hb hby dUtf8_sequenceLength_87) rfl (flt (by decide : ¬ (2 : Int32) < (2 : Int32))).2.1 (by decide) (by decide) ?_
              show Steps p.tables e below (T.setTop (mkF m 93 #[.val (.ref a1), .val (.int v1), .val (.int v2), .val (.int x192), .val (.int (2 : Int32)), .unset, .unset] [])) t
              refine XS.iconst X.here hx rfl (hb hby dUtf8_sequenceLength_93) ?_
              show Steps p.tables e below (T.setTop (mkF m 94 #[.val (.ref a1), .val (.int v1), .val (.int v2), .val (.int x192), .val (.int (2 : Int32)), .unset, .unset] [(.int (1 : Int32))])) t
              refine XS.istore X.here hx rfl (hb hby dUtf8_sequenceLength_94) rfl (l' := #[.val (.ref a1), .val (.int v1), .val (.int v2), .val (.int x192), .val (.int (2 : Int32)), .val (.int (1 : Int32)), .unset]) rfl ?_
              exact k
            exact b_Utf8_sequenceLength_96 cx a1 _ X eT N z v1 v2 x192 (2 : Int32) (1 : Int32) bs_a1 (.unset) One.u A_a1 g_a1 _ hF
          · rw [if_neg hc59] at hF
            refine own_Goes.via (B := T.setTop (mkF m 72 #[.val (.ref a1), .val (.int v1), .val (.int v2), .val (.int x192), .unset, .unset, .unset] [(.int (240 : Int32)), (.int x192)])) (fun t k => ?_) ?_
            · show Steps p.tables e below (T.setTop (mkF m 59 #[.val (.ref a1), .val (.int v1), .val (.int v2), .val (.int x192), .unset, .unset, .unset] [(.int (224 : Int32)), (.int x192)])) t
              refine XS.icmpYes X.here hx rfl (pc0 := 59) (pc' := 68) rfl (hb hby dUtf8_sequenceLength_59) rfl (flt hc59).2.1 (by decide) (by decide) ?_
              show Steps p.tables e below (T.setTop (mkF m 68 #[.val (.ref a1), .val (.int v1), .val (.int v2), .val (.int x192), .unset, .unset, .unset] [])) t
              refine XS.iloadN X.here hx rfl (hb hby dUtf8_sequenceLength_68) rfl ?_
              show Steps p.tables e below (T.setTop (mkF m 69 #[.val (.ref a1), .val (.int v1), .val (.int v2), .val (.int x192), .unset, .unset, .unset] [(.int x192)])) t
              refine XS.sipush X.here hx rfl (hb hby dUtf8_sequenceLength_69) ?_
              exact k
            by_cases hc72 : x192 < (240 : Int32)
            · rw [if_pos hc72] at hF
              refine own_Goes.via (B := T.setTop (mkF m 96 #[.val (.ref a1), .val (.int v1), .val (.int v2), .val (.int x192), .val (.int (3 : Int32)), .val (.int (1 : Int32)), .unset] [])) (fun t k => ?_) ?_
              · show Steps p.tables e below (T.setTop (mkF m 72 #[.val (.ref a1), .val (.int v1), .val (.int v2), .val (.int x192), .unset, .unset, .unset] [(.int (240 : Int32)), (.int x192)])) t
                refine XS.icmpNo X.here hx rfl (hb hby dUtf8_sequenceLength_72) rfl (tlt hc72).2.1 ?_
                show Steps p.tables e below (T.setTop (mkF m 75 #[.val (.ref a1), .val (.int v1), .val (.int v2), .val (.int x192), .unset, .unset, .unset] [])) t
                refine XS.iconst X.here hx rfl (hb hby dUtf8_sequenceLength_75) ?_
                show Steps p.tables e below (T.setTop (mkF m 76 #[.val (.ref a1), .val (.int v1), .val (.int v2), .val (.int x192), .unset, .unset, .unset] [(.int (3 : Int32))])) t
                refine XS.istore X.here hx rfl (hb hby dUtf8_sequenceLength_76) rfl (l' := #[.val (.ref a1), .val (.int v1), .val (.int v2), .val (.int x192), .val (.int (3 : Int32)), .unset, .unset]) rfl ?_
                show Steps p.tables e below (T.setTop (mkF m 78 #[.val (.ref a1), .val (.int v1), .val (.int v2), .val (.int x192), .val (.int (3 : Int32)), .unset, .unset] [])) t
                refine XS.goto X.here hx rfl (pc0 := 78) (pc' := 84) rfl (hb hby dUtf8_sequenceLength_78) (by decide) (by decide) ?_
                show Steps p.tables e below (T.setTop (mkF m 84 #[.val (.ref a1), .val (.int v1), .val (.int v2), .val (.int x192), .val (.int (3 : Int32)), .unset, .unset] [])) t
                refine XS.iload X.here hx rfl (hb hby dUtf8_sequenceLength_84) rfl ?_
                show Steps p.tables e below (T.setTop (mkF m 86 #[.val (.ref a1), .val (.int v1), .val (.int v2), .val (.int x192), .val (.int (3 : Int32)), .unset, .unset] [(.int (3 : Int32))])) t
                refine XS.iconst X.here hx rfl (hb hby dUtf8_sequenceLength_86) ?_
                show Steps p.tables e below (T.setTop (mkF m 87 #[.val (.ref a1), .val (.int v1), .val (.int v2), .val (.int x192), .val (.int (3 : Int32)), .unset, .unset] [(.int (2 : Int32)), (.int (3 : Int32))])) t
                refine XS.icmpYes X.here hx rfl (pc0 := 87) (pc' := 93) rfl (hb hby dUtf8_sequenceLength_87) rfl (flt (by decide : ¬ (3 : Int32) < (2 : Int32))).2.1 (by decide) (by decide) ?_
                show Steps p.tables e below (T.setTop (mkF m 93 #[.val (.ref a1), .val (.int v1), .val (.int v2), .val (.int x192), .val (.int (3 : Int32)), .unset, .unset] [])) t
                refine XS.iconst X.here hx rfl (hb hby dUtf8_sequenceLength_93) ?_
                show Steps p.tables e below (T.setTop (mkF m 94 #[.val (.ref a1), .val (.int v1), .val (.int v2), .val (.int x192), .val (.int (3 : Int32)), .unset, .unset] [(.int (1 : Int32))])) t
                refine XS.istore X.here hx rfl (hb hby dUtf8_sequenceLength_94) rfl (l' := #[.val (.ref a1), .val (.int v1), .val (.int v2), .val (.int x192), .val (.int (3 : Int32)), .val (.int (1 : Int32)), .unset]) rfl ?_
                exact k
              exact b_Utf8_sequenceLength_96 cx a1 _ X eT N z v1 v2 x192 (3 : Int32) (1 : Int32) bs_a1 (.unset) One.u A_a1 g_a1 _ hF
            · rw [if_neg hc72] at hF
              refine own_Goes.via (B := T.setTop (mkF m 96 #[.val (.ref a1), .val (.int v1), .val (.int v2), .val (.int x192), .val (.int (4 : Int32)), .val (.int (1 : Int32)), .unset] [])) (fun t k => ?_) ?_
              · show Steps p.tables e below (T.setTop (mkF m 72 #[.val (.ref a1), .val (.int v1), .val (.int v2), .val (.int x192), .unset, .unset, .unset] [(.int (240 : Int32)), (.int x192)])) t
                refine XS.icmpYes X.here hx rfl (pc0 := 72) (pc' := 81) rfl (hb hby dUtf8_sequenceLength_72) rfl (flt hc72).2.1 (by decide) (by decide) ?_
                show Steps p.tables e below (T.setTop (mkF m 81 #[.val (.ref a1), .val (.int v1), .val (.int v2), .val (.int x192), .unset, .unset, .unset] [])) t
                refine XS.iconst X.here hx rfl (hb hby dUtf8_sequenceLength_81) ?_
                show Steps p.tables e below (T.setTop (mkF m 82 #[.val (.ref a1), .val (.int v1), .val (.int v2), .val (.int x192), .unset, .unset, .unset] [(.int (4 : Int32))])) t
                refine XS.istore X.here hx rfl (hb hby dUtf8_sequenceLength_82) rfl (l' := #[.val (.ref a1), .val (.int v1), .val (.int v2), .val (.int x192), .val (.int (4 : Int32)), .unset, .unset]) rfl ?_
                show Steps p.tables e below (T.setTop (mkF m 84 #[.val (.ref a1), .val (.int v1), .val (.int v2), .val (.int x192), .val (.int (4 : Int32)), .unset, .unset] [])) t
                refine XS.iload X.here hx rfl (hb hby dUtf8_sequenceLength_84) rfl ?_
                show Steps p.tables e below (T.setTop (mkF m 86 #[.val (.ref a1), .val (.int v1), .val (.int v2), .val (.int x192), .val (.int (4 : Int32)), .unset, .unset] [(.int (4 : Int32))])) t
                refine XS.iconst X.here hx rfl (hb hby dUtf8_sequenceLength_86) ?_
                show Steps p.tables e below (T.setTop (mkF m 87 #[.val (.ref a1), .val (.int v1), .val (.int v2), .val (.int x192), .val (.int (4 : Int32)), .unset, .unset] [(.int (2 : Int32)), (.int (4 : Int32))])) t
                refine XS.icmpYes X.here hx rfl (pc0 := 87) (pc' := 93) rfl (hb hby dUtf8_sequenceLength_87) rfl (flt (by decide : ¬ (4 : Int32) < (2 : Int32))).2.1 (by decide) (by decide) ?_
                show Steps p.tables e below (T.setTop (mkF m 93 #[.val (.ref a1), .val (.int v1), .val (.int v2), .val (.int x192), .val (.int (4 : Int32)), .unset, .unset] [])) t
                refine XS.iconst X.here hx rfl (hb hby dUtf8_sequenceLength_93) ?_
                show Steps p.tables e below (T.setTop (mkF m 94 #[.val (.ref a1), .val (.int v1), .val (.int v2), .val (.int x192), .val (.int (4 : Int32)), .unset, .unset] [(.int (1 : Int32))])) t
                refine XS.istore X.here hx rfl (hb hby dUtf8_sequenceLength_94) rfl (l' := #[.val (.ref a1), .val (.int v1), .val (.int v2), .val (.int x192), .val (.int (4 : Int32)), .val (.int (1 : Int32)), .unset]) rfl ?_
                exact k
              exact b_Utf8_sequenceLength_96 cx a1 _ X eT N z v1 v2 x192 (4 : Int32) (1 : Int32) bs_a1 (.unset) One.u A_a1 g_a1 _ hF
theorem ef_Utf8_sequenceLength (m : MethodId) (x0 : Addr) (x1 : Int32) (x2 : Int32) : entryFrame m #[(.ref x0), (.int x1), (.int x2)] 7 = mkF m 0 #[.val (.ref x0), .val (.int x1), .val (.int x2), .unset, .unset, .unset, .unset] [] := by first | (simp [entryFrame, mkF, argsToLocals, Value.category]; done) | rfl
set_option maxRecDepth 65536 in
set_option maxHeartbeats 4000000 in
theorem rm_Utf8_sequenceLength (l : Launch) (Z : State) (a0 : Array Value) (hw : ∀ d ∈ tables_1, d.before a0 Z = true) (ws : List Jvm.Cond) (hE : Heap) (n0 : Nat) (z : n0 ≤ hE.size) (a1 : Addr) (v1 : Int32) (v2 : Int32) (bs_a1 : List Int32) (A_a1 : own_Ar Z hE a1 .byte (bs_a1.map Value.int)) (g_a1 : n0 ≤ a1) (r : Int32) (hF : (f_Utf8_sequenceLength v1 v2 bs_a1) = some r) :
    MetFree l (⟨"com/example/binary64/binary64/Utf8", "sequenceLength", "([BII)I"⟩ : MethodName) (head1 (Jvm.Cond.code (⟨"com/example/binary64/binary64/Utf8", "sequenceLength", "([BII)I"⟩ : MethodName) prog_50_method_2_code 7 (some .int) :: ws) ({ frames := 0, cells := 0, slots := 0, locals := 0 } : Room)) (fun a U => a = #[(.ref a1), (.int v1), (.int v2)] ∧ Z.Warmed39 U.vm ∧ U.heap = hE) (fun _ _ _ _ _ => True) (fun _ U o U' => ∃ v L, o = .returned v ∧ (Q_Utf8_sequenceLength Z hE n0 a1 r) v U'.heap L ∧ FrameEnd U o U' L ({ frames := 0, cells := 0, slots := 0, locals := 0 } : Room).cells ({ frames := 0, cells := 0, slots := 0, locals := 0 } : Room).slots) := by
  refine MetFree.of_bodySF (plainFor_of_name pn_com_example_binary64_binary64_Utf8) hisR ?_
  intro p e s m args below meth c s₁ Bd hml0 hP hK
  obtain ⟨rfl, hZ, hh⟩ := hP
  have X0 : Stand p l e ({ frames := 0, cells := 0, slots := 0, locals := 0 } : Room) s m #[(.ref a1), (.int v1), (.int v2)] below meth c s₁ [] 0 0 := Stand.of_body Bd
  have e0 : s₁.heap = hE := by rw [← hh, Bd.state]; rfl
  have cx : Cx_Utf8_sequenceLength p s m meth c Z a0 := ⟨Bd.exec, hZ, hw, Bd.bytes, hml0, findClass_of_methodNamed Bd.named, Bd.returns, Bd.notSynchronized, (name_of_methodNamed Bd.named Bd.method).1⟩
  show own_Goes p e below s (Q_Utf8_sequenceLength Z hE n0 a1 r) ({ frames := 0, cells := 0, slots := 0, locals := 0 } : Room).cells ({ frames := 0, cells := 0, slots := 0, locals := 0 } : Room).slots (s₁.setTop (entryFrame m #[(.ref a1), (.int v1), (.int v2)] 7))
  rw [ef_Utf8_sequenceLength]
  exact b_Utf8_sequenceLength cx a1 X0 e0 (Fr.nil n0) z v1 v2 bs_a1 A_a1 g_a1 _ hF
/-! com/example/binary64/binary64/Utf8.codePoint:([BII)I -/
def f_Utf8_codePoint_26 : Nat → Int32 → Int32 → Int32 → Int32 → (List Int32) → Option (Int32)
  | 0, _, _, _, _, _ => none
  | n + 1, v1, v2, v3, v4, bs_a1 =>
    if v4 < v2 then
      own_lt (v1 + v4) fun x208 =>
      own_ck (own_inb bs_a1 x208) <|
      own_lt ((v3 <<< ((6 : Int32) &&& 31)) ||| ((own_rd bs_a1 x208) &&& (63 : Int32))) fun x209 =>
      own_lt (v4 + (1 : Int32)) fun x210 =>
      (f_Utf8_codePoint_26 n) v1 v2 x209 x210 bs_a1
    else
      some v3
def f_Utf8_codePoint (v1 : Int32) (v2 : Int32) (bs_a1 : List Int32) : Option (Int32) :=
  if v2 = (1 : Int32) then
    own_ck (own_inb bs_a1 v1) <|
    own_lt (own_rd bs_a1 v1) fun x212 =>
    (f_Utf8_codePoint_26 100 v1 v2 x212 (1 : Int32) bs_a1)
  else
    own_ck (own_inb bs_a1 v1) <|
    own_lt ((own_rd bs_a1 v1) &&& ((255 : Int32) >>> ((v2 + (1 : Int32)) &&& 31))) fun x213 =>
    (f_Utf8_codePoint_26 100 v1 v2 x213 (1 : Int32) bs_a1)
def Q_Utf8_codePoint (Z : State) (hE : Heap) (n0 : Nat) (a1 : Addr) (r : Int32) (v : Option Value) (h : Heap) (L : List Loc) : Prop := v = some (.int r) ∧ Fr n0 L ∧ h = hE
def Cx_Utf8_codePoint (p : Program) (s : State) (m : MethodId) (meth : Method) (c : Code) (Z : State) (a0 : Array Value) : Prop := p.tables.exec = Jvm.exec ∧ Z.Warmed39 s.vm ∧ (∀ d ∈ tables_1, d.before a0 Z = true) ∧ c.code = prog_50_method_3_code ∧ c.maxLocals = 5 ∧ s.vm.findClass "com/example/binary64/binary64/Utf8" = some m.cls ∧ meth.sig.returnType = some .int ∧ meth.locks = false ∧ meth.name = "codePoint"
set_option maxRecDepth 65536 in
set_option maxHeartbeats 4000000 in
theorem b_Utf8_codePoint_26 {p : Program} {l : Launch} {e : Env} {s : State} {m : MethodId} {args : Array Value} {below : List Frame} {meth : Method} {c : Code} {Z : State} {a0 : Array Value} {n0 : Nat} {hE : Heap} (cx : Cx_Utf8_codePoint p s m meth c Z a0) (a1 : Addr) (n : Nat) :
    ∀ {T : State} {locs : List Loc} (X : Stand p l e ({ frames := 0, cells := 0, slots := 0, locals := 0 } : Room) s m args below meth c T locs 0 0) (eT : T.heap = hE) (N : Fr n0 locs) (z : n0 ≤ hE.size) (v1 : Int32) (v2 : Int32) (v3 : Int32) (v4 : Int32) (bs_a1 : List Int32) (A_a1 : own_Ar Z hE a1 .byte (bs_a1.map Value.int)) (g_a1 : n0 ≤ a1) (r : Int32), f_Utf8_codePoint_26 n v1 v2 v3 v4 bs_a1 = some r → own_Goes p e below s (Q_Utf8_codePoint Z hE n0 a1 r) 0 0 (T.setTop (mkF m 26 #[.val (.ref a1), .val (.int v1), .val (.int v2), .val (.int v3), .val (.int v4)] [])) := by
  have cx' := cx
  obtain ⟨hx, hZ, hw, hby, hml, hown, hret, hlk, hnm⟩ := cx'
  induction n with
  | zero =>
    intro T locs X eT N z v1 v2 v3 v4 bs_a1 A_a1 g_a1 r hF
    cases hF
  | succ n ih =>
    intro T locs X eT N z v1 v2 v3 v4 bs_a1 A_a1 g_a1 r hF
    rw [f_Utf8_codePoint_26] at hF
    refine own_Goes.via (B := T.setTop (mkF m 29 #[.val (.ref a1), .val (.int v1), .val (.int v2), .val (.int v3), .val (.int v4)] [(.int v2), (.int v4)])) (fun t k => ?_) ?_
    · show Steps p.tables e below (T.setTop (mkF m 26 #[.val (.ref a1), .val (.int v1), .val (.int v2), .val (.int v3), .val (.int v4)] [])) t
      refine XS.iload X.here hx rfl (hb hby dUtf8_codePoint_26) rfl ?_
      show Steps p.tables e below (T.setTop (mkF m 28 #[.val (.ref a1), .val (.int v1), .val (.int v2), .val (.int v3), .val (.int v4)] [(.int v4)])) t
      refine XS.iloadN X.here hx rfl (hb hby dUtf8_codePoint_28) rfl ?_
      exact k
    by_cases hc29 : v4 < v2
    · rw [if_pos hc29] at hF
      refine own_Goes.via (B := T.setTop (mkF m 41 #[.val (.ref a1), .val (.int v1), .val (.int v2), .val (.int v3), .val (.int v4)] [(.int (v1 + v4)), (.ref a1), (.int (v3 <<< ((6 : Int32) &&& 31)))])) (fun t k => ?_) ?_
      · show Steps p.tables e below (T.setTop (mkF m 29 #[.val (.ref a1), .val (.int v1), .val (.int v2), .val (.int v3), .val (.int v4)] [(.int v2), (.int v4)])) t
        refine XS.icmpNo X.here hx rfl (hb hby dUtf8_codePoint_29) rfl (tlt hc29).2.1 ?_
        show Steps p.tables e below (T.setTop (mkF m 32 #[.val (.ref a1), .val (.int v1), .val (.int v2), .val (.int v3), .val (.int v4)] [])) t
        refine XS.iloadN X.here hx rfl (hb hby dUtf8_codePoint_32) rfl ?_
        show Steps p.tables e below (T.setTop (mkF m 33 #[.val (.ref a1), .val (.int v1), .val (.int v2), .val (.int v3), .val (.int v4)] [(.int v3)])) t
        refine XS.bipush X.here hx rfl (hb hby dUtf8_codePoint_33) ?_
        show Steps p.tables e below (T.setTop (mkF m 35 #[.val (.ref a1), .val (.int v1), .val (.int v2), .val (.int v3), .val (.int v4)] [(.int (6 : Int32)), (.int v3)])) t
        refine XS.ishl X.here hx rfl (hb hby dUtf8_codePoint_35) rfl ?_
        show Steps p.tables e below (T.setTop (mkF m 36 #[.val (.ref a1), .val (.int v1), .val (.int v2), .val (.int v3), .val (.int v4)] [(.int (v3 <<< ((6 : Int32) &&& 31)))])) t
        refine XS.aloadN X.here hx rfl (hb hby dUtf8_codePoint_36) rfl rfl ?_
        show Steps p.tables e below (T.setTop (mkF m 37 #[.val (.ref a1), .val (.int v1), .val (.int v2), .val (.int v3), .val (.int v4)] [(.ref a1), (.int (v3 <<< ((6 : Int32) &&& 31)))])) t
        refine XS.iloadN X.here hx rfl (hb hby dUtf8_codePoint_37) rfl ?_
        show Steps p.tables e below (T.setTop (mkF m 38 #[.val (.ref a1), .val (.int v1), .val (.int v2), .val (.int v3), .val (.int v4)] [(.int v1), (.ref a1), (.int (v3 <<< ((6 : Int32) &&& 31)))])) t
        refine XS.iload X.here hx rfl (hb hby dUtf8_codePoint_38) rfl ?_
        show Steps p.tables e below (T.setTop (mkF m 40 #[.val (.ref a1), .val (.int v1), .val (.int v2), .val (.int v3), .val (.int v4)] [(.int v4), (.int v1), (.ref a1), (.int (v3 <<< ((6 : Int32) &&& 31)))])) t
        refine XS.iadd X.here hx rfl (hb hby dUtf8_codePoint_40) rfl ?_
        exact k
      obtain ⟨x208, hx208, hF⟩ := own_lt_e hF
      rw [← hx208]
      obtain ⟨hi41, hF⟩ := own_ck_e hF
      refine own_Goes.via (B := T.setTop (mkF m 46 #[.val (.ref a1), .val (.int v1), .val (.int v2), .val (.int v3), .val (.int v4)] [(.int ((v3 <<< ((6 : Int32) &&& 31)) ||| ((own_rd bs_a1 x208) &&& (63 : Int32))))])) (fun t k => ?_) ?_
      · show Steps p.tables e below (T.setTop (mkF m 41 #[.val (.ref a1), .val (.int v1), .val (.int v2), .val (.int v3), .val (.int v4)] [(.int x208), (.ref a1), (.int (v3 <<< ((6 : Int32) &&& 31)))])) t
        refine own_ldB X hx hZ eT A_a1 hi41 rfl (g := (mkF m 41 #[.val (.ref a1), .val (.int v1), .val (.int v2), .val (.int v3), .val (.int v4)] [(.int x208), (.ref a1), (.int (v3 <<< ((6 : Int32) &&& 31)))])) rfl rfl (hb hby dUtf8_codePoint_41) ?_
        show Steps p.tables e below (T.setTop (mkF m 42 #[.val (.ref a1), .val (.int v1), .val (.int v2), .val (.int v3), .val (.int v4)] [(.int (own_rd bs_a1 x208)), (.int (v3 <<< ((6 : Int32) &&& 31)))])) t
        refine XS.bipush X.here hx rfl (hb hby dUtf8_codePoint_42) ?_
        show Steps p.tables e below (T.setTop (mkF m 44 #[.val (.ref a1), .val (.int v1), .val (.int v2), .val (.int v3), .val (.int v4)] [(.int (63 : Int32)), (.int (own_rd bs_a1 x208)), (.int (v3 <<< ((6 : Int32) &&& 31)))])) t
        refine XS.iand X.here hx rfl (hb hby dUtf8_codePoint_44) rfl ?_
        show Steps p.tables e below (T.setTop (mkF m 45 #[.val (.ref a1), .val (.int v1), .val (.int v2), .val (.int v3), .val (.int v4)] [(.int ((own_rd bs_a1 x208) &&& (63 : Int32))), (.int (v3 <<< ((6 : Int32) &&& 31)))])) t
        refine XS.ior X.here hx rfl (hb hby dUtf8_codePoint_45) rfl ?_
        exact k
      obtain ⟨x209, hx209, hF⟩ := own_lt_e hF
      rw [← hx209]
      refine own_Goes.via (B := T.setTop (mkF m 50 #[.val (.ref a1), .val (.int v1), .val (.int v2), .val (.int x209), .val (.int (v4 + (1 : Int32)))] [])) (fun t k => ?_) ?_
      · show Steps p.tables e below (T.setTop (mkF m 46 #[.val (.ref a1), .val (.int v1), .val (.int v2), .val (.int v3), .val (.int v4)] [(.int x209)])) t
        refine XS.istoreN X.here hx rfl (hb hby dUtf8_codePoint_46) rfl (l' := #[.val (.ref a1), .val (.int v1), .val (.int v2), .val (.int x209), .val (.int v4)]) rfl ?_
        show Steps p.tables e below (T.setTop (mkF m 47 #[.val (.ref a1), .val (.int v1), .val (.int v2), .val (.int x209), .val (.int v4)] [])) t
        refine XS.iinc X.here hx rfl (hb hby dUtf8_codePoint_47) rfl (l' := #[.val (.ref a1), .val (.int v1), .val (.int v2), .val (.int x209), .val (.int (v4 + (1 : Int32)))]) rfl ?_
        exact k
      obtain ⟨x210, hx210, hF⟩ := own_lt_e hF
      rw [← hx210]
      refine own_Goes.via (B := T.setTop (mkF m 26 #[.val (.ref a1), .val (.int v1), .val (.int v2), .val (.int x209), .val (.int x210)] [])) (fun t k => ?_) ?_
      · show Steps p.tables e below (T.setTop (mkF m 50 #[.val (.ref a1), .val (.int v1), .val (.int v2), .val (.int x209), .val (.int x210)] [])) t
        refine XS.goto X.here hx rfl (pc0 := 50) (pc' := 26) rfl (hb hby dUtf8_codePoint_50) (by decide) (by decide) ?_
        exact k
      exact ih X eT N z v1 v2 x209 x210 bs_a1 A_a1 g_a1 _ hF
    · rw [if_neg hc29] at hF
      refine own_Goes.via (B := T.setTop (mkF m 54 #[.val (.ref a1), .val (.int v1), .val (.int v2), .val (.int v3), .val (.int v4)] [(.int v3)])) (fun t k => ?_) ?_
      · show Steps p.tables e below (T.setTop (mkF m 29 #[.val (.ref a1), .val (.int v1), .val (.int v2), .val (.int v3), .val (.int v4)] [(.int v2), (.int v4)])) t
        refine XS.icmpYes X.here hx rfl (pc0 := 29) (pc' := 53) rfl (hb hby dUtf8_codePoint_29) rfl (flt hc29).2.1 (by decide) (by decide) ?_
        show Steps p.tables e below (T.setTop (mkF m 53 #[.val (.ref a1), .val (.int v1), .val (.int v2), .val (.int v3), .val (.int v4)] [])) t
        refine XS.iloadN X.here hx rfl (hb hby dUtf8_codePoint_53) rfl ?_
        exact k
      obtain rfl : v3 = r := Option.some.inj hF
      exact own_retI X hx hret hlk (hb hby dUtf8_codePoint_54) eT ⟨rfl, N, rfl⟩ (by decide) (by decide)
set_option maxRecDepth 65536 in
set_option maxHeartbeats 4000000 in
theorem b_Utf8_codePoint {p : Program} {l : Launch} {e : Env} {s : State} {m : MethodId} {args : Array Value} {below : List Frame} {meth : Method} {c : Code} {Z : State} {a0 : Array Value} {n0 : Nat} {hE : Heap} (cx : Cx_Utf8_codePoint p s m meth c Z a0) (a1 : Addr) :
    ∀ {T : State} {locs : List Loc} (X : Stand p l e ({ frames := 0, cells := 0, slots := 0, locals := 0 } : Room) s m args below meth c T locs 0 0) (eT : T.heap = hE) (N : Fr n0 locs) (z : n0 ≤ hE.size) (v1 : Int32) (v2 : Int32) (bs_a1 : List Int32) (A_a1 : own_Ar Z hE a1 .byte (bs_a1.map Value.int)) (g_a1 : n0 ≤ a1) (r : Int32), f_Utf8_codePoint v1 v2 bs_a1 = some r → own_Goes p e below s (Q_Utf8_codePoint Z hE n0 a1 r) 0 0 (T.setTop (mkF m 0 #[.val (.ref a1), .val (.int v1), .val (.int v2), .unset, .unset] [])) := by
  have cx' := cx
  obtain ⟨hx, hZ, hw, hby, hml, hown, hret, hlk, hnm⟩ := cx'
  intro T locs X eT N z v1 v2 bs_a1 A_a1 g_a1 r hF
  unfold f_Utf8_codePoint at hF
  refine own_Goes.via (B := T.setTop (mkF m 2 #[.val (.ref a1), .val (.int v1), .val (.int v2), .unset, .unset] [(.int (1 : Int32)), (.int v2)])) (fun t k => ?_) ?_
  · show Steps p.tables e below (T.setTop (mkF m 0 #[.val (.ref a1), .val (.int v1), .val (.int v2), .unset, .unset] [])) t
    refine XS.iloadN X.here hx rfl (hb hby dUtf8_codePoint_0) rfl ?_
    show Steps p.tables e below (T.setTop (mkF m 1 #[.val (.ref a1), .val (.int v1), .val (.int v2), .unset, .unset] [(.int v2)])) t
    refine XS.iconst X.here hx rfl (hb hby dUtf8_codePoint_1) ?_
    exact k
  by_cases hc2 : v2 = (1 : Int32)
  · rw [if_pos hc2] at hF
    refine own_Goes.via (B := T.setTop (mkF m 7 #[.val (.ref a1), .val (.int v1), .val (.int v2), .unset, .unset] [(.int v1), (.ref a1)])) (fun t k => ?_) ?_
    · show Steps p.tables e below (T.setTop (mkF m 2 #[.val (.ref a1), .val (.int v1), .val (.int v2), .unset, .unset] [(.int (1 : Int32)), (.int v2)])) t
      refine XS.icmpNo X.here hx rfl (hb hby dUtf8_codePoint_2) rfl (teq hc2).2 ?_
      show Steps p.tables e below (T.setTop (mkF m 5 #[.val (.ref a1), .val (.int v1), .val (.int v2), .unset, .unset] [])) t
      refine XS.aloadN X.here hx rfl (hb hby dUtf8_codePoint_5) rfl rfl ?_
      show Steps p.tables e below (T.setTop (mkF m 6 #[.val (.ref a1), .val (.int v1), .val (.int v2), .unset, .unset] [(.ref a1)])) t
      refine XS.iloadN X.here hx rfl (hb hby dUtf8_codePoint_6) rfl ?_
      exact k
    obtain ⟨hi7, hF⟩ := own_ck_e hF
    refine own_Goes.via (B := T.setTop (mkF m 22 #[.val (.ref a1), .val (.int v1), .val (.int v2), .unset, .unset] [(.int (own_rd bs_a1 v1))])) (fun t k => ?_) ?_
    · show Steps p.tables e below (T.setTop (mkF m 7 #[.val (.ref a1), .val (.int v1), .val (.int v2), .unset, .unset] [(.int v1), (.ref a1)])) t
      refine own_ldB X hx hZ eT A_a1 hi7 rfl (g := (mkF m 7 #[.val (.ref a1), .val (.int v1), .val (.int v2), .unset, .unset] [(.int v1), (.ref a1)])) rfl rfl (hb hby dUtf8_codePoint_7) ?_
      show Steps p.tables e below (T.setTop (mkF m 8 #[.val (.ref a1), .val (.int v1), .val (.int v2), .unset, .unset] [(.int (own_rd bs_a1 v1))])) t
      refine XS.goto X.here hx rfl (pc0 := 8) (pc' := 22) rfl (hb hby dUtf8_codePoint_8) (by decide) (by decide) ?_
      exact k
    obtain ⟨x212, hx212, hF⟩ := own_lt_e hF
    rw [← hx212]
    refine own_Goes.via (B := T.setTop (mkF m 26 #[.val (.ref a1), .val (.int v1), .val (.int v2), .val (.int x212), .val (.int (1 : Int32))] [])) (fun t k => ?_) ?_
    · show Steps p.tables e below (T.setTop (mkF m 22 #[.val (.ref a1), .val (.int v1), .val (.int v2), .unset, .unset] [(.int x212)])) t
      refine XS.istoreN X.here hx rfl (hb hby dUtf8_codePoint_22) rfl (l' := #[.val (.ref a1), .val (.int v1), .val (.int v2), .val (.int x212), .unset]) rfl ?_
      show Steps p.tables e below (T.setTop (mkF m 23 #[.val (.ref a1), .val (.int v1), .val (.int v2), .val (.int x212), .unset] [])) t
      refine XS.iconst X.here hx rfl (hb hby dUtf8_codePoint_23) ?_
      show Steps p.tables e below (T.setTop (mkF m 24 #[.val (.ref a1), .val (.int v1), .val (.int v2), .val (.int x212), .unset] [(.int (1 : Int32))])) t
      refine XS.istore X.here hx rfl (hb hby dUtf8_codePoint_24) rfl (l' := #[.val (.ref a1), .val (.int v1), .val (.int v2), .val (.int x212), .val (.int (1 : Int32))]) rfl ?_
      exact k
    exact b_Utf8_codePoint_26 cx a1 _ X eT N z v1 v2 x212 (1 : Int32) bs_a1 A_a1 g_a1 _ hF
  · rw [if_neg hc2] at hF
    refine own_Goes.via (B := T.setTop (mkF m 13 #[.val (.ref a1), .val (.int v1), .val (.int v2), .unset, .unset] [(.int v1), (.ref a1)])) (fun t k => ?_) ?_
    · show Steps p.tables e below (T.setTop (mkF m 2 #[.val (.ref a1), .val (.int v1), .val (.int v2), .unset, .unset] [(.int (1 : Int32)), (.int v2)])) t
      refine XS.icmpYes X.here hx rfl (pc0 := 2) (pc' := 11) rfl (hb hby dUtf8_codePoint_2) rfl (feq hc2).2 (by decide) (by decide) ?_
      show Steps p.tables e below (T.setTop (mkF m 11 #[.val (.ref a1), .val (.int v1), .val (.int v2), .unset, .unset] [])) t
      refine XS.aloadN X.here hx rfl (hb hby dUtf8_codePoint_11) rfl rfl ?_
      show Steps p.tables e below (T.setTop (mkF m 12 #[.val (.ref a1), .val (.int v1), .val (.int v2), .unset, .unset] [(.ref a1)])) t
      refine XS.iloadN X.here hx rfl (hb hby dUtf8_codePoint_12) rfl ?_
      exact k
    obtain ⟨hi13, hF⟩ := own_ck_e hF
    refine own_Goes.via (B := T.setTop (mkF m 22 #[.val (.ref a1), .val (.int v1), .val (.int v2), .unset, .unset] [(.int ((own_rd bs_a1 v1) &&& ((255 : Int32) >>> ((v2 + (1 : Int32)) &&& 31))))])) (fun t k => ?_) ?_
    · show Steps p.tables e below (T.setTop (mkF m 13 #[.val (.ref a1), .val (.int v1), .val (.int v2), .unset, .unset] [(.int v1), (.ref a1)])) t
      refine own_ldB X hx hZ eT A_a1 hi13 rfl (g := (mkF m 13 #[.val (.ref a1), .val (.int v1), .val (.int v2), .unset, .unset] [(.int v1), (.ref a1)])) rfl rfl (hb hby dUtf8_codePoint_13) ?_
      show Steps p.tables e below (T.setTop (mkF m 14 #[.val (.ref a1), .val (.int v1), .val (.int v2), .unset, .unset] [(.int (own_rd bs_a1 v1))])) t
      refine XS.sipush X.here hx rfl (hb hby dUtf8_codePoint_14) ?_
      show Steps p.tables e below (T.setTop (mkF m 17 #[.val (.ref a1), .val (.int v1), .val (.int v2), .unset, .unset] [(.int (255 : Int32)), (.int (own_rd bs_a1 v1))])) t
      refine XS.iloadN X.here hx rfl (hb hby dUtf8_codePoint_17) rfl ?_
      show Steps p.tables e below (T.setTop (mkF m 18 #[.val (.ref a1), .val (.int v1), .val (.int v2), .unset, .unset] [(.int v2), (.int (255 : Int32)), (.int (own_rd bs_a1 v1))])) t
      refine XS.iconst X.here hx rfl (hb hby dUtf8_codePoint_18) ?_
      show Steps p.tables e below (T.setTop (mkF m 19 #[.val (.ref a1), .val (.int v1), .val (.int v2), .unset, .unset] [(.int (1 : Int32)), (.int v2), (.int (255 : Int32)), (.int (own_rd bs_a1 v1))])) t
      refine XS.iadd X.here hx rfl (hb hby dUtf8_codePoint_19) rfl ?_
      show Steps p.tables e below (T.setTop (mkF m 20 #[.val (.ref a1), .val (.int v1), .val (.int v2), .unset, .unset] [(.int (v2 + (1 : Int32))), (.int (255 : Int32)), (.int (own_rd bs_a1 v1))])) t
      refine XS.ishr X.here hx rfl (hb hby dUtf8_codePoint_20) rfl ?_
      show Steps p.tables e below (T.setTop (mkF m 21 #[.val (.ref a1), .val (.int v1), .val (.int v2), .unset, .unset] [(.int ((255 : Int32) >>> ((v2 + (1 : Int32)) &&& 31))), (.int (own_rd bs_a1 v1))])) t
      refine XS.iand X.here hx rfl (hb hby dUtf8_codePoint_21) rfl ?_
      exact k
    obtain ⟨x213, hx213, hF⟩ := own_lt_e hF
    rw [← hx213]
    refine own_Goes.via (B := T.setTop (mkF m 26 #[.val (.ref a1), .val (.int v1), .val (.int v2), .val (.int x213), .val (.int (1 : Int32))] [])) (fun t k => ?_) ?_
    · show Steps p.tables e below (T.setTop (mkF m 22 #[.val (.ref a1), .val (.int v1), .val (.int v2), .unset, .unset] [(.int x213)])) t
      refine XS.istoreN X.here hx rfl (hb hby dUtf8_codePoint_22) rfl (l' := #[.val (.ref a1), .val (.int v1), .val (.int v2), .val (.int x213), .unset]) rfl ?_
      show Steps p.tables e below (T.setTop (mkF m 23 #[.val (.ref a1), .val (.int v1), .val (.int v2), .val (.int x213), .unset] [])) t
      refine XS.iconst X.here hx rfl (hb hby dUtf8_codePoint_23) ?_
      show Steps p.tables e below (T.setTop (mkF m 24 #[.val (.ref a1), .val (.int v1), .val (.int v2), .val (.int x213), .unset] [(.int (1 : Int32))])) t
      refine XS.istore X.here hx rfl (hb hby dUtf8_codePoint_24) rfl (l' := #[.val (.ref a1), .val (.int v1), .val (.int v2), .val (.int x213), .val (.int (1 : Int32))]) rfl ?_
      exact k
    exact b_Utf8_codePoint_26 cx a1 _ X eT N z v1 v2 x213 (1 : Int32) bs_a1 A_a1 g_a1 _ hF
theorem ef_Utf8_codePoint (m : MethodId) (x0 : Addr) (x1 : Int32) (x2 : Int32) : entryFrame m #[(.ref x0), (.int x1), (.int x2)] 5 = mkF m 0 #[.val (.ref x0), .val (.int x1), .val (.int x2), .unset, .unset] [] := by first | (simp [entryFrame, mkF, argsToLocals, Value.category]; done) | rfl
set_option maxRecDepth 65536 in
set_option maxHeartbeats 4000000 in
theorem rm_Utf8_codePoint (l : Launch) (Z : State) (a0 : Array Value) (hw : ∀ d ∈ tables_1, d.before a0 Z = true) (ws : List Jvm.Cond) (hE : Heap) (n0 : Nat) (z : n0 ≤ hE.size) (a1 : Addr) (v1 : Int32) (v2 : Int32) (bs_a1 : List Int32) (A_a1 : own_Ar Z hE a1 .byte (bs_a1.map Value.int)) (g_a1 : n0 ≤ a1) (r : Int32) (hF : (f_Utf8_codePoint v1 v2 bs_a1) = some r) :
    MetFree l (⟨"com/example/binary64/binary64/Utf8", "codePoint", "([BII)I"⟩ : MethodName) (head1 (Jvm.Cond.code (⟨"com/example/binary64/binary64/Utf8", "codePoint", "([BII)I"⟩ : MethodName) prog_50_method_3_code 5 (some .int) :: ws) ({ frames := 0, cells := 0, slots := 0, locals := 0 } : Room)) (fun a U => a = #[(.ref a1), (.int v1), (.int v2)] ∧ Z.Warmed39 U.vm ∧ U.heap = hE) (fun _ _ _ _ _ => True) (fun _ U o U' => ∃ v L, o = .returned v ∧ (Q_Utf8_codePoint Z hE n0 a1 r) v U'.heap L ∧ FrameEnd U o U' L ({ frames := 0, cells := 0, slots := 0, locals := 0 } : Room).cells ({ frames := 0, cells := 0, slots := 0, locals := 0 } : Room).slots) := by
  refine MetFree.of_bodySF (plainFor_of_name pn_com_example_binary64_binary64_Utf8) hisR ?_
  intro p e s m args below meth c s₁ Bd hml0 hP hK
  obtain ⟨rfl, hZ, hh⟩ := hP
  have X0 : Stand p l e ({ frames := 0, cells := 0, slots := 0, locals := 0 } : Room) s m #[(.ref a1), (.int v1), (.int v2)] below meth c s₁ [] 0 0 := Stand.of_body Bd
  have e0 : s₁.heap = hE := by rw [← hh, Bd.state]; rfl
  have cx : Cx_Utf8_codePoint p s m meth c Z a0 := ⟨Bd.exec, hZ, hw, Bd.bytes, hml0, findClass_of_methodNamed Bd.named, Bd.returns, Bd.notSynchronized, (name_of_methodNamed Bd.named Bd.method).1⟩
  show own_Goes p e below s (Q_Utf8_codePoint Z hE n0 a1 r) ({ frames := 0, cells := 0, slots := 0, locals := 0 } : Room).cells ({ frames := 0, cells := 0, slots := 0, locals := 0 } : Room).slots (s₁.setTop (entryFrame m #[(.ref a1), (.int v1), (.int v2)] 5))
  rw [ef_Utf8_codePoint]
  exact b_Utf8_codePoint cx a1 X0 e0 (Fr.nil n0) z v1 v2 bs_a1 A_a1 g_a1 _ hF
/-! com/example/binary64/binary64/Utf8WritePinLaw.law:(III)Z -/
def f_law_281 (v3 : Int32) (v4 : Int32) (v7 : Int32) (v10 : Int32) (t0 : Int32) (bs_b1 : List Int32) : Option (Int32) :=
  if v10 = (0 : Int32) then
    some (0 : Int32)
  else
    if t0 = (0 : Int32) then
      some (0 : Int32)
    else
      own_bd (f_Utf8_codePoint v4 v7 bs_b1) fun r253 =>
      if r253 = v3 then
        some (1 : Int32)
      else
        some (0 : Int32)
def f_law_236 (v3 : Int32) (v4 : Int32) (v7 : Int32) (v8 : Int32) (v9 : Int32) (t0 : Int32) (bs_b1 : List Int32) : Option (Int32) :=
  own_bd (f_Utf8_sequenceLength v4 v9 bs_b1) fun r254 =>
  if v8 = (0 : Int32) then
    if r254 = v7 then
      (f_law_281 v3 v4 v7 t0 (1 : Int32) bs_b1)
    else
      (f_law_281 v3 v4 v7 t0 (0 : Int32) bs_b1)
  else
    if r254 = (-5 : Int32) then
      (f_law_281 v3 v4 v7 t0 (1 : Int32) bs_b1)
    else
      (f_law_281 v3 v4 v7 t0 (0 : Int32) bs_b1)
def f_law_117 (v3 : Int32) (v4 : Int32) (v5 : Int32) (v7 : Int32) (t0 : Int32) (bs_b1 : List Int32) : Option (Int32) :=
  own_bd (f_Utf8_write v3 v4 bs_b1) fun r260 =>
  if r260.1 = (v4 + v7) then
    own_bd (f_Utf8WritePinLaw_outside (0 : Int32) v4 r260.1 v5 r260.2) fun r261 =>
    if r261 = (0 : Int32) then
      (f_law_236 v3 v4 v7 t0 r260.1 (0 : Int32) r260.2)
    else
      own_bd (f_Utf8WritePinLaw_outside (1 : Int32) v4 r260.1 v5 r260.2) fun r262 =>
      if r262 = (0 : Int32) then
        (f_law_236 v3 v4 v7 t0 r260.1 (0 : Int32) r260.2)
      else
        own_bd (f_Utf8WritePinLaw_outside (2 : Int32) v4 r260.1 v5 r260.2) fun r263 =>
        if r263 = (0 : Int32) then
          (f_law_236 v3 v4 v7 t0 r260.1 (0 : Int32) r260.2)
        else
          own_bd (f_Utf8WritePinLaw_outside (3 : Int32) v4 r260.1 v5 r260.2) fun r264 =>
          if r264 = (0 : Int32) then
            (f_law_236 v3 v4 v7 t0 r260.1 (0 : Int32) r260.2)
          else
            own_bd (f_Utf8WritePinLaw_outside (4 : Int32) v4 r260.1 v5 r260.2) fun r265 =>
            if r265 = (0 : Int32) then
              (f_law_236 v3 v4 v7 t0 r260.1 (0 : Int32) r260.2)
            else
              own_bd (f_Utf8WritePinLaw_outside (5 : Int32) v4 r260.1 v5 r260.2) fun r266 =>
              if r266 = (0 : Int32) then
                (f_law_236 v3 v4 v7 t0 r260.1 (0 : Int32) r260.2)
              else
                (f_law_236 v3 v4 v7 t0 r260.1 (1 : Int32) r260.2)
  else
    some (0 : Int32)
def f_law (v0 : Int32) (v1 : Int32) (v2 : Int32) : Option (Int32) :=
  own_lt ((v0 &&& (2097151 : Int32)) % (1114112 : Int32)) fun x267 =>
  own_lt (v1 &&& (1 : Int32)) fun x268 =>
  own_lt (v2.toInt8.toInt32) fun x269 =>
  if x267 < (128 : Int32) then
    if x267 < (55296 : Int32) then
      (f_law_117 x267 x268 x269 (1 : Int32) (0 : Int32) ([(x269.toInt8.toInt32), (x269.toInt8.toInt32), (x269.toInt8.toInt32), (x269.toInt8.toInt32), (x269.toInt8.toInt32), (x269.toInt8.toInt32)] : List Int32))
    else
      if (57343 : Int32) < x267 then
        (f_law_117 x267 x268 x269 (1 : Int32) (0 : Int32) ([(x269.toInt8.toInt32), (x269.toInt8.toInt32), (x269.toInt8.toInt32), (x269.toInt8.toInt32), (x269.toInt8.toInt32), (x269.toInt8.toInt32)] : List Int32))
      else
        (f_law_117 x267 x268 x269 (1 : Int32) (1 : Int32) ([(x269.toInt8.toInt32), (x269.toInt8.toInt32), (x269.toInt8.toInt32), (x269.toInt8.toInt32), (x269.toInt8.toInt32), (x269.toInt8.toInt32)] : List Int32))
  else
    if x267 < (2048 : Int32) then
      if x267 < (55296 : Int32) then
        (f_law_117 x267 x268 x269 (2 : Int32) (0 : Int32) ([(x269.toInt8.toInt32), (x269.toInt8.toInt32), (x269.toInt8.toInt32), (x269.toInt8.toInt32), (x269.toInt8.toInt32), (x269.toInt8.toInt32)] : List Int32))
      else
        if (57343 : Int32) < x267 then
          (f_law_117 x267 x268 x269 (2 : Int32) (0 : Int32) ([(x269.toInt8.toInt32), (x269.toInt8.toInt32), (x269.toInt8.toInt32), (x269.toInt8.toInt32), (x269.toInt8.toInt32), (x269.toInt8.toInt32)] : List Int32))
        else
          (f_law_117 x267 x268 x269 (2 : Int32) (1 : Int32) ([(x269.toInt8.toInt32), (x269.toInt8.toInt32), (x269.toInt8.toInt32), (x269.toInt8.toInt32), (x269.toInt8.toInt32), (x269.toInt8.toInt32)] : List Int32))
    else
      if x267 < (65536 : Int32) then
        if x267 < (55296 : Int32) then
          (f_law_117 x267 x268 x269 (3 : Int32) (0 : Int32) ([(x269.toInt8.toInt32), (x269.toInt8.toInt32), (x269.toInt8.toInt32), (x269.toInt8.toInt32), (x269.toInt8.toInt32), (x269.toInt8.toInt32)] : List Int32))
        else
          if (57343 : Int32) < x267 then
            (f_law_117 x267 x268 x269 (3 : Int32) (0 : Int32) ([(x269.toInt8.toInt32), (x269.toInt8.toInt32), (x269.toInt8.toInt32), (x269.toInt8.toInt32), (x269.toInt8.toInt32), (x269.toInt8.toInt32)] : List Int32))
          else
            (f_law_117 x267 x268 x269 (3 : Int32) (1 : Int32) ([(x269.toInt8.toInt32), (x269.toInt8.toInt32), (x269.toInt8.toInt32), (x269.toInt8.toInt32), (x269.toInt8.toInt32), (x269.toInt8.toInt32)] : List Int32))
      else
        if x267 < (55296 : Int32) then
          (f_law_117 x267 x268 x269 (4 : Int32) (0 : Int32) ([(x269.toInt8.toInt32), (x269.toInt8.toInt32), (x269.toInt8.toInt32), (x269.toInt8.toInt32), (x269.toInt8.toInt32), (x269.toInt8.toInt32)] : List Int32))
        else
          if (57343 : Int32) < x267 then
            (f_law_117 x267 x268 x269 (4 : Int32) (0 : Int32) ([(x269.toInt8.toInt32), (x269.toInt8.toInt32), (x269.toInt8.toInt32), (x269.toInt8.toInt32), (x269.toInt8.toInt32), (x269.toInt8.toInt32)] : List Int32))
          else
            (f_law_117 x267 x268 x269 (4 : Int32) (1 : Int32) ([(x269.toInt8.toInt32), (x269.toInt8.toInt32), (x269.toInt8.toInt32), (x269.toInt8.toInt32), (x269.toInt8.toInt32), (x269.toInt8.toInt32)] : List Int32))
def Q_law (Z : State) (hE : Heap) (n0 : Nat)  (r : Int32) (v : Option Value) (h : Heap) (L : List Loc) : Prop := v = some (.int r) ∧ Fr n0 L ∧ Keep hE h []
def Cx_law (p : Program) (s : State) (m : MethodId) (meth : Method) (c : Code) (Z : State) (a0 : Array Value) : Prop := p.tables.exec = Jvm.exec ∧ Z.Warmed39 s.vm ∧ (∀ d ∈ tables_1, d.before a0 Z = true) ∧ c.code = code ∧ c.maxLocals = 13 ∧ s.vm.findClass "com/example/binary64/binary64/Utf8WritePinLaw" = some m.cls ∧ meth.sig.returnType = some .boolean ∧ meth.locks = false ∧ meth.name = "law"
set_option maxRecDepth 65536 in
set_option maxHeartbeats 4000000 in
theorem b_law_281 {p : Program} {l : Launch} {e : Env} {s : State} {m : MethodId} {args : Array Value} {below : List Frame} {meth : Method} {c : Code} {Z : State} {a0 : Array Value} {n0 : Nat} {hE : Heap} (cx : Cx_law p s m meth c Z a0) :
    ∀ {T : State} {locs : List Loc} {h : Heap} (X : Stand p l e room_1 s m args below meth c T locs 1 6) (eT : T.heap = h) (N : Fr n0 locs) (K : Keep hE h []) (z : n0 ≤ h.size) (b1 : Addr) (v3 : Int32) (v4 : Int32) (v7 : Int32) (v10 : Int32) (t0 : Int32) (bs_b1 : List Int32) (d0 : Slot) (d1 : Slot) (d2 : Slot) (d5 : Slot) (d8 : Slot) (d9 : Slot) (d11 : Slot) (d12 : Slot) (o_d0 : One d0) (o_d1 : One d1) (o_d2 : One d2) (o_d5 : One d5) (o_d8 : One d8) (o_d9 : One d9) (o_d11 : One d11) (o_d12 : One d12) (A_b1 : own_Ar Z h b1 .byte (bs_b1.map Value.int)) (g_b1 : n0 ≤ b1) (nE_b1 : hE.size ≤ b1) (r : Int32), f_law_281 v3 v4 v7 v10 t0 bs_b1 = some r → own_Goes p e below s (Q_law Z hE n0 r) 1 6 (T.setTop (mkF m 281 #[d0, d1, d2, .val (.int v3), .val (.int v4), d5, .val (.ref b1), .val (.int v7), d8, d9, .val (.int v10), d11, d12] [(.int t0)])) := by
  have cx' := cx
  obtain ⟨hx, hZ, hw, hby, hml, hown, hret, hlk, hnm⟩ := cx'
  intro T locs h X eT N K z b1 v3 v4 v7 v10 t0 bs_b1 d0 d1 d2 d5 d8 d9 d11 d12 o_d0 o_d1 o_d2 o_d5 o_d8 o_d9 o_d11 o_d12 A_b1 g_b1 nE_b1 r hF
  unfold f_law_281 at hF
  refine own_Goes.via (B := T.setTop (mkF m 285 #[d0, d1, d2, .val (.int v3), .val (.int v4), d5, .val (.ref b1), .val (.int v7), d8, d9, .val (.int v10), d11, .val (.int t0)] [(.int v10)])) (fun t k => ?_) ?_
  · show Steps p.tables e below (T.setTop (mkF m 281 #[d0, d1, d2, .val (.int v3), .val (.int v4), d5, .val (.ref b1), .val (.int v7), d8, d9, .val (.int v10), d11, d12] [(.int t0)])) t
    refine XS.istoreS X.here hx rfl (hb hby at_281) rfl rfl o_d12 ?_
    show Steps p.tables e below (T.setTop (mkF m 283 #[d0, d1, d2, .val (.int v3), .val (.int v4), d5, .val (.ref b1), .val (.int v7), d8, d9, .val (.int v10), d11, .val (.int t0)] [])) t
    refine XS.iload X.here hx rfl (hb hby at_283) rfl ?_
    exact k
  by_cases hc285 : v10 = (0 : Int32)
  · rw [if_pos hc285] at hF
    refine own_Goes.via (B := T.setTop (mkF m 311 #[d0, d1, d2, .val (.int v3), .val (.int v4), d5, .val (.ref b1), .val (.int v7), d8, d9, .val (.int v10), d11, .val (.int t0)] [(.int (0 : Int32))])) (fun t k => ?_) ?_
    · show Steps p.tables e below (T.setTop (mkF m 285 #[d0, d1, d2, .val (.int v3), .val (.int v4), d5, .val (.ref b1), .val (.int v7), d8, d9, .val (.int v10), d11, .val (.int t0)] [(.int v10)])) t
      refine XS.ifYes X.here hx rfl (pc0 := 285) (pc' := 310) rfl (hb hby at_285) rfl ((if0 _ _).trans (teq hc285).1) (by decide) (by decide) ?_
      show Steps p.tables e below (T.setTop (mkF m 310 #[d0, d1, d2, .val (.int v3), .val (.int v4), d5, .val (.ref b1), .val (.int v7), d8, d9, .val (.int v10), d11, .val (.int t0)] [])) t
      refine XS.iconst X.here hx rfl (hb hby at_310) ?_
      exact k
    obtain rfl : (0 : Int32) = r := Option.some.inj hF
    exact own_retN X hx (t := .boolean) hret hlk (by simp) (hb hby at_311) eT (v := (0 : Int32)) (by decide) ⟨rfl, N, K⟩ (by decide) (by decide)
  · rw [if_neg hc285] at hF
    refine own_Goes.via (B := T.setTop (mkF m 290 #[d0, d1, d2, .val (.int v3), .val (.int v4), d5, .val (.ref b1), .val (.int v7), d8, d9, .val (.int v10), d11, .val (.int t0)] [(.int t0)])) (fun t k => ?_) ?_
    · show Steps p.tables e below (T.setTop (mkF m 285 #[d0, d1, d2, .val (.int v3), .val (.int v4), d5, .val (.ref b1), .val (.int v7), d8, d9, .val (.int v10), d11, .val (.int t0)] [(.int v10)])) t
      refine XS.ifNo X.here hx rfl (hb hby at_285) rfl ((if0 _ _).trans (feq hc285).1) ?_
      show Steps p.tables e below (T.setTop (mkF m 288 #[d0, d1, d2, .val (.int v3), .val (.int v4), d5, .val (.ref b1), .val (.int v7), d8, d9, .val (.int v10), d11, .val (.int t0)] [])) t
      refine XS.iload X.here hx rfl (hb hby at_288) rfl ?_
      exact k
    by_cases hc290 : t0 = (0 : Int32)
    · rw [if_pos hc290] at hF
      refine own_Goes.via (B := T.setTop (mkF m 311 #[d0, d1, d2, .val (.int v3), .val (.int v4), d5, .val (.ref b1), .val (.int v7), d8, d9, .val (.int v10), d11, .val (.int t0)] [(.int (0 : Int32))])) (fun t k => ?_) ?_
      · show Steps p.tables e below (T.setTop (mkF m 290 #[d0, d1, d2, .val (.int v3), .val (.int v4), d5, .val (.ref b1), .val (.int v7), d8, d9, .val (.int v10), d11, .val (.int t0)] [(.int t0)])) t
        refine XS.ifYes X.here hx rfl (pc0 := 290) (pc' := 310) rfl (hb hby at_290) rfl ((if0 _ _).trans (teq hc290).1) (by decide) (by decide) ?_
        show Steps p.tables e below (T.setTop (mkF m 310 #[d0, d1, d2, .val (.int v3), .val (.int v4), d5, .val (.ref b1), .val (.int v7), d8, d9, .val (.int v10), d11, .val (.int t0)] [])) t
        refine XS.iconst X.here hx rfl (hb hby at_310) ?_
        exact k
      obtain rfl : (0 : Int32) = r := Option.some.inj hF
      exact own_retN X hx (t := .boolean) hret hlk (by simp) (hb hby at_311) eT (v := (0 : Int32)) (by decide) ⟨rfl, N, K⟩ (by decide) (by decide)
    · rw [if_neg hc290] at hF
      refine own_Goes.via (B := T.setTop (mkF m 299 #[d0, d1, d2, .val (.int v3), .val (.int v4), d5, .val (.ref b1), .val (.int v7), d8, d9, .val (.int v10), d11, .val (.int t0)] [(.int v7), (.int v4), (.ref b1)])) (fun t k => ?_) ?_
      · show Steps p.tables e below (T.setTop (mkF m 290 #[d0, d1, d2, .val (.int v3), .val (.int v4), d5, .val (.ref b1), .val (.int v7), d8, d9, .val (.int v10), d11, .val (.int t0)] [(.int t0)])) t
        refine XS.ifNo X.here hx rfl (hb hby at_290) rfl ((if0 _ _).trans (feq hc290).1) ?_
        show Steps p.tables e below (T.setTop (mkF m 293 #[d0, d1, d2, .val (.int v3), .val (.int v4), d5, .val (.ref b1), .val (.int v7), d8, d9, .val (.int v10), d11, .val (.int t0)] [])) t
        refine XS.aload X.here hx rfl (hb hby at_293) rfl rfl ?_
        show Steps p.tables e below (T.setTop (mkF m 295 #[d0, d1, d2, .val (.int v3), .val (.int v4), d5, .val (.ref b1), .val (.int v7), d8, d9, .val (.int v10), d11, .val (.int t0)] [(.ref b1)])) t
        refine XS.iload X.here hx rfl (hb hby at_295) rfl ?_
        show Steps p.tables e below (T.setTop (mkF m 297 #[d0, d1, d2, .val (.int v3), .val (.int v4), d5, .val (.ref b1), .val (.int v7), d8, d9, .val (.int v10), d11, .val (.int t0)] [(.int v4), (.ref b1)])) t
        refine XS.iload X.here hx rfl (hb hby at_297) rfl ?_
        exact k
      obtain ⟨r253, hr253, hF⟩ := own_bd_e hF
      obtain ⟨_, _, ⟨T253, L253, k253, n253⟩, -, X253, ⟨Lc253, hQ253, l253, y253, z253⟩, st253⟩ := Jvm.LawKit.callS X hx (y := (⟨"com/example/binary64/binary64/Utf8", "codePoint", "([BII)I"⟩ : MethodName)) hown (mvT hZ (w15 hw)) (mvT hZ (w16 hw)) (mvT hZ (w6 hw)) (mvT hZ (w17 hw)) (by decide) (backOf (W := 0) (rm_Utf8_codePoint l Z a0 hw [] h n0 z b1 v4 v7 bs_b1 A_b1 g_b1 r253 hr253) hZ (w17 hw) (w6 hw) (by decide) (by decide)) (g := (mkF m 299 #[d0, d1, d2, .val (.int v3), .val (.int v4), d5, .val (.ref b1), .val (.int v7), d8, d9, .val (.int v10), d11, .val (.int t0)] [(.int v7), (.int v4), (.ref b1)])) rfl (by rw [hml]; rfl) (argsL := [(.ref b1), (.int v4), (.int v7)]) (rest := []) (lenOf pd_2 rfl) rfl (by show 2 * 0 + _ ≤ _; exact Nat.le_of_eq rfl) (hb hby at_299) (fun _ _ => ⟨rfl, eT, (by decide : 1 + 0 ≤ _), (by decide : 6 + 0 ≤ _)⟩)
      dsimp only [Pt.U, Pt.locs, Pt.cells, Pt.slots] at X253 l253 y253 z253 st253 hQ253
      subst l253 y253 z253
      obtain ⟨rfl, N253q, e253⟩ := hQ253
      have N253 := Fr.app N N253q
      refine own_Goes.via st253 ?_
      show own_Goes _ _ _ _ _ _ _ (T253.setTop (mkF m 302 #[d0, d1, d2, .val (.int v3), .val (.int v4), d5, .val (.ref b1), .val (.int v7), d8, d9, .val (.int v10), d11, .val (.int t0)] [(.int r253)]))
      refine own_Goes.via (B := T253.setTop (mkF m 303 #[d0, d1, d2, .val (.int v3), .val (.int v4), d5, .val (.ref b1), .val (.int v7), d8, d9, .val (.int v10), d11, .val (.int t0)] [(.int v3), (.int r253)])) (fun t k => ?_) ?_
      · show Steps p.tables e below (T253.setTop (mkF m 302 #[d0, d1, d2, .val (.int v3), .val (.int v4), d5, .val (.ref b1), .val (.int v7), d8, d9, .val (.int v10), d11, .val (.int t0)] [(.int r253)])) t
        refine XS.iloadN X253.here hx rfl (hb hby at_302) rfl ?_
        exact k
      by_cases hc303 : r253 = v3
      · rw [if_pos hc303] at hF
        refine own_Goes.via (B := T253.setTop (mkF m 311 #[d0, d1, d2, .val (.int v3), .val (.int v4), d5, .val (.ref b1), .val (.int v7), d8, d9, .val (.int v10), d11, .val (.int t0)] [(.int (1 : Int32))])) (fun t k => ?_) ?_
        · show Steps p.tables e below (T253.setTop (mkF m 303 #[d0, d1, d2, .val (.int v3), .val (.int v4), d5, .val (.ref b1), .val (.int v7), d8, d9, .val (.int v10), d11, .val (.int t0)] [(.int v3), (.int r253)])) t
          refine XS.icmpNo X253.here hx rfl (hb hby at_303) rfl (teq hc303).2 ?_
          show Steps p.tables e below (T253.setTop (mkF m 306 #[d0, d1, d2, .val (.int v3), .val (.int v4), d5, .val (.ref b1), .val (.int v7), d8, d9, .val (.int v10), d11, .val (.int t0)] [])) t
          refine XS.iconst X253.here hx rfl (hb hby at_306) ?_
          show Steps p.tables e below (T253.setTop (mkF m 307 #[d0, d1, d2, .val (.int v3), .val (.int v4), d5, .val (.ref b1), .val (.int v7), d8, d9, .val (.int v10), d11, .val (.int t0)] [(.int (1 : Int32))])) t
          refine XS.goto X253.here hx rfl (pc0 := 307) (pc' := 311) rfl (hb hby at_307) (by decide) (by decide) ?_
          exact k
        obtain rfl : (1 : Int32) = r := Option.some.inj hF
        exact own_retN X253 hx (t := .boolean) hret hlk (by simp) (hb hby at_311) e253 (v := (1 : Int32)) (by decide) ⟨rfl, N253, K⟩ (by decide) (by decide)
      · rw [if_neg hc303] at hF
        refine own_Goes.via (B := T253.setTop (mkF m 311 #[d0, d1, d2, .val (.int v3), .val (.int v4), d5, .val (.ref b1), .val (.int v7), d8, d9, .val (.int v10), d11, .val (.int t0)] [(.int (0 : Int32))])) (fun t k => ?_) ?_
        · show Steps p.tables e below (T253.setTop (mkF m 303 #[d0, d1, d2, .val (.int v3), .val (.int v4), d5, .val (.ref b1), .val (.int v7), d8, d9, .val (.int v10), d11, .val (.int t0)] [(.int v3), (.int r253)])) t
          refine XS.icmpYes X253.here hx rfl (pc0 := 303) (pc' := 310) rfl (hb hby at_303) rfl (feq hc303).2 (by decide) (by decide) ?_
          show Steps p.tables e below (T253.setTop (mkF m 310 #[d0, d1, d2, .val (.int v3), .val (.int v4), d5, .val (.ref b1), .val (.int v7), d8, d9, .val (.int v10), d11, .val (.int t0)] [])) t
          refine XS.iconst X253.here hx rfl (hb hby at_310) ?_
          exact k
        obtain rfl : (0 : Int32) = r := Option.some.inj hF
        exact own_retN X253 hx (t := .boolean) hret hlk (by simp) (hb hby at_311) e253 (v := (0 : Int32)) (by decide) ⟨rfl, N253, K⟩ (by decide) (by decide)
set_option maxRecDepth 65536 in
set_option maxHeartbeats 4000000 in
theorem b_law_236 {p : Program} {l : Launch} {e : Env} {s : State} {m : MethodId} {args : Array Value} {below : List Frame} {meth : Method} {c : Code} {Z : State} {a0 : Array Value} {n0 : Nat} {hE : Heap} (cx : Cx_law p s m meth c Z a0) :
    ∀ {T : State} {locs : List Loc} {h : Heap} (X : Stand p l e room_1 s m args below meth c T locs 1 6) (eT : T.heap = h) (N : Fr n0 locs) (K : Keep hE h []) (z : n0 ≤ h.size) (b1 : Addr) (v3 : Int32) (v4 : Int32) (v7 : Int32) (v8 : Int32) (v9 : Int32) (t0 : Int32) (bs_b1 : List Int32) (d0 : Slot) (d1 : Slot) (d2 : Slot) (d5 : Slot) (d10 : Slot) (d11 : Slot) (d12 : Slot) (o_d0 : One d0) (o_d1 : One d1) (o_d2 : One d2) (o_d5 : One d5) (o_d10 : One d10) (o_d11 : One d11) (o_d12 : One d12) (A_b1 : own_Ar Z h b1 .byte (bs_b1.map Value.int)) (g_b1 : n0 ≤ b1) (nE_b1 : hE.size ≤ b1) (r : Int32), f_law_236 v3 v4 v7 v8 v9 t0 bs_b1 = some r → own_Goes p e below s (Q_law Z hE n0 r) 1 6 (T.setTop (mkF m 236 #[d0, d1, d2, .val (.int v3), .val (.int v4), d5, .val (.ref b1), .val (.int v7), .val (.int v8), .val (.int v9), d10, d11, d12] [(.int t0)])) := by
  have cx' := cx
  obtain ⟨hx, hZ, hw, hby, hml, hown, hret, hlk, hnm⟩ := cx'
  intro T locs h X eT N K z b1 v3 v4 v7 v8 v9 t0 bs_b1 d0 d1 d2 d5 d10 d11 d12 o_d0 o_d1 o_d2 o_d5 o_d10 o_d11 o_d12 A_b1 g_b1 nE_b1 r hF
  unfold f_law_236 at hF
  refine own_Goes.via (B := T.setTop (mkF m 244 #[d0, d1, d2, .val (.int v3), .val (.int v4), d5, .val (.ref b1), .val (.int v7), .val (.int v8), .val (.int v9), .val (.int t0), d11, d12] [(.int v9), (.int v4), (.ref b1)])) (fun t k => ?_) ?_
  · show Steps p.tables e below (T.setTop (mkF m 236 #[d0, d1, d2, .val (.int v3), .val (.int v4), d5, .val (.ref b1), .val (.int v7), .val (.int v8), .val (.int v9), d10, d11, d12] [(.int t0)])) t
    refine XS.istoreS X.here hx rfl (hb hby at_236) rfl rfl o_d10 ?_
    show Steps p.tables e below (T.setTop (mkF m 238 #[d0, d1, d2, .val (.int v3), .val (.int v4), d5, .val (.ref b1), .val (.int v7), .val (.int v8), .val (.int v9), .val (.int t0), d11, d12] [])) t
    refine XS.aload X.here hx rfl (hb hby at_238) rfl rfl ?_
    show Steps p.tables e below (T.setTop (mkF m 240 #[d0, d1, d2, .val (.int v3), .val (.int v4), d5, .val (.ref b1), .val (.int v7), .val (.int v8), .val (.int v9), .val (.int t0), d11, d12] [(.ref b1)])) t
    refine XS.iload X.here hx rfl (hb hby at_240) rfl ?_
    show Steps p.tables e below (T.setTop (mkF m 242 #[d0, d1, d2, .val (.int v3), .val (.int v4), d5, .val (.ref b1), .val (.int v7), .val (.int v8), .val (.int v9), .val (.int t0), d11, d12] [(.int v4), (.ref b1)])) t
    refine XS.iload X.here hx rfl (hb hby at_242) rfl ?_
    exact k
  obtain ⟨r254, hr254, hF⟩ := own_bd_e hF
  obtain ⟨_, _, ⟨T254, L254, k254, n254⟩, -, X254, ⟨Lc254, hQ254, l254, y254, z254⟩, st254⟩ := Jvm.LawKit.callS X hx (y := (⟨"com/example/binary64/binary64/Utf8", "sequenceLength", "([BII)I"⟩ : MethodName)) hown (mvT hZ (w12 hw)) (mvT hZ (w13 hw)) (mvT hZ (w6 hw)) (mvT hZ (w14 hw)) (by decide) (backOf (W := 0) (rm_Utf8_sequenceLength l Z a0 hw [] h n0 z b1 v4 v9 bs_b1 A_b1 g_b1 r254 hr254) hZ (w14 hw) (w6 hw) (by decide) (by decide)) (g := (mkF m 244 #[d0, d1, d2, .val (.int v3), .val (.int v4), d5, .val (.ref b1), .val (.int v7), .val (.int v8), .val (.int v9), .val (.int t0), d11, d12] [(.int v9), (.int v4), (.ref b1)])) rfl (by rw [hml]; rfl) (argsL := [(.ref b1), (.int v4), (.int v9)]) (rest := []) (lenOf pd_2 rfl) rfl (by show 2 * 0 + _ ≤ _; exact Nat.le_of_eq rfl) (hb hby at_244) (fun _ _ => ⟨rfl, eT, (by decide : 1 + 0 ≤ _), (by decide : 6 + 0 ≤ _)⟩)
  dsimp only [Pt.U, Pt.locs, Pt.cells, Pt.slots] at X254 l254 y254 z254 st254 hQ254
  subst l254 y254 z254
  obtain ⟨rfl, N254q, e254⟩ := hQ254
  have N254 := Fr.app N N254q
  refine own_Goes.via st254 ?_
  show own_Goes _ _ _ _ _ _ _ (T254.setTop (mkF m 247 #[d0, d1, d2, .val (.int v3), .val (.int v4), d5, .val (.ref b1), .val (.int v7), .val (.int v8), .val (.int v9), .val (.int t0), d11, d12] [(.int r254)]))
  refine own_Goes.via (B := T254.setTop (mkF m 251 #[d0, d1, d2, .val (.int v3), .val (.int v4), d5, .val (.ref b1), .val (.int v7), .val (.int v8), .val (.int v9), .val (.int t0), .val (.int r254), d12] [(.int v8)])) (fun t k => ?_) ?_
  · show Steps p.tables e below (T254.setTop (mkF m 247 #[d0, d1, d2, .val (.int v3), .val (.int v4), d5, .val (.ref b1), .val (.int v7), .val (.int v8), .val (.int v9), .val (.int t0), d11, d12] [(.int r254)])) t
    refine XS.istoreS X254.here hx rfl (hb hby at_247) rfl rfl o_d11 ?_
    show Steps p.tables e below (T254.setTop (mkF m 249 #[d0, d1, d2, .val (.int v3), .val (.int v4), d5, .val (.ref b1), .val (.int v7), .val (.int v8), .val (.int v9), .val (.int t0), .val (.int r254), d12] [])) t
    refine XS.iload X254.here hx rfl (hb hby at_249) rfl ?_
    exact k
  by_cases hc251 : v8 = (0 : Int32)
  · rw [if_pos hc251] at hF
    refine own_Goes.via (B := T254.setTop (mkF m 273 #[d0, d1, d2, .val (.int v3), .val (.int v4), d5, .val (.ref b1), .val (.int v7), .val (.int v8), .val (.int v9), .val (.int t0), .val (.int r254), d12] [(.int v7), (.int r254)])) (fun t k => ?_) ?_
    · show Steps p.tables e below (T254.setTop (mkF m 251 #[d0, d1, d2, .val (.int v3), .val (.int v4), d5, .val (.ref b1), .val (.int v7), .val (.int v8), .val (.int v9), .val (.int t0), .val (.int r254), d12] [(.int v8)])) t
      refine XS.ifYes X254.here hx rfl (pc0 := 251) (pc' := 269) rfl (hb hby at_251) rfl ((if0 _ _).trans (teq hc251).1) (by decide) (by decide) ?_
      show Steps p.tables e below (T254.setTop (mkF m 269 #[d0, d1, d2, .val (.int v3), .val (.int v4), d5, .val (.ref b1), .val (.int v7), .val (.int v8), .val (.int v9), .val (.int t0), .val (.int r254), d12] [])) t
      refine XS.iload X254.here hx rfl (hb hby at_269) rfl ?_
      show Steps p.tables e below (T254.setTop (mkF m 271 #[d0, d1, d2, .val (.int v3), .val (.int v4), d5, .val (.ref b1), .val (.int v7), .val (.int v8), .val (.int v9), .val (.int t0), .val (.int r254), d12] [(.int r254)])) t
      refine XS.iload X254.here hx rfl (hb hby at_271) rfl ?_
      exact k
    by_cases hc273 : r254 = v7
    · rw [if_pos hc273] at hF
      refine own_Goes.via (B := T254.setTop (mkF m 281 #[d0, d1, d2, .val (.int v3), .val (.int v4), d5, .val (.ref b1), .val (.int v7), .val (.int v8), .val (.int v9), .val (.int t0), .val (.int r254), d12] [(.int (1 : Int32))])) (fun t k => ?_) ?_
      · show Steps p.tables e below (T254.setTop (mkF m 273 #[d0, d1, d2, .val (.int v3), .val (.int v4), d5, .val (.ref b1), .val (.int v7), .val (.int v8), .val (.int v9), .val (.int t0), .val (.int r254), d12] [(.int v7), (.int r254)])) t
        refine XS.icmpNo X254.here hx rfl (hb hby at_273) rfl (teq hc273).2 ?_
        show Steps p.tables e below (T254.setTop (mkF m 276 #[d0, d1, d2, .val (.int v3), .val (.int v4), d5, .val (.ref b1), .val (.int v7), .val (.int v8), .val (.int v9), .val (.int t0), .val (.int r254), d12] [])) t
        refine XS.iconst X254.here hx rfl (hb hby at_276) ?_
        show Steps p.tables e below (T254.setTop (mkF m 277 #[d0, d1, d2, .val (.int v3), .val (.int v4), d5, .val (.ref b1), .val (.int v7), .val (.int v8), .val (.int v9), .val (.int t0), .val (.int r254), d12] [(.int (1 : Int32))])) t
        refine XS.goto X254.here hx rfl (pc0 := 277) (pc' := 281) rfl (hb hby at_277) (by decide) (by decide) ?_
        exact k
      exact b_law_281 cx X254 e254 N254 K z b1 v3 v4 v7 t0 (1 : Int32) bs_b1 d0 d1 d2 d5 (.val (.int v8)) (.val (.int v9)) (.val (.int r254)) d12 o_d0 o_d1 o_d2 o_d5 (One.val rfl) (One.val rfl) (One.val rfl) o_d12 A_b1 g_b1 nE_b1 _ hF
    · rw [if_neg hc273] at hF
      refine own_Goes.via (B := T254.setTop (mkF m 281 #[d0, d1, d2, .val (.int v3), .val (.int v4), d5, .val (.ref b1), .val (.int v7), .val (.int v8), .val (.int v9), .val (.int t0), .val (.int r254), d12] [(.int (0 : Int32))])) (fun t k => ?_) ?_
      · show Steps p.tables e below (T254.setTop (mkF m 273 #[d0, d1, d2, .val (.int v3), .val (.int v4), d5, .val (.ref b1), .val (.int v7), .val (.int v8), .val (.int v9), .val (.int t0), .val (.int r254), d12] [(.int v7), (.int r254)])) t
        refine XS.icmpYes X254.here hx rfl (pc0 := 273) (pc' := 280) rfl (hb hby at_273) rfl (feq hc273).2 (by decide) (by decide) ?_
        show Steps p.tables e below (T254.setTop (mkF m 280 #[d0, d1, d2, .val (.int v3), .val (.int v4), d5, .val (.ref b1), .val (.int v7), .val (.int v8), .val (.int v9), .val (.int t0), .val (.int r254), d12] [])) t
        refine XS.iconst X254.here hx rfl (hb hby at_280) ?_
        exact k
      exact b_law_281 cx X254 e254 N254 K z b1 v3 v4 v7 t0 (0 : Int32) bs_b1 d0 d1 d2 d5 (.val (.int v8)) (.val (.int v9)) (.val (.int r254)) d12 o_d0 o_d1 o_d2 o_d5 (One.val rfl) (One.val rfl) (One.val rfl) o_d12 A_b1 g_b1 nE_b1 _ hF
  · rw [if_neg hc251] at hF
    refine own_Goes.via (B := T254.setTop (mkF m 258 #[d0, d1, d2, .val (.int v3), .val (.int v4), d5, .val (.ref b1), .val (.int v7), .val (.int v8), .val (.int v9), .val (.int t0), .val (.int r254), d12] [(.int (-5 : Int32)), (.int r254)])) (fun t k => ?_) ?_
    · show Steps p.tables e below (T254.setTop (mkF m 251 #[d0, d1, d2, .val (.int v3), .val (.int v4), d5, .val (.ref b1), .val (.int v7), .val (.int v8), .val (.int v9), .val (.int t0), .val (.int r254), d12] [(.int v8)])) t
      refine XS.ifNo X254.here hx rfl (hb hby at_251) rfl ((if0 _ _).trans (feq hc251).1) ?_
      show Steps p.tables e below (T254.setTop (mkF m 254 #[d0, d1, d2, .val (.int v3), .val (.int v4), d5, .val (.ref b1), .val (.int v7), .val (.int v8), .val (.int v9), .val (.int t0), .val (.int r254), d12] [])) t
      refine XS.iload X254.here hx rfl (hb hby at_254) rfl ?_
      show Steps p.tables e below (T254.setTop (mkF m 256 #[d0, d1, d2, .val (.int v3), .val (.int v4), d5, .val (.ref b1), .val (.int v7), .val (.int v8), .val (.int v9), .val (.int t0), .val (.int r254), d12] [(.int r254)])) t
      refine XS.bipush X254.here hx rfl (hb hby at_256) ?_
      exact k
    by_cases hc258 : r254 = (-5 : Int32)
    · rw [if_pos hc258] at hF
      refine own_Goes.via (B := T254.setTop (mkF m 281 #[d0, d1, d2, .val (.int v3), .val (.int v4), d5, .val (.ref b1), .val (.int v7), .val (.int v8), .val (.int v9), .val (.int t0), .val (.int r254), d12] [(.int (1 : Int32))])) (fun t k => ?_) ?_
      · show Steps p.tables e below (T254.setTop (mkF m 258 #[d0, d1, d2, .val (.int v3), .val (.int v4), d5, .val (.ref b1), .val (.int v7), .val (.int v8), .val (.int v9), .val (.int t0), .val (.int r254), d12] [(.int (-5 : Int32)), (.int r254)])) t
        refine XS.icmpNo X254.here hx rfl (hb hby at_258) rfl (teq hc258).2 ?_
        show Steps p.tables e below (T254.setTop (mkF m 261 #[d0, d1, d2, .val (.int v3), .val (.int v4), d5, .val (.ref b1), .val (.int v7), .val (.int v8), .val (.int v9), .val (.int t0), .val (.int r254), d12] [])) t
        refine XS.iconst X254.here hx rfl (hb hby at_261) ?_
        show Steps p.tables e below (T254.setTop (mkF m 262 #[d0, d1, d2, .val (.int v3), .val (.int v4), d5, .val (.ref b1), .val (.int v7), .val (.int v8), .val (.int v9), .val (.int t0), .val (.int r254), d12] [(.int (1 : Int32))])) t
        refine XS.goto X254.here hx rfl (pc0 := 262) (pc' := 281) rfl (hb hby at_262) (by decide) (by decide) ?_
        exact k
      exact b_law_281 cx X254 e254 N254 K z b1 v3 v4 v7 t0 (1 : Int32) bs_b1 d0 d1 d2 d5 (.val (.int v8)) (.val (.int v9)) (.val (.int r254)) d12 o_d0 o_d1 o_d2 o_d5 (One.val rfl) (One.val rfl) (One.val rfl) o_d12 A_b1 g_b1 nE_b1 _ hF
    · rw [if_neg hc258] at hF
      refine own_Goes.via (B := T254.setTop (mkF m 281 #[d0, d1, d2, .val (.int v3), .val (.int v4), d5, .val (.ref b1), .val (.int v7), .val (.int v8), .val (.int v9), .val (.int t0), .val (.int r254), d12] [(.int (0 : Int32))])) (fun t k => ?_) ?_
      · show Steps p.tables e below (T254.setTop (mkF m 258 #[d0, d1, d2, .val (.int v3), .val (.int v4), d5, .val (.ref b1), .val (.int v7), .val (.int v8), .val (.int v9), .val (.int t0), .val (.int r254), d12] [(.int (-5 : Int32)), (.int r254)])) t
        refine XS.icmpYes X254.here hx rfl (pc0 := 258) (pc' := 265) rfl (hb hby at_258) rfl (feq hc258).2 (by decide) (by decide) ?_
        show Steps p.tables e below (T254.setTop (mkF m 265 #[d0, d1, d2, .val (.int v3), .val (.int v4), d5, .val (.ref b1), .val (.int v7), .val (.int v8), .val (.int v9), .val (.int t0), .val (.int r254), d12] [])) t
        refine XS.iconst X254.here hx rfl (hb hby at_265) ?_
        show Steps p.tables e below (T254.setTop (mkF m 266 #[d0, d1, d2, .val (.int v3), .val (.int v4), d5, .val (.ref b1), .val (.int v7), .val (.int v8), .val (.int v9), .val (.int t0), .val (.int r254), d12] [(.int (0 : Int32))])) t
        refine XS.goto X254.here hx rfl (pc0 := 266) (pc' := 281) rfl (hb hby at_266) (by decide) (by decide) ?_
        exact k
      exact b_law_281 cx X254 e254 N254 K z b1 v3 v4 v7 t0 (0 : Int32) bs_b1 d0 d1 d2 d5 (.val (.int v8)) (.val (.int v9)) (.val (.int r254)) d12 o_d0 o_d1 o_d2 o_d5 (One.val rfl) (One.val rfl) (One.val rfl) o_d12 A_b1 g_b1 nE_b1 _ hF
set_option maxRecDepth 65536 in
set_option maxHeartbeats 4000000 in
theorem b_law_117 {p : Program} {l : Launch} {e : Env} {s : State} {m : MethodId} {args : Array Value} {below : List Frame} {meth : Method} {c : Code} {Z : State} {a0 : Array Value} {n0 : Nat} {hE : Heap} (cx : Cx_law p s m meth c Z a0) :
    ∀ {T : State} {locs : List Loc} {h : Heap} (X : Stand p l e room_1 s m args below meth c T locs 1 6) (eT : T.heap = h) (N : Fr n0 locs) (K : Keep hE h []) (z : n0 ≤ h.size) (b1 : Addr) (v3 : Int32) (v4 : Int32) (v5 : Int32) (v7 : Int32) (t0 : Int32) (bs_b1 : List Int32) (d0 : Slot) (d1 : Slot) (d2 : Slot) (d8 : Slot) (d9 : Slot) (d10 : Slot) (d11 : Slot) (d12 : Slot) (o_d0 : One d0) (o_d1 : One d1) (o_d2 : One d2) (o_d8 : One d8) (o_d9 : One d9) (o_d10 : One d10) (o_d11 : One d11) (o_d12 : One d12) (A_b1 : own_Ar Z h b1 .byte (bs_b1.map Value.int)) (g_b1 : n0 ≤ b1) (nE_b1 : hE.size ≤ b1) (r : Int32), f_law_117 v3 v4 v5 v7 t0 bs_b1 = some r → own_Goes p e below s (Q_law Z hE n0 r) 1 6 (T.setTop (mkF m 117 #[d0, d1, d2, .val (.int v3), .val (.int v4), .val (.int v5), .val (.ref b1), .val (.int v7), d8, d9, d10, d11, d12] [(.int t0)])) := by
  have cx' := cx
  obtain ⟨hx, hZ, hw, hby, hml, hown, hret, hlk, hnm⟩ := cx'
  intro T locs h X eT N K z b1 v3 v4 v5 v7 t0 bs_b1 d0 d1 d2 d8 d9 d10 d11 d12 o_d0 o_d1 o_d2 o_d8 o_d9 o_d10 o_d11 o_d12 A_b1 g_b1 nE_b1 r hF
  unfold f_law_117 at hF
  refine own_Goes.via (B := T.setTop (mkF m 124 #[d0, d1, d2, .val (.int v3), .val (.int v4), .val (.int v5), .val (.ref b1), .val (.int v7), .val (.int t0), d9, d10, d11, d12] [(.int v4), (.ref b1), (.int v3)])) (fun t k => ?_) ?_
  · show Steps p.tables e below (T.setTop (mkF m 117 #[d0, d1, d2, .val (.int v3), .val (.int v4), .val (.int v5), .val (.ref b1), .val (.int v7), d8, d9, d10, d11, d12] [(.int t0)])) t
    refine XS.istoreS X.here hx rfl (hb hby at_117) rfl rfl o_d8 ?_
    show Steps p.tables e below (T.setTop (mkF m 119 #[d0, d1, d2, .val (.int v3), .val (.int v4), .val (.int v5), .val (.ref b1), .val (.int v7), .val (.int t0), d9, d10, d11, d12] [])) t
    refine XS.iloadN X.here hx rfl (hb hby at_119) rfl ?_
    show Steps p.tables e below (T.setTop (mkF m 120 #[d0, d1, d2, .val (.int v3), .val (.int v4), .val (.int v5), .val (.ref b1), .val (.int v7), .val (.int t0), d9, d10, d11, d12] [(.int v3)])) t
    refine XS.aload X.here hx rfl (hb hby at_120) rfl rfl ?_
    show Steps p.tables e below (T.setTop (mkF m 122 #[d0, d1, d2, .val (.int v3), .val (.int v4), .val (.int v5), .val (.ref b1), .val (.int v7), .val (.int t0), d9, d10, d11, d12] [(.ref b1), (.int v3)])) t
    refine XS.iload X.here hx rfl (hb hby at_122) rfl ?_
    exact k
  obtain ⟨r260, hr260, hF⟩ := own_bd_e hF
  obtain ⟨_, _, ⟨T260, L260, k260, n260⟩, -, X260, ⟨Lc260, hQ260, l260, y260, z260⟩, st260⟩ := Jvm.LawKit.callS X hx (y := (⟨"com/example/binary64/binary64/Utf8", "write", "(I[BI)I"⟩ : MethodName)) hown (mvT hZ (w4 hw)) (mvT hZ (w5 hw)) (mvT hZ (w6 hw)) (mvT hZ (w7 hw)) (by decide) (backOf (W := 0) (rm_Utf8_write l Z a0 hw [] h n0 z b1 v3 v4 bs_b1 A_b1 g_b1 r260 hr260) hZ (w7 hw) (w6 hw) (by decide) (by decide)) (g := (mkF m 124 #[d0, d1, d2, .val (.int v3), .val (.int v4), .val (.int v5), .val (.ref b1), .val (.int v7), .val (.int t0), d9, d10, d11, d12] [(.int v4), (.ref b1), (.int v3)])) rfl (by rw [hml]; rfl) (argsL := [(.int v3), (.ref b1), (.int v4)]) (rest := []) (lenOf pd_0 rfl) rfl (by show 2 * 0 + _ ≤ _; exact Nat.le_of_eq rfl) (hb hby at_124) (fun _ _ => ⟨rfl, eT, (by decide : 1 + 0 ≤ _), (by decide : 6 + 0 ≤ _)⟩)
  dsimp only [Pt.U, Pt.locs, Pt.cells, Pt.slots] at X260 l260 y260 z260 st260 hQ260
  subst l260 y260 z260
  obtain ⟨rfl, N260q, K260, A260_b1⟩ := hQ260
  have N260 := Fr.app N N260q
  have K260_ := K.trans K260 (allS (Or.inr nE_b1) all0)
  have z260_ := Nat.le_trans z K260.1
  refine own_Goes.via st260 ?_
  show own_Goes _ _ _ _ _ _ _ (T260.setTop (mkF m 127 #[d0, d1, d2, .val (.int v3), .val (.int v4), .val (.int v5), .val (.ref b1), .val (.int v7), .val (.int t0), d9, d10, d11, d12] [(.int r260.1)]))
  refine own_Goes.via (B := T260.setTop (mkF m 136 #[d0, d1, d2, .val (.int v3), .val (.int v4), .val (.int v5), .val (.ref b1), .val (.int v7), .val (.int t0), .val (.int r260.1), d10, d11, d12] [(.int (v4 + v7)), (.int r260.1)])) (fun t k => ?_) ?_
  · show Steps p.tables e below (T260.setTop (mkF m 127 #[d0, d1, d2, .val (.int v3), .val (.int v4), .val (.int v5), .val (.ref b1), .val (.int v7), .val (.int t0), d9, d10, d11, d12] [(.int r260.1)])) t
    refine XS.istoreS X260.here hx rfl (hb hby at_127) rfl rfl o_d9 ?_
    show Steps p.tables e below (T260.setTop (mkF m 129 #[d0, d1, d2, .val (.int v3), .val (.int v4), .val (.int v5), .val (.ref b1), .val (.int v7), .val (.int t0), .val (.int r260.1), d10, d11, d12] [])) t
    refine XS.iload X260.here hx rfl (hb hby at_129) rfl ?_
    show Steps p.tables e below (T260.setTop (mkF m 131 #[d0, d1, d2, .val (.int v3), .val (.int v4), .val (.int v5), .val (.ref b1), .val (.int v7), .val (.int t0), .val (.int r260.1), d10, d11, d12] [(.int r260.1)])) t
    refine XS.iload X260.here hx rfl (hb hby at_131) rfl ?_
    show Steps p.tables e below (T260.setTop (mkF m 133 #[d0, d1, d2, .val (.int v3), .val (.int v4), .val (.int v5), .val (.ref b1), .val (.int v7), .val (.int t0), .val (.int r260.1), d10, d11, d12] [(.int v4), (.int r260.1)])) t
    refine XS.iload X260.here hx rfl (hb hby at_133) rfl ?_
    show Steps p.tables e below (T260.setTop (mkF m 135 #[d0, d1, d2, .val (.int v3), .val (.int v4), .val (.int v5), .val (.ref b1), .val (.int v7), .val (.int t0), .val (.int r260.1), d10, d11, d12] [(.int v7), (.int v4), (.int r260.1)])) t
    refine XS.iadd X260.here hx rfl (hb hby at_135) rfl ?_
    exact k
  by_cases hc136 : r260.1 = (v4 + v7)
  · rw [if_pos hc136] at hF
    refine own_Goes.via (B := T260.setTop (mkF m 150 #[d0, d1, d2, .val (.int v3), .val (.int v4), .val (.int v5), .val (.ref b1), .val (.int v7), .val (.int t0), .val (.int r260.1), d10, d11, d12] [(.int v5), (.int r260.1), (.int v4), (.int (0 : Int32)), (.ref b1)])) (fun t k => ?_) ?_
    · show Steps p.tables e below (T260.setTop (mkF m 136 #[d0, d1, d2, .val (.int v3), .val (.int v4), .val (.int v5), .val (.ref b1), .val (.int v7), .val (.int t0), .val (.int r260.1), d10, d11, d12] [(.int (v4 + v7)), (.int r260.1)])) t
      refine XS.icmpYes X260.here hx rfl (pc0 := 136) (pc' := 141) rfl (hb hby at_136) rfl (teq hc136).1 (by decide) (by decide) ?_
      show Steps p.tables e below (T260.setTop (mkF m 141 #[d0, d1, d2, .val (.int v3), .val (.int v4), .val (.int v5), .val (.ref b1), .val (.int v7), .val (.int t0), .val (.int r260.1), d10, d11, d12] [])) t
      refine XS.aload X260.here hx rfl (hb hby at_141) rfl rfl ?_
      show Steps p.tables e below (T260.setTop (mkF m 143 #[d0, d1, d2, .val (.int v3), .val (.int v4), .val (.int v5), .val (.ref b1), .val (.int v7), .val (.int t0), .val (.int r260.1), d10, d11, d12] [(.ref b1)])) t
      refine XS.iconst X260.here hx rfl (hb hby at_143) ?_
      show Steps p.tables e below (T260.setTop (mkF m 144 #[d0, d1, d2, .val (.int v3), .val (.int v4), .val (.int v5), .val (.ref b1), .val (.int v7), .val (.int t0), .val (.int r260.1), d10, d11, d12] [(.int (0 : Int32)), (.ref b1)])) t
      refine XS.iload X260.here hx rfl (hb hby at_144) rfl ?_
      show Steps p.tables e below (T260.setTop (mkF m 146 #[d0, d1, d2, .val (.int v3), .val (.int v4), .val (.int v5), .val (.ref b1), .val (.int v7), .val (.int t0), .val (.int r260.1), d10, d11, d12] [(.int v4), (.int (0 : Int32)), (.ref b1)])) t
      refine XS.iload X260.here hx rfl (hb hby at_146) rfl ?_
      show Steps p.tables e below (T260.setTop (mkF m 148 #[d0, d1, d2, .val (.int v3), .val (.int v4), .val (.int v5), .val (.ref b1), .val (.int v7), .val (.int t0), .val (.int r260.1), d10, d11, d12] [(.int r260.1), (.int v4), (.int (0 : Int32)), (.ref b1)])) t
      refine XS.iload X260.here hx rfl (hb hby at_148) rfl ?_
      exact k
    obtain ⟨r261, hr261, hF⟩ := own_bd_e hF
    obtain ⟨_, _, ⟨T261, L261, k261, n261⟩, -, X261, ⟨Lc261, hQ261, l261, y261, z261⟩, st261⟩ := Jvm.LawKit.callS X260 hx (y := (⟨"com/example/binary64/binary64/Utf8WritePinLaw", "outside", "([BIIIB)Z"⟩ : MethodName)) hown (mvT hZ (w8 hw)) (mvT hZ (w9 hw)) (mvT hZ (w10 hw)) (mvT hZ (w11 hw)) (by decide) (backOf (W := 0) (rm_Utf8WritePinLaw_outside l Z a0 hw [] T260.heap n0 z260_ b1 (0 : Int32) v4 r260.1 v5 r260.2 A260_b1 g_b1 r261 hr261) hZ (w11 hw) (w10 hw) (by decide) (by decide)) (g := (mkF m 150 #[d0, d1, d2, .val (.int v3), .val (.int v4), .val (.int v5), .val (.ref b1), .val (.int v7), .val (.int t0), .val (.int r260.1), d10, d11, d12] [(.int v5), (.int r260.1), (.int v4), (.int (0 : Int32)), (.ref b1)])) rfl (by rw [hml]; rfl) (argsL := [(.ref b1), (.int (0 : Int32)), (.int v4), (.int r260.1), (.int v5)]) (rest := []) (lenOf pd_1 rfl) rfl (by show 2 * 0 + _ ≤ _; exact Nat.le_of_eq rfl) (hb hby at_150) (fun _ _ => ⟨rfl, rfl, (by decide : 1 + 0 ≤ _), (by decide : 6 + 0 ≤ _)⟩)
    dsimp only [Pt.U, Pt.locs, Pt.cells, Pt.slots] at X261 l261 y261 z261 st261 hQ261
    subst l261 y261 z261
    obtain ⟨rfl, N261q, e261⟩ := hQ261
    have N261 := Fr.app N260 N261q
    refine own_Goes.via st261 ?_
    show own_Goes _ _ _ _ _ _ _ (T261.setTop (mkF m 153 #[d0, d1, d2, .val (.int v3), .val (.int v4), .val (.int v5), .val (.ref b1), .val (.int v7), .val (.int t0), .val (.int r260.1), d10, d11, d12] [(.int r261)]))
    by_cases hc153 : r261 = (0 : Int32)
    · rw [if_pos hc153] at hF
      refine own_Goes.via (B := T261.setTop (mkF m 236 #[d0, d1, d2, .val (.int v3), .val (.int v4), .val (.int v5), .val (.ref b1), .val (.int v7), .val (.int t0), .val (.int r260.1), d10, d11, d12] [(.int (0 : Int32))])) (fun t k => ?_) ?_
      · show Steps p.tables e below (T261.setTop (mkF m 153 #[d0, d1, d2, .val (.int v3), .val (.int v4), .val (.int v5), .val (.ref b1), .val (.int v7), .val (.int t0), .val (.int r260.1), d10, d11, d12] [(.int r261)])) t
        refine XS.ifYes X261.here hx rfl (pc0 := 153) (pc' := 235) rfl (hb hby at_153) rfl ((if0 _ _).trans (teq hc153).1) (by decide) (by decide) ?_
        show Steps p.tables e below (T261.setTop (mkF m 235 #[d0, d1, d2, .val (.int v3), .val (.int v4), .val (.int v5), .val (.ref b1), .val (.int v7), .val (.int t0), .val (.int r260.1), d10, d11, d12] [])) t
        refine XS.iconst X261.here hx rfl (hb hby at_235) ?_
        exact k
      exact b_law_236 cx X261 e261 N261 K260_ z260_ b1 v3 v4 v7 t0 r260.1 (0 : Int32) r260.2 d0 d1 d2 (.val (.int v5)) d10 d11 d12 o_d0 o_d1 o_d2 (One.val rfl) o_d10 o_d11 o_d12 A260_b1 g_b1 nE_b1 _ hF
    · rw [if_neg hc153] at hF
      refine own_Goes.via (B := T261.setTop (mkF m 165 #[d0, d1, d2, .val (.int v3), .val (.int v4), .val (.int v5), .val (.ref b1), .val (.int v7), .val (.int t0), .val (.int r260.1), d10, d11, d12] [(.int v5), (.int r260.1), (.int v4), (.int (1 : Int32)), (.ref b1)])) (fun t k => ?_) ?_
      · show Steps p.tables e below (T261.setTop (mkF m 153 #[d0, d1, d2, .val (.int v3), .val (.int v4), .val (.int v5), .val (.ref b1), .val (.int v7), .val (.int t0), .val (.int r260.1), d10, d11, d12] [(.int r261)])) t
        refine XS.ifNo X261.here hx rfl (hb hby at_153) rfl ((if0 _ _).trans (feq hc153).1) ?_
        show Steps p.tables e below (T261.setTop (mkF m 156 #[d0, d1, d2, .val (.int v3), .val (.int v4), .val (.int v5), .val (.ref b1), .val (.int v7), .val (.int t0), .val (.int r260.1), d10, d11, d12] [])) t
        refine XS.aload X261.here hx rfl (hb hby at_156) rfl rfl ?_
        show Steps p.tables e below (T261.setTop (mkF m 158 #[d0, d1, d2, .val (.int v3), .val (.int v4), .val (.int v5), .val (.ref b1), .val (.int v7), .val (.int t0), .val (.int r260.1), d10, d11, d12] [(.ref b1)])) t
        refine XS.iconst X261.here hx rfl (hb hby at_158) ?_
        show Steps p.tables e below (T261.setTop (mkF m 159 #[d0, d1, d2, .val (.int v3), .val (.int v4), .val (.int v5), .val (.ref b1), .val (.int v7), .val (.int t0), .val (.int r260.1), d10, d11, d12] [(.int (1 : Int32)), (.ref b1)])) t
        refine XS.iload X261.here hx rfl (hb hby at_159) rfl ?_
        show Steps p.tables e below (T261.setTop (mkF m 161 #[d0, d1, d2, .val (.int v3), .val (.int v4), .val (.int v5), .val (.ref b1), .val (.int v7), .val (.int t0), .val (.int r260.1), d10, d11, d12] [(.int v4), (.int (1 : Int32)), (.ref b1)])) t
        refine XS.iload X261.here hx rfl (hb hby at_161) rfl ?_
        show Steps p.tables e below (T261.setTop (mkF m 163 #[d0, d1, d2, .val (.int v3), .val (.int v4), .val (.int v5), .val (.ref b1), .val (.int v7), .val (.int t0), .val (.int r260.1), d10, d11, d12] [(.int r260.1), (.int v4), (.int (1 : Int32)), (.ref b1)])) t
        refine XS.iload X261.here hx rfl (hb hby at_163) rfl ?_
        exact k
      obtain ⟨r262, hr262, hF⟩ := own_bd_e hF
      obtain ⟨_, _, ⟨T262, L262, k262, n262⟩, -, X262, ⟨Lc262, hQ262, l262, y262, z262⟩, st262⟩ := Jvm.LawKit.callS X261 hx (y := (⟨"com/example/binary64/binary64/Utf8WritePinLaw", "outside", "([BIIIB)Z"⟩ : MethodName)) hown (mvT hZ (w8 hw)) (mvT hZ (w9 hw)) (mvT hZ (w10 hw)) (mvT hZ (w11 hw)) (by decide) (backOf (W := 0) (rm_Utf8WritePinLaw_outside l Z a0 hw [] T260.heap n0 z260_ b1 (1 : Int32) v4 r260.1 v5 r260.2 A260_b1 g_b1 r262 hr262) hZ (w11 hw) (w10 hw) (by decide) (by decide)) (g := (mkF m 165 #[d0, d1, d2, .val (.int v3), .val (.int v4), .val (.int v5), .val (.ref b1), .val (.int v7), .val (.int t0), .val (.int r260.1), d10, d11, d12] [(.int v5), (.int r260.1), (.int v4), (.int (1 : Int32)), (.ref b1)])) rfl (by rw [hml]; rfl) (argsL := [(.ref b1), (.int (1 : Int32)), (.int v4), (.int r260.1), (.int v5)]) (rest := []) (lenOf pd_1 rfl) rfl (by show 2 * 0 + _ ≤ _; exact Nat.le_of_eq rfl) (hb hby at_165) (fun _ _ => ⟨rfl, e261, (by decide : 1 + 0 ≤ _), (by decide : 6 + 0 ≤ _)⟩)
      dsimp only [Pt.U, Pt.locs, Pt.cells, Pt.slots] at X262 l262 y262 z262 st262 hQ262
      subst l262 y262 z262
      obtain ⟨rfl, N262q, e262⟩ := hQ262
      have N262 := Fr.app N261 N262q
      refine own_Goes.via st262 ?_
      show own_Goes _ _ _ _ _ _ _ (T262.setTop (mkF m 168 #[d0, d1, d2, .val (.int v3), .val (.int v4), .val (.int v5), .val (.ref b1), .val (.int v7), .val (.int t0), .val (.int r260.1), d10, d11, d12] [(.int r262)]))
      by_cases hc168 : r262 = (0 : Int32)
      · rw [if_pos hc168] at hF
        refine own_Goes.via (B := T262.setTop (mkF m 236 #[d0, d1, d2, .val (.int v3), .val (.int v4), .val (.int v5), .val (.ref b1), .val (.int v7), .val (.int t0), .val (.int r260.1), d10, d11, d12] [(.int (0 : Int32))])) (fun t k => ?_) ?_
        · show Steps p.tables e below (T262.setTop (mkF m 168 #[d0, d1, d2, .val (.int v3), .val (.int v4), .val (.int v5), .val (.ref b1), .val (.int v7), .val (.int t0), .val (.int r260.1), d10, d11, d12] [(.int r262)])) t
          refine XS.ifYes X262.here hx rfl (pc0 := 168) (pc' := 235) rfl (hb hby at_168) rfl ((if0 _ _).trans (teq hc168).1) (by decide) (by decide) ?_
          show Steps p.tables e below (T262.setTop (mkF m 235 #[d0, d1, d2, .val (.int v3), .val (.int v4), .val (.int v5), .val (.ref b1), .val (.int v7), .val (.int t0), .val (.int r260.1), d10, d11, d12] [])) t
          refine XS.iconst X262.here hx rfl (hb hby at_235) ?_
          exact k
        exact b_law_236 cx X262 e262 N262 K260_ z260_ b1 v3 v4 v7 t0 r260.1 (0 : Int32) r260.2 d0 d1 d2 (.val (.int v5)) d10 d11 d12 o_d0 o_d1 o_d2 (One.val rfl) o_d10 o_d11 o_d12 A260_b1 g_b1 nE_b1 _ hF
      · rw [if_neg hc168] at hF
        refine own_Goes.via (B := T262.setTop (mkF m 180 #[d0, d1, d2, .val (.int v3), .val (.int v4), .val (.int v5), .val (.ref b1), .val (.int v7), .val (.int t0), .val (.int r260.1), d10, d11, d12] [(.int v5), (.int r260.1), (.int v4), (.int (2 : Int32)), (.ref b1)])) (fun t k => ?_) ?_
        · show Steps p.tables e below (T262.setTop (mkF m 168 #[d0, d1, d2, .val (.int v3), .val (.int v4), .val (.int v5), .val (.ref b1), .val (.int v7), .val (.int t0), .val (.int r260.1), d10, d11, d12] [(.int r262)])) t
          refine XS.ifNo X262.here hx rfl (hb hby at_168) rfl ((if0 _ _).trans (feq hc168).1) ?_
          show Steps p.tables e below (T262.setTop (mkF m 171 #[d0, d1, d2, .val (.int v3), .val (.int v4), .val (.int v5), .val (.ref b1), .val (.int v7), .val (.int t0), .val (.int r260.1), d10, d11, d12] [])) t
          refine XS.aload X262.here hx rfl (hb hby at_171) rfl rfl ?_
          show Steps p.tables e below (T262.setTop (mkF m 173 #[d0, d1, d2, .val (.int v3), .val (.int v4), .val (.int v5), .val (.ref b1), .val (.int v7), .val (.int t0), .val (.int r260.1), d10, d11, d12] [(.ref b1)])) t
          refine XS.iconst X262.here hx rfl (hb hby at_173) ?_
          show Steps p.tables e below (T262.setTop (mkF m 174 #[d0, d1, d2, .val (.int v3), .val (.int v4), .val (.int v5), .val (.ref b1), .val (.int v7), .val (.int t0), .val (.int r260.1), d10, d11, d12] [(.int (2 : Int32)), (.ref b1)])) t
          refine XS.iload X262.here hx rfl (hb hby at_174) rfl ?_
          show Steps p.tables e below (T262.setTop (mkF m 176 #[d0, d1, d2, .val (.int v3), .val (.int v4), .val (.int v5), .val (.ref b1), .val (.int v7), .val (.int t0), .val (.int r260.1), d10, d11, d12] [(.int v4), (.int (2 : Int32)), (.ref b1)])) t
          refine XS.iload X262.here hx rfl (hb hby at_176) rfl ?_
          show Steps p.tables e below (T262.setTop (mkF m 178 #[d0, d1, d2, .val (.int v3), .val (.int v4), .val (.int v5), .val (.ref b1), .val (.int v7), .val (.int t0), .val (.int r260.1), d10, d11, d12] [(.int r260.1), (.int v4), (.int (2 : Int32)), (.ref b1)])) t
          refine XS.iload X262.here hx rfl (hb hby at_178) rfl ?_
          exact k
        obtain ⟨r263, hr263, hF⟩ := own_bd_e hF
        obtain ⟨_, _, ⟨T263, L263, k263, n263⟩, -, X263, ⟨Lc263, hQ263, l263, y263, z263⟩, st263⟩ := Jvm.LawKit.callS X262 hx (y := (⟨"com/example/binary64/binary64/Utf8WritePinLaw", "outside", "([BIIIB)Z"⟩ : MethodName)) hown (mvT hZ (w8 hw)) (mvT hZ (w9 hw)) (mvT hZ (w10 hw)) (mvT hZ (w11 hw)) (by decide) (backOf (W := 0) (rm_Utf8WritePinLaw_outside l Z a0 hw [] T260.heap n0 z260_ b1 (2 : Int32) v4 r260.1 v5 r260.2 A260_b1 g_b1 r263 hr263) hZ (w11 hw) (w10 hw) (by decide) (by decide)) (g := (mkF m 180 #[d0, d1, d2, .val (.int v3), .val (.int v4), .val (.int v5), .val (.ref b1), .val (.int v7), .val (.int t0), .val (.int r260.1), d10, d11, d12] [(.int v5), (.int r260.1), (.int v4), (.int (2 : Int32)), (.ref b1)])) rfl (by rw [hml]; rfl) (argsL := [(.ref b1), (.int (2 : Int32)), (.int v4), (.int r260.1), (.int v5)]) (rest := []) (lenOf pd_1 rfl) rfl (by show 2 * 0 + _ ≤ _; exact Nat.le_of_eq rfl) (hb hby at_180) (fun _ _ => ⟨rfl, e262, (by decide : 1 + 0 ≤ _), (by decide : 6 + 0 ≤ _)⟩)
        dsimp only [Pt.U, Pt.locs, Pt.cells, Pt.slots] at X263 l263 y263 z263 st263 hQ263
        subst l263 y263 z263
        obtain ⟨rfl, N263q, e263⟩ := hQ263
        have N263 := Fr.app N262 N263q
        refine own_Goes.via st263 ?_
        show own_Goes _ _ _ _ _ _ _ (T263.setTop (mkF m 183 #[d0, d1, d2, .val (.int v3), .val (.int v4), .val (.int v5), .val (.ref b1), .val (.int v7), .val (.int t0), .val (.int r260.1), d10, d11, d12] [(.int r263)]))
        by_cases hc183 : r263 = (0 : Int32)
        · rw [if_pos hc183] at hF
          refine own_Goes.via (B := T263.setTop (mkF m 236 #[d0, d1, d2, .val (.int v3), .val (.int v4), .val (.int v5), .val (.ref b1), .val (.int v7), .val (.int t0), .val (.int r260.1), d10, d11, d12] [(.int (0 : Int32))])) (fun t k => ?_) ?_
          · show Steps p.tables e below (T263.setTop (mkF m 183 #[d0, d1, d2, .val (.int v3), .val (.int v4), .val (.int v5), .val (.ref b1), .val (.int v7), .val (.int t0), .val (.int r260.1), d10, d11, d12] [(.int r263)])) t
            refine XS.ifYes X263.here hx rfl (pc0 := 183) (pc' := 235) rfl (hb hby at_183) rfl ((if0 _ _).trans (teq hc183).1) (by decide) (by decide) ?_
            show Steps p.tables e below (T263.setTop (mkF m 235 #[d0, d1, d2, .val (.int v3), .val (.int v4), .val (.int v5), .val (.ref b1), .val (.int v7), .val (.int t0), .val (.int r260.1), d10, d11, d12] [])) t
            refine XS.iconst X263.here hx rfl (hb hby at_235) ?_
            exact k
          exact b_law_236 cx X263 e263 N263 K260_ z260_ b1 v3 v4 v7 t0 r260.1 (0 : Int32) r260.2 d0 d1 d2 (.val (.int v5)) d10 d11 d12 o_d0 o_d1 o_d2 (One.val rfl) o_d10 o_d11 o_d12 A260_b1 g_b1 nE_b1 _ hF
        · rw [if_neg hc183] at hF
          refine own_Goes.via (B := T263.setTop (mkF m 195 #[d0, d1, d2, .val (.int v3), .val (.int v4), .val (.int v5), .val (.ref b1), .val (.int v7), .val (.int t0), .val (.int r260.1), d10, d11, d12] [(.int v5), (.int r260.1), (.int v4), (.int (3 : Int32)), (.ref b1)])) (fun t k => ?_) ?_
          · show Steps p.tables e below (T263.setTop (mkF m 183 #[d0, d1, d2, .val (.int v3), .val (.int v4), .val (.int v5), .val (.ref b1), .val (.int v7), .val (.int t0), .val (.int r260.1), d10, d11, d12] [(.int r263)])) t
            refine XS.ifNo X263.here hx rfl (hb hby at_183) rfl ((if0 _ _).trans (feq hc183).1) ?_
            show Steps p.tables e below (T263.setTop (mkF m 186 #[d0, d1, d2, .val (.int v3), .val (.int v4), .val (.int v5), .val (.ref b1), .val (.int v7), .val (.int t0), .val (.int r260.1), d10, d11, d12] [])) t
            refine XS.aload X263.here hx rfl (hb hby at_186) rfl rfl ?_
            show Steps p.tables e below (T263.setTop (mkF m 188 #[d0, d1, d2, .val (.int v3), .val (.int v4), .val (.int v5), .val (.ref b1), .val (.int v7), .val (.int t0), .val (.int r260.1), d10, d11, d12] [(.ref b1)])) t
            refine XS.iconst X263.here hx rfl (hb hby at_188) ?_
            show Steps p.tables e below (T263.setTop (mkF m 189 #[d0, d1, d2, .val (.int v3), .val (.int v4), .val (.int v5), .val (.ref b1), .val (.int v7), .val (.int t0), .val (.int r260.1), d10, d11, d12] [(.int (3 : Int32)), (.ref b1)])) t
            refine XS.iload X263.here hx rfl (hb hby at_189) rfl ?_
            show Steps p.tables e below (T263.setTop (mkF m 191 #[d0, d1, d2, .val (.int v3), .val (.int v4), .val (.int v5), .val (.ref b1), .val (.int v7), .val (.int t0), .val (.int r260.1), d10, d11, d12] [(.int v4), (.int (3 : Int32)), (.ref b1)])) t
            refine XS.iload X263.here hx rfl (hb hby at_191) rfl ?_
            show Steps p.tables e below (T263.setTop (mkF m 193 #[d0, d1, d2, .val (.int v3), .val (.int v4), .val (.int v5), .val (.ref b1), .val (.int v7), .val (.int t0), .val (.int r260.1), d10, d11, d12] [(.int r260.1), (.int v4), (.int (3 : Int32)), (.ref b1)])) t
            refine XS.iload X263.here hx rfl (hb hby at_193) rfl ?_
            exact k
          obtain ⟨r264, hr264, hF⟩ := own_bd_e hF
          obtain ⟨_, _, ⟨T264, L264, k264, n264⟩, -, X264, ⟨Lc264, hQ264, l264, y264, z264⟩, st264⟩ := Jvm.LawKit.callS X263 hx (y := (⟨"com/example/binary64/binary64/Utf8WritePinLaw", "outside", "([BIIIB)Z"⟩ : MethodName)) hown (mvT hZ (w8 hw)) (mvT hZ (w9 hw)) (mvT hZ (w10 hw)) (mvT hZ (w11 hw)) (by decide) (backOf (W := 0) (rm_Utf8WritePinLaw_outside l Z a0 hw [] T260.heap n0 z260_ b1 (3 : Int32) v4 r260.1 v5 r260.2 A260_b1 g_b1 r264 hr264) hZ (w11 hw) (w10 hw) (by decide) (by decide)) (g := (mkF m 195 #[d0, d1, d2, .val (.int v3), .val (.int v4), .val (.int v5), .val (.ref b1), .val (.int v7), .val (.int t0), .val (.int r260.1), d10, d11, d12] [(.int v5), (.int r260.1), (.int v4), (.int (3 : Int32)), (.ref b1)])) rfl (by rw [hml]; rfl) (argsL := [(.ref b1), (.int (3 : Int32)), (.int v4), (.int r260.1), (.int v5)]) (rest := []) (lenOf pd_1 rfl) rfl (by show 2 * 0 + _ ≤ _; exact Nat.le_of_eq rfl) (hb hby at_195) (fun _ _ => ⟨rfl, e263, (by decide : 1 + 0 ≤ _), (by decide : 6 + 0 ≤ _)⟩)
          dsimp only [Pt.U, Pt.locs, Pt.cells, Pt.slots] at X264 l264 y264 z264 st264 hQ264
          subst l264 y264 z264
          obtain ⟨rfl, N264q, e264⟩ := hQ264
          have N264 := Fr.app N263 N264q
          refine own_Goes.via st264 ?_
          show own_Goes _ _ _ _ _ _ _ (T264.setTop (mkF m 198 #[d0, d1, d2, .val (.int v3), .val (.int v4), .val (.int v5), .val (.ref b1), .val (.int v7), .val (.int t0), .val (.int r260.1), d10, d11, d12] [(.int r264)]))
          by_cases hc198 : r264 = (0 : Int32)
          · rw [if_pos hc198] at hF
            refine own_Goes.via (B := T264.setTop (mkF m 236 #[d0, d1, d2, .val (.int v3), .val (.int v4), .val (.int v5), .val (.ref b1), .val (.int v7), .val (.int t0), .val (.int r260.1), d10, d11, d12] [(.int (0 : Int32))])) (fun t k => ?_) ?_
            · show Steps p.tables e below (T264.setTop (mkF m 198 #[d0, d1, d2, .val (.int v3), .val (.int v4), .val (.int v5), .val (.ref b1), .val (.int v7), .val (.int t0), .val (.int r260.1), d10, d11, d12] [(.int r264)])) t
              refine XS.ifYes X264.here hx rfl (pc0 := 198) (pc' := 235) rfl (hb hby at_198) rfl ((if0 _ _).trans (teq hc198).1) (by decide) (by decide) ?_
              show Steps p.tables e below (T264.setTop (mkF m 235 #[d0, d1, d2, .val (.int v3), .val (.int v4), .val (.int v5), .val (.ref b1), .val (.int v7), .val (.int t0), .val (.int r260.1), d10, d11, d12] [])) t
              refine XS.iconst X264.here hx rfl (hb hby at_235) ?_
              exact k
            exact b_law_236 cx X264 e264 N264 K260_ z260_ b1 v3 v4 v7 t0 r260.1 (0 : Int32) r260.2 d0 d1 d2 (.val (.int v5)) d10 d11 d12 o_d0 o_d1 o_d2 (One.val rfl) o_d10 o_d11 o_d12 A260_b1 g_b1 nE_b1 _ hF
          · rw [if_neg hc198] at hF
            refine own_Goes.via (B := T264.setTop (mkF m 210 #[d0, d1, d2, .val (.int v3), .val (.int v4), .val (.int v5), .val (.ref b1), .val (.int v7), .val (.int t0), .val (.int r260.1), d10, d11, d12] [(.int v5), (.int r260.1), (.int v4), (.int (4 : Int32)), (.ref b1)])) (fun t k => ?_) ?_
            · show Steps p.tables e below (T264.setTop (mkF m 198 #[d0, d1, d2, .val (.int v3), .val (.int v4), .val (.int v5), .val (.ref b1), .val (.int v7), .val (.int t0), .val (.int r260.1), d10, d11, d12] [(.int r264)])) t
              refine XS.ifNo X264.here hx rfl (hb hby at_198) rfl ((if0 _ _).trans (feq hc198).1) ?_
              show Steps p.tables e below (T264.setTop (mkF m 201 #[d0, d1, d2, .val (.int v3), .val (.int v4), .val (.int v5), .val (.ref b1), .val (.int v7), .val (.int t0), .val (.int r260.1), d10, d11, d12] [])) t
              refine XS.aload X264.here hx rfl (hb hby at_201) rfl rfl ?_
              show Steps p.tables e below (T264.setTop (mkF m 203 #[d0, d1, d2, .val (.int v3), .val (.int v4), .val (.int v5), .val (.ref b1), .val (.int v7), .val (.int t0), .val (.int r260.1), d10, d11, d12] [(.ref b1)])) t
              refine XS.iconst X264.here hx rfl (hb hby at_203) ?_
              show Steps p.tables e below (T264.setTop (mkF m 204 #[d0, d1, d2, .val (.int v3), .val (.int v4), .val (.int v5), .val (.ref b1), .val (.int v7), .val (.int t0), .val (.int r260.1), d10, d11, d12] [(.int (4 : Int32)), (.ref b1)])) t
              refine XS.iload X264.here hx rfl (hb hby at_204) rfl ?_
              show Steps p.tables e below (T264.setTop (mkF m 206 #[d0, d1, d2, .val (.int v3), .val (.int v4), .val (.int v5), .val (.ref b1), .val (.int v7), .val (.int t0), .val (.int r260.1), d10, d11, d12] [(.int v4), (.int (4 : Int32)), (.ref b1)])) t
              refine XS.iload X264.here hx rfl (hb hby at_206) rfl ?_
              show Steps p.tables e below (T264.setTop (mkF m 208 #[d0, d1, d2, .val (.int v3), .val (.int v4), .val (.int v5), .val (.ref b1), .val (.int v7), .val (.int t0), .val (.int r260.1), d10, d11, d12] [(.int r260.1), (.int v4), (.int (4 : Int32)), (.ref b1)])) t
              refine XS.iload X264.here hx rfl (hb hby at_208) rfl ?_
              exact k
            obtain ⟨r265, hr265, hF⟩ := own_bd_e hF
            obtain ⟨_, _, ⟨T265, L265, k265, n265⟩, -, X265, ⟨Lc265, hQ265, l265, y265, z265⟩, st265⟩ := Jvm.LawKit.callS X264 hx (y := (⟨"com/example/binary64/binary64/Utf8WritePinLaw", "outside", "([BIIIB)Z"⟩ : MethodName)) hown (mvT hZ (w8 hw)) (mvT hZ (w9 hw)) (mvT hZ (w10 hw)) (mvT hZ (w11 hw)) (by decide) (backOf (W := 0) (rm_Utf8WritePinLaw_outside l Z a0 hw [] T260.heap n0 z260_ b1 (4 : Int32) v4 r260.1 v5 r260.2 A260_b1 g_b1 r265 hr265) hZ (w11 hw) (w10 hw) (by decide) (by decide)) (g := (mkF m 210 #[d0, d1, d2, .val (.int v3), .val (.int v4), .val (.int v5), .val (.ref b1), .val (.int v7), .val (.int t0), .val (.int r260.1), d10, d11, d12] [(.int v5), (.int r260.1), (.int v4), (.int (4 : Int32)), (.ref b1)])) rfl (by rw [hml]; rfl) (argsL := [(.ref b1), (.int (4 : Int32)), (.int v4), (.int r260.1), (.int v5)]) (rest := []) (lenOf pd_1 rfl) rfl (by show 2 * 0 + _ ≤ _; exact Nat.le_of_eq rfl) (hb hby at_210) (fun _ _ => ⟨rfl, e264, (by decide : 1 + 0 ≤ _), (by decide : 6 + 0 ≤ _)⟩)
            dsimp only [Pt.U, Pt.locs, Pt.cells, Pt.slots] at X265 l265 y265 z265 st265 hQ265
            subst l265 y265 z265
            obtain ⟨rfl, N265q, e265⟩ := hQ265
            have N265 := Fr.app N264 N265q
            refine own_Goes.via st265 ?_
            show own_Goes _ _ _ _ _ _ _ (T265.setTop (mkF m 213 #[d0, d1, d2, .val (.int v3), .val (.int v4), .val (.int v5), .val (.ref b1), .val (.int v7), .val (.int t0), .val (.int r260.1), d10, d11, d12] [(.int r265)]))
            by_cases hc213 : r265 = (0 : Int32)
            · rw [if_pos hc213] at hF
              refine own_Goes.via (B := T265.setTop (mkF m 236 #[d0, d1, d2, .val (.int v3), .val (.int v4), .val (.int v5), .val (.ref b1), .val (.int v7), .val (.int t0), .val (.int r260.1), d10, d11, d12] [(.int (0 : Int32))])) (fun t k => ?_) ?_
              · show Steps p.tables e below (T265.setTop (mkF m 213 #[d0, d1, d2, .val (.int v3), .val (.int v4), .val (.int v5), .val (.ref b1), .val (.int v7), .val (.int t0), .val (.int r260.1), d10, d11, d12] [(.int r265)])) t
                refine XS.ifYes X265.here hx rfl (pc0 := 213) (pc' := 235) rfl (hb hby at_213) rfl ((if0 _ _).trans (teq hc213).1) (by decide) (by decide) ?_
                show Steps p.tables e below (T265.setTop (mkF m 235 #[d0, d1, d2, .val (.int v3), .val (.int v4), .val (.int v5), .val (.ref b1), .val (.int v7), .val (.int t0), .val (.int r260.1), d10, d11, d12] [])) t
                refine XS.iconst X265.here hx rfl (hb hby at_235) ?_
                exact k
              exact b_law_236 cx X265 e265 N265 K260_ z260_ b1 v3 v4 v7 t0 r260.1 (0 : Int32) r260.2 d0 d1 d2 (.val (.int v5)) d10 d11 d12 o_d0 o_d1 o_d2 (One.val rfl) o_d10 o_d11 o_d12 A260_b1 g_b1 nE_b1 _ hF
            · rw [if_neg hc213] at hF
              refine own_Goes.via (B := T265.setTop (mkF m 225 #[d0, d1, d2, .val (.int v3), .val (.int v4), .val (.int v5), .val (.ref b1), .val (.int v7), .val (.int t0), .val (.int r260.1), d10, d11, d12] [(.int v5), (.int r260.1), (.int v4), (.int (5 : Int32)), (.ref b1)])) (fun t k => ?_) ?_
              · show Steps p.tables e below (T265.setTop (mkF m 213 #[d0, d1, d2, .val (.int v3), .val (.int v4), .val (.int v5), .val (.ref b1), .val (.int v7), .val (.int t0), .val (.int r260.1), d10, d11, d12] [(.int r265)])) t
                refine XS.ifNo X265.here hx rfl (hb hby at_213) rfl ((if0 _ _).trans (feq hc213).1) ?_
                show Steps p.tables e below (T265.setTop (mkF m 216 #[d0, d1, d2, .val (.int v3), .val (.int v4), .val (.int v5), .val (.ref b1), .val (.int v7), .val (.int t0), .val (.int r260.1), d10, d11, d12] [])) t
                refine XS.aload X265.here hx rfl (hb hby at_216) rfl rfl ?_
                show Steps p.tables e below (T265.setTop (mkF m 218 #[d0, d1, d2, .val (.int v3), .val (.int v4), .val (.int v5), .val (.ref b1), .val (.int v7), .val (.int t0), .val (.int r260.1), d10, d11, d12] [(.ref b1)])) t
                refine XS.iconst X265.here hx rfl (hb hby at_218) ?_
                show Steps p.tables e below (T265.setTop (mkF m 219 #[d0, d1, d2, .val (.int v3), .val (.int v4), .val (.int v5), .val (.ref b1), .val (.int v7), .val (.int t0), .val (.int r260.1), d10, d11, d12] [(.int (5 : Int32)), (.ref b1)])) t
                refine XS.iload X265.here hx rfl (hb hby at_219) rfl ?_
                show Steps p.tables e below (T265.setTop (mkF m 221 #[d0, d1, d2, .val (.int v3), .val (.int v4), .val (.int v5), .val (.ref b1), .val (.int v7), .val (.int t0), .val (.int r260.1), d10, d11, d12] [(.int v4), (.int (5 : Int32)), (.ref b1)])) t
                refine XS.iload X265.here hx rfl (hb hby at_221) rfl ?_
                show Steps p.tables e below (T265.setTop (mkF m 223 #[d0, d1, d2, .val (.int v3), .val (.int v4), .val (.int v5), .val (.ref b1), .val (.int v7), .val (.int t0), .val (.int r260.1), d10, d11, d12] [(.int r260.1), (.int v4), (.int (5 : Int32)), (.ref b1)])) t
                refine XS.iload X265.here hx rfl (hb hby at_223) rfl ?_
                exact k
              obtain ⟨r266, hr266, hF⟩ := own_bd_e hF
              obtain ⟨_, _, ⟨T266, L266, k266, n266⟩, -, X266, ⟨Lc266, hQ266, l266, y266, z266⟩, st266⟩ := Jvm.LawKit.callS X265 hx (y := (⟨"com/example/binary64/binary64/Utf8WritePinLaw", "outside", "([BIIIB)Z"⟩ : MethodName)) hown (mvT hZ (w8 hw)) (mvT hZ (w9 hw)) (mvT hZ (w10 hw)) (mvT hZ (w11 hw)) (by decide) (backOf (W := 0) (rm_Utf8WritePinLaw_outside l Z a0 hw [] T260.heap n0 z260_ b1 (5 : Int32) v4 r260.1 v5 r260.2 A260_b1 g_b1 r266 hr266) hZ (w11 hw) (w10 hw) (by decide) (by decide)) (g := (mkF m 225 #[d0, d1, d2, .val (.int v3), .val (.int v4), .val (.int v5), .val (.ref b1), .val (.int v7), .val (.int t0), .val (.int r260.1), d10, d11, d12] [(.int v5), (.int r260.1), (.int v4), (.int (5 : Int32)), (.ref b1)])) rfl (by rw [hml]; rfl) (argsL := [(.ref b1), (.int (5 : Int32)), (.int v4), (.int r260.1), (.int v5)]) (rest := []) (lenOf pd_1 rfl) rfl (by show 2 * 0 + _ ≤ _; exact Nat.le_of_eq rfl) (hb hby at_225) (fun _ _ => ⟨rfl, e265, (by decide : 1 + 0 ≤ _), (by decide : 6 + 0 ≤ _)⟩)
              dsimp only [Pt.U, Pt.locs, Pt.cells, Pt.slots] at X266 l266 y266 z266 st266 hQ266
              subst l266 y266 z266
              obtain ⟨rfl, N266q, e266⟩ := hQ266
              have N266 := Fr.app N265 N266q
              refine own_Goes.via st266 ?_
              show own_Goes _ _ _ _ _ _ _ (T266.setTop (mkF m 228 #[d0, d1, d2, .val (.int v3), .val (.int v4), .val (.int v5), .val (.ref b1), .val (.int v7), .val (.int t0), .val (.int r260.1), d10, d11, d12] [(.int r266)]))
              by_cases hc228 : r266 = (0 : Int32)
              · rw [if_pos hc228] at hF
                refine own_Goes.via (B := T266.setTop (mkF m 236 #[d0, d1, d2, .val (.int v3), .val (.int v4), .val (.int v5), .val (.ref b1), .val (.int v7), .val (.int t0), .val (.int r260.1), d10, d11, d12] [(.int (0 : Int32))])) (fun t k => ?_) ?_
                · show Steps p.tables e below (T266.setTop (mkF m 228 #[d0, d1, d2, .val (.int v3), .val (.int v4), .val (.int v5), .val (.ref b1), .val (.int v7), .val (.int t0), .val (.int r260.1), d10, d11, d12] [(.int r266)])) t
                  refine XS.ifYes X266.here hx rfl (pc0 := 228) (pc' := 235) rfl (hb hby at_228) rfl ((if0 _ _).trans (teq hc228).1) (by decide) (by decide) ?_
                  show Steps p.tables e below (T266.setTop (mkF m 235 #[d0, d1, d2, .val (.int v3), .val (.int v4), .val (.int v5), .val (.ref b1), .val (.int v7), .val (.int t0), .val (.int r260.1), d10, d11, d12] [])) t
                  refine XS.iconst X266.here hx rfl (hb hby at_235) ?_
                  exact k
                exact b_law_236 cx X266 e266 N266 K260_ z260_ b1 v3 v4 v7 t0 r260.1 (0 : Int32) r260.2 d0 d1 d2 (.val (.int v5)) d10 d11 d12 o_d0 o_d1 o_d2 (One.val rfl) o_d10 o_d11 o_d12 A260_b1 g_b1 nE_b1 _ hF
              · rw [if_neg hc228] at hF
                refine own_Goes.via (B := T266.setTop (mkF m 236 #[d0, d1, d2, .val (.int v3), .val (.int v4), .val (.int v5), .val (.ref b1), .val (.int v7), .val (.int t0), .val (.int r260.1), d10, d11, d12] [(.int (1 : Int32))])) (fun t k => ?_) ?_
                · show Steps p.tables e below (T266.setTop (mkF m 228 #[d0, d1, d2, .val (.int v3), .val (.int v4), .val (.int v5), .val (.ref b1), .val (.int v7), .val (.int t0), .val (.int r260.1), d10, d11, d12] [(.int r266)])) t
                  refine XS.ifNo X266.here hx rfl (hb hby at_228) rfl ((if0 _ _).trans (feq hc228).1) ?_
                  show Steps p.tables e below (T266.setTop (mkF m 231 #[d0, d1, d2, .val (.int v3), .val (.int v4), .val (.int v5), .val (.ref b1), .val (.int v7), .val (.int t0), .val (.int r260.1), d10, d11, d12] [])) t
                  refine XS.iconst X266.here hx rfl (hb hby at_231) ?_
                  show Steps p.tables e below (T266.setTop (mkF m 232 #[d0, d1, d2, .val (.int v3), .val (.int v4), .val (.int v5), .val (.ref b1), .val (.int v7), .val (.int t0), .val (.int r260.1), d10, d11, d12] [(.int (1 : Int32))])) t
                  refine XS.goto X266.here hx rfl (pc0 := 232) (pc' := 236) rfl (hb hby at_232) (by decide) (by decide) ?_
                  exact k
                exact b_law_236 cx X266 e266 N266 K260_ z260_ b1 v3 v4 v7 t0 r260.1 (1 : Int32) r260.2 d0 d1 d2 (.val (.int v5)) d10 d11 d12 o_d0 o_d1 o_d2 (One.val rfl) o_d10 o_d11 o_d12 A260_b1 g_b1 nE_b1 _ hF
  · rw [if_neg hc136] at hF
    refine own_Goes.via (B := T260.setTop (mkF m 140 #[d0, d1, d2, .val (.int v3), .val (.int v4), .val (.int v5), .val (.ref b1), .val (.int v7), .val (.int t0), .val (.int r260.1), d10, d11, d12] [(.int (0 : Int32))])) (fun t k => ?_) ?_
    · show Steps p.tables e below (T260.setTop (mkF m 136 #[d0, d1, d2, .val (.int v3), .val (.int v4), .val (.int v5), .val (.ref b1), .val (.int v7), .val (.int t0), .val (.int r260.1), d10, d11, d12] [(.int (v4 + v7)), (.int r260.1)])) t
      refine XS.icmpNo X260.here hx rfl (hb hby at_136) rfl (feq hc136).1 ?_
      show Steps p.tables e below (T260.setTop (mkF m 139 #[d0, d1, d2, .val (.int v3), .val (.int v4), .val (.int v5), .val (.ref b1), .val (.int v7), .val (.int t0), .val (.int r260.1), d10, d11, d12] [])) t
      refine XS.iconst X260.here hx rfl (hb hby at_139) ?_
      exact k
    obtain rfl : (0 : Int32) = r := Option.some.inj hF
    exact own_retN X260 hx (t := .boolean) hret hlk (by simp) (hb hby at_140) rfl (v := (0 : Int32)) (by decide) ⟨rfl, N260, K260_⟩ (by decide) (by decide)
set_option maxRecDepth 65536 in
set_option maxHeartbeats 4000000 in
theorem b_law {p : Program} {l : Launch} {e : Env} {s : State} {m : MethodId} {args : Array Value} {below : List Frame} {meth : Method} {c : Code} {Z : State} {a0 : Array Value} {n0 : Nat} {hE : Heap} (cx : Cx_law p s m meth c Z a0) :
    ∀ {T : State} {locs : List Loc} {h : Heap} (X : Stand p l e room_1 s m args below meth c T locs 0 0) (eT : T.heap = h) (N : Fr n0 locs) (K : Keep hE h []) (z : n0 ≤ h.size) (v0 : Int32) (v1 : Int32) (v2 : Int32) (r : Int32), f_law v0 v1 v2 = some r → own_Goes p e below s (Q_law Z hE n0 r) 1 6 (T.setTop (mkF m 0 #[.val (.int v0), .val (.int v1), .val (.int v2), .unset, .unset, .unset, .unset, .unset, .unset, .unset, .unset, .unset, .unset] [])) := by
  have cx' := cx
  obtain ⟨hx, hZ, hw, hby, hml, hown, hret, hlk, hnm⟩ := cx'
  intro T locs h X eT N K z v0 v1 v2 r hF
  unfold f_law at hF
  refine own_Goes.via (B := T.setTop (mkF m 7 #[.val (.int v0), .val (.int v1), .val (.int v2), .unset, .unset, .unset, .unset, .unset, .unset, .unset, .unset, .unset, .unset] [(.int ((v0 &&& (2097151 : Int32)) % (1114112 : Int32)))])) (fun t k => ?_) ?_
  · show Steps p.tables e below (T.setTop (mkF m 0 #[.val (.int v0), .val (.int v1), .val (.int v2), .unset, .unset, .unset, .unset, .unset, .unset, .unset, .unset, .unset, .unset] [])) t
    refine XS.iloadN X.here hx rfl (hb hby at_0) rfl ?_
    show Steps p.tables e below (T.setTop (mkF m 1 #[.val (.int v0), .val (.int v1), .val (.int v2), .unset, .unset, .unset, .unset, .unset, .unset, .unset, .unset, .unset, .unset] [(.int v0)])) t
    refine X.ldcInt hx hown (mvT hZ (w0 hw)) (g := (mkF m 1 #[.val (.int v0), .val (.int v1), .val (.int v2), .unset, .unset, .unset, .unset, .unset, .unset, .unset, .unset, .unset, .unset] [(.int v0)])) rfl (hb hby at_1) _ ?_
    show Steps p.tables e below (T.setTop (mkF m 3 #[.val (.int v0), .val (.int v1), .val (.int v2), .unset, .unset, .unset, .unset, .unset, .unset, .unset, .unset, .unset, .unset] [(.int (2097151 : Int32)), (.int v0)])) t
    refine XS.iand X.here hx rfl (hb hby at_3) rfl ?_
    show Steps p.tables e below (T.setTop (mkF m 4 #[.val (.int v0), .val (.int v1), .val (.int v2), .unset, .unset, .unset, .unset, .unset, .unset, .unset, .unset, .unset, .unset] [(.int (v0 &&& (2097151 : Int32)))])) t
    refine X.ldcInt hx hown (mvT hZ (w1 hw)) (g := (mkF m 4 #[.val (.int v0), .val (.int v1), .val (.int v2), .unset, .unset, .unset, .unset, .unset, .unset, .unset, .unset, .unset, .unset] [(.int (v0 &&& (2097151 : Int32)))])) rfl (hb hby at_4) _ ?_
    show Steps p.tables e below (T.setTop (mkF m 6 #[.val (.int v0), .val (.int v1), .val (.int v2), .unset, .unset, .unset, .unset, .unset, .unset, .unset, .unset, .unset, .unset] [(.int (1114112 : Int32)), (.int (v0 &&& (2097151 : Int32)))])) t
    refine own_irem X hx rfl (hb hby at_6) rfl (by decide) ?_
    exact k
  obtain ⟨x267, hx267, hF⟩ := own_lt_e hF
  rw [← hx267]
  refine own_Goes.via (B := T.setTop (mkF m 11 #[.val (.int v0), .val (.int v1), .val (.int v2), .val (.int x267), .unset, .unset, .unset, .unset, .unset, .unset, .unset, .unset, .unset] [(.int (v1 &&& (1 : Int32)))])) (fun t k => ?_) ?_
  · show Steps p.tables e below (T.setTop (mkF m 7 #[.val (.int v0), .val (.int v1), .val (.int v2), .unset, .unset, .unset, .unset, .unset, .unset, .unset, .unset, .unset, .unset] [(.int x267)])) t
    refine XS.istoreN X.here hx rfl (hb hby at_7) rfl (l' := #[.val (.int v0), .val (.int v1), .val (.int v2), .val (.int x267), .unset, .unset, .unset, .unset, .unset, .unset, .unset, .unset, .unset]) rfl ?_
    show Steps p.tables e below (T.setTop (mkF m 8 #[.val (.int v0), .val (.int v1), .val (.int v2), .val (.int x267), .unset, .unset, .unset, .unset, .unset, .unset, .unset, .unset, .unset] [])) t
    refine XS.iloadN X.here hx rfl (hb hby at_8) rfl ?_
    show Steps p.tables e below (T.setTop (mkF m 9 #[.val (.int v0), .val (.int v1), .val (.int v2), .val (.int x267), .unset, .unset, .unset, .unset, .unset, .unset, .unset, .unset, .unset] [(.int v1)])) t
    refine XS.iconst X.here hx rfl (hb hby at_9) ?_
    show Steps p.tables e below (T.setTop (mkF m 10 #[.val (.int v0), .val (.int v1), .val (.int v2), .val (.int x267), .unset, .unset, .unset, .unset, .unset, .unset, .unset, .unset, .unset] [(.int (1 : Int32)), (.int v1)])) t
    refine XS.iand X.here hx rfl (hb hby at_10) rfl ?_
    exact k
  obtain ⟨x268, hx268, hF⟩ := own_lt_e hF
  rw [← hx268]
  refine own_Goes.via (B := T.setTop (mkF m 15 #[.val (.int v0), .val (.int v1), .val (.int v2), .val (.int x267), .val (.int x268), .unset, .unset, .unset, .unset, .unset, .unset, .unset, .unset] [(.int (v2.toInt8.toInt32))])) (fun t k => ?_) ?_
  · show Steps p.tables e below (T.setTop (mkF m 11 #[.val (.int v0), .val (.int v1), .val (.int v2), .val (.int x267), .unset, .unset, .unset, .unset, .unset, .unset, .unset, .unset, .unset] [(.int x268)])) t
    refine XS.istore X.here hx rfl (hb hby at_11) rfl (l' := #[.val (.int v0), .val (.int v1), .val (.int v2), .val (.int x267), .val (.int x268), .unset, .unset, .unset, .unset, .unset, .unset, .unset, .unset]) rfl ?_
    show Steps p.tables e below (T.setTop (mkF m 13 #[.val (.int v0), .val (.int v1), .val (.int v2), .val (.int x267), .val (.int x268), .unset, .unset, .unset, .unset, .unset, .unset, .unset, .unset] [])) t
    refine XS.iloadN X.here hx rfl (hb hby at_13) rfl ?_
    show Steps p.tables e below (T.setTop (mkF m 14 #[.val (.int v0), .val (.int v1), .val (.int v2), .val (.int x267), .val (.int x268), .unset, .unset, .unset, .unset, .unset, .unset, .unset, .unset] [(.int v2)])) t
    refine XS.i2b X.here hx rfl (hb hby at_14) rfl ?_
    exact k
  obtain ⟨x269, hx269, hF⟩ := own_lt_e hF
  rw [← hx269]
  refine own_Goes.via (B := T.setTop (mkF m 19 #[.val (.int v0), .val (.int v1), .val (.int v2), .val (.int x267), .val (.int x268), .val (.int x269), .unset, .unset, .unset, .unset, .unset, .unset, .unset] [(.int (6 : Int32))])) (fun t k => ?_) ?_
  · show Steps p.tables e below (T.setTop (mkF m 15 #[.val (.int v0), .val (.int v1), .val (.int v2), .val (.int x267), .val (.int x268), .unset, .unset, .unset, .unset, .unset, .unset, .unset, .unset] [(.int x269)])) t
    refine XS.istore X.here hx rfl (hb hby at_15) rfl (l' := #[.val (.int v0), .val (.int v1), .val (.int v2), .val (.int x267), .val (.int x268), .val (.int x269), .unset, .unset, .unset, .unset, .unset, .unset, .unset]) rfl ?_
    show Steps p.tables e below (T.setTop (mkF m 17 #[.val (.int v0), .val (.int v1), .val (.int v2), .val (.int x267), .val (.int x268), .val (.int x269), .unset, .unset, .unset, .unset, .unset, .unset, .unset] [])) t
    refine XS.bipush X.here hx rfl (hb hby at_17) ?_
    exact k
  obtain ⟨T270, h270, k270, X270, e270, E270, A270, st270⟩ := newP X hx hZ (aty := .byte) (w2 hw) eT (g := (mkF m 19 #[.val (.int v0), .val (.int v1), .val (.int v2), .val (.int x267), .val (.int x268), .val (.int x269), .unset, .unset, .unset, .unset, .unset, .unset, .unset] [(.int (6 : Int32))])) rfl (hb hby at_19) rfl (by decide) (cap := 6) (by decide) (by decide) (by decide) (by decide)
  obtain ⟨c270, q270⟩ : ∃ z, z = h.size := ⟨_, rfl⟩
  rw [← q270] at A270 st270
  have A270_c270 : own_Ar Z h270 c270 .byte (([(0 : Int32), (0 : Int32), (0 : Int32), (0 : Int32), (0 : Int32), (0 : Int32)] : List Int32).map Value.int) := own_newI A270 (by decide) rfl (kk := 6) (by decide)
  have g270_c270 : n0 ≤ c270 := Nat.le_trans z (Nat.le_of_eq q270.symm)
  have nE270_c270 : hE.size ≤ c270 := Nat.le_trans K.1 (Nat.le_of_eq q270.symm)
  have z270 := Nat.le_trans z E270.1
  have K270_ := K.ext E270
  refine own_Goes.via st270 ?_
  show own_Goes _ _ _ _ _ _ _ (T270.setTop (mkF m 21 #[.val (.int v0), .val (.int v1), .val (.int v2), .val (.int x267), .val (.int x268), .val (.int x269), .unset, .unset, .unset, .unset, .unset, .unset, .unset] [(.ref c270)]))
  refine own_Goes.via (B := T270.setTop (mkF m 28 #[.val (.int v0), .val (.int v1), .val (.int v2), .val (.int x267), .val (.int x268), .val (.int x269), .val (.ref c270), .unset, .unset, .unset, .unset, .unset, .unset] [(.int x269), (.int (0 : Int32)), (.ref c270)])) (fun t k => ?_) ?_
  · show Steps p.tables e below (T270.setTop (mkF m 21 #[.val (.int v0), .val (.int v1), .val (.int v2), .val (.int x267), .val (.int x268), .val (.int x269), .unset, .unset, .unset, .unset, .unset, .unset, .unset] [(.ref c270)])) t
    refine XS.astore X270.here hx rfl (hb hby at_21) rfl rfl (l' := #[.val (.int v0), .val (.int v1), .val (.int v2), .val (.int x267), .val (.int x268), .val (.int x269), .val (.ref c270), .unset, .unset, .unset, .unset, .unset, .unset]) rfl ?_
    show Steps p.tables e below (T270.setTop (mkF m 23 #[.val (.int v0), .val (.int v1), .val (.int v2), .val (.int x267), .val (.int x268), .val (.int x269), .val (.ref c270), .unset, .unset, .unset, .unset, .unset, .unset] [])) t
    refine XS.aload X270.here hx rfl (hb hby at_23) rfl rfl ?_
    show Steps p.tables e below (T270.setTop (mkF m 25 #[.val (.int v0), .val (.int v1), .val (.int v2), .val (.int x267), .val (.int x268), .val (.int x269), .val (.ref c270), .unset, .unset, .unset, .unset, .unset, .unset] [(.ref c270)])) t
    refine XS.iconst X270.here hx rfl (hb hby at_25) ?_
    show Steps p.tables e below (T270.setTop (mkF m 26 #[.val (.int v0), .val (.int v1), .val (.int v2), .val (.int x267), .val (.int x268), .val (.int x269), .val (.ref c270), .unset, .unset, .unset, .unset, .unset, .unset] [(.int (0 : Int32)), (.ref c270)])) t
    refine XS.iload X270.here hx rfl (hb hby at_26) rfl ?_
    exact k
  obtain ⟨T271, h271, X271, e271, W271, A271_c270, st271⟩ := own_stB X270 hx hZ e270 A270_c270 (own_inbk 0 6 (by decide) (by decide) rfl (by decide)) (g := (mkF m 28 #[.val (.int v0), .val (.int v1), .val (.int v2), .val (.int x267), .val (.int x268), .val (.int x269), .val (.ref c270), .unset, .unset, .unset, .unset, .unset, .unset] [(.int x269), (.int (0 : Int32)), (.ref c270)])) rfl rfl (hb hby at_28)
  refine own_Goes.via st271 ?_
  have z271 := Nat.le_trans z270 (Keep.of_wr W271).1
  have K271_ := K270_.wr W271 (Or.inr nE270_c270)
  have N271 := Fr.snoc X271 N g270_c270
  rw [own_wrk 0 (by decide)] at A271_c270
  have A271_c270 : own_Ar Z h271 c270 .byte (([(x269.toInt8.toInt32), (0 : Int32), (0 : Int32), (0 : Int32), (0 : Int32), (0 : Int32)] : List Int32).map Value.int) := A271_c270
  show own_Goes _ _ _ _ _ _ _ (T271.setTop (mkF m 29 #[.val (.int v0), .val (.int v1), .val (.int v2), .val (.int x267), .val (.int x268), .val (.int x269), .val (.ref c270), .unset, .unset, .unset, .unset, .unset, .unset] []))
  refine own_Goes.via (B := T271.setTop (mkF m 34 #[.val (.int v0), .val (.int v1), .val (.int v2), .val (.int x267), .val (.int x268), .val (.int x269), .val (.ref c270), .unset, .unset, .unset, .unset, .unset, .unset] [(.int x269), (.int (1 : Int32)), (.ref c270)])) (fun t k => ?_) ?_
  · show Steps p.tables e below (T271.setTop (mkF m 29 #[.val (.int v0), .val (.int v1), .val (.int v2), .val (.int x267), .val (.int x268), .val (.int x269), .val (.ref c270), .unset, .unset, .unset, .unset, .unset, .unset] [])) t
    refine XS.aload X271.here hx rfl (hb hby at_29) rfl rfl ?_
    show Steps p.tables e below (T271.setTop (mkF m 31 #[.val (.int v0), .val (.int v1), .val (.int v2), .val (.int x267), .val (.int x268), .val (.int x269), .val (.ref c270), .unset, .unset, .unset, .unset, .unset, .unset] [(.ref c270)])) t
    refine XS.iconst X271.here hx rfl (hb hby at_31) ?_
    show Steps p.tables e below (T271.setTop (mkF m 32 #[.val (.int v0), .val (.int v1), .val (.int v2), .val (.int x267), .val (.int x268), .val (.int x269), .val (.ref c270), .unset, .unset, .unset, .unset, .unset, .unset] [(.int (1 : Int32)), (.ref c270)])) t
    refine XS.iload X271.here hx rfl (hb hby at_32) rfl ?_
    exact k
  obtain ⟨T272, h272, X272, e272, W272, A272_c270, st272⟩ := own_stB X271 hx hZ e271 A271_c270 (own_inbk 1 6 (by decide) (by decide) rfl (by decide)) (g := (mkF m 34 #[.val (.int v0), .val (.int v1), .val (.int v2), .val (.int x267), .val (.int x268), .val (.int x269), .val (.ref c270), .unset, .unset, .unset, .unset, .unset, .unset] [(.int x269), (.int (1 : Int32)), (.ref c270)])) rfl rfl (hb hby at_34)
  refine own_Goes.via st272 ?_
  have z272 := Nat.le_trans z271 (Keep.of_wr W272).1
  have K272_ := K271_.wr W272 (Or.inr nE270_c270)
  have N272 := Fr.snoc X272 N271 g270_c270
  rw [own_wrk 1 (by decide)] at A272_c270
  have A272_c270 : own_Ar Z h272 c270 .byte (([(x269.toInt8.toInt32), (x269.toInt8.toInt32), (0 : Int32), (0 : Int32), (0 : Int32), (0 : Int32)] : List Int32).map Value.int) := A272_c270
  show own_Goes _ _ _ _ _ _ _ (T272.setTop (mkF m 35 #[.val (.int v0), .val (.int v1), .val (.int v2), .val (.int x267), .val (.int x268), .val (.int x269), .val (.ref c270), .unset, .unset, .unset, .unset, .unset, .unset] []))
  refine own_Goes.via (B := T272.setTop (mkF m 40 #[.val (.int v0), .val (.int v1), .val (.int v2), .val (.int x267), .val (.int x268), .val (.int x269), .val (.ref c270), .unset, .unset, .unset, .unset, .unset, .unset] [(.int x269), (.int (2 : Int32)), (.ref c270)])) (fun t k => ?_) ?_
  · show Steps p.tables e below (T272.setTop (mkF m 35 #[.val (.int v0), .val (.int v1), .val (.int v2), .val (.int x267), .val (.int x268), .val (.int x269), .val (.ref c270), .unset, .unset, .unset, .unset, .unset, .unset] [])) t
    refine XS.aload X272.here hx rfl (hb hby at_35) rfl rfl ?_
    show Steps p.tables e below (T272.setTop (mkF m 37 #[.val (.int v0), .val (.int v1), .val (.int v2), .val (.int x267), .val (.int x268), .val (.int x269), .val (.ref c270), .unset, .unset, .unset, .unset, .unset, .unset] [(.ref c270)])) t
    refine XS.iconst X272.here hx rfl (hb hby at_37) ?_
    show Steps p.tables e below (T272.setTop (mkF m 38 #[.val (.int v0), .val (.int v1), .val (.int v2), .val (.int x267), .val (.int x268), .val (.int x269), .val (.ref c270), .unset, .unset, .unset, .unset, .unset, .unset] [(.int (2 : Int32)), (.ref c270)])) t
    refine XS.iload X272.here hx rfl (hb hby at_38) rfl ?_
    exact k
  obtain ⟨T273, h273, X273, e273, W273, A273_c270, st273⟩ := own_stB X272 hx hZ e272 A272_c270 (own_inbk 2 6 (by decide) (by decide) rfl (by decide)) (g := (mkF m 40 #[.val (.int v0), .val (.int v1), .val (.int v2), .val (.int x267), .val (.int x268), .val (.int x269), .val (.ref c270), .unset, .unset, .unset, .unset, .unset, .unset] [(.int x269), (.int (2 : Int32)), (.ref c270)])) rfl rfl (hb hby at_40)
  refine own_Goes.via st273 ?_
  have z273 := Nat.le_trans z272 (Keep.of_wr W273).1
  have K273_ := K272_.wr W273 (Or.inr nE270_c270)
  have N273 := Fr.snoc X273 N272 g270_c270
  rw [own_wrk 2 (by decide)] at A273_c270
  have A273_c270 : own_Ar Z h273 c270 .byte (([(x269.toInt8.toInt32), (x269.toInt8.toInt32), (x269.toInt8.toInt32), (0 : Int32), (0 : Int32), (0 : Int32)] : List Int32).map Value.int) := A273_c270
  show own_Goes _ _ _ _ _ _ _ (T273.setTop (mkF m 41 #[.val (.int v0), .val (.int v1), .val (.int v2), .val (.int x267), .val (.int x268), .val (.int x269), .val (.ref c270), .unset, .unset, .unset, .unset, .unset, .unset] []))
  refine own_Goes.via (B := T273.setTop (mkF m 46 #[.val (.int v0), .val (.int v1), .val (.int v2), .val (.int x267), .val (.int x268), .val (.int x269), .val (.ref c270), .unset, .unset, .unset, .unset, .unset, .unset] [(.int x269), (.int (3 : Int32)), (.ref c270)])) (fun t k => ?_) ?_
  · show Steps p.tables e below (T273.setTop (mkF m 41 #[.val (.int v0), .val (.int v1), .val (.int v2), .val (.int x267), .val (.int x268), .val (.int x269), .val (.ref c270), .unset, .unset, .unset, .unset, .unset, .unset] [])) t
    refine XS.aload X273.here hx rfl (hb hby at_41) rfl rfl ?_
    show Steps p.tables e below (T273.setTop (mkF m 43 #[.val (.int v0), .val (.int v1), .val (.int v2), .val (.int x267), .val (.int x268), .val (.int x269), .val (.ref c270), .unset, .unset, .unset, .unset, .unset, .unset] [(.ref c270)])) t
    refine XS.iconst X273.here hx rfl (hb hby at_43) ?_
    show Steps p.tables e below (T273.setTop (mkF m 44 #[.val (.int v0), .val (.int v1), .val (.int v2), .val (.int x267), .val (.int x268), .val (.int x269), .val (.ref c270), .unset, .unset, .unset, .unset, .unset, .unset] [(.int (3 : Int32)), (.ref c270)])) t
    refine XS.iload X273.here hx rfl (hb hby at_44) rfl ?_
    exact k
  obtain ⟨T274, h274, X274, e274, W274, A274_c270, st274⟩ := own_stB X273 hx hZ e273 A273_c270 (own_inbk 3 6 (by decide) (by decide) rfl (by decide)) (g := (mkF m 46 #[.val (.int v0), .val (.int v1), .val (.int v2), .val (.int x267), .val (.int x268), .val (.int x269), .val (.ref c270), .unset, .unset, .unset, .unset, .unset, .unset] [(.int x269), (.int (3 : Int32)), (.ref c270)])) rfl rfl (hb hby at_46)
  refine own_Goes.via st274 ?_
  have z274 := Nat.le_trans z273 (Keep.of_wr W274).1
  have K274_ := K273_.wr W274 (Or.inr nE270_c270)
  have N274 := Fr.snoc X274 N273 g270_c270
  rw [own_wrk 3 (by decide)] at A274_c270
  have A274_c270 : own_Ar Z h274 c270 .byte (([(x269.toInt8.toInt32), (x269.toInt8.toInt32), (x269.toInt8.toInt32), (x269.toInt8.toInt32), (0 : Int32), (0 : Int32)] : List Int32).map Value.int) := A274_c270
  show own_Goes _ _ _ _ _ _ _ (T274.setTop (mkF m 47 #[.val (.int v0), .val (.int v1), .val (.int v2), .val (.int x267), .val (.int x268), .val (.int x269), .val (.ref c270), .unset, .unset, .unset, .unset, .unset, .unset] []))
  refine own_Goes.via (B := T274.setTop (mkF m 52 #[.val (.int v0), .val (.int v1), .val (.int v2), .val (.int x267), .val (.int x268), .val (.int x269), .val (.ref c270), .unset, .unset, .unset, .unset, .unset, .unset] [(.int x269), (.int (4 : Int32)), (.ref c270)])) (fun t k => ?_) ?_
  · show Steps p.tables e below (T274.setTop (mkF m 47 #[.val (.int v0), .val (.int v1), .val (.int v2), .val (.int x267), .val (.int x268), .val (.int x269), .val (.ref c270), .unset, .unset, .unset, .unset, .unset, .unset] [])) t
    refine XS.aload X274.here hx rfl (hb hby at_47) rfl rfl ?_
    show Steps p.tables e below (T274.setTop (mkF m 49 #[.val (.int v0), .val (.int v1), .val (.int v2), .val (.int x267), .val (.int x268), .val (.int x269), .val (.ref c270), .unset, .unset, .unset, .unset, .unset, .unset] [(.ref c270)])) t
    refine XS.iconst X274.here hx rfl (hb hby at_49) ?_
    show Steps p.tables e below (T274.setTop (mkF m 50 #[.val (.int v0), .val (.int v1), .val (.int v2), .val (.int x267), .val (.int x268), .val (.int x269), .val (.ref c270), .unset, .unset, .unset, .unset, .unset, .unset] [(.int (4 : Int32)), (.ref c270)])) t
    refine XS.iload X274.here hx rfl (hb hby at_50) rfl ?_
    exact k
  obtain ⟨T275, h275, X275, e275, W275, A275_c270, st275⟩ := own_stB X274 hx hZ e274 A274_c270 (own_inbk 4 6 (by decide) (by decide) rfl (by decide)) (g := (mkF m 52 #[.val (.int v0), .val (.int v1), .val (.int v2), .val (.int x267), .val (.int x268), .val (.int x269), .val (.ref c270), .unset, .unset, .unset, .unset, .unset, .unset] [(.int x269), (.int (4 : Int32)), (.ref c270)])) rfl rfl (hb hby at_52)
  refine own_Goes.via st275 ?_
  have z275 := Nat.le_trans z274 (Keep.of_wr W275).1
  have K275_ := K274_.wr W275 (Or.inr nE270_c270)
  have N275 := Fr.snoc X275 N274 g270_c270
  rw [own_wrk 4 (by decide)] at A275_c270
  have A275_c270 : own_Ar Z h275 c270 .byte (([(x269.toInt8.toInt32), (x269.toInt8.toInt32), (x269.toInt8.toInt32), (x269.toInt8.toInt32), (x269.toInt8.toInt32), (0 : Int32)] : List Int32).map Value.int) := A275_c270
  show own_Goes _ _ _ _ _ _ _ (T275.setTop (mkF m 53 #[.val (.int v0), .val (.int v1), .val (.int v2), .val (.int x267), .val (.int x268), .val (.int x269), .val (.ref c270), .unset, .unset, .unset, .unset, .unset, .unset] []))
  refine own_Goes.via (B := T275.setTop (mkF m 58 #[.val (.int v0), .val (.int v1), .val (.int v2), .val (.int x267), .val (.int x268), .val (.int x269), .val (.ref c270), .unset, .unset, .unset, .unset, .unset, .unset] [(.int x269), (.int (5 : Int32)), (.ref c270)])) (fun t k => ?_) ?_
  · show Steps p.tables e below (T275.setTop (mkF m 53 #[.val (.int v0), .val (.int v1), .val (.int v2), .val (.int x267), .val (.int x268), .val (.int x269), .val (.ref c270), .unset, .unset, .unset, .unset, .unset, .unset] [])) t
    refine XS.aload X275.here hx rfl (hb hby at_53) rfl rfl ?_
    show Steps p.tables e below (T275.setTop (mkF m 55 #[.val (.int v0), .val (.int v1), .val (.int v2), .val (.int x267), .val (.int x268), .val (.int x269), .val (.ref c270), .unset, .unset, .unset, .unset, .unset, .unset] [(.ref c270)])) t
    refine XS.iconst X275.here hx rfl (hb hby at_55) ?_
    show Steps p.tables e below (T275.setTop (mkF m 56 #[.val (.int v0), .val (.int v1), .val (.int v2), .val (.int x267), .val (.int x268), .val (.int x269), .val (.ref c270), .unset, .unset, .unset, .unset, .unset, .unset] [(.int (5 : Int32)), (.ref c270)])) t
    refine XS.iload X275.here hx rfl (hb hby at_56) rfl ?_
    exact k
  obtain ⟨T276, h276, X276, e276, W276, A276_c270, st276⟩ := own_stB X275 hx hZ e275 A275_c270 (own_inbk 5 6 (by decide) (by decide) rfl (by decide)) (g := (mkF m 58 #[.val (.int v0), .val (.int v1), .val (.int v2), .val (.int x267), .val (.int x268), .val (.int x269), .val (.ref c270), .unset, .unset, .unset, .unset, .unset, .unset] [(.int x269), (.int (5 : Int32)), (.ref c270)])) rfl rfl (hb hby at_58)
  refine own_Goes.via st276 ?_
  have z276 := Nat.le_trans z275 (Keep.of_wr W276).1
  have K276_ := K275_.wr W276 (Or.inr nE270_c270)
  have N276 := Fr.snoc X276 N275 g270_c270
  rw [own_wrk 5 (by decide)] at A276_c270
  have A276_c270 : own_Ar Z h276 c270 .byte (([(x269.toInt8.toInt32), (x269.toInt8.toInt32), (x269.toInt8.toInt32), (x269.toInt8.toInt32), (x269.toInt8.toInt32), (x269.toInt8.toInt32)] : List Int32).map Value.int) := A276_c270
  show own_Goes _ _ _ _ _ _ _ (T276.setTop (mkF m 59 #[.val (.int v0), .val (.int v1), .val (.int v2), .val (.int x267), .val (.int x268), .val (.int x269), .val (.ref c270), .unset, .unset, .unset, .unset, .unset, .unset] []))
  refine own_Goes.via (B := T276.setTop (mkF m 63 #[.val (.int v0), .val (.int v1), .val (.int v2), .val (.int x267), .val (.int x268), .val (.int x269), .val (.ref c270), .unset, .unset, .unset, .unset, .unset, .unset] [(.int (128 : Int32)), (.int x267)])) (fun t k => ?_) ?_
  · show Steps p.tables e below (T276.setTop (mkF m 59 #[.val (.int v0), .val (.int v1), .val (.int v2), .val (.int x267), .val (.int x268), .val (.int x269), .val (.ref c270), .unset, .unset, .unset, .unset, .unset, .unset] [])) t
    refine XS.iloadN X276.here hx rfl (hb hby at_59) rfl ?_
    show Steps p.tables e below (T276.setTop (mkF m 60 #[.val (.int v0), .val (.int v1), .val (.int v2), .val (.int x267), .val (.int x268), .val (.int x269), .val (.ref c270), .unset, .unset, .unset, .unset, .unset, .unset] [(.int x267)])) t
    refine XS.sipush X276.here hx rfl (hb hby at_60) ?_
    exact k
  by_cases hc63 : x267 < (128 : Int32)
  · rw [if_pos hc63] at hF
    refine own_Goes.via (B := T276.setTop (mkF m 103 #[.val (.int v0), .val (.int v1), .val (.int v2), .val (.int x267), .val (.int x268), .val (.int x269), .val (.ref c270), .val (.int (1 : Int32)), .unset, .unset, .unset, .unset, .unset] [(.int (55296 : Int32)), (.int x267)])) (fun t k => ?_) ?_
    · show Steps p.tables e below (T276.setTop (mkF m 63 #[.val (.int v0), .val (.int v1), .val (.int v2), .val (.int x267), .val (.int x268), .val (.int x269), .val (.ref c270), .unset, .unset, .unset, .unset, .unset, .unset] [(.int (128 : Int32)), (.int x267)])) t
      refine XS.icmpNo X276.here hx rfl (hb hby at_63) rfl (tlt hc63).2.1 ?_
      show Steps p.tables e below (T276.setTop (mkF m 66 #[.val (.int v0), .val (.int v1), .val (.int v2), .val (.int x267), .val (.int x268), .val (.int x269), .val (.ref c270), .unset, .unset, .unset, .unset, .unset, .unset] [])) t
      refine XS.iconst X276.here hx rfl (hb hby at_66) ?_
      show Steps p.tables e below (T276.setTop (mkF m 67 #[.val (.int v0), .val (.int v1), .val (.int v2), .val (.int x267), .val (.int x268), .val (.int x269), .val (.ref c270), .unset, .unset, .unset, .unset, .unset, .unset] [(.int (1 : Int32))])) t
      refine XS.istore X276.here hx rfl (hb hby at_67) rfl (l' := #[.val (.int v0), .val (.int v1), .val (.int v2), .val (.int x267), .val (.int x268), .val (.int x269), .val (.ref c270), .val (.int (1 : Int32)), .unset, .unset, .unset, .unset, .unset]) rfl ?_
      show Steps p.tables e below (T276.setTop (mkF m 69 #[.val (.int v0), .val (.int v1), .val (.int v2), .val (.int x267), .val (.int x268), .val (.int x269), .val (.ref c270), .val (.int (1 : Int32)), .unset, .unset, .unset, .unset, .unset] [])) t
      refine XS.goto X276.here hx rfl (pc0 := 69) (pc' := 100) rfl (hb hby at_69) (by decide) (by decide) ?_
      show Steps p.tables e below (T276.setTop (mkF m 100 #[.val (.int v0), .val (.int v1), .val (.int v2), .val (.int x267), .val (.int x268), .val (.int x269), .val (.ref c270), .val (.int (1 : Int32)), .unset, .unset, .unset, .unset, .unset] [])) t
      refine XS.iloadN X276.here hx rfl (hb hby at_100) rfl ?_
      show Steps p.tables e below (T276.setTop (mkF m 101 #[.val (.int v0), .val (.int v1), .val (.int v2), .val (.int x267), .val (.int x268), .val (.int x269), .val (.ref c270), .val (.int (1 : Int32)), .unset, .unset, .unset, .unset, .unset] [(.int x267)])) t
      refine X276.ldcInt hx hown (mvT hZ (w3 hw)) (g := (mkF m 101 #[.val (.int v0), .val (.int v1), .val (.int v2), .val (.int x267), .val (.int x268), .val (.int x269), .val (.ref c270), .val (.int (1 : Int32)), .unset, .unset, .unset, .unset, .unset] [(.int x267)])) rfl (hb hby at_101) _ ?_
      exact k
    by_cases hc103 : x267 < (55296 : Int32)
    · rw [if_pos hc103] at hF
      refine own_Goes.via (B := T276.setTop (mkF m 117 #[.val (.int v0), .val (.int v1), .val (.int v2), .val (.int x267), .val (.int x268), .val (.int x269), .val (.ref c270), .val (.int (1 : Int32)), .unset, .unset, .unset, .unset, .unset] [(.int (0 : Int32))])) (fun t k => ?_) ?_
      · show Steps p.tables e below (T276.setTop (mkF m 103 #[.val (.int v0), .val (.int v1), .val (.int v2), .val (.int x267), .val (.int x268), .val (.int x269), .val (.ref c270), .val (.int (1 : Int32)), .unset, .unset, .unset, .unset, .unset] [(.int (55296 : Int32)), (.int x267)])) t
        refine XS.icmpYes X276.here hx rfl (pc0 := 103) (pc' := 116) rfl (hb hby at_103) rfl (tlt hc103).1 (by decide) (by decide) ?_
        show Steps p.tables e below (T276.setTop (mkF m 116 #[.val (.int v0), .val (.int v1), .val (.int v2), .val (.int x267), .val (.int x268), .val (.int x269), .val (.ref c270), .val (.int (1 : Int32)), .unset, .unset, .unset, .unset, .unset] [])) t
        refine XS.iconst X276.here hx rfl (hb hby at_116) ?_
        exact k
      exact b_law_117 cx X276 e276 N276 K276_ z276 c270 x267 x268 x269 (1 : Int32) (0 : Int32) ([(x269.toInt8.toInt32), (x269.toInt8.toInt32), (x269.toInt8.toInt32), (x269.toInt8.toInt32), (x269.toInt8.toInt32), (x269.toInt8.toInt32)] : List Int32) (.val (.int v0)) (.val (.int v1)) (.val (.int v2)) (.unset) (.unset) (.unset) (.unset) (.unset) (One.val rfl) (One.val rfl) (One.val rfl) One.u One.u One.u One.u One.u A276_c270 g270_c270 nE270_c270 _ hF
    · rw [if_neg hc103] at hF
      refine own_Goes.via (B := T276.setTop (mkF m 109 #[.val (.int v0), .val (.int v1), .val (.int v2), .val (.int x267), .val (.int x268), .val (.int x269), .val (.ref c270), .val (.int (1 : Int32)), .unset, .unset, .unset, .unset, .unset] [(.int (57343 : Int32)), (.int x267)])) (fun t k => ?_) ?_
      · show Steps p.tables e below (T276.setTop (mkF m 103 #[.val (.int v0), .val (.int v1), .val (.int v2), .val (.int x267), .val (.int x268), .val (.int x269), .val (.ref c270), .val (.int (1 : Int32)), .unset, .unset, .unset, .unset, .unset] [(.int (55296 : Int32)), (.int x267)])) t
        refine XS.icmpNo X276.here hx rfl (hb hby at_103) rfl (flt hc103).1 ?_
        show Steps p.tables e below (T276.setTop (mkF m 106 #[.val (.int v0), .val (.int v1), .val (.int v2), .val (.int x267), .val (.int x268), .val (.int x269), .val (.ref c270), .val (.int (1 : Int32)), .unset, .unset, .unset, .unset, .unset] [])) t
        refine XS.iloadN X276.here hx rfl (hb hby at_106) rfl ?_
        show Steps p.tables e below (T276.setTop (mkF m 107 #[.val (.int v0), .val (.int v1), .val (.int v2), .val (.int x267), .val (.int x268), .val (.int x269), .val (.ref c270), .val (.int (1 : Int32)), .unset, .unset, .unset, .unset, .unset] [(.int x267)])) t
        refine X276.ldcInt hx hown (mvT hZ (w19 hw)) (g := (mkF m 107 #[.val (.int v0), .val (.int v1), .val (.int v2), .val (.int x267), .val (.int x268), .val (.int x269), .val (.ref c270), .val (.int (1 : Int32)), .unset, .unset, .unset, .unset, .unset] [(.int x267)])) rfl (hb hby at_107) _ ?_
        exact k
      by_cases hc109 : (57343 : Int32) < x267
      · rw [if_pos hc109] at hF
        refine own_Goes.via (B := T276.setTop (mkF m 117 #[.val (.int v0), .val (.int v1), .val (.int v2), .val (.int x267), .val (.int x268), .val (.int x269), .val (.ref c270), .val (.int (1 : Int32)), .unset, .unset, .unset, .unset, .unset] [(.int (0 : Int32))])) (fun t k => ?_) ?_
        · show Steps p.tables e below (T276.setTop (mkF m 109 #[.val (.int v0), .val (.int v1), .val (.int v2), .val (.int x267), .val (.int x268), .val (.int x269), .val (.ref c270), .val (.int (1 : Int32)), .unset, .unset, .unset, .unset, .unset] [(.int (57343 : Int32)), (.int x267)])) t
          refine XS.icmpYes X276.here hx rfl (pc0 := 109) (pc' := 116) rfl (hb hby at_109) rfl (tlt hc109).2.2.1 (by decide) (by decide) ?_
          show Steps p.tables e below (T276.setTop (mkF m 116 #[.val (.int v0), .val (.int v1), .val (.int v2), .val (.int x267), .val (.int x268), .val (.int x269), .val (.ref c270), .val (.int (1 : Int32)), .unset, .unset, .unset, .unset, .unset] [])) t
          refine XS.iconst X276.here hx rfl (hb hby at_116) ?_
          exact k
        exact b_law_117 cx X276 e276 N276 K276_ z276 c270 x267 x268 x269 (1 : Int32) (0 : Int32) ([(x269.toInt8.toInt32), (x269.toInt8.toInt32), (x269.toInt8.toInt32), (x269.toInt8.toInt32), (x269.toInt8.toInt32), (x269.toInt8.toInt32)] : List Int32) (.val (.int v0)) (.val (.int v1)) (.val (.int v2)) (.unset) (.unset) (.unset) (.unset) (.unset) (One.val rfl) (One.val rfl) (One.val rfl) One.u One.u One.u One.u One.u A276_c270 g270_c270 nE270_c270 _ hF
      · rw [if_neg hc109] at hF
        refine own_Goes.via (B := T276.setTop (mkF m 117 #[.val (.int v0), .val (.int v1), .val (.int v2), .val (.int x267), .val (.int x268), .val (.int x269), .val (.ref c270), .val (.int (1 : Int32)), .unset, .unset, .unset, .unset, .unset] [(.int (1 : Int32))])) (fun t k => ?_) ?_
        · show Steps p.tables e below (T276.setTop (mkF m 109 #[.val (.int v0), .val (.int v1), .val (.int v2), .val (.int x267), .val (.int x268), .val (.int x269), .val (.ref c270), .val (.int (1 : Int32)), .unset, .unset, .unset, .unset, .unset] [(.int (57343 : Int32)), (.int x267)])) t
          refine XS.icmpNo X276.here hx rfl (hb hby at_109) rfl (flt hc109).2.2.1 ?_
          show Steps p.tables e below (T276.setTop (mkF m 112 #[.val (.int v0), .val (.int v1), .val (.int v2), .val (.int x267), .val (.int x268), .val (.int x269), .val (.ref c270), .val (.int (1 : Int32)), .unset, .unset, .unset, .unset, .unset] [])) t
          refine XS.iconst X276.here hx rfl (hb hby at_112) ?_
          show Steps p.tables e below (T276.setTop (mkF m 113 #[.val (.int v0), .val (.int v1), .val (.int v2), .val (.int x267), .val (.int x268), .val (.int x269), .val (.ref c270), .val (.int (1 : Int32)), .unset, .unset, .unset, .unset, .unset] [(.int (1 : Int32))])) t
          refine XS.goto X276.here hx rfl (pc0 := 113) (pc' := 117) rfl (hb hby at_113) (by decide) (by decide) ?_
          exact k
        exact b_law_117 cx X276 e276 N276 K276_ z276 c270 x267 x268 x269 (1 : Int32) (1 : Int32) ([(x269.toInt8.toInt32), (x269.toInt8.toInt32), (x269.toInt8.toInt32), (x269.toInt8.toInt32), (x269.toInt8.toInt32), (x269.toInt8.toInt32)] : List Int32) (.val (.int v0)) (.val (.int v1)) (.val (.int v2)) (.unset) (.unset) (.unset) (.unset) (.unset) (One.val rfl) (One.val rfl) (One.val rfl) One.u One.u One.u One.u One.u A276_c270 g270_c270 nE270_c270 _ hF
  · rw [if_neg hc63] at hF
    refine own_Goes.via (B := T276.setTop (mkF m 76 #[.val (.int v0), .val (.int v1), .val (.int v2), .val (.int x267), .val (.int x268), .val (.int x269), .val (.ref c270), .unset, .unset, .unset, .unset, .unset, .unset] [(.int (2048 : Int32)), (.int x267)])) (fun t k => ?_) ?_
    · show Steps p.tables e below (T276.setTop (mkF m 63 #[.val (.int v0), .val (.int v1), .val (.int v2), .val (.int x267), .val (.int x268), .val (.int x269), .val (.ref c270), .unset, .unset, .unset, .unset, .unset, .unset] [(.int (128 : Int32)), (.int x267)])) t
      refine XS.icmpYes X276.here hx rfl (pc0 := 63) (pc' := 72) rfl (hb hby at_63) rfl (flt hc63).2.1 (by decide) (by decide) ?_
      show Steps p.tables e below (T276.setTop (mkF m 72 #[.val (.int v0), .val (.int v1), .val (.int v2), .val (.int x267), .val (.int x268), .val (.int x269), .val (.ref c270), .unset, .unset, .unset, .unset, .unset, .unset] [])) t
      refine XS.iloadN X276.here hx rfl (hb hby at_72) rfl ?_
      show Steps p.tables e below (T276.setTop (mkF m 73 #[.val (.int v0), .val (.int v1), .val (.int v2), .val (.int x267), .val (.int x268), .val (.int x269), .val (.ref c270), .unset, .unset, .unset, .unset, .unset, .unset] [(.int x267)])) t
      refine XS.sipush X276.here hx rfl (hb hby at_73) ?_
      exact k
    by_cases hc76 : x267 < (2048 : Int32)
    · rw [if_pos hc76] at hF
      refine own_Goes.via (B := T276.setTop (mkF m 103 #[.val (.int v0), .val (.int v1), .val (.int v2), .val (.int x267), .val (.int x268), .val (.int x269), .val (.ref c270), .val (.int (2 : Int32)), .unset, .unset, .unset, .unset, .unset] [(.int (55296 : Int32)), (.int x267)])) (fun t k => ?_) ?_
      · show Steps p.tables e below (T276.setTop (mkF m 76 #[.val (.int v0), .val (.int v1), .val (.int v2), .val (.int x267), .val (.int x268), .val (.int x269), .val (.ref c270), .unset, .unset, .unset, .unset, .unset, .unset] [(.int (2048 : Int32)), (.int x267)])) t
        refine XS.icmpNo X276.here hx rfl (hb hby at_76) rfl (tlt hc76).2.1 ?_
        show Steps p.tables e below (T276.setTop (mkF m 79 #[.val (.int v0), .val (.int v1), .val (.int v2), .val (.int x267), .val (.int x268), .val (.int x269), .val (.ref c270), .unset, .unset, .unset, .unset, .unset, .unset] [])) t
        refine XS.iconst X276.here hx rfl (hb hby at_79) ?_
        show Steps p.tables e below (T276.setTop (mkF m 80 #[.val (.int v0), .val (.int v1), .val (.int v2), .val (.int x267), .val (.int x268), .val (.int x269), .val (.ref c270), .unset, .unset, .unset, .unset, .unset, .unset] [(.int (2 : Int32))])) t
        refine XS.istore X276.here hx rfl (hb hby at_80) rfl (l' := #[.val (.int v0), .val (.int v1), .val (.int v2), .val (.int x267), .val (.int x268), .val (.int x269), .val (.ref c270), .val (.int (2 : Int32)), .unset, .unset, .unset, .unset, .unset]) rfl ?_
        show Steps p.tables e below (T276.setTop (mkF m 82 #[.val (.int v0), .val (.int v1), .val (.int v2), .val (.int x267), .val (.int x268), .val (.int x269), .val (.ref c270), .val (.int (2 : Int32)), .unset, .unset, .unset, .unset, .unset] [])) t
        refine XS.goto X276.here hx rfl (pc0 := 82) (pc' := 100) rfl (hb hby at_82) (by decide) (by decide) ?_
        show Steps p.tables e below (T276.setTop (mkF m 100 #[.val (.int v0), .val (.int v1), .val (.int v2), .val (.int x267), .val (.int x268), .val (.int x269), .val (.ref c270), .val (.int (2 : Int32)), .unset, .unset, .unset, .unset, .unset] [])) t
        refine XS.iloadN X276.here hx rfl (hb hby at_100) rfl ?_
        show Steps p.tables e below (T276.setTop (mkF m 101 #[.val (.int v0), .val (.int v1), .val (.int v2), .val (.int x267), .val (.int x268), .val (.int x269), .val (.ref c270), .val (.int (2 : Int32)), .unset, .unset, .unset, .unset, .unset] [(.int x267)])) t
        refine X276.ldcInt hx hown (mvT hZ (w3 hw)) (g := (mkF m 101 #[.val (.int v0), .val (.int v1), .val (.int v2), .val (.int x267), .val (.int x268), .val (.int x269), .val (.ref c270), .val (.int (2 : Int32)), .unset, .unset, .unset, .unset, .unset] [(.int x267)])) rfl (hb hby at_101) _ ?_
        exact k
      by_cases hc103 : x267 < (55296 : Int32)
      · rw [if_pos hc103] at hF
        refine own_Goes.via (B := T276.setTop (mkF m 117 #[.val (.int v0), .val (.int v1), .val (.int v2), .val (.int x267), .val (.int x268), .val (.int x269), .val (.ref c270), .val (.int (2 : Int32)), .unset, .unset, .unset, .unset, .unset] [(.int (0 : Int32))])) (fun t k => ?_) ?_
        · show Steps p.tables e below (T276.setTop (mkF m 103 #[.val (.int v0), .val (.int v1), .val (.int v2), .val (.int x267), .val (.int x268), .val (.int x269), .val (.ref c270), .val (.int (2 : Int32)), .unset, .unset, .unset, .unset, .unset] [(.int (55296 : Int32)), (.int x267)])) t
          refine XS.icmpYes X276.here hx rfl (pc0 := 103) (pc' := 116) rfl (hb hby at_103) rfl (tlt hc103).1 (by decide) (by decide) ?_
          show Steps p.tables e below (T276.setTop (mkF m 116 #[.val (.int v0), .val (.int v1), .val (.int v2), .val (.int x267), .val (.int x268), .val (.int x269), .val (.ref c270), .val (.int (2 : Int32)), .unset, .unset, .unset, .unset, .unset] [])) t
          refine XS.iconst X276.here hx rfl (hb hby at_116) ?_
          exact k
        exact b_law_117 cx X276 e276 N276 K276_ z276 c270 x267 x268 x269 (2 : Int32) (0 : Int32) ([(x269.toInt8.toInt32), (x269.toInt8.toInt32), (x269.toInt8.toInt32), (x269.toInt8.toInt32), (x269.toInt8.toInt32), (x269.toInt8.toInt32)] : List Int32) (.val (.int v0)) (.val (.int v1)) (.val (.int v2)) (.unset) (.unset) (.unset) (.unset) (.unset) (One.val rfl) (One.val rfl) (One.val rfl) One.u One.u One.u One.u One.u A276_c270 g270_c270 nE270_c270 _ hF
      · rw [if_neg hc103] at hF
        refine own_Goes.via (B := T276.setTop (mkF m 109 #[.val (.int v0), .val (.int v1), .val (.int v2), .val (.int x267), .val (.int x268), .val (.int x269), .val (.ref c270), .val (.int (2 : Int32)), .unset, .unset, .unset, .unset, .unset] [(.int (57343 : Int32)), (.int x267)])) (fun t k => ?_) ?_
        · show Steps p.tables e below (T276.setTop (mkF m 103 #[.val (.int v0), .val (.int v1), .val (.int v2), .val (.int x267), .val (.int x268), .val (.int x269), .val (.ref c270), .val (.int (2 : Int32)), .unset, .unset, .unset, .unset, .unset] [(.int (55296 : Int32)), (.int x267)])) t
          refine XS.icmpNo X276.here hx rfl (hb hby at_103) rfl (flt hc103).1 ?_
          show Steps p.tables e below (T276.setTop (mkF m 106 #[.val (.int v0), .val (.int v1), .val (.int v2), .val (.int x267), .val (.int x268), .val (.int x269), .val (.ref c270), .val (.int (2 : Int32)), .unset, .unset, .unset, .unset, .unset] [])) t
          refine XS.iloadN X276.here hx rfl (hb hby at_106) rfl ?_
          show Steps p.tables e below (T276.setTop (mkF m 107 #[.val (.int v0), .val (.int v1), .val (.int v2), .val (.int x267), .val (.int x268), .val (.int x269), .val (.ref c270), .val (.int (2 : Int32)), .unset, .unset, .unset, .unset, .unset] [(.int x267)])) t
          refine X276.ldcInt hx hown (mvT hZ (w19 hw)) (g := (mkF m 107 #[.val (.int v0), .val (.int v1), .val (.int v2), .val (.int x267), .val (.int x268), .val (.int x269), .val (.ref c270), .val (.int (2 : Int32)), .unset, .unset, .unset, .unset, .unset] [(.int x267)])) rfl (hb hby at_107) _ ?_
          exact k
        by_cases hc109 : (57343 : Int32) < x267
        · rw [if_pos hc109] at hF
          refine own_Goes.via (B := T276.setTop (mkF m 117 #[.val (.int v0), .val (.int v1), .val (.int v2), .val (.int x267), .val (.int x268), .val (.int x269), .val (.ref c270), .val (.int (2 : Int32)), .unset, .unset, .unset, .unset, .unset] [(.int (0 : Int32))])) (fun t k => ?_) ?_
          · show Steps p.tables e below (T276.setTop (mkF m 109 #[.val (.int v0), .val (.int v1), .val (.int v2), .val (.int x267), .val (.int x268), .val (.int x269), .val (.ref c270), .val (.int (2 : Int32)), .unset, .unset, .unset, .unset, .unset] [(.int (57343 : Int32)), (.int x267)])) t
            refine XS.icmpYes X276.here hx rfl (pc0 := 109) (pc' := 116) rfl (hb hby at_109) rfl (tlt hc109).2.2.1 (by decide) (by decide) ?_
            show Steps p.tables e below (T276.setTop (mkF m 116 #[.val (.int v0), .val (.int v1), .val (.int v2), .val (.int x267), .val (.int x268), .val (.int x269), .val (.ref c270), .val (.int (2 : Int32)), .unset, .unset, .unset, .unset, .unset] [])) t
            refine XS.iconst X276.here hx rfl (hb hby at_116) ?_
            exact k
          exact b_law_117 cx X276 e276 N276 K276_ z276 c270 x267 x268 x269 (2 : Int32) (0 : Int32) ([(x269.toInt8.toInt32), (x269.toInt8.toInt32), (x269.toInt8.toInt32), (x269.toInt8.toInt32), (x269.toInt8.toInt32), (x269.toInt8.toInt32)] : List Int32) (.val (.int v0)) (.val (.int v1)) (.val (.int v2)) (.unset) (.unset) (.unset) (.unset) (.unset) (One.val rfl) (One.val rfl) (One.val rfl) One.u One.u One.u One.u One.u A276_c270 g270_c270 nE270_c270 _ hF
        · rw [if_neg hc109] at hF
          refine own_Goes.via (B := T276.setTop (mkF m 117 #[.val (.int v0), .val (.int v1), .val (.int v2), .val (.int x267), .val (.int x268), .val (.int x269), .val (.ref c270), .val (.int (2 : Int32)), .unset, .unset, .unset, .unset, .unset] [(.int (1 : Int32))])) (fun t k => ?_) ?_
          · show Steps p.tables e below (T276.setTop (mkF m 109 #[.val (.int v0), .val (.int v1), .val (.int v2), .val (.int x267), .val (.int x268), .val (.int x269), .val (.ref c270), .val (.int (2 : Int32)), .unset, .unset, .unset, .unset, .unset] [(.int (57343 : Int32)), (.int x267)])) t
            refine XS.icmpNo X276.here hx rfl (hb hby at_109) rfl (flt hc109).2.2.1 ?_
            show Steps p.tables e below (T276.setTop (mkF m 112 #[.val (.int v0), .val (.int v1), .val (.int v2), .val (.int x267), .val (.int x268), .val (.int x269), .val (.ref c270), .val (.int (2 : Int32)), .unset, .unset, .unset, .unset, .unset] [])) t
            refine XS.iconst X276.here hx rfl (hb hby at_112) ?_
            show Steps p.tables e below (T276.setTop (mkF m 113 #[.val (.int v0), .val (.int v1), .val (.int v2), .val (.int x267), .val (.int x268), .val (.int x269), .val (.ref c270), .val (.int (2 : Int32)), .unset, .unset, .unset, .unset, .unset] [(.int (1 : Int32))])) t
            refine XS.goto X276.here hx rfl (pc0 := 113) (pc' := 117) rfl (hb hby at_113) (by decide) (by decide) ?_
            exact k
          exact b_law_117 cx X276 e276 N276 K276_ z276 c270 x267 x268 x269 (2 : Int32) (1 : Int32) ([(x269.toInt8.toInt32), (x269.toInt8.toInt32), (x269.toInt8.toInt32), (x269.toInt8.toInt32), (x269.toInt8.toInt32), (x269.toInt8.toInt32)] : List Int32) (.val (.int v0)) (.val (.int v1)) (.val (.int v2)) (.unset) (.unset) (.unset) (.unset) (.unset) (One.val rfl) (One.val rfl) (One.val rfl) One.u One.u One.u One.u One.u A276_c270 g270_c270 nE270_c270 _ hF
    · rw [if_neg hc76] at hF
      refine own_Goes.via (B := T276.setTop (mkF m 88 #[.val (.int v0), .val (.int v1), .val (.int v2), .val (.int x267), .val (.int x268), .val (.int x269), .val (.ref c270), .unset, .unset, .unset, .unset, .unset, .unset] [(.int (65536 : Int32)), (.int x267)])) (fun t k => ?_) ?_
      · show Steps p.tables e below (T276.setTop (mkF m 76 #[.val (.int v0), .val (.int v1), .val (.int v2), .val (.int x267), .val (.int x268), .val (.int x269), .val (.ref c270), .unset, .unset, .unset, .unset, .unset, .unset] [(.int (2048 : Int32)), (.int x267)])) t
        refine XS.icmpYes X276.here hx rfl (pc0 := 76) (pc' := 85) rfl (hb hby at_76) rfl (flt hc76).2.1 (by decide) (by decide) ?_
        show Steps p.tables e below (T276.setTop (mkF m 85 #[.val (.int v0), .val (.int v1), .val (.int v2), .val (.int x267), .val (.int x268), .val (.int x269), .val (.ref c270), .unset, .unset, .unset, .unset, .unset, .unset] [])) t
        refine XS.iloadN X276.here hx rfl (hb hby at_85) rfl ?_
        show Steps p.tables e below (T276.setTop (mkF m 86 #[.val (.int v0), .val (.int v1), .val (.int v2), .val (.int x267), .val (.int x268), .val (.int x269), .val (.ref c270), .unset, .unset, .unset, .unset, .unset, .unset] [(.int x267)])) t
        refine X276.ldcInt hx hown (mvT hZ (w18 hw)) (g := (mkF m 86 #[.val (.int v0), .val (.int v1), .val (.int v2), .val (.int x267), .val (.int x268), .val (.int x269), .val (.ref c270), .unset, .unset, .unset, .unset, .unset, .unset] [(.int x267)])) rfl (hb hby at_86) _ ?_
        exact k
      by_cases hc88 : x267 < (65536 : Int32)
      · rw [if_pos hc88] at hF
        refine own_Goes.via (B := T276.setTop (mkF m 103 #[.val (.int v0), .val (.int v1), .val (.int v2), .val (.int x267), .val (.int x268), .val (.int x269), .val (.ref c270), .val (.int (3 : Int32)), .unset, .unset, .unset, .unset, .unset] [(.int (55296 : Int32)), (.int x267)])) (fun t k => ?_) ?_
        · show Steps p.tables e below (T276.setTop (mkF m 88 #[.val (.int v0), .val (.int v1), .val (.int v2), .val (.int x267), .val (.int x268), .val (.int x269), .val (.ref c270), .unset, .unset, .unset, .unset, .unset, .unset] [(.int (65536 : Int32)), (.int x267)])) t
          refine XS.icmpNo X276.here hx rfl (hb hby at_88) rfl (tlt hc88).2.1 ?_
          show Steps p.tables e below (T276.setTop (mkF m 91 #[.val (.int v0), .val (.int v1), .val (.int v2), .val (.int x267), .val (.int x268), .val (.int x269), .val (.ref c270), .unset, .unset, .unset, .unset, .unset, .unset] [])) t
          refine XS.iconst X276.here hx rfl (hb hby at_91) ?_
          show Steps p.tables e below (T276.setTop (mkF m 92 #[.val (.int v0), .val (.int v1), .val (.int v2), .val (.int x267), .val (.int x268), .val (.int x269), .val (.ref c270), .unset, .unset, .unset, .unset, .unset, .unset] [(.int (3 : Int32))])) t
          refine XS.istore X276.here hx rfl (hb hby at_92) rfl (l' := #[.val (.int v0), .val (.int v1), .val (.int v2), .val (.int x267), .val (.int x268), .val (.int x269), .val (.ref c270), .val (.int (3 : Int32)), .unset, .unset, .unset, .unset, .unset]) rfl ?_
          show Steps p.tables e below (T276.setTop (mkF m 94 #[.val (.int v0), .val (.int v1), .val (.int v2), .val (.int x267), .val (.int x268), .val (.int x269), .val (.ref c270), .val (.int (3 : Int32)), .unset, .unset, .unset, .unset, .unset] [])) t
          refine XS.goto X276.here hx rfl (pc0 := 94) (pc' := 100) rfl (hb hby at_94) (by decide) (by decide) ?_
          show Steps p.tables e below (T276.setTop (mkF m 100 #[.val (.int v0), .val (.int v1), .val (.int v2), .val (.int x267), .val (.int x268), .val (.int x269), .val (.ref c270), .val (.int (3 : Int32)), .unset, .unset, .unset, .unset, .unset] [])) t
          refine XS.iloadN X276.here hx rfl (hb hby at_100) rfl ?_
          show Steps p.tables e below (T276.setTop (mkF m 101 #[.val (.int v0), .val (.int v1), .val (.int v2), .val (.int x267), .val (.int x268), .val (.int x269), .val (.ref c270), .val (.int (3 : Int32)), .unset, .unset, .unset, .unset, .unset] [(.int x267)])) t
          refine X276.ldcInt hx hown (mvT hZ (w3 hw)) (g := (mkF m 101 #[.val (.int v0), .val (.int v1), .val (.int v2), .val (.int x267), .val (.int x268), .val (.int x269), .val (.ref c270), .val (.int (3 : Int32)), .unset, .unset, .unset, .unset, .unset] [(.int x267)])) rfl (hb hby at_101) _ ?_
          exact k
        by_cases hc103 : x267 < (55296 : Int32)
        · rw [if_pos hc103] at hF
          refine own_Goes.via (B := T276.setTop (mkF m 117 #[.val (.int v0), .val (.int v1), .val (.int v2), .val (.int x267), .val (.int x268), .val (.int x269), .val (.ref c270), .val (.int (3 : Int32)), .unset, .unset, .unset, .unset, .unset] [(.int (0 : Int32))])) (fun t k => ?_) ?_
          · show Steps p.tables e below (T276.setTop (mkF m 103 #[.val (.int v0), .val (.int v1), .val (.int v2), .val (.int x267), .val (.int x268), .val (.int x269), .val (.ref c270), .val (.int (3 : Int32)), .unset, .unset, .unset, .unset, .unset] [(.int (55296 : Int32)), (.int x267)])) t
            refine XS.icmpYes X276.here hx rfl (pc0 := 103) (pc' := 116) rfl (hb hby at_103) rfl (tlt hc103).1 (by decide) (by decide) ?_
            show Steps p.tables e below (T276.setTop (mkF m 116 #[.val (.int v0), .val (.int v1), .val (.int v2), .val (.int x267), .val (.int x268), .val (.int x269), .val (.ref c270), .val (.int (3 : Int32)), .unset, .unset, .unset, .unset, .unset] [])) t
            refine XS.iconst X276.here hx rfl (hb hby at_116) ?_
            exact k
          exact b_law_117 cx X276 e276 N276 K276_ z276 c270 x267 x268 x269 (3 : Int32) (0 : Int32) ([(x269.toInt8.toInt32), (x269.toInt8.toInt32), (x269.toInt8.toInt32), (x269.toInt8.toInt32), (x269.toInt8.toInt32), (x269.toInt8.toInt32)] : List Int32) (.val (.int v0)) (.val (.int v1)) (.val (.int v2)) (.unset) (.unset) (.unset) (.unset) (.unset) (One.val rfl) (One.val rfl) (One.val rfl) One.u One.u One.u One.u One.u A276_c270 g270_c270 nE270_c270 _ hF
        · rw [if_neg hc103] at hF
          refine own_Goes.via (B := T276.setTop (mkF m 109 #[.val (.int v0), .val (.int v1), .val (.int v2), .val (.int x267), .val (.int x268), .val (.int x269), .val (.ref c270), .val (.int (3 : Int32)), .unset, .unset, .unset, .unset, .unset] [(.int (57343 : Int32)), (.int x267)])) (fun t k => ?_) ?_
          · show Steps p.tables e below (T276.setTop (mkF m 103 #[.val (.int v0), .val (.int v1), .val (.int v2), .val (.int x267), .val (.int x268), .val (.int x269), .val (.ref c270), .val (.int (3 : Int32)), .unset, .unset, .unset, .unset, .unset] [(.int (55296 : Int32)), (.int x267)])) t
            refine XS.icmpNo X276.here hx rfl (hb hby at_103) rfl (flt hc103).1 ?_
            show Steps p.tables e below (T276.setTop (mkF m 106 #[.val (.int v0), .val (.int v1), .val (.int v2), .val (.int x267), .val (.int x268), .val (.int x269), .val (.ref c270), .val (.int (3 : Int32)), .unset, .unset, .unset, .unset, .unset] [])) t
            refine XS.iloadN X276.here hx rfl (hb hby at_106) rfl ?_
            show Steps p.tables e below (T276.setTop (mkF m 107 #[.val (.int v0), .val (.int v1), .val (.int v2), .val (.int x267), .val (.int x268), .val (.int x269), .val (.ref c270), .val (.int (3 : Int32)), .unset, .unset, .unset, .unset, .unset] [(.int x267)])) t
            refine X276.ldcInt hx hown (mvT hZ (w19 hw)) (g := (mkF m 107 #[.val (.int v0), .val (.int v1), .val (.int v2), .val (.int x267), .val (.int x268), .val (.int x269), .val (.ref c270), .val (.int (3 : Int32)), .unset, .unset, .unset, .unset, .unset] [(.int x267)])) rfl (hb hby at_107) _ ?_
            exact k
          by_cases hc109 : (57343 : Int32) < x267
          · rw [if_pos hc109] at hF
            refine own_Goes.via (B := T276.setTop (mkF m 117 #[.val (.int v0), .val (.int v1), .val (.int v2), .val (.int x267), .val (.int x268), .val (.int x269), .val (.ref c270), .val (.int (3 : Int32)), .unset, .unset, .unset, .unset, .unset] [(.int (0 : Int32))])) (fun t k => ?_) ?_
            · show Steps p.tables e below (T276.setTop (mkF m 109 #[.val (.int v0), .val (.int v1), .val (.int v2), .val (.int x267), .val (.int x268), .val (.int x269), .val (.ref c270), .val (.int (3 : Int32)), .unset, .unset, .unset, .unset, .unset] [(.int (57343 : Int32)), (.int x267)])) t
              refine XS.icmpYes X276.here hx rfl (pc0 := 109) (pc' := 116) rfl (hb hby at_109) rfl (tlt hc109).2.2.1 (by decide) (by decide) ?_
              show Steps p.tables e below (T276.setTop (mkF m 116 #[.val (.int v0), .val (.int v1), .val (.int v2), .val (.int x267), .val (.int x268), .val (.int x269), .val (.ref c270), .val (.int (3 : Int32)), .unset, .unset, .unset, .unset, .unset] [])) t
              refine XS.iconst X276.here hx rfl (hb hby at_116) ?_
              exact k
            exact b_law_117 cx X276 e276 N276 K276_ z276 c270 x267 x268 x269 (3 : Int32) (0 : Int32) ([(x269.toInt8.toInt32), (x269.toInt8.toInt32), (x269.toInt8.toInt32), (x269.toInt8.toInt32), (x269.toInt8.toInt32), (x269.toInt8.toInt32)] : List Int32) (.val (.int v0)) (.val (.int v1)) (.val (.int v2)) (.unset) (.unset) (.unset) (.unset) (.unset) (One.val rfl) (One.val rfl) (One.val rfl) One.u One.u One.u One.u One.u A276_c270 g270_c270 nE270_c270 _ hF
          · rw [if_neg hc109] at hF
            refine own_Goes.via (B := T276.setTop (mkF m 117 #[.val (.int v0), .val (.int v1), .val (.int v2), .val (.int x267), .val (.int x268), .val (.int x269), .val (.ref c270), .val (.int (3 : Int32)), .unset, .unset, .unset, .unset, .unset] [(.int (1 : Int32))])) (fun t k => ?_) ?_
            · show Steps p.tables e below (T276.setTop (mkF m 109 #[.val (.int v0), .val (.int v1), .val (.int v2), .val (.int x267), .val (.int x268), .val (.int x269), .val (.ref c270), .val (.int (3 : Int32)), .unset, .unset, .unset, .unset, .unset] [(.int (57343 : Int32)), (.int x267)])) t
              refine XS.icmpNo X276.here hx rfl (hb hby at_109) rfl (flt hc109).2.2.1 ?_
              show Steps p.tables e below (T276.setTop (mkF m 112 #[.val (.int v0), .val (.int v1), .val (.int v2), .val (.int x267), .val (.int x268), .val (.int x269), .val (.ref c270), .val (.int (3 : Int32)), .unset, .unset, .unset, .unset, .unset] [])) t
              refine XS.iconst X276.here hx rfl (hb hby at_112) ?_
              show Steps p.tables e below (T276.setTop (mkF m 113 #[.val (.int v0), .val (.int v1), .val (.int v2), .val (.int x267), .val (.int x268), .val (.int x269), .val (.ref c270), .val (.int (3 : Int32)), .unset, .unset, .unset, .unset, .unset] [(.int (1 : Int32))])) t
              refine XS.goto X276.here hx rfl (pc0 := 113) (pc' := 117) rfl (hb hby at_113) (by decide) (by decide) ?_
              exact k
            exact b_law_117 cx X276 e276 N276 K276_ z276 c270 x267 x268 x269 (3 : Int32) (1 : Int32) ([(x269.toInt8.toInt32), (x269.toInt8.toInt32), (x269.toInt8.toInt32), (x269.toInt8.toInt32), (x269.toInt8.toInt32), (x269.toInt8.toInt32)] : List Int32) (.val (.int v0)) (.val (.int v1)) (.val (.int v2)) (.unset) (.unset) (.unset) (.unset) (.unset) (One.val rfl) (One.val rfl) (One.val rfl) One.u One.u One.u One.u One.u A276_c270 g270_c270 nE270_c270 _ hF
      · rw [if_neg hc88] at hF
        refine own_Goes.via (B := T276.setTop (mkF m 103 #[.val (.int v0), .val (.int v1), .val (.int v2), .val (.int x267), .val (.int x268), .val (.int x269), .val (.ref c270), .val (.int (4 : Int32)), .unset, .unset, .unset, .unset, .unset] [(.int (55296 : Int32)), (.int x267)])) (fun t k => ?_) ?_
        · show Steps p.tables e below (T276.setTop (mkF m 88 #[.val (.int v0), .val (.int v1), .val (.int v2), .val (.int x267), .val (.int x268), .val (.int x269), .val (.ref c270), .unset, .unset, .unset, .unset, .unset, .unset] [(.int (65536 : Int32)), (.int x267)])) t
          refine XS.icmpYes X276.here hx rfl (pc0 := 88) (pc' := 97) rfl (hb hby at_88) rfl (flt hc88).2.1 (by decide) (by decide) ?_
          show Steps p.tables e below (T276.setTop (mkF m 97 #[.val (.int v0), .val (.int v1), .val (.int v2), .val (.int x267), .val (.int x268), .val (.int x269), .val (.ref c270), .unset, .unset, .unset, .unset, .unset, .unset] [])) t
          refine XS.iconst X276.here hx rfl (hb hby at_97) ?_
          show Steps p.tables e below (T276.setTop (mkF m 98 #[.val (.int v0), .val (.int v1), .val (.int v2), .val (.int x267), .val (.int x268), .val (.int x269), .val (.ref c270), .unset, .unset, .unset, .unset, .unset, .unset] [(.int (4 : Int32))])) t
          refine XS.istore X276.here hx rfl (hb hby at_98) rfl (l' := #[.val (.int v0), .val (.int v1), .val (.int v2), .val (.int x267), .val (.int x268), .val (.int x269), .val (.ref c270), .val (.int (4 : Int32)), .unset, .unset, .unset, .unset, .unset]) rfl ?_
          show Steps p.tables e below (T276.setTop (mkF m 100 #[.val (.int v0), .val (.int v1), .val (.int v2), .val (.int x267), .val (.int x268), .val (.int x269), .val (.ref c270), .val (.int (4 : Int32)), .unset, .unset, .unset, .unset, .unset] [])) t
          refine XS.iloadN X276.here hx rfl (hb hby at_100) rfl ?_
          show Steps p.tables e below (T276.setTop (mkF m 101 #[.val (.int v0), .val (.int v1), .val (.int v2), .val (.int x267), .val (.int x268), .val (.int x269), .val (.ref c270), .val (.int (4 : Int32)), .unset, .unset, .unset, .unset, .unset] [(.int x267)])) t
          refine X276.ldcInt hx hown (mvT hZ (w3 hw)) (g := (mkF m 101 #[.val (.int v0), .val (.int v1), .val (.int v2), .val (.int x267), .val (.int x268), .val (.int x269), .val (.ref c270), .val (.int (4 : Int32)), .unset, .unset, .unset, .unset, .unset] [(.int x267)])) rfl (hb hby at_101) _ ?_
          exact k
        by_cases hc103 : x267 < (55296 : Int32)
        · rw [if_pos hc103] at hF
          refine own_Goes.via (B := T276.setTop (mkF m 117 #[.val (.int v0), .val (.int v1), .val (.int v2), .val (.int x267), .val (.int x268), .val (.int x269), .val (.ref c270), .val (.int (4 : Int32)), .unset, .unset, .unset, .unset, .unset] [(.int (0 : Int32))])) (fun t k => ?_) ?_
          · show Steps p.tables e below (T276.setTop (mkF m 103 #[.val (.int v0), .val (.int v1), .val (.int v2), .val (.int x267), .val (.int x268), .val (.int x269), .val (.ref c270), .val (.int (4 : Int32)), .unset, .unset, .unset, .unset, .unset] [(.int (55296 : Int32)), (.int x267)])) t
            refine XS.icmpYes X276.here hx rfl (pc0 := 103) (pc' := 116) rfl (hb hby at_103) rfl (tlt hc103).1 (by decide) (by decide) ?_
            show Steps p.tables e below (T276.setTop (mkF m 116 #[.val (.int v0), .val (.int v1), .val (.int v2), .val (.int x267), .val (.int x268), .val (.int x269), .val (.ref c270), .val (.int (4 : Int32)), .unset, .unset, .unset, .unset, .unset] [])) t
            refine XS.iconst X276.here hx rfl (hb hby at_116) ?_
            exact k
          exact b_law_117 cx X276 e276 N276 K276_ z276 c270 x267 x268 x269 (4 : Int32) (0 : Int32) ([(x269.toInt8.toInt32), (x269.toInt8.toInt32), (x269.toInt8.toInt32), (x269.toInt8.toInt32), (x269.toInt8.toInt32), (x269.toInt8.toInt32)] : List Int32) (.val (.int v0)) (.val (.int v1)) (.val (.int v2)) (.unset) (.unset) (.unset) (.unset) (.unset) (One.val rfl) (One.val rfl) (One.val rfl) One.u One.u One.u One.u One.u A276_c270 g270_c270 nE270_c270 _ hF
        · rw [if_neg hc103] at hF
          refine own_Goes.via (B := T276.setTop (mkF m 109 #[.val (.int v0), .val (.int v1), .val (.int v2), .val (.int x267), .val (.int x268), .val (.int x269), .val (.ref c270), .val (.int (4 : Int32)), .unset, .unset, .unset, .unset, .unset] [(.int (57343 : Int32)), (.int x267)])) (fun t k => ?_) ?_
          · show Steps p.tables e below (T276.setTop (mkF m 103 #[.val (.int v0), .val (.int v1), .val (.int v2), .val (.int x267), .val (.int x268), .val (.int x269), .val (.ref c270), .val (.int (4 : Int32)), .unset, .unset, .unset, .unset, .unset] [(.int (55296 : Int32)), (.int x267)])) t
            refine XS.icmpNo X276.here hx rfl (hb hby at_103) rfl (flt hc103).1 ?_
            show Steps p.tables e below (T276.setTop (mkF m 106 #[.val (.int v0), .val (.int v1), .val (.int v2), .val (.int x267), .val (.int x268), .val (.int x269), .val (.ref c270), .val (.int (4 : Int32)), .unset, .unset, .unset, .unset, .unset] [])) t
            refine XS.iloadN X276.here hx rfl (hb hby at_106) rfl ?_
            show Steps p.tables e below (T276.setTop (mkF m 107 #[.val (.int v0), .val (.int v1), .val (.int v2), .val (.int x267), .val (.int x268), .val (.int x269), .val (.ref c270), .val (.int (4 : Int32)), .unset, .unset, .unset, .unset, .unset] [(.int x267)])) t
            refine X276.ldcInt hx hown (mvT hZ (w19 hw)) (g := (mkF m 107 #[.val (.int v0), .val (.int v1), .val (.int v2), .val (.int x267), .val (.int x268), .val (.int x269), .val (.ref c270), .val (.int (4 : Int32)), .unset, .unset, .unset, .unset, .unset] [(.int x267)])) rfl (hb hby at_107) _ ?_
            exact k
          by_cases hc109 : (57343 : Int32) < x267
          · rw [if_pos hc109] at hF
            refine own_Goes.via (B := T276.setTop (mkF m 117 #[.val (.int v0), .val (.int v1), .val (.int v2), .val (.int x267), .val (.int x268), .val (.int x269), .val (.ref c270), .val (.int (4 : Int32)), .unset, .unset, .unset, .unset, .unset] [(.int (0 : Int32))])) (fun t k => ?_) ?_
            · show Steps p.tables e below (T276.setTop (mkF m 109 #[.val (.int v0), .val (.int v1), .val (.int v2), .val (.int x267), .val (.int x268), .val (.int x269), .val (.ref c270), .val (.int (4 : Int32)), .unset, .unset, .unset, .unset, .unset] [(.int (57343 : Int32)), (.int x267)])) t
              refine XS.icmpYes X276.here hx rfl (pc0 := 109) (pc' := 116) rfl (hb hby at_109) rfl (tlt hc109).2.2.1 (by decide) (by decide) ?_
              show Steps p.tables e below (T276.setTop (mkF m 116 #[.val (.int v0), .val (.int v1), .val (.int v2), .val (.int x267), .val (.int x268), .val (.int x269), .val (.ref c270), .val (.int (4 : Int32)), .unset, .unset, .unset, .unset, .unset] [])) t
              refine XS.iconst X276.here hx rfl (hb hby at_116) ?_
              exact k
            exact b_law_117 cx X276 e276 N276 K276_ z276 c270 x267 x268 x269 (4 : Int32) (0 : Int32) ([(x269.toInt8.toInt32), (x269.toInt8.toInt32), (x269.toInt8.toInt32), (x269.toInt8.toInt32), (x269.toInt8.toInt32), (x269.toInt8.toInt32)] : List Int32) (.val (.int v0)) (.val (.int v1)) (.val (.int v2)) (.unset) (.unset) (.unset) (.unset) (.unset) (One.val rfl) (One.val rfl) (One.val rfl) One.u One.u One.u One.u One.u A276_c270 g270_c270 nE270_c270 _ hF
          · rw [if_neg hc109] at hF
            refine own_Goes.via (B := T276.setTop (mkF m 117 #[.val (.int v0), .val (.int v1), .val (.int v2), .val (.int x267), .val (.int x268), .val (.int x269), .val (.ref c270), .val (.int (4 : Int32)), .unset, .unset, .unset, .unset, .unset] [(.int (1 : Int32))])) (fun t k => ?_) ?_
            · show Steps p.tables e below (T276.setTop (mkF m 109 #[.val (.int v0), .val (.int v1), .val (.int v2), .val (.int x267), .val (.int x268), .val (.int x269), .val (.ref c270), .val (.int (4 : Int32)), .unset, .unset, .unset, .unset, .unset] [(.int (57343 : Int32)), (.int x267)])) t
              refine XS.icmpNo X276.here hx rfl (hb hby at_109) rfl (flt hc109).2.2.1 ?_
              show Steps p.tables e below (T276.setTop (mkF m 112 #[.val (.int v0), .val (.int v1), .val (.int v2), .val (.int x267), .val (.int x268), .val (.int x269), .val (.ref c270), .val (.int (4 : Int32)), .unset, .unset, .unset, .unset, .unset] [])) t
              refine XS.iconst X276.here hx rfl (hb hby at_112) ?_
              show Steps p.tables e below (T276.setTop (mkF m 113 #[.val (.int v0), .val (.int v1), .val (.int v2), .val (.int x267), .val (.int x268), .val (.int x269), .val (.ref c270), .val (.int (4 : Int32)), .unset, .unset, .unset, .unset, .unset] [(.int (1 : Int32))])) t
              refine XS.goto X276.here hx rfl (pc0 := 113) (pc' := 117) rfl (hb hby at_113) (by decide) (by decide) ?_
              exact k
            exact b_law_117 cx X276 e276 N276 K276_ z276 c270 x267 x268 x269 (4 : Int32) (1 : Int32) ([(x269.toInt8.toInt32), (x269.toInt8.toInt32), (x269.toInt8.toInt32), (x269.toInt8.toInt32), (x269.toInt8.toInt32), (x269.toInt8.toInt32)] : List Int32) (.val (.int v0)) (.val (.int v1)) (.val (.int v2)) (.unset) (.unset) (.unset) (.unset) (.unset) (One.val rfl) (One.val rfl) (One.val rfl) One.u One.u One.u One.u One.u A276_c270 g270_c270 nE270_c270 _ hF
theorem ef_law (m : MethodId) (x0 : Int32) (x1 : Int32) (x2 : Int32) : entryFrame m #[(.int x0), (.int x1), (.int x2)] maxLocals = mkF m 0 #[.val (.int x0), .val (.int x1), .val (.int x2), .unset, .unset, .unset, .unset, .unset, .unset, .unset, .unset, .unset, .unset] [] := by first | (simp [entryFrame, mkF, argsToLocals, Value.category, maxLocals]; done) | rfl
set_option maxRecDepth 65536 in
set_option maxHeartbeats 4000000 in
theorem rm_law (l : Launch) (Z : State) (a0 : Array Value) (hw : ∀ d ∈ tables_1, d.before a0 Z = true) (ws : List Jvm.Cond) (hE : Heap) (n0 : Nat) (z : n0 ≤ hE.size)  (v0 : Int32) (v1 : Int32) (v2 : Int32) (r : Int32) (hF : (f_law v0 v1 v2) = some r) :
    MetFree l x (head1 (Jvm.Cond.code x code maxLocals ret :: ws) room_1) (fun a U => a = #[(.int v0), (.int v1), (.int v2)] ∧ Z.Warmed39 U.vm ∧ U.heap = hE) (fun _ _ _ _ _ => True) (fun _ U o U' => ∃ v L, o = .returned v ∧ (Q_law Z hE n0 r) v U'.heap L ∧ FrameEnd U o U' L 1 6) := by
  refine MetFree.of_bodySF (plainFor_of_name pn_com_example_binary64_binary64_Utf8WritePinLaw) hisR ?_
  intro p e s m args below meth c s₁ Bd hml0 hP hK
  obtain ⟨rfl, hZ, hh⟩ := hP
  have X0 : Stand p l e room_1 s m #[(.int v0), (.int v1), (.int v2)] below meth c s₁ [] 0 0 := Stand.of_body Bd
  have e0 : s₁.heap = hE := by rw [← hh, Bd.state]; rfl
  have cx : Cx_law p s m meth c Z a0 := ⟨Bd.exec, hZ, hw, Bd.bytes, hml0, findClass_of_methodNamed Bd.named, Bd.returns, Bd.notSynchronized, (name_of_methodNamed Bd.named Bd.method).1⟩
  show own_Goes p e below s (Q_law Z hE n0 r) 1 6 (s₁.setTop (entryFrame m #[(.int v0), (.int v1), (.int v2)] maxLocals))
  rw [ef_law]
  exact b_law cx X0 e0 (Fr.nil n0) (Keep.refl _ _) z v0 v1 v2 _ hF
/-! the words of the mirrors -/
theorem own_bs {α β : Type} (x : α) (f : α → Option β) : own_bd (some x) f = f x := by unfold own_bd; exact rfl
theorem own_ls {α β : Type} (x : α) (f : α → Option β) : own_lt x f = f x := by unfold own_lt; exact rfl
theorem own_bn {α : Type} (x : Option α) : own_bd x (fun y => some y) = x := by cases x <;> exact rfl
theorem own_ct {β : Type} {P : Prop} [Decidable P] (x : Option β) (h : P) : own_ck P x = x := by unfold own_ck; exact if_pos h
/-! numbers: ints and longs as integers -/
theorem own_i1 (x : Int32) : -2147483648 ≤ x.toInt := Int32.le_toInt x
theorem own_i2 (x : Int32) : x.toInt < 2147483648 := Int32.toInt_lt x
theorem own_j1 (x : Int64) : -9223372036854775808 ≤ x.toInt := Int64.le_toInt x
theorem own_j2 (x : Int64) : x.toInt < 9223372036854775808 := Int64.toInt_lt x
theorem own_iadd {a b : Int32} (h1 : -2147483648 ≤ a.toInt + b.toInt) (h2 : a.toInt + b.toInt < 2147483648) : (a + b).toInt = a.toInt + b.toInt := by
  rw [Int32.toInt_add]; exact Int.bmod_eq_of_le (by omega) (by omega)
theorem own_isub {a b : Int32} (h1 : -2147483648 ≤ a.toInt - b.toInt) (h2 : a.toInt - b.toInt < 2147483648) : (a - b).toInt = a.toInt - b.toInt := by
  rw [Int32.toInt_sub]; exact Int.bmod_eq_of_le (by omega) (by omega)
theorem own_imul {a b : Int32} (h1 : -2147483648 ≤ a.toInt * b.toInt) (h2 : a.toInt * b.toInt < 2147483648) : (a * b).toInt = a.toInt * b.toInt := by
  rw [Int32.toInt_mul]; exact Int.bmod_eq_of_le (by omega) (by omega)
theorem own_ladd {a b : Int64} (h1 : -9223372036854775808 ≤ a.toInt + b.toInt) (h2 : a.toInt + b.toInt < 9223372036854775808) : (a + b).toInt = a.toInt + b.toInt := by
  rw [Int64.toInt_add]; exact Int.bmod_eq_of_le (by omega) (by omega)
theorem own_lsub {a b : Int64} (h1 : -9223372036854775808 ≤ a.toInt - b.toInt) (h2 : a.toInt - b.toInt < 9223372036854775808) : (a - b).toInt = a.toInt - b.toInt := by
  rw [Int64.toInt_sub]; exact Int.bmod_eq_of_le (by omega) (by omega)
theorem own_lmul {a b : Int64} (h1 : -9223372036854775808 ≤ a.toInt * b.toInt) (h2 : a.toInt * b.toInt < 9223372036854775808) : (a * b).toInt = a.toInt * b.toInt := by
  rw [Int64.toInt_mul]; exact Int.bmod_eq_of_le (by omega) (by omega)
theorem own_imask {x m : Int32} (k : Nat) (hk : k ≤ 31) (hm : m.toBitVec.toNat = 2 ^ k - 1) : (x &&& m).toInt = x.toInt % 2 ^ k := by
  have h1 : (x &&& m).toBitVec.toNat = x.toBitVec.toNat % 2 ^ k := by rw [Int32.toBitVec_and, BitVec.toNat_and, hm, Nat.and_two_pow_sub_one_eq_mod]
  have h3 : x.toBitVec.toNat % 2 ^ k < 2 ^ k := Nat.mod_lt _ (Nat.pow_pos (by decide))
  have h4 : (2 : Nat) ^ k ≤ 2 ^ 31 := Nat.pow_le_pow_right (by decide) hk
  have h2 : (x &&& m).toInt = ((x.toBitVec.toNat % 2 ^ k : Nat) : Int) := by
    show (x &&& m).toBitVec.toInt = _
    rw [BitVec.toInt_eq_toNat_of_lt (by rw [h1]; omega), h1]
  rw [h2]
  have h5 : x.toInt = x.toBitVec.toInt := rfl
  have h6 : ((2 : Int) ^ k) ∣ 4294967296 := by
    have : (4294967296 : Int) = 2 ^ k * 2 ^ (32 - k) := by rw [← Int.pow_add, show k + (32 - k) = 32 by omega]; rfl
    exact ⟨_, this⟩
  rw [h5, BitVec.toInt_eq_toNat_cond]
  split
  · exact Int.natCast_emod _ _
  · rw [Int.natCast_emod, show (((2 ^ 32 : Nat) : Int)) = 4294967296 from rfl, Int.sub_emod, Int.emod_eq_zero_of_dvd h6]; simp
theorem own_lmask {x m : Int64} (k : Nat) (hk : k ≤ 63) (hm : m.toBitVec.toNat = 2 ^ k - 1) : (x &&& m).toInt = x.toInt % 2 ^ k := by
  have h1 : (x &&& m).toBitVec.toNat = x.toBitVec.toNat % 2 ^ k := by rw [Int64.toBitVec_and, BitVec.toNat_and, hm, Nat.and_two_pow_sub_one_eq_mod]
  have h3 : x.toBitVec.toNat % 2 ^ k < 2 ^ k := Nat.mod_lt _ (Nat.pow_pos (by decide))
  have h4 : (2 : Nat) ^ k ≤ 2 ^ 63 := Nat.pow_le_pow_right (by decide) hk
  have h2 : (x &&& m).toInt = ((x.toBitVec.toNat % 2 ^ k : Nat) : Int) := by
    show (x &&& m).toBitVec.toInt = _
    rw [BitVec.toInt_eq_toNat_of_lt (by rw [h1]; omega), h1]
  rw [h2]
  have h5 : x.toInt = x.toBitVec.toInt := rfl
  have h6 : ((2 : Int) ^ k) ∣ 18446744073709551616 := by
    have : (18446744073709551616 : Int) = 2 ^ k * 2 ^ (64 - k) := by rw [← Int.pow_add, show k + (64 - k) = 64 by omega]; rfl
    exact ⟨_, this⟩
  rw [h5, BitVec.toInt_eq_toNat_cond]
  split
  · exact Int.natCast_emod _ _
  · rw [Int.natCast_emod, show (((2 ^ 64 : Nat) : Int)) = 18446744073709551616 from rfl, Int.sub_emod, Int.emod_eq_zero_of_dvd h6]; simp
theorem own_bm32 (x : Int) : x.bmod 4294967296 = (x + 2147483648) % 4294967296 - 2147483648 := by
  unfold Int.bmod; dsimp only; split <;> omega
theorem own_bm64 (x : Int) : x.bmod 18446744073709551616 = (x + 9223372036854775808) % 18446744073709551616 - 9223372036854775808 := by
  unfold Int.bmod; dsimp only; split <;> omega
theorem own_bm8 (x : Int) : x.bmod 256 = (x + 128) % 256 - 128 := by
  unfold Int.bmod; dsimp only; split <;> omega
theorem own_bm16 (x : Int) : x.bmod 65536 = (x + 32768) % 65536 - 32768 := by
  unfold Int.bmod; dsimp only; split <;> omega
theorem own_b8 (x : Int32) : x.toInt8.toInt32.toInt = (x.toInt + 128) % 256 - 128 := by rw [Int8.toInt_toInt32, Int32.toInt_toInt8]; exact own_bm8 _
theorem own_s16 (x : Int32) : x.toInt16.toInt32.toInt = (x.toInt + 32768) % 65536 - 32768 := by rw [Int16.toInt_toInt32, Int32.toInt_toInt16]; exact own_bm16 _
theorem own_l2i (x : Int64) : x.toInt32.toInt = (x.toInt + 2147483648) % 4294967296 - 2147483648 := by rw [Int64.toInt_toInt32]; exact own_bm32 _
theorem own_i2l (x : Int32) : x.toInt64.toInt = x.toInt := Int32.toInt_toInt64 x
theorem own_idiv {a b : Int32} (h1 : 0 ≤ a.toInt) (h2 : 0 < b.toInt) : (a / b).toInt = a.toInt / b.toInt := by
  rw [Int32.toInt_div_of_ne_right a b (fun q => by rw [q] at h2; exact absurd h2 (by decide)), Int.tdiv_eq_ediv_of_nonneg h1]
theorem own_ldiv {a b : Int64} (h1 : 0 ≤ a.toInt) (h2 : 0 < b.toInt) : (a / b).toInt = a.toInt / b.toInt := by
  rw [Int64.toInt_div_of_ne_right a b (fun q => by rw [q] at h2; exact absurd h2 (by decide)), Int.tdiv_eq_ediv_of_nonneg h1]
theorem own_imod {a b : Int32} (h1 : 0 ≤ a.toInt) : (a % b).toInt = a.toInt % b.toInt := by rw [Int32.toInt_mod, Int.tmod_eq_emod_of_nonneg h1]
theorem own_lmod {a b : Int64} (h1 : 0 ≤ a.toInt) : (a % b).toInt = a.toInt % b.toInt := by rw [Int64.toInt_mod, Int.tmod_eq_emod_of_nonneg h1]
theorem own_uI (x : Int32) : (x.toUInt32.toNat : Int) = x.toInt % 4294967296 := by
  have h : x.toInt = x.toBitVec.toInt := rfl
  have q : x.toUInt32.toNat = x.toBitVec.toNat := rfl
  have b := x.toBitVec.isLt
  rw [h, q, BitVec.toInt_eq_toNat_cond]
  split <;> omega
theorem own_uJ (x : Int64) : (x.toUInt64.toNat : Int) = x.toInt % 18446744073709551616 := by
  have h : x.toInt = x.toBitVec.toInt := rfl
  have q : x.toUInt64.toNat = x.toBitVec.toNat := rfl
  have b := x.toBitVec.isLt
  rw [h, q, BitVec.toInt_eq_toNat_cond]
  split <;> omega
theorem own_ofU (u : UInt32) (h : u.toNat < 2147483648) : u.toInt32.toInt = u.toNat := by
  show u.toBitVec.toInt = _
  exact BitVec.toInt_eq_toNat_of_lt (by show 2 * u.toNat < 2 ^ 32; omega)
theorem own_ofUJ (u : UInt64) (h : u.toNat < 9223372036854775808) : u.toInt64.toInt = u.toNat := by
  show u.toBitVec.toInt = _
  exact BitVec.toInt_eq_toNat_of_lt (by show 2 * u.toNat < 2 ^ 64; omega)
/-- Java's >>> on ints by a constant from 1 to 31 -/
theorem own_iushr (x s : Int32) (n : Nat) (h0 : 1 ≤ n) (hn : n < 32) (hs : (s &&& 31).toUInt32.toNat = n) : ((x.toUInt32 >>> (s &&& 31).toUInt32).toInt32).toInt = (x.toInt % 4294967296) / (2 ^ n : Nat) := by
  have e : (x.toUInt32 >>> (s &&& 31).toUInt32).toNat = x.toUInt32.toNat / 2 ^ n := by rw [UInt32.toNat_shiftRight, hs, Nat.mod_eq_of_lt hn, Nat.shiftRight_eq_div_pow]
  have b : x.toUInt32.toNat < 4294967296 := x.toUInt32.toNat_lt
  have c : x.toUInt32.toNat / 2 ^ n ≤ x.toUInt32.toNat / 2 ^ 1 := Nat.div_le_div_left (Nat.pow_le_pow_right (by decide) h0) (by decide)
  rw [own_ofU _ (by rw [e]; omega), e, Int.natCast_ediv, own_uI]
theorem own_lushr (x : Int64) (s : Int32) (n : Nat) (h0 : 1 ≤ n) (hn : n < 64) (hs : (s &&& 0x3f).toInt64.toUInt64.toNat = n) : ((x.toUInt64 >>> (s &&& 0x3f).toInt64.toUInt64).toInt64).toInt = (x.toInt % 18446744073709551616) / (2 ^ n : Nat) := by
  have e : (x.toUInt64 >>> (s &&& 0x3f).toInt64.toUInt64).toNat = x.toUInt64.toNat / 2 ^ n := by rw [UInt64.toNat_shiftRight, hs, Nat.mod_eq_of_lt hn, Nat.shiftRight_eq_div_pow]
  have b : x.toUInt64.toNat < 18446744073709551616 := x.toUInt64.toNat_lt
  have c : x.toUInt64.toNat / 2 ^ n ≤ x.toUInt64.toNat / 2 ^ 1 := Nat.div_le_div_left (Nat.pow_le_pow_right (by decide) h0) (by decide)
  rw [own_ofUJ _ (by rw [e]; omega), e, Int.natCast_ediv, own_uJ]
theorem own_ishl {x s : Int32} (n : Nat) (hs : (s.toBitVec.smod 32).toNat = n) (h0 : 0 ≤ x.toInt) (h1 : x.toInt * (2 ^ n : Nat) < 2147483648) : (x <<< s).toInt = x.toInt * (2 ^ n : Nat) := by
  have h : x.toInt = x.toBitVec.toInt := rfl
  have hx : x.toInt = x.toBitVec.toNat := by
    have b := x.toBitVec.isLt
    rw [h, BitVec.toInt_eq_toNat_cond]; rw [h, BitVec.toInt_eq_toNat_cond] at h0
    split at h0 <;> rename_i q
    · rw [if_pos q]
    · omega
  have e : (x <<< s).toBitVec.toNat = x.toBitVec.toNat * 2 ^ n := by
    rw [Int32.toBitVec_shiftLeft, BitVec.shiftLeft_eq', hs, BitVec.toNat_shiftLeft, Nat.shiftLeft_eq]
    apply Nat.mod_eq_of_lt
    rw [hx] at h1
    omega
  show (x <<< s).toBitVec.toInt = _
  rw [BitVec.toInt_eq_toNat_of_lt (by rw [e]; rw [hx] at h1; omega), e, hx]
  simp
theorem own_lshl {x s : Int64} (n : Nat) (hs : (s.toBitVec.smod 64).toNat = n) (h0 : 0 ≤ x.toInt) (h1 : x.toInt * (2 ^ n : Nat) < 9223372036854775808) : (x <<< s).toInt = x.toInt * (2 ^ n : Nat) := by
  have h : x.toInt = x.toBitVec.toInt := rfl
  have hx : x.toInt = x.toBitVec.toNat := by
    have b := x.toBitVec.isLt
    rw [h, BitVec.toInt_eq_toNat_cond]; rw [h, BitVec.toInt_eq_toNat_cond] at h0
    split at h0 <;> rename_i q
    · rw [if_pos q]
    · omega
  have e : (x <<< s).toBitVec.toNat = x.toBitVec.toNat * 2 ^ n := by
    rw [Int64.toBitVec_shiftLeft, BitVec.shiftLeft_eq', hs, BitVec.toNat_shiftLeft, Nat.shiftLeft_eq]
    apply Nat.mod_eq_of_lt
    rw [hx] at h1
    omega
  show (x <<< s).toBitVec.toInt = _
  rw [BitVec.toInt_eq_toNat_of_lt (by rw [e]; rw [hx] at h1; omega), e, hx]
  simp
theorem own_ishr (x s : Int32) (n : Nat) (hs : (s.toBitVec.smod 32).toNat = n) : (x >>> s).toInt = x.toInt / (2 ^ n : Nat) := by
  show (x >>> s).toBitVec.toInt = _
  rw [Int32.toBitVec_shiftRight, BitVec.sshiftRight', hs, BitVec.toInt_sshiftRight, Int.shiftRight_eq_div_pow]
  rfl
theorem own_lshr (x s : Int64) (n : Nat) (hs : (s.toBitVec.smod 64).toNat = n) : (x >>> s).toInt = x.toInt / (2 ^ n : Nat) := by
  show (x >>> s).toBitVec.toInt = _
  rw [Int64.toBitVec_shiftRight, BitVec.sshiftRight', hs, BitVec.toInt_sshiftRight, Int.shiftRight_eq_div_pow]
  rfl
theorem own_natbit (x k : Nat) : x &&& 2 ^ k = 0 ↔ x / 2 ^ k % 2 = 0 := by
  constructor
  · intro h
    have q : (x &&& 2 ^ k).testBit k = false := by rw [h]; exact Nat.zero_testBit k
    rw [Nat.testBit_and, Nat.testBit_two_pow_self, Bool.and_true, Nat.testBit_eq_decide_div_mod_eq] at q
    have q := of_decide_eq_false q
    omega
  · intro h
    apply Nat.eq_of_testBit_eq
    intro i
    rw [Nat.testBit_and, Nat.zero_testBit, Nat.testBit_two_pow]
    by_cases e : k = i
    · subst e
      rw [Nat.testBit_eq_decide_div_mod_eq, h]; rfl
    · simp [e]
/-- one bit of an int -/
theorem own_ibit (x m : Int32) (k : Nat) (hm : m.toBitVec.toNat = 2 ^ k) : (x &&& m = 0) ↔ x.toInt % 4294967296 / (2 ^ k : Nat) % 2 = 0 := by
  have u : (x.toBitVec.toNat : Int) = x.toInt % 4294967296 := own_uI x
  have z : (0 : Int32).toBitVec.toNat = 0 := rfl
  rw [← u, ← Int.natCast_ediv, ← Int32.toBitVec_inj, ← BitVec.toNat_inj, Int32.toBitVec_and, BitVec.toNat_and, hm, z, own_natbit]
  omega
theorem own_k0 : (0 : Int32).toNatClampNeg = 0 := by decide
theorem own_k1 : (1 : Int32).toNatClampNeg = 1 := by decide
theorem own_k2 : (2 : Int32).toNatClampNeg = 2 := by decide
theorem own_k3 : (3 : Int32).toNatClampNeg = 3 := by decide
theorem own_k4 : (4 : Int32).toNatClampNeg = 4 := by decide
theorem own_k5 : (5 : Int32).toNatClampNeg = 5 := by decide
theorem own_k6 : (6 : Int32).toNatClampNeg = 6 := by decide
theorem own_k7 : (7 : Int32).toNatClampNeg = 7 := by decide
/-- a byte, and what a property of the 256 of them says -/
theorem own_byte {P : Int32 → Prop} (h : ∀ n : Nat, n < 256 → P (Int32.ofNat n)) (x : Int32) (h1 : 0 ≤ x.toInt) (h2 : x.toInt < 256) : P x := by
  have e : x = Int32.ofNat x.toInt.toNat := by
    apply Int32.toInt_inj.mp
    rw [Int32.toInt_ofNat_of_lt (by omega)]; omega
  rw [e]; exact h _ (by omega)
theorem own_192 (x : Int32) (h1 : 0 ≤ x.toInt) (h2 : x.toInt < 256) : (x &&& 192).toInt = x.toInt / 64 * 64 :=
  own_byte (P := fun x => (x &&& 192).toInt = x.toInt / 64 * 64) (by decide +kernel) x h1 h2
/-- the or of two numbers that share no bit -/
theorem own_ior {x y : Int32} (k : Nat) (q : Int) (hq : 0 ≤ q) (hx : x.toInt = (2 ^ k : Nat) * q) (hy : 0 ≤ y.toInt) (hy2 : y.toInt < (2 ^ k : Nat)) : (x ||| y).toInt = x.toInt + y.toInt := by
  have x0 : 0 ≤ x.toInt := by rw [hx]; exact Int.mul_nonneg (Int.natCast_nonneg _) hq
  have ux := own_uI x
  have uy := own_uI y
  have x2 := own_i2 x
  have y2 := own_i2 y
  have nx : x.toUInt32.toNat = 2 ^ k * q.toNat := by
    have : ((2 ^ k * q.toNat : Nat) : Int) = (2 ^ k : Nat) * q := by rw [Int.natCast_mul, Int.toNat_of_nonneg hq]
    omega
  have e : (x ||| y).toBitVec.toNat = x.toUInt32.toNat + y.toUInt32.toNat := by
    rw [Int32.toBitVec_or, BitVec.toNat_or]
    show x.toUInt32.toNat ||| y.toUInt32.toNat = _
    rw [nx]
    exact (Nat.two_pow_add_eq_or_of_lt (by omega) _).symm
  have lt : x.toInt + y.toInt < 2147483648 := by
    by_cases k31 : k ≤ 31
    · have d : (2 ^ 31 : Nat) = 2 ^ k * 2 ^ (31 - k) := by rw [← Nat.pow_add]; congr 1; omega
      have z1 : q.toNat < 2 ^ (31 - k) := by
        apply Nat.lt_of_mul_lt_mul_left (a := 2 ^ k)
        rw [← d, ← nx]; omega
      have z2 : 2 ^ k * (q.toNat + 1) ≤ 2 ^ k * 2 ^ (31 - k) := Nat.mul_le_mul_left _ z1
      rw [← d, Nat.mul_add, ← nx] at z2
      omega
    · have z0 : q = 0 := by
        have z1 : (2 ^ 32 : Nat) ≤ 2 ^ k := Nat.pow_le_pow_right (by decide) (by omega)
        by_cases q0 : q = 0
        · exact q0
        · have z3 : (2 ^ k : Nat) * 1 ≤ ((2 ^ k : Nat) : Int) * q := Int.mul_le_mul_of_nonneg_left (by omega) (Int.natCast_nonneg _)
          omega
      rw [hx, z0]; omega
  show (x ||| y).toBitVec.toInt = _
  rw [BitVec.toInt_eq_toNat_of_lt (by rw [e]; omega), e]
  omega
/-! arrays as lists: a place read behind a write -/
theorem own_nn {i : Int32} (h : 0 ≤ i.toInt) : (i.toNatClampNeg : Int) = i.toInt := by rw [Int32.toNatClampNeg]; omega
theorem own_ib {α : Type} {bs : List α} {i : Int32} (h1 : 0 ≤ i.toInt) (h2 : i.toInt < bs.length) : own_inb bs i := by
  refine ⟨?_, ?_⟩
  · rw [Int32.lt_iff_toInt_lt]; simp only [Int32.reduceToInt]; omega
  · have := own_nn h1; omega
theorem own_ibe {α : Type} {bs : List α} {i : Int32} (h : own_inb bs i) : 0 ≤ i.toInt ∧ i.toInt < bs.length := by
  have h1 := h.1
  rw [Int32.lt_iff_toInt_lt] at h1
  simp only [Int32.reduceToInt] at h1
  have := own_nn (i := i) (by omega)
  have := h.2
  omega
theorem own_wrl {α : Type} (bs : List α) (j : Int32) (v : α) : (own_wr bs j v).length = bs.length := by rw [own_wr, List.length_set]
theorem own_rw {α : Type} [OfNat α 0] {bs : List α} {i j : Int32} (v : α) (hi : 0 ≤ i.toInt) (hj : own_inb bs j) : own_rd (own_wr bs j v) i = if i = j then v else own_rd bs i := by
  have h := own_ibe hj
  rw [own_rd, own_rd, own_wr]
  have ni := own_nn hi
  have nj := own_nn h.1
  by_cases e : i = j
  · subst e
    rw [if_pos rfl, List.getD_eq_getElem?_getD, List.getElem?_set_self (by omega)]; rfl
  · have e' : i.toInt ≠ j.toInt := fun z => e (Int32.toInt_inj.mp z)
    rw [if_neg e, List.getD_eq_getElem?_getD, List.getElem?_set_ne (by omega), List.getD_eq_getElem?_getD]
theorem own_rw1 {α : Type} [OfNat α 0] {bs : List α} {j : Int32} (v : α) (hj : own_inb bs j) : own_rd (own_wr bs j v) j = v := by rw [own_rw v (own_ibe hj).1 hj, if_pos rfl]
theorem own_rw2 {α : Type} [OfNat α 0] {bs : List α} {i j : Int32} (v : α) (hi : 0 ≤ i.toInt) (hj : own_inb bs j) (h : i.toInt ≠ j.toInt) : own_rd (own_wr bs j v) i = own_rd bs i := by
  rw [own_rw v hi hj, if_neg fun z => h (by rw [z])]
theorem own_rrep {α : Type} [OfNat α 0] (n : Nat) (v : α) {i : Int32} (h : i.toNatClampNeg < n) : own_rd (List.replicate n v) i = v := by
  rw [own_rd, List.getD_eq_getElem?_getD, List.getElem?_replicate, if_pos h]; rfl
theorem own_n8i (x : Int32) : x.toInt8.toInt32.toInt8.toInt32 = x.toInt8.toInt32 := by
  rw [← Int32.toInt_inj, own_b8, own_b8]; omega
theorem own_iadd1 (a : Int32) (k : Int32) (h1 : -2147483648 ≤ a.toInt + k.toInt) (h2 : a.toInt + k.toInt < 2147483648) : (a + k).toInt = a.toInt + k.toInt := own_iadd h1 h2
def own_c (x : Int) : Prop := 128 ≤ x ∧ x ≤ 191
instance (x : Int) : Decidable (own_c x) := inferInstanceAs (Decidable (_ ∧ _))
/-- what the two of them answer, over integers -/
def own_tail (l x1 n : Int) : Int :=
  if l = 224 ∧ x1 < 160 then -4 else if l = 240 ∧ x1 < 144 then -4 else if l = 237 ∧ 159 < x1 then -5 else if l = 244 ∧ 143 < x1 then -6 else n
def own_spec (l x1 x2 x3 av : Int) : Int :=
  if l < 128 then 1 else if l < 192 then -2 else if l < 194 ∨ 244 < l then -1
  else if l < 224 then (if 1 < av ∧ own_c x1 then own_tail l x1 2 else -3)
  else if l < 240 then (if 1 < av ∧ own_c x1 ∧ 2 < av ∧ own_c x2 then own_tail l x1 3 else -3)
  else (if 1 < av ∧ own_c x1 ∧ 2 < av ∧ own_c x2 ∧ 3 < av ∧ own_c x3 then own_tail l x1 4 else -3)
theorem own_q192 (r : Int32) : (r &&& 192 = 128) ↔ own_c (r &&& 255).toInt := by
  have e : r &&& 192 = (r &&& 255) &&& 192 := by rw [Int32.and_assoc]; congr 1
  have m : (r &&& 255).toInt = r.toInt % 2 ^ 8 := own_imask 8 (by decide) (by decide)
  rw [e, ← Int32.toInt_inj, own_192 _ (by omega) (by omega)]
  simp only [Int32.reduceToInt]
  unfold own_c; omega
theorem own_t206 (l m s : Int32) (bs : List Int32) : f_Utf8_sequenceLength_206 l m s bs = some (if l.toInt = 244 ∧ 143 < s.toInt then -6 else m) := by
  unfold f_Utf8_sequenceLength_206
  simp only [← Int32.toInt_inj, Int32.lt_iff_toInt_lt, Int32.reduceToInt]
  repeat' split
  all_goals first | rfl | (exfalso; omega)
theorem own_t162 (l m s : Int32) (bs : List Int32) : f_Utf8_sequenceLength_162 l m s bs = some (if l.toInt = 240 ∧ s.toInt < 144 then -4 else if l.toInt = 237 ∧ 159 < s.toInt then -5 else if l.toInt = 244 ∧ 143 < s.toInt then -6 else m) := by
  unfold f_Utf8_sequenceLength_162
  simp only [own_t206, ← Int32.toInt_inj, Int32.lt_iff_toInt_lt, Int32.reduceToInt]
  repeat' split
  all_goals first | rfl | (exfalso; omega)
theorem own_end (n : Nat) (a e l m i x1 : Int32) (bs : List Int32) (hi : ¬ i < m) (hb : own_inb bs (a + 1)) (hr : own_rd bs (a + 1) &&& 255 = x1) : ∃ r, f_Utf8_sequenceLength_96 (n + 1) a e l m i bs = some r ∧ r.toInt = own_tail l.toInt x1.toInt m.toInt := by
  rw [f_Utf8_sequenceLength_96, if_neg hi, own_ls, own_ct _ hb, own_ls, hr]
  simp only [own_t162, ← Int32.toInt_inj, Int32.lt_iff_toInt_lt, Int32.reduceToInt]
  unfold own_tail
  repeat' split
  all_goals first | exact ⟨_, rfl, rfl⟩ | (exfalso; omega)
theorem own_turn (n : Nat) (a e l m i x : Int32) (bs : List Int32) (hi : i < m) (hb : own_inb bs (a + i)) (hr : own_rd bs (a + i) &&& 255 = x) :
    f_Utf8_sequenceLength_96 (n + 1) a e l m i bs = if ¬ (a + i = e) ∧ own_c x.toInt then f_Utf8_sequenceLength_96 n a e l m (i + 1) bs else some (-3) := by
  rw [f_Utf8_sequenceLength_96, if_pos hi]
  by_cases h : a + i = e
  · rw [if_pos h, if_neg (fun q => q.1 h)]
  · rw [if_neg h, own_ls, own_ct _ hb]
    by_cases q : own_rd bs (a + i) &&& 192 = 128
    · rw [if_pos q, own_ls, if_pos ⟨h, by rw [← hr]; exact (own_q192 _).mp q⟩]
    · rw [if_neg q, if_neg (fun z => q ((own_q192 _).mpr (by rw [hr]; exact z.2)))]
theorem own_seq (a e x0 x1 x2 x3 : Int32) (av : Int) (bs : List Int32) (ha : 0 ≤ a.toInt) (ha2 : a.toInt ≤ 1) (he : e.toInt = a.toInt + av) (h1 : 1 ≤ av) (h4 : av ≤ 4)
    (b0 : own_inb bs a) (r0 : own_rd bs a &&& 255 = x0) (b1 : own_inb bs (a + 1)) (r1 : own_rd bs (a + 1) &&& 255 = x1) (b2 : own_inb bs (a + 2)) (r2 : own_rd bs (a + 2) &&& 255 = x2) (b3 : own_inb bs (a + 3)) (r3 : own_rd bs (a + 3) &&& 255 = x3) :
    ∃ r, f_Utf8_sequenceLength a e bs = some r ∧ r.toInt = own_spec x0.toInt x1.toInt x2.toInt x3.toInt av := by
  have a1 : (a + 1).toInt = a.toInt + 1 := by rw [own_iadd (by simp only [Int32.reduceToInt]; omega) (by simp only [Int32.reduceToInt]; omega)]; rfl
  have a2 : (a + 2).toInt = a.toInt + 2 := by rw [own_iadd (by simp only [Int32.reduceToInt]; omega) (by simp only [Int32.reduceToInt]; omega)]; rfl
  have a3 : (a + 3).toInt = a.toInt + 3 := by rw [own_iadd (by simp only [Int32.reduceToInt]; omega) (by simp only [Int32.reduceToInt]; omega)]; rfl
  have n1 : (¬ a + 1 = e) ↔ 1 < av := by rw [← Int32.toInt_inj, a1, he]; omega
  have n2 : 1 < av → ((¬ a + 2 = e) ↔ 2 < av) := fun _ => by rw [← Int32.toInt_inj, a2, he]; omega
  have n3 : 2 < av → ((¬ a + 3 = e) ↔ 3 < av) := fun _ => by rw [← Int32.toInt_inj, a3, he]; omega
  have p2 : (1 : Int32) + 1 = 2 := by decide
  have p3 : (2 : Int32) + 1 = 3 := by decide
  have p4 : (3 : Int32) + 1 = 4 := by decide
  have m3 : (-3 : Int32).toInt = -3 := rfl
  unfold f_Utf8_sequenceLength
  rw [own_ct _ b0, own_ls, r0]
  simp only [Int32.lt_iff_toInt_lt, Int32.reduceToInt]
  unfold own_spec
  by_cases c1 : x0.toInt < 128
  · rw [if_pos c1, if_pos c1]; exact ⟨_, rfl, rfl⟩
  rw [if_neg c1, if_neg c1]
  by_cases c2 : x0.toInt < 192
  · rw [if_pos c2, if_pos c2]; exact ⟨_, rfl, rfl⟩
  rw [if_neg c2, if_neg c2]
  by_cases c3 : x0.toInt < 194
  · rw [if_pos c3, if_pos (Or.inl c3)]; exact ⟨_, rfl, rfl⟩
  rw [if_neg c3]
  by_cases c4 : 244 < x0.toInt
  · rw [if_pos c4, if_pos (Or.inr c4)]; exact ⟨_, rfl, rfl⟩
  have c34 : ¬ (x0.toInt < 194 ∨ 244 < x0.toInt) := by omega
  rw [if_neg c4, if_neg c34]
  by_cases c5 : x0.toInt < 224
  · rw [if_pos c5, if_pos c5, own_turn 99 a e x0 2 1 x1 bs (by decide) b1 r1, p2]
    by_cases q : 1 < av ∧ own_c x1.toInt
    · rw [if_pos ⟨n1.mpr q.1, q.2⟩, if_pos q]
      exact own_end 98 a e x0 2 2 x1 bs (by decide) b1 r1
    · rw [if_neg (fun z => q ⟨n1.mp z.1, z.2⟩), if_neg q]; exact ⟨_, rfl, m3⟩
  rw [if_neg c5, if_neg c5]
  by_cases c6 : x0.toInt < 240
  · rw [if_pos c6, if_pos c6, own_turn 99 a e x0 3 1 x1 bs (by decide) b1 r1, p2]
    by_cases q : 1 < av ∧ own_c x1.toInt
    · rw [if_pos ⟨n1.mpr q.1, q.2⟩, own_turn 98 a e x0 3 2 x2 bs (by decide) b2 r2, p3]
      by_cases q2 : 2 < av ∧ own_c x2.toInt
      · rw [if_pos ⟨(n2 q.1).mpr q2.1, q2.2⟩, if_pos ⟨q.1, q.2, q2.1, q2.2⟩]
        exact own_end 97 a e x0 3 3 x1 bs (by decide) b1 r1
      · rw [if_neg (fun z => q2 ⟨(n2 q.1).mp z.1, z.2⟩), if_neg (fun z => q2 ⟨z.2.2.1, z.2.2.2⟩)]; exact ⟨_, rfl, m3⟩
    · rw [if_neg (fun z => q ⟨n1.mp z.1, z.2⟩), if_neg (fun z => q ⟨z.1, z.2.1⟩)]; exact ⟨_, rfl, m3⟩
  rw [if_neg c6, if_neg c6, own_turn 99 a e x0 4 1 x1 bs (by decide) b1 r1, p2]
  by_cases q : 1 < av ∧ own_c x1.toInt
  · rw [if_pos ⟨n1.mpr q.1, q.2⟩, own_turn 98 a e x0 4 2 x2 bs (by decide) b2 r2, p3]
    by_cases q2 : 2 < av ∧ own_c x2.toInt
    · rw [if_pos ⟨(n2 q.1).mpr q2.1, q2.2⟩, own_turn 97 a e x0 4 3 x3 bs (by decide) b3 r3, p4]
      by_cases q3 : 3 < av ∧ own_c x3.toInt
      · rw [if_pos ⟨(n3 q2.1).mpr q3.1, q3.2⟩, if_pos ⟨q.1, q.2, q2.1, q2.2, q3.1, q3.2⟩]
        exact own_end 96 a e x0 4 4 x1 bs (by decide) b1 r1
      · rw [if_neg (fun z => q3 ⟨(n3 q2.1).mp z.1, z.2⟩), if_neg (fun z => q3 ⟨z.2.2.2.2.1, z.2.2.2.2.2⟩)]; exact ⟨_, rfl, m3⟩
    · rw [if_neg (fun z => q2 ⟨(n2 q.1).mp z.1, z.2⟩), if_neg (fun z => q2 ⟨z.2.2.1, z.2.2.2.1⟩)]; exact ⟨_, rfl, m3⟩
  · rw [if_neg (fun z => q ⟨n1.mp z.1, z.2⟩), if_neg (fun z => q ⟨z.1, z.2.1⟩)]; exact ⟨_, rfl, m3⟩
/-! reading back what was written -/
/-- the loop of codePoint: one more byte -/
theorem own_cpt (n : Nat) (a len v i : Int32) (bs : List Int32) (hi : i < len) (hb : own_inb bs (a + i)) : f_Utf8_codePoint_26 (n + 1) a len v i bs = f_Utf8_codePoint_26 n a len ((v <<< ((6 : Int32) &&& 31)) ||| (own_rd bs (a + i) &&& 63)) (i + 1) bs := by
  rw [f_Utf8_codePoint_26, if_pos hi, own_ls, own_ct _ hb, own_ls, own_ls]
theorem own_cpe (n : Nat) (a len v i : Int32) (bs : List Int32) (hi : ¬ i < len) : f_Utf8_codePoint_26 (n + 1) a len v i bs = some v := by
  rw [f_Utf8_codePoint_26, if_neg hi]
theorem own_join (v r : Int32) (h1 : 0 ≤ v.toInt) (h2 : v.toInt < 33554432) : ((v <<< ((6 : Int32) &&& 31)) ||| (r &&& 63)).toInt = v.toInt * 64 + r.toInt % 64 := by
  have e1 : (v <<< ((6 : Int32) &&& 31)).toInt = v.toInt * 64 := by rw [own_ishl 6 (by decide) h1 (by omega)]; rfl
  have e2 : (r &&& 63).toInt = r.toInt % 2 ^ 6 := own_imask 6 (by decide) (by decide)
  rw [own_ior 6 v.toInt h1 (by rw [e1]; omega) (by omega) (by rw [e2]; omega), e1, e2]; rfl
theorem own_x8 (r : Int32) : (r &&& 255).toInt = r.toInt % 256 := own_imask 8 (by decide) (by decide)
/-- the or of a lead's mark and its bits, as a byte -/
theorem own_mark (k w : Nat) (m y : Int32) (hm : m.toInt = (2 ^ w : Nat) * (k : Int)) (hy : 0 ≤ y.toInt) (hy2 : y.toInt < (2 ^ w : Nat)) : ((m ||| y).toInt8.toInt32.toInt8.toInt32).toInt % 256 = (m.toInt + y.toInt) % 256 := by
  rw [own_n8i, own_b8, own_ior w (k : Int) (Int.natCast_nonneg _) hm hy hy2]; omega
/-- all that the law's end asks -/
theorem own_fin (cp a s len surr nx : Int32) (L bs : List Int32) (ha : 0 ≤ a.toInt) (ha2 : a.toInt ≤ 1) (l1 : 1 ≤ len.toInt) (l4 : len.toInt ≤ 4) (hn : nx.toInt = a.toInt + len.toInt) (hw : f_Utf8_write cp a L = some (nx, bs)) (h6 : bs.length = 6)
    (ho : ∀ i : Int32, 0 ≤ i.toInt → i.toInt < 6 → (i.toInt < a.toInt ∨ nx.toInt ≤ i.toInt) → own_rd bs i = s)
    (hs : own_spec (own_rd bs a &&& 255).toInt (own_rd bs (a + 1) &&& 255).toInt (own_rd bs (a + 2) &&& 255).toInt (own_rd bs (a + 3) &&& 255).toInt len.toInt = if surr = 0 then len.toInt else -5)
    (hc : f_Utf8_codePoint a len bs = some cp) : f_law_117 cp a s len surr L = some 1 := by
  have a1 : (a + 1).toInt = a.toInt + 1 := by rw [own_iadd (by simp only [Int32.reduceToInt]; omega) (by simp only [Int32.reduceToInt]; omega)]; rfl
  have a2 : (a + 2).toInt = a.toInt + 2 := by rw [own_iadd (by simp only [Int32.reduceToInt]; omega) (by simp only [Int32.reduceToInt]; omega)]; rfl
  have a3 : (a + 3).toInt = a.toInt + 3 := by rw [own_iadd (by simp only [Int32.reduceToInt]; omega) (by simp only [Int32.reduceToInt]; omega)]; rfl
  have out : ∀ i : Int32, 0 ≤ i.toInt → i.toInt < 6 → f_Utf8WritePinLaw_outside i a nx s bs = some 1 := by
    intro i h1 h2
    have ib : own_inb bs i := own_ib h1 (by rw [h6]; omega)
    unfold f_Utf8WritePinLaw_outside
    by_cases c1 : i < a
    · rw [if_pos c1, own_ct _ ib, if_pos]
      rw [Int32.lt_iff_toInt_lt] at c1
      exact ho i h1 h2 (Or.inl c1)
    · rw [if_neg c1]
      by_cases c2 : i < nx
      · rw [if_pos c2]
      · rw [if_neg c2, own_ct _ ib, if_pos]
        rw [Int32.lt_iff_toInt_lt] at c2
        exact ho i h1 h2 (Or.inr (by omega))
  obtain ⟨r, hr, gr⟩ := own_seq a nx _ _ _ _ len.toInt bs ha ha2 hn l1 l4 (own_ib ha (by rw [h6]; omega)) rfl (own_ib (by omega) (by rw [h6]; omega)) rfl (own_ib (by omega) (by rw [h6]; omega)) rfl (own_ib (by omega) (by rw [h6]; omega)) rfl
  rw [hs] at gr
  unfold f_law_117
  rw [hw, own_bs]
  dsimp only
  rw [if_pos (by rw [← Int32.toInt_inj, own_iadd (by omega) (by omega), hn]), out 0 (by decide) (by decide), own_bs, if_neg (by decide), out 1 (by decide) (by decide), own_bs, if_neg (by decide), out 2 (by decide) (by decide), own_bs, if_neg (by decide), out 3 (by decide) (by decide), own_bs, if_neg (by decide), out 4 (by decide) (by decide), own_bs, if_neg (by decide), out 5 (by decide) (by decide), own_bs, if_neg (by decide)]
  unfold f_law_236
  rw [hr, own_bs]
  have e281 : f_law_281 cp a len 1 1 bs = some 1 := by
    unfold f_law_281
    rw [if_neg (by decide), if_neg (by decide), hc, own_bs, if_pos rfl]
  by_cases q : surr = 0
  · rw [if_pos q] at gr ⊢
    rw [if_pos (Int32.toInt_inj.mp gr)]; exact e281
  · rw [if_neg q] at gr ⊢
    rw [if_pos (by rw [← Int32.toInt_inj, gr]; rfl)]; exact e281
set_option maxHeartbeats 4000000 in
theorem own_core (cp a s surr len : Int32) (h0 : 0 ≤ cp.toInt) (h1 : cp.toInt < 1114112) (ha : 0 ≤ a.toInt) (ha2 : a.toInt ≤ 1)
    (hl : len.toInt = if cp.toInt < 128 then 1 else if cp.toInt < 2048 then 2 else if cp.toInt < 65536 then 3 else 4) (hs : surr = if 55296 ≤ cp.toInt ∧ cp.toInt ≤ 57343 then 1 else 0) :
    f_law_117 cp a s len surr [s, s, s, s, s, s] = some 1 := by
  have a1 : (a + 1).toInt = a.toInt + 1 := by rw [own_iadd (by simp only [Int32.reduceToInt]; omega) (by simp only [Int32.reduceToInt]; omega)]; rfl
  have a2 : (a + 2).toInt = a.toInt + 2 := by rw [own_iadd (by simp only [Int32.reduceToInt]; omega) (by simp only [Int32.reduceToInt]; omega)]; rfl
  have a3 : (a + 3).toInt = a.toInt + 3 := by rw [own_iadd (by simp only [Int32.reduceToInt]; omega) (by simp only [Int32.reduceToInt]; omega)]; rfl
  have a4 : (a + 4).toInt = a.toInt + 4 := by rw [own_iadd (by simp only [Int32.reduceToInt]; omega) (by simp only [Int32.reduceToInt]; omega)]; rfl
  generalize hLL : ([s, s, s, s, s, s] : List Int32) = L
  have L6 : L.length = 6 := by rw [← hLL]; rfl
  have Ls : ∀ i : Int32, 0 ≤ i.toInt → i.toInt < 6 → own_rd L i = s := fun i q1 q2 => by
    rw [← hLL]
    have e : ([s, s, s, s, s, s] : List Int32) = List.replicate 6 s := rfl
    rw [e]; exact own_rrep 6 s (by have := own_nn q1; omega)
  have i0 : own_inb L a := own_ib ha (by rw [L6]; omega)
  have k63 : (cp &&& 63).toInt = cp.toInt % 2 ^ 6 := own_imask 6 (by decide) (by decide)
  have s6 : (cp >>> ((6 : Int32) &&& 31)).toInt = cp.toInt / 64 := by rw [own_ishr cp _ 6 (by decide)]; rfl
  have s12 : (cp >>> ((12 : Int32) &&& 31)).toInt = cp.toInt / 4096 := by rw [own_ishr cp _ 12 (by decide)]; rfl
  have s18 : (cp >>> ((18 : Int32) &&& 31)).toInt = cp.toInt / 262144 := by rw [own_ishr cp _ 18 (by decide)]; rfl
  have s6m : ((cp >>> ((6 : Int32) &&& 31)) &&& 63).toInt = cp.toInt / 64 % 64 := by rw [own_imask 6 (by decide) (by decide), s6]; rfl
  have s12m : ((cp >>> ((12 : Int32) &&& 31)) &&& 63).toInt = cp.toInt / 4096 % 64 := by rw [own_imask 6 (by decide) (by decide), s12]; rfl
  have c63 : (((128 : Int32) ||| (cp &&& 63)).toInt8.toInt32.toInt8.toInt32).toInt % 256 = 128 + cp.toInt % 64 := by
    rw [own_mark 2 6 128 _ (by decide) (by omega) (by rw [k63]; omega), k63]; simp only [Int32.reduceToInt]; omega
  have c6 : (((128 : Int32) ||| ((cp >>> ((6 : Int32) &&& 31)) &&& 63)).toInt8.toInt32.toInt8.toInt32).toInt % 256 = 128 + cp.toInt / 64 % 64 := by
    rw [own_mark 2 6 128 _ (by decide) (by omega) (by rw [s6m]; omega), s6m]; simp only [Int32.reduceToInt]; omega
  have c12 : (((128 : Int32) ||| ((cp >>> ((12 : Int32) &&& 31)) &&& 63)).toInt8.toInt32.toInt8.toInt32).toInt % 256 = 128 + cp.toInt / 4096 % 64 := by
    rw [own_mark 2 6 128 _ (by decide) (by omega) (by rw [s12m]; omega), s12m]; simp only [Int32.reduceToInt]; omega
  have p2 : (1 : Int32) + 1 = 2 := by decide
  have p3 : (2 : Int32) + 1 = 3 := by decide
  have p4 : (3 : Int32) + 1 = 4 := by decide
  have ln : ∀ n : Int32, len.toInt = n.toInt → len = n := fun n q => Int32.toInt_inj.mp q
  have sur0 : ¬ (55296 ≤ cp.toInt ∧ cp.toInt ≤ 57343) → surr = 0 := fun q => by rw [hs, if_neg q]
  have sur1 : (55296 ≤ cp.toInt ∧ cp.toInt ≤ 57343) → ¬ surr = 0 := fun q => by rw [hs, if_pos q]; decide
  by_cases c1 : cp.toInt < 128
  · rw [if_pos c1] at hl
    have := ln 1 hl; subst this
    have rw0 : own_rd (own_wr L a cp.toInt8.toInt32.toInt8.toInt32) a = cp.toInt8.toInt32.toInt8.toInt32 := own_rw1 _ i0
    have b0 : (cp.toInt8.toInt32.toInt8.toInt32).toInt = cp.toInt := by rw [own_n8i, own_b8]; omega
    refine own_fin cp a s 1 surr (a + 1) L (own_wr L a cp.toInt8.toInt32.toInt8.toInt32) ha ha2 (by decide) (by decide) a1 ?_ (by rw [own_wrl, L6]) ?_ ?_ ?_
    · unfold f_Utf8_write
      rw [if_pos (by rw [Int32.lt_iff_toInt_lt]; exact c1), own_ls, own_ct _ i0, own_ls, own_ls]
    · intro i q1 q2 q3
      rw [own_rw2 _ q1 i0 (by omega)]; exact Ls i q1 q2
    · rw [if_pos (sur0 (by omega)), own_x8, rw0, b0]
      unfold own_spec
      rw [if_pos (by omega)]; rfl
    · unfold f_Utf8_codePoint
      rw [if_pos rfl, own_ct _ (own_ib ha (by rw [own_wrl, L6]; omega)), own_ls, own_cpe 99 _ _ _ _ _ (by decide), rw0]
      exact congrArg some (Int32.toInt_inj.mp b0)
  rw [if_neg c1] at hl
  by_cases c2 : cp.toInt < 2048
  · rw [if_pos c2] at hl
    have := ln 2 hl; subst this
    generalize hy0 : ((192 : Int32) ||| (cp >>> ((6 : Int32) &&& 31))).toInt8.toInt32.toInt8.toInt32 = y0
    generalize hy1 : ((128 : Int32) ||| (cp &&& 63)).toInt8.toInt32.toInt8.toInt32 = y1 at *
    have g0 : y0.toInt % 256 = 192 + cp.toInt / 64 := by
      rw [← hy0, own_mark 3 6 192 _ (by decide) (by omega) (by rw [s6]; omega), s6]; simp only [Int32.reduceToInt]; omega
    have i1 : own_inb (own_wr L a y0) (a + 1) := own_ib (by omega) (by rw [own_wrl, L6]; omega)
    have r1 : own_rd (own_wr (own_wr L a y0) (a + 1) y1) (a + 1) = y1 := own_rw1 _ i1
    have r0 : own_rd (own_wr (own_wr L a y0) (a + 1) y1) a = y0 := by rw [own_rw2 _ ha i1 (by omega), own_rw1 _ i0]
    refine own_fin cp a s 2 surr (a + 2) L (own_wr (own_wr L a y0) (a + 1) y1) ha ha2 (by decide) (by decide) a2 ?_ (by rw [own_wrl, own_wrl, L6]) ?_ ?_ ?_
    · unfold f_Utf8_write
      rw [if_neg (by rw [Int32.lt_iff_toInt_lt]; exact c1), if_pos (by rw [Int32.lt_iff_toInt_lt]; exact c2), own_ls, hy0, own_ct _ i0, own_ls, own_ls, own_ls, hy1, own_ct _ i1, own_ls, own_ls]
    · intro i q1 q2 q3
      rw [own_rw2 _ q1 i1 (by omega), own_rw2 _ q1 i0 (by omega)]; exact Ls i q1 q2
    · rw [if_pos (sur0 (by omega)), own_x8, own_x8, r0, r1, g0, c63]
      unfold own_spec own_tail own_c
      rw [if_neg (by omega), if_neg (by omega), if_neg (by omega), if_pos (by omega), if_pos ⟨by decide, by omega⟩, if_neg (by omega), if_neg (by omega), if_neg (by omega), if_neg (by omega)]; rfl
    · unfold f_Utf8_codePoint
      have m : (255 : Int32) >>> (((2 : Int32) + 1) &&& 31) = 31 := by decide
      have f0 : (y0 &&& 31).toInt = y0.toInt % 2 ^ 5 := own_imask 5 (by decide) (by decide)
      rw [if_neg (by decide), own_ct _ (own_ib ha (by rw [own_wrl, own_wrl, L6]; omega)), own_ls, m, r0, own_cpt 99 _ _ _ _ _ (by decide) (own_ib (by omega) (by rw [own_wrl, own_wrl, L6]; omega)), p2, own_cpe 98 _ _ _ _ _ (by decide), r1]
      refine congrArg some (Int32.toInt_inj.mp ?_)
      rw [own_join _ _ (by omega) (by omega), f0]; omega
  rw [if_neg c2] at hl
  by_cases c3 : cp.toInt < 65536
  · rw [if_pos c3] at hl
    have := ln 3 hl; subst this
    generalize hy0 : ((224 : Int32) ||| (cp >>> ((12 : Int32) &&& 31))).toInt8.toInt32.toInt8.toInt32 = y0
    generalize hy1 : ((128 : Int32) ||| ((cp >>> ((6 : Int32) &&& 31)) &&& 63)).toInt8.toInt32.toInt8.toInt32 = y1 at *
    generalize hy2 : ((128 : Int32) ||| (cp &&& 63)).toInt8.toInt32.toInt8.toInt32 = y2 at *
    have g0 : y0.toInt % 256 = 224 + cp.toInt / 4096 := by
      rw [← hy0, own_mark 14 4 224 _ (by decide) (by omega) (by rw [s12]; omega), s12]; simp only [Int32.reduceToInt]; omega
    have i1 : own_inb (own_wr L a y0) (a + 1) := own_ib (by omega) (by rw [own_wrl, L6]; omega)
    have i2 : own_inb (own_wr (own_wr L a y0) (a + 1) y1) (a + 2) := own_ib (by omega) (by rw [own_wrl, own_wrl, L6]; omega)
    have len' : (own_wr (own_wr (own_wr L a y0) (a + 1) y1) (a + 2) y2).length = 6 := by rw [own_wrl, own_wrl, own_wrl, L6]
    have r2 : own_rd (own_wr (own_wr (own_wr L a y0) (a + 1) y1) (a + 2) y2) (a + 2) = y2 := own_rw1 _ i2
    have r1 : own_rd (own_wr (own_wr (own_wr L a y0) (a + 1) y1) (a + 2) y2) (a + 1) = y1 := by rw [own_rw2 _ (by omega) i2 (by omega), own_rw1 _ i1]
    have r0 : own_rd (own_wr (own_wr (own_wr L a y0) (a + 1) y1) (a + 2) y2) a = y0 := by rw [own_rw2 _ ha i2 (by omega), own_rw2 _ ha i1 (by omega), own_rw1 _ i0]
    refine own_fin cp a s 3 surr (a + 3) L (own_wr (own_wr (own_wr L a y0) (a + 1) y1) (a + 2) y2) ha ha2 (by decide) (by decide) a3 ?_ len' ?_ ?_ ?_
    · unfold f_Utf8_write
      rw [if_neg (by rw [Int32.lt_iff_toInt_lt]; exact c1), if_neg (by rw [Int32.lt_iff_toInt_lt]; exact c2), if_pos (by rw [Int32.lt_iff_toInt_lt]; exact c3), own_ls, hy0, own_ct _ i0, own_ls, own_ls, own_ls, hy1, own_ct _ i1, own_ls, own_ls, own_ls, hy2, own_ct _ i2, own_ls, own_ls]
    · intro i q1 q2 q3
      rw [own_rw2 _ q1 i2 (by omega), own_rw2 _ q1 i1 (by omega), own_rw2 _ q1 i0 (by omega)]; exact Ls i q1 q2
    · rw [own_x8, own_x8, own_x8, r0, r1, r2, g0, c6, c63]
      unfold own_spec own_tail own_c
      rw [if_neg (by omega), if_neg (by omega), if_neg (by omega), if_neg (by omega), if_pos (by omega), if_pos ⟨by decide, by omega, by decide, by omega⟩, if_neg (by omega), if_neg (by omega)]
      by_cases q : 55296 ≤ cp.toInt ∧ cp.toInt ≤ 57343
      · rw [if_pos (by omega), if_neg (sur1 q)]
      · rw [if_neg (by omega), if_neg (by omega), if_pos (sur0 q)]; rfl
    · unfold f_Utf8_codePoint
      have m : (255 : Int32) >>> (((3 : Int32) + 1) &&& 31) = 15 := by decide
      have f0 : (y0 &&& 15).toInt = y0.toInt % 2 ^ 4 := own_imask 4 (by decide) (by decide)
      rw [if_neg (by decide), own_ct _ (own_ib ha (by rw [len']; omega)), own_ls, m, r0, own_cpt 99 _ _ _ _ _ (by decide) (own_ib (by omega) (by rw [len']; omega)), p2, own_cpt 98 _ _ _ _ _ (by decide) (own_ib (by omega) (by rw [len']; omega)), p3, own_cpe 97 _ _ _ _ _ (by decide), r1, r2]
      refine congrArg some (Int32.toInt_inj.mp ?_)
      have e1 := own_join (y0 &&& 15) y1 (by omega) (by omega)
      rw [own_join _ _ (by omega) (by omega), e1, f0]; omega
  rw [if_neg c3] at hl
  have := ln 4 hl; subst this
  generalize hy0 : ((240 : Int32) ||| (cp >>> ((18 : Int32) &&& 31))).toInt8.toInt32.toInt8.toInt32 = y0
  generalize hy1 : ((128 : Int32) ||| ((cp >>> ((12 : Int32) &&& 31)) &&& 63)).toInt8.toInt32.toInt8.toInt32 = y1 at *
  generalize hy2 : ((128 : Int32) ||| ((cp >>> ((6 : Int32) &&& 31)) &&& 63)).toInt8.toInt32.toInt8.toInt32 = y2 at *
  generalize hy3 : ((128 : Int32) ||| (cp &&& 63)).toInt8.toInt32.toInt8.toInt32 = y3 at *
  have g0 : y0.toInt % 256 = 240 + cp.toInt / 262144 := by
    rw [← hy0, own_mark 30 3 240 _ (by decide) (by omega) (by rw [s18]; omega), s18]; simp only [Int32.reduceToInt]; omega
  have i1 : own_inb (own_wr L a y0) (a + 1) := own_ib (by omega) (by rw [own_wrl, L6]; omega)
  have i2 : own_inb (own_wr (own_wr L a y0) (a + 1) y1) (a + 2) := own_ib (by omega) (by rw [own_wrl, own_wrl, L6]; omega)
  have i3 : own_inb (own_wr (own_wr (own_wr L a y0) (a + 1) y1) (a + 2) y2) (a + 3) := own_ib (by omega) (by rw [own_wrl, own_wrl, own_wrl, L6]; omega)
  have len' : (own_wr (own_wr (own_wr (own_wr L a y0) (a + 1) y1) (a + 2) y2) (a + 3) y3).length = 6 := by rw [own_wrl, own_wrl, own_wrl, own_wrl, L6]
  have r3 : own_rd (own_wr (own_wr (own_wr (own_wr L a y0) (a + 1) y1) (a + 2) y2) (a + 3) y3) (a + 3) = y3 := own_rw1 _ i3
  have r2 : own_rd (own_wr (own_wr (own_wr (own_wr L a y0) (a + 1) y1) (a + 2) y2) (a + 3) y3) (a + 2) = y2 := by rw [own_rw2 _ (by omega) i3 (by omega), own_rw1 _ i2]
  have r1 : own_rd (own_wr (own_wr (own_wr (own_wr L a y0) (a + 1) y1) (a + 2) y2) (a + 3) y3) (a + 1) = y1 := by rw [own_rw2 _ (by omega) i3 (by omega), own_rw2 _ (by omega) i2 (by omega), own_rw1 _ i1]
  have r0 : own_rd (own_wr (own_wr (own_wr (own_wr L a y0) (a + 1) y1) (a + 2) y2) (a + 3) y3) a = y0 := by rw [own_rw2 _ ha i3 (by omega), own_rw2 _ ha i2 (by omega), own_rw2 _ ha i1 (by omega), own_rw1 _ i0]
  refine own_fin cp a s 4 surr (a + 4) L (own_wr (own_wr (own_wr (own_wr L a y0) (a + 1) y1) (a + 2) y2) (a + 3) y3) ha ha2 (by decide) (by decide) a4 ?_ len' ?_ ?_ ?_
  · unfold f_Utf8_write
    rw [if_neg (by rw [Int32.lt_iff_toInt_lt]; exact c1), if_neg (by rw [Int32.lt_iff_toInt_lt]; exact c2), if_neg (by rw [Int32.lt_iff_toInt_lt]; exact c3), own_ls, hy0, own_ct _ i0, own_ls, own_ls, own_ls, hy1, own_ct _ i1, own_ls, own_ls, own_ls, hy2, own_ct _ i2, own_ls, own_ls, own_ls, hy3, own_ct _ i3, own_ls, own_ls]
  · intro i q1 q2 q3
    rw [own_rw2 _ q1 i3 (by omega), own_rw2 _ q1 i2 (by omega), own_rw2 _ q1 i1 (by omega), own_rw2 _ q1 i0 (by omega)]; exact Ls i q1 q2
  · rw [own_x8, own_x8, own_x8, own_x8, r0, r1, r2, r3, g0, c12, c6, c63, if_pos (sur0 (by omega))]
    unfold own_spec own_tail own_c
    rw [if_neg (by omega), if_neg (by omega), if_neg (by omega), if_neg (by omega), if_neg (by omega), if_pos ⟨by decide, by omega, by decide, by omega, by decide, by omega⟩, if_neg (by omega), if_neg (by omega), if_neg (by omega), if_neg (by omega)]; rfl
  · unfold f_Utf8_codePoint
    have m : (255 : Int32) >>> (((4 : Int32) + 1) &&& 31) = 7 := by decide
    have f0 : (y0 &&& 7).toInt = y0.toInt % 2 ^ 3 := own_imask 3 (by decide) (by decide)
    rw [if_neg (by decide), own_ct _ (own_ib ha (by rw [len']; omega)), own_ls, m, r0, own_cpt 99 _ _ _ _ _ (by decide) (own_ib (by omega) (by rw [len']; omega)), p2, own_cpt 98 _ _ _ _ _ (by decide) (own_ib (by omega) (by rw [len']; omega)), p3, own_cpt 97 _ _ _ _ _ (by decide) (own_ib (by omega) (by rw [len']; omega)), p4, own_cpe 96 _ _ _ _ _ (by decide), r1, r2, r3]
    refine congrArg some (Int32.toInt_inj.mp ?_)
    have e1 := own_join (y0 &&& 7) y1 (by omega) (by omega)
    have e2 := own_join (((y0 &&& 7) <<< ((6 : Int32) &&& 31)) ||| (y1 &&& 63)) y2 (by omega) (by omega)
    rw [own_join _ _ (by omega) (by omega), e2, e1, f0]; omega
theorem own_law (c a f : Int32) : f_law c a f = some 1 := by
  have m1 : (c &&& (2097151 : Int32)).toInt = c.toInt % 2 ^ 21 := own_imask 21 (by decide) (by decide)
  have m2 : (a &&& (1 : Int32)).toInt = a.toInt % 2 ^ 1 := own_imask 1 (by decide) (by decide)
  have e1 : ((c &&& (2097151 : Int32)) % (1114112 : Int32)).toInt = (c.toInt % 2 ^ 21) % 1114112 := by rw [own_imod (by omega), m1]; rfl
  unfold f_law
  rw [own_ls, own_ls, own_ls]
  generalize (c &&& (2097151 : Int32)) % (1114112 : Int32) = cp at *
  simp only [Int32.lt_iff_toInt_lt, Int32.reduceToInt, own_n8i]
  have go : ∀ len surr : Int32, (len.toInt = if cp.toInt < 128 then 1 else if cp.toInt < 2048 then 2 else if cp.toInt < 65536 then 3 else 4) → (surr = if 55296 ≤ cp.toInt ∧ cp.toInt ≤ 57343 then 1 else 0) → f_law_117 cp (a &&& 1) f.toInt8.toInt32 len surr [f.toInt8.toInt32, f.toInt8.toInt32, f.toInt8.toInt32, f.toInt8.toInt32, f.toInt8.toInt32, f.toInt8.toInt32] = some 1 :=
    fun len surr q1 q2 => own_core cp (a &&& 1) f.toInt8.toInt32 surr len (by omega) (by omega) (by omega) (by omega) q1 q2
  repeat' split
  all_goals first
    | (exfalso; omega)
    | exact go _ _ (by simp only [Int32.reduceToInt]; repeat' split; all_goals omega) (by rw [if_neg (by omega)])
    | exact go _ _ (by simp only [Int32.reduceToInt]; repeat' split; all_goals omega) (by rw [if_pos (by omega)])


set_option maxRecDepth 65536 in
set_option maxHeartbeats 4000000 in
theorem comes_1 {Post : Tables → Env → Array Value → State → Outcome → State → Prop} (hpost : ∀ tb e args s v u, (limb_1_1.after args s (.returned v) u = true ∧ limb_1_2.after args s (.returned v) u = true ∧ True) → FrameEnd s (.returned v) u (Jvm.fieldLocs frame_1_writes args s ++ Jvm.arrayLocs frame_1_arrays args s ++ Jvm.staticLocs frame_1_statics s) 16 128 → Post tb e args s (.returned v) u) :
    ArmFor flags0 classFile x code maxLocals ret World_1 tables_1 room_1 Calls_1 rest_1 Pre_1 Post := by
  intro l hfl _ _ p e ha hc hk s m args below hf hA hF happ hP
  obtain ⟨hcalls, hrest, hpre⟩ := hP
  obtain ⟨-, -, -, hnamed, -, -, -, hat⟩ := (Spec.applies_iff hf).mp happ
  obtain ⟨hg, hn⟩ := and_e (Cond.before_iff.mp (show (Jvm.Cond.and given_1 narrow_1).before args s = true from hpre))
  obtain ⟨gc, g0⟩ := and_e hg
  obtain ⟨ga0, g1⟩ := and_e g0
  obtain ⟨ga1, g2⟩ := and_e g1
  have ga2 := g2
  obtain ⟨w0, w1, w2, rfl⟩ : ∃ w0 w1 w2 : Value, args = #[w0, w1, w2] := by
    have hs : args.size = 3 := by simpa [Cond.value, given_1] using gc
    obtain ⟨L⟩ := args
    match L, hs with
    | [w0, w1, w2], _ => exact ⟨w0, w1, w2, rfl⟩
  have hw := fun d (hd : d ∈ tables_1) => atoms_spec (ws := Jvm.Cond.code x code maxLocals ret :: tables_1) hat d (List.mem_cons_of_mem _ hd)
  obtain ⟨i0, ei0⟩ := is_v ga0
  obtain rfl : w0 = (.int i0) := Option.some.inj ei0
  obtain ⟨i1, ei1⟩ := is_v ga1
  obtain rfl : w1 = (.int i1) := Option.some.inj ei1
  obtain ⟨i2, ei2⟩ := is_v ga2
  obtain rfl : w2 = (.int i2) := Option.some.inj ei2
  obtain ⟨n, o, h1, h2, h3, _, L, rfl, hQ, hq⟩ := rm_law l s _ hw tables_1 s.heap s.heap.size (Nat.le_refl _) i0 i1 i2 1 (own_law i0 i1 i2) p e ha hc hk s m _ below hf ((Spec.applies_iff_loose hf).mp happ).1 ⟨rfl, State.Warmed39.refl s, rfl⟩ trivial
  obtain ⟨rfl, N, -⟩ := hQ
  refine ⟨n, _, h1, h2, h3, hpost _ _ _ _ _ _ ⟨Cond.after_iff.mpr rfl, Cond.after_iff.mpr (eq_i res_at (Term.int_eval (1)) rfl), trivial⟩ ⟨hq.1, hq.2.1, (hq.2.2.sift fun y hy => Or.inr (N y hy)).mono (by decide) (by decide)⟩⟩
theorem main_1_1 : Claimed_1_1 := comes_1 fun _ _ _ _ _ _ h hF => ⟨h.1, hF⟩
theorem main_1_2 : Claimed_1_2 := comes_1 fun _ _ _ _ _ _ h hF => ⟨h.2.1, hF⟩
end Jvm.Pilot.@@N@@
namespace Jvm.Pilot.@@N@@
open Jvm Jvm.ClassFile Sem Op Lib Jvm.Free Jvm.Stand Jvm.Pilot.@@N@@.Jvm.D
/-! MADE BY PROGRAM (witnessworld.py) out of the Statement's table words and the real class files: 9 classes; the members and pool entries that the words name. The judged class is class 1, her method 1. -/
namespace start1
open Jvm.ClassFile
def u (s : String) : CpInfo := .utf8 (stringToUtf16 s)
/-- a pool by its gaps: so many unusable entries, then the entry; so many at the end -/
def gap : Nat → List CpInfo → List CpInfo
  | 0, r => r
  | n + 1, r => .unusable :: gap n r
def poolList (es : List (Nat × CpInfo)) (last : Nat) : List CpInfo := es.foldr (fun e r => gap e.1 (e.2 :: r)) (gap last [])
def pool (es : List (Nat × CpInfo)) (last : Nat) : Array CpInfo := ⟨poolList es last⟩
def fileOf (pool : Array CpInfo) (this : Nat) (attrs : Array Attribute := #[]) (ms : Array MethodInfo := #[]) (fl : Nat := 33) (sup : Nat := 0) (ifs : Array Nat := #[]) (fds : Array FieldInfo := #[]) : ClassFile where
  minorVersion := 0
  majorVersion := 65
  constantPool := pool
  accessFlags := fl
  thisClass := this
  superClass := sup
  interfaces := ifs
  fields := fds
  methods := ms
  attributes := attrs
def plain (name : String) (sup : Option ClassId) : Class where
  name := name
  kind := .ordinary
  loader := none
  accessFlags := 33
  super := sup
  interfaces := #[]
  cf := none
  fields := #[]
  methods := #[]
  instanceTypes := #[]
  staticTypes := #[]
  resolved := #[]
  callSites := []
  init := .initialized
  statics := none
  mirror := none

def pool0 : Array CpInfo := pool [(5, u "<init>"), (0, u "()V"), (1, .class_ 10), (1, u "java/lang/Object")] 113

def k0m0 : Method := { name := "<init>", desc := "()V", sig := { parameters := [], returnType := none }, accessFlags := 1, code := none }
/-- java/lang/Object -/
def k0 : Class := { plain "java/lang/Object" none with
  accessFlags := 33
  interfaces := #[]
  cf := some (fileOf pool0 8 #[] #[{ accessFlags := 1, nameIndex := 5, descriptorIndex := 6, attributes := #[] }] 33 0 #[] #[])
  fields := #[]
  methods := #[k0m0]
  instanceTypes := #[]
  staticTypes := #[]
  resolved := Array.replicate 124 none
  statics := none }

def pool1 : Array CpInfo := pool [(2, .class_ 4), (1, u "java/lang/Object"), (0, u "<init>"), (0, u "()V"), (0, .integer 2097151), (0, .integer 1114112), (0, .integer 65536), (0, .integer 55296), (0, .integer 57343), (0, .methodref 13 14), (0, .class_ 15), (0, .nameAndType 16 17), (0, u "com/example/binary64/binary64/Utf8"), (0, u "write"), (0, u "(I[BI)I"), (0, .methodref 19 20), (0, .class_ 21), (0, .nameAndType 22 23), (0, u "com/example/binary64/binary64/Utf8WritePinLaw"), (0, u "outside"), (0, u "([BIIIB)Z"), (0, .methodref 13 25), (0, .nameAndType 26 27), (0, u "sequenceLength"), (0, u "([BII)I"), (0, .methodref 13 29), (0, .nameAndType 30 27), (0, u "codePoint"), (2, u "law"), (0, u "(III)Z")] 5

def k1m0 : Method := { name := "<init>", desc := "()V", sig := { parameters := [], returnType := none }, accessFlags := 2, code := none }
def k1c1 : Code := { maxStack := 5, maxLocals := 13, code := code, exceptionTable := #[], attributes := #[] }
def k1m1 : Method := { name := "law", desc := "(III)Z", sig := { parameters := [.int, .int, .int], returnType := some .boolean }, accessFlags := 9, code := some k1c1 }
def k1c2 : Code := { maxStack := 2, maxLocals := 5, code := method_3_code, exceptionTable := #[], attributes := #[] }
def k1m2 : Method := { name := "outside", desc := "([BIIIB)Z", sig := { parameters := [(.array .byte), .int, .int, .int, .byte], returnType := some .boolean }, accessFlags := 10, code := some k1c2 }
/-- com/example/binary64/binary64/Utf8WritePinLaw -/
def k1 : Class := { plain "com/example/binary64/binary64/Utf8WritePinLaw" (some 0) with
  accessFlags := 49
  interfaces := #[]
  cf := some (fileOf pool1 19 #[] #[{ accessFlags := 2, nameIndex := 5, descriptorIndex := 6, attributes := #[] }, { accessFlags := 9, nameIndex := 33, descriptorIndex := 34, attributes := #[] }, { accessFlags := 10, nameIndex := 22, descriptorIndex := 23, attributes := #[] }] 49 2 #[] #[])
  fields := #[]
  methods := #[k1m0, k1m1, k1m2]
  instanceTypes := #[]
  staticTypes := #[]
  resolved := Array.replicate 40 none
  statics := none }

def pool2 : Array CpInfo := pool [(2, .class_ 4), (1, u "java/lang/Object"), (0, u "<init>"), (0, u "()V"), (0, .class_ 8), (0, u "com/example/binary64/binary64/Utf8"), (6, .integer 65536), (33, u "NEVER_USED"), (0, u "I"), (2, u "LONE_CONTINUATION"), (1, u "CUT_SHORT"), (1, u "OVERLONG"), (1, u "SURROGATE"), (1, u "TOO_LARGE"), (3, u "sequenceLength"), (0, u "([BII)I"), (1, u "codePoint"), (3, u "write"), (0, u "(I[BI)I")] 19

def k2m0 : Method := { name := "<init>", desc := "()V", sig := { parameters := [], returnType := none }, accessFlags := 2, code := none }
def k2c1 : Code := { maxStack := 3, maxLocals := 7, code := prog_50_method_2_code, exceptionTable := #[], attributes := #[] }
def k2m1 : Method := { name := "sequenceLength", desc := "([BII)I", sig := { parameters := [(.array .byte), .int, .int], returnType := some .int }, accessFlags := 8, code := some k2c1 }
def k2c2 : Code := { maxStack := 4, maxLocals := 5, code := prog_50_method_3_code, exceptionTable := #[], attributes := #[] }
def k2m2 : Method := { name := "codePoint", desc := "([BII)I", sig := { parameters := [(.array .byte), .int, .int], returnType := some .int }, accessFlags := 8, code := some k2c2 }
def k2c3 : Code := { maxStack := 5, maxLocals := 4, code := prog_50_method_5_code, exceptionTable := #[], attributes := #[] }
def k2m3 : Method := { name := "write", desc := "(I[BI)I", sig := { parameters := [.int, (.array .byte), .int], returnType := some .int }, accessFlags := 8, code := some k2c3 }
/-- com/example/binary64/binary64/Utf8 -/
def k2 : Class := { plain "com/example/binary64/binary64/Utf8" (some 0) with
  accessFlags := 48
  interfaces := #[]
  cf := some (fileOf pool2 7 #[] #[{ accessFlags := 2, nameIndex := 5, descriptorIndex := 6, attributes := #[] }, { accessFlags := 8, nameIndex := 65, descriptorIndex := 66, attributes := #[] }, { accessFlags := 8, nameIndex := 68, descriptorIndex := 66, attributes := #[] }, { accessFlags := 8, nameIndex := 72, descriptorIndex := 73, attributes := #[] }] 48 2 #[] #[{ accessFlags := 24, nameIndex := 49, descriptorIndex := 50, attributes := #[] }, { accessFlags := 24, nameIndex := 53, descriptorIndex := 50, attributes := #[] }, { accessFlags := 24, nameIndex := 55, descriptorIndex := 50, attributes := #[] }, { accessFlags := 24, nameIndex := 57, descriptorIndex := 50, attributes := #[] }, { accessFlags := 24, nameIndex := 59, descriptorIndex := 50, attributes := #[] }, { accessFlags := 24, nameIndex := 61, descriptorIndex := 50, attributes := #[] }])
  fields := #[{ name := "NEVER_USED", type := .int, accessFlags := 24, slot := 0, constantValue := 0 }, { name := "LONE_CONTINUATION", type := .int, accessFlags := 24, slot := 1, constantValue := 0 }, { name := "CUT_SHORT", type := .int, accessFlags := 24, slot := 2, constantValue := 0 }, { name := "OVERLONG", type := .int, accessFlags := 24, slot := 3, constantValue := 0 }, { name := "SURROGATE", type := .int, accessFlags := 24, slot := 4, constantValue := 0 }, { name := "TOO_LARGE", type := .int, accessFlags := 24, slot := 5, constantValue := 0 }]
  methods := #[k2m0, k2m1, k2m2, k2m3]
  instanceTypes := #[]
  staticTypes := #[.int, .int, .int, .int, .int, .int]
  resolved := Array.replicate 93 none
  statics := none }

def pool3 : Array CpInfo := pool [(1, u "java/lang/Cloneable"), (0, .class_ 1), (0, u "java/lang/Object"), (0, .class_ 3)] 3

/-- java/lang/Cloneable -/
def k3 : Class := { plain "java/lang/Cloneable" (some 0) with
  accessFlags := 1537
  interfaces := #[]
  cf := some (fileOf pool3 2 #[] #[] 1537 4 #[] #[])
  fields := #[]
  methods := #[]
  instanceTypes := #[]
  staticTypes := #[]
  resolved := Array.replicate 8 none
  statics := none }

def pool4 : Array CpInfo := pool [(1, u "java/io/Serializable"), (0, .class_ 1), (0, u "java/lang/Object"), (0, .class_ 3)] 3

/-- java/io/Serializable -/
def k4 : Class := { plain "java/io/Serializable" (some 0) with
  accessFlags := 1537
  interfaces := #[]
  cf := some (fileOf pool4 2 #[] #[] 1537 4 #[] #[])
  fields := #[]
  methods := #[]
  instanceTypes := #[]
  staticTypes := #[]
  resolved := Array.replicate 8 none
  statics := none }

/-- the primitive byte -/
def k5 : Class := { plain "byte" none with kind := .primitive 'B', accessFlags := 0x411 }
/-- [B -/
def k6 : Class := { plain "[B" (some 0) with kind := .array 5 .byte, interfaces := #[3, 4], accessFlags := 1041 }

/-- the primitive int -/
def k7 : Class := { plain "int" none with kind := .primitive 'I', accessFlags := 0x411 }
/-- [I -/
def k8 : Class := { plain "[I" (some 0) with kind := .array 7 .int, interfaces := #[3, 4], accessFlags := 1041 }

def heap : Heap := #[]
def classes : Array Class := #[k0, k1, k2, k3, k4, k5, k6, k7, k8]
def interned : List (Array UInt16 × Addr) := []
def slotsUsed : Nat := 0
def theMethod : MethodId := ⟨1, 1⟩
def args0 : Array Value := #[.int 5, .int 5, .int 5]
def aboutOver (below : List Frame) : State where
  vm := { classes := classes, interned := interned.toArray }
  heap := heap
  slotsUsed := slotsUsed
  threads := #[{ frames := .invoking theMethod args0 :: below }]
def below0 : List Frame := [.native { method := ⟨0, 0⟩, args := #[] }]
def about1 : State := aboutOver below0
def p0 : Program := .bare "" "" ""
def e0 : Env := launch0.env 0 0 0
theorem w_frames : about1.frames = Frame.invoking theMethod args0 :: below0 := rfl
set_option maxRecDepth 65536 in
theorem w_args : argsFit about1.vm theMethod args0 = true := by decide +kernel
set_option maxRecDepth 65536 in
theorem w_heap : heapFits about1 = true := by decide +kernel
set_option maxRecDepth 65536 in
theorem w_runnable : about1.curStatus? = some .runnable := by decide +kernel
set_option maxRecDepth 65536 in
theorem w_alone : about1.alone = true := by decide +kernel
set_option maxRecDepth 65536 in
theorem w_named : about1.methodNamed? x = some theMethod := by decide +kernel
set_option maxRecDepth 65536 in
theorem w_hears : about1.hears theMethod below0 = true := by decide +kernel
set_option maxRecDepth 65536 in
theorem w_ripe : about1.ripe theMethod args0 below0 = true := by decide +kernel
theorem w_running : about1.status = .running := rfl
set_option maxRecDepth 65536 in
theorem w_room : about1.hasRoom e0.platform room_1 = true :=
  launch0.hasRoom_least _ room_1 (by decide +kernel) (by decide +kernel) (by decide +kernel) (by decide +kernel) (by decide +kernel) (by decide +kernel)
theorem allAtoms_all (ts : List Jvm.Cond) (a : Array Jvm.Value) (st : Jvm.State) : (allAtoms ts).before a st = ts.all (fun c => c.before a st) := by
  induction ts with
  | nil => rfl
  | cons c t ih =>
    show (Jvm.Cond.and c (allAtoms t)).before a st = _
    rw [Jvm.Cond.before_and, ih, List.all_cons]
def words1 : List Jvm.Cond := Jvm.Cond.code x code maxLocals ret :: tables_1
/-- a 'code' word, met by the world's own term for the bytes: nothing is compared byte by byte -/
theorem code_word {y : MethodName} {bytes : ByteArray} {mx : Nat} {rt : Option FieldType} {a : Array Value} {s : State} {m : MethodId} {meth : Method} {c : Code} (h1 : s.methodNamed? y = some m) (h2 : s.vm.method? m = some meth) (h3 : meth.code = some c) (h4 : c.code = bytes)
    (h5 : (c.maxLocals == mx && c.exceptionTable.isEmpty && decide (c.maxStack ≤ mostOperands) && decide (meth.sig.returnType = rt) && !meth.locks && decide (parseMethodDescriptor y.desc = some meth.sig)) = true) : (Jvm.Cond.code y bytes mx rt).before a s = true := by
  simp only [Bool.and_eq_true, beq_iff_eq, Bool.not_eq_true', decide_eq_true_eq] at h5
  obtain ⟨⟨⟨⟨⟨g1, g2⟩, g3⟩, g4⟩, g5⟩, g6⟩ := h5
  simp [Cond.before, Cond.holds, Cond.value, h1, h2, h3, h4, g1, g2, g3, g4, g5, g6]
def isCode : Jvm.Cond → Bool
  | .code _ _ _ _ => true
  | _ => false
theorem all_split {L : List Jvm.Cond} {P : Jvm.Cond → Bool} (h1 : L.all (fun c => isCode c || P c) = true) (h2 : ∀ c ∈ L.filter isCode, P c = true) : L.all P = true := by
  refine List.all_eq_true.mpr fun c hc => ?_
  have h := List.all_eq_true.mp h1 c hc
  rcases Bool.eq_false_or_eq_true (isCode c) with hi | hi
  · exact h2 c (List.mem_filter.mpr ⟨hc, hi⟩)
  · simpa [hi] using h
set_option maxRecDepth 65536 in
theorem w_c0 : (Jvm.Cond.code x code maxLocals ret).before args0 about1 = true := code_word (m := ⟨1, 1⟩) (meth := k1m1) (c := k1c1) (by decide +kernel) rfl rfl rfl (by decide +kernel)
set_option maxRecDepth 65536 in
theorem w_c1 : (Jvm.Cond.code ({ cls := "com/example/binary64/binary64/Utf8", name := "write", desc := "(I[BI)I" } : Jvm.MethodName) prog_50_method_5_code (4 : Nat) (Option.some Jvm.ClassFile.FieldType.int)).before args0 about1 = true := code_word (m := ⟨2, 3⟩) (meth := k2m3) (c := k2c3) (by decide +kernel) rfl rfl rfl (by decide +kernel)
set_option maxRecDepth 65536 in
theorem w_c2 : (Jvm.Cond.code ({ cls := "com/example/binary64/binary64/Utf8WritePinLaw", name := "outside", desc := "([BIIIB)Z" } : Jvm.MethodName) method_3_code (5 : Nat) (Option.some Jvm.ClassFile.FieldType.boolean)).before args0 about1 = true := code_word (m := ⟨1, 2⟩) (meth := k1m2) (c := k1c2) (by decide +kernel) rfl rfl rfl (by decide +kernel)
set_option maxRecDepth 65536 in
theorem w_c3 : (Jvm.Cond.code ({ cls := "com/example/binary64/binary64/Utf8", name := "sequenceLength", desc := "([BII)I" } : Jvm.MethodName) prog_50_method_2_code (7 : Nat) (Option.some Jvm.ClassFile.FieldType.int)).before args0 about1 = true := code_word (m := ⟨2, 1⟩) (meth := k2m1) (c := k2c1) (by decide +kernel) rfl rfl rfl (by decide +kernel)
set_option maxRecDepth 65536 in
theorem w_c4 : (Jvm.Cond.code ({ cls := "com/example/binary64/binary64/Utf8", name := "codePoint", desc := "([BII)I" } : Jvm.MethodName) prog_50_method_3_code (5 : Nat) (Option.some Jvm.ClassFile.FieldType.int)).before args0 about1 = true := code_word (m := ⟨2, 2⟩) (meth := k2m2) (c := k2c2) (by decide +kernel) rfl rfl rfl (by decide +kernel)
def codes1 : List Jvm.Cond := [Jvm.Cond.code x code maxLocals ret, Jvm.Cond.code ({ cls := "com/example/binary64/binary64/Utf8", name := "write", desc := "(I[BI)I" } : Jvm.MethodName) prog_50_method_5_code (4 : Nat) (Option.some Jvm.ClassFile.FieldType.int), Jvm.Cond.code ({ cls := "com/example/binary64/binary64/Utf8WritePinLaw", name := "outside", desc := "([BIIIB)Z" } : Jvm.MethodName) method_3_code (5 : Nat) (Option.some Jvm.ClassFile.FieldType.boolean), Jvm.Cond.code ({ cls := "com/example/binary64/binary64/Utf8", name := "sequenceLength", desc := "([BII)I" } : Jvm.MethodName) prog_50_method_2_code (7 : Nat) (Option.some Jvm.ClassFile.FieldType.int), Jvm.Cond.code ({ cls := "com/example/binary64/binary64/Utf8", name := "codePoint", desc := "([BII)I" } : Jvm.MethodName) prog_50_method_3_code (5 : Nat) (Option.some Jvm.ClassFile.FieldType.int)]
set_option maxRecDepth 65536 in
theorem codes_eq : words1.filter isCode = codes1 := rfl
theorem w_codes : ∀ c ∈ words1.filter isCode, c.before args0 about1 = true := by
  rw [codes_eq]
  intro c hc
  simp only [codes1, List.mem_cons, List.not_mem_nil, or_false] at hc
  rcases hc with rfl | rfl | rfl | rfl | rfl
  · exact w_c0
  · exact w_c1
  · exact w_c2
  · exact w_c3
  · exact w_c4
set_option maxRecDepth 65536 in
theorem w_t1 : words1.all (fun c => isCode c || c.before args0 about1) = true := by decide +kernel
theorem w_tables : (allAtoms (Jvm.Cond.code x code maxLocals ret :: tables_1)).before args0 about1 = true := by
  rw [allAtoms_all]
  show words1.all (fun c => c.before args0 about1) = true
  refine all_split ?_ w_codes
  rw [w_t1]
set_option maxRecDepth 65536 in
theorem w_case : (Jvm.Cond.and given_1 narrow_1).before args0 about1 = true := by decide +kernel
theorem w_applies : (headSpec (Jvm.Cond.code x code maxLocals ret :: tables_1) room_1).applies x e0.platform about1 = true :=
  (Spec.applies_iff w_frames).mpr ⟨w_running, w_runnable, w_alone, w_named, w_hears, w_ripe, w_room, w_tables⟩
theorem atStart : AtStart classFile x code maxLocals ret World_1 tables_1 room_1 Calls_1 rest_1 Pre_1 launch0 p0 e0 about1 theMethod args0 below0 :=
  ⟨lists_1, trivial, launch0.admits_env _ _ _, launch0.least_env, fairChoices_fair.cas, fairChoices_fair.clock, w_frames, w_args, w_heap, w_applies, trivial, trivial, w_case⟩
end start1
theorem witness_1 : WitnessClaimed_1 := ⟨start1.p0, start1.e0, start1.about1, start1.theMethod, start1.args0, start1.below0, start1.atStart⟩
end Jvm.Pilot.@@N@@
