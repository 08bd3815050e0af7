import JvmDerived
import JvmDerived.Pilot.@@N@@Statement
import JvmDerived.Pilot.@@N@@Code
set_option linter.unusedVariables false
set_option linter.unusedSimpArgs false
namespace Jvm.Pilot.@@N@@
open Jvm Jvm.ClassFile Sem Op Lib Jvm.Free Jvm.Stand Jvm.LawKit Jvm.RoadKit Bundle Jvm.Pilot.@@N@@.Jvm.D
/-! 1. the words of the mirrors: a named value, a check, a call -/
def own_lt {α β : Type} (x : α) (f : α → Option β) : Option β := f x
def own_ck {β : Type} (P : Prop) [Decidable P] (x : Option β) : Option β := if P then x else none
def own_bd {α β : Type} (x : Option α) (f : α → Option β) : Option β := x.bind f
theorem own_lt_e {α β : Type} {x : α} {f : α → Option β} {r : β} (h : own_lt x f = some r) : ∃ v, v = x ∧ f v = some r := ⟨x, rfl, h⟩
theorem own_ck_e {β : Type} {P : Prop} [Decidable P] {x : Option β} {r : β} (h : own_ck P x = some r) : P ∧ x = some r := by
  unfold own_ck at h
  by_cases q : P
  · rw [if_pos q] at h; exact ⟨q, h⟩
  · rw [if_neg q] at h; cases h
theorem own_bd_e {α β : Type} {x : Option α} {f : α → Option β} {r : β} (h : own_bd x f = some r) : ∃ v, x = some v ∧ f v = some r := by
  unfold own_bd at h
  cases x with
  | none => cases h
  | some v => exact ⟨v, rfl, h⟩
abbrev own_inb {α : Type} (bs : List α) (j : Int32) : Prop := ¬ j < 0 ∧ j.toNatClampNeg < bs.length
def own_rd {α : Type} [OfNat α 0] (bs : List α) (j : Int32) : α := bs.getD j.toNatClampNeg 0
def own_wr {α : Type} (bs : List α) (j : Int32) (v : α) : List α := bs.set j.toNatClampNeg v
def own_sz {α : Type} (bs : List α) : Int32 := bs.length.toInt32
/-! 2. a run that comes to an end as Q says -/
def own_Goes (p : Program) (e : Env) (below : List Frame) (s : State) (Q : Option Value → Heap → List Loc → Prop) (ce sl : Nat) (A : State) : Prop :=
  ∃ s₂ o, Steps p.tables e below A s₂ ∧ s₂.status = .running ∧ Ended s₂ below o ∧ ∃ v L, o = .returned v ∧ Q v s₂.heap L ∧ FrameEnd s o s₂ L ce sl
section Own
variable {p : Program} {l : Launch} {e : Env} {R : Room} {s : State} {m : MethodId} {args : Array Value} {below : List Frame} {meth : Method} {c : Code} {T : State} {locs : List Loc} {cells slots : Nat} {Z : State} {h h' : Heap} {Q : Option Value → Heap → List Loc → Prop} {ce sl : Nat}
theorem own_Goes.via {A B : State} (q : ∀ t, Steps p.tables e below B t → Steps p.tables e below A t) (g : own_Goes p e below s Q ce sl B) : own_Goes p e below s Q ce sl A := by
  obtain ⟨s₂, o, h1, r⟩ := g
  exact ⟨s₂, o, q _ h1, r⟩
theorem own_Goes.tr {A B : State} (q : Steps p.tables e below A B) (g : own_Goes p e below s Q ce sl B) : own_Goes p e below s Q ce sl A := g.via fun _ k => q.trans k
theorem own_retV (X : Stand p l e R s m args below meth c T locs cells slots) (hx : p.tables.exec = Jvm.exec) {pc : Nat} {Ls : Array Slot} (hret : meth.sig.returnType = none) (hlk : meth.locks = false) (hd : decode c.code pc = .ok (.return_, 1)) (eT : T.heap = h) (hQ : Q none h locs) (hc : cells ≤ ce) (hs : slots ≤ sl) :
    own_Goes p e below s Q ce sl (T.setTop (mkF m pc Ls [])) := by
  obtain ⟨fs, hr, hrun, hended, hW, hsame⟩ := X.leave (v := none) (fun _ => rfl) hlk
  refine ⟨_, _, ?_, hrun, hended, _, _, rfl, ?_, ⟨_, rfl⟩, hW, hsame.mono hc hs⟩
  · exact X.returnOut hx hret hd hr
  · show Q none T.heap locs
    rw [eT]; exact hQ
theorem own_retI (X : Stand p l e R s m args below meth c T locs cells slots) (hx : p.tables.exec = Jvm.exec) {pc : Nat} {Ls : Array Slot} {z : Int32} {rest : List Value} (hret : meth.sig.returnType = some .int) (hlk : meth.locks = false) (hd : decode c.code pc = .ok (.ireturn, 1)) (eT : T.heap = h) (hQ : Q (some (.int z)) h locs) (hc : cells ≤ ce) (hs : slots ≤ sl) :
    own_Goes p e below s Q ce sl (T.setTop (mkF m pc Ls (.int z :: rest))) := by
  obtain ⟨fs, hr, hrun, hended, hW, hsame⟩ := X.leave (v := some (.int z)) (fun h => by rw [hret] at h; cases h) hlk
  refine ⟨_, _, ?_, hrun, hended, _, _, rfl, ?_, ⟨_, rfl⟩, hW, hsame.mono hc hs⟩
  · exact retOut X hx hret rfl (Or.inl ⟨rfl, Or.inl rfl, z, rfl⟩) hd hr
  · show Q _ T.heap locs
    rw [eT]; exact hQ
theorem own_retJ (X : Stand p l e R s m args below meth c T locs cells slots) (hx : p.tables.exec = Jvm.exec) {pc : Nat} {Ls : Array Slot} {z : Int64} {rest : List Value} (hret : meth.sig.returnType = some .long) (hlk : meth.locks = false) (hd : decode c.code pc = .ok (.lreturn, 1)) (eT : T.heap = h) (hQ : Q (some (.long z)) h locs) (hc : cells ≤ ce) (hs : slots ≤ sl) :
    own_Goes p e below s Q ce sl (T.setTop (mkF m pc Ls (.long z :: rest))) := by
  obtain ⟨fs, hr, hrun, hended, hW, hsame⟩ := X.leave (v := some (.long z)) (fun h => by rw [hret] at h; cases h) hlk
  refine ⟨_, _, ?_, hrun, hended, _, _, rfl, ?_, ⟨_, rfl⟩, hW, hsame.mono hc hs⟩
  · exact retOut X hx hret rfl (Or.inr (Or.inl ⟨rfl, rfl, z, rfl⟩)) hd hr
  · show Q _ T.heap locs
    rw [eT]; exact hQ
theorem own_retR (X : Stand p l e R s m args below meth c T locs cells slots) (hx : p.tables.exec = Jvm.exec) {pc : Nat} {Ls : Array Slot} {t : FieldType} {w : Value} {rest : List Value} (hret : meth.sig.returnType = some t) (hlk : meth.locks = false) (hd : decode c.code pc = .ok (.areturn, 1)) (ht : t.isReference = true) (eT : T.heap = h) (hw : w.isRef = true) (hQ : Q (some w) h locs) (hc : cells ≤ ce) (hs : slots ≤ sl) :
    own_Goes p e below s Q ce sl (T.setTop (mkF m pc Ls (w :: rest))) := by
  obtain ⟨fs, hr, hrun, hended, hW, hsame⟩ := X.leave (v := some w) (fun h => by rw [hret] at h; cases h) hlk
  refine ⟨_, _, ?_, hrun, hended, _, _, rfl, ?_, ⟨_, rfl⟩, hW, hsame.mono hc hs⟩
  · exact retOut X hx hret (by cases t <;> first | (cases ht; done) | rfl) (Or.inr (Or.inr (Or.inr (Or.inr ⟨rfl, ht, hw⟩)))) hd hr
  · show Q _ T.heap locs
    rw [eT]; exact hQ
theorem own_retN (X : Stand p l e R s m args below meth c T locs cells slots) (hx : p.tables.exec = Jvm.exec) {pc : Nat} {Ls : Array Slot} {z v : Int32} {t : FieldType} {rest : List Value} (hret : meth.sig.returnType = some t) (hlk : meth.locks = false) (ht : t = .boolean ∨ t = .byte ∨ t = .char ∨ t = .short) (hd : decode c.code pc = .ok (.ireturn, 1)) (eT : T.heap = h) (hv : nar t z = v) (hQ : Q (some (.int v)) h locs) (hc : cells ≤ ce) (hs : slots ≤ sl) :
    own_Goes p e below s Q ce sl (T.setTop (mkF m pc Ls (.int z :: rest))) := by
  subst hv
  obtain ⟨fs, hr, hrun, hended, hW, hsame⟩ := X.leave (v := some (.int (nar t z))) (fun h => by rw [hret] at h; cases h) hlk
  refine ⟨_, _, ?_, hrun, hended, _, _, rfl, ?_, ⟨_, rfl⟩, hW, hsame.mono hc hs⟩
  · exact retN X hx hret ht hd hr
  · show Q _ T.heap locs
    rw [eT]; exact hQ
/-! 3. single steps -/
theorem own_irem {g : JFrame} {target : State} (X : Stand p l e R s m args below meth c T locs cells slots) (hx : p.tables.exec = Jvm.exec) (hg : g.method = m) {x y : Int32} {rest : List Value} (hd : decode c.code g.pc = .ok (.irem, 1)) (hs : g.stack = .int y :: .int x :: rest) (hy : y ≠ 0)
    (hr : Steps p.tables e below (T.setTop { g with pc := g.pc + 1, stack := .int (x % y) :: rest }) target) : Steps p.tables e below (T.setTop g) target := iremM X hx hg hd hs hy hr
theorem own_lrem {g : JFrame} {target : State} (X : Stand p l e R s m args below meth c T locs cells slots) (hx : p.tables.exec = Jvm.exec) (hg : g.method = m) {x y : Int64} {rest : List Value} (hd : decode c.code g.pc = .ok (.lrem, 1)) (hs : g.stack = .long y :: .long x :: rest) (hy : y ≠ 0)
    (hr : Steps p.tables e below (T.setTop { g with pc := g.pc + 1, stack := .long (x % y) :: rest }) target) : Steps p.tables e below (T.setTop g) target :=
  XS.lrem X.here hx hg hd hs hy (by rw [lrem_mod]; exact hr)
theorem own_tltL {x y : Int64} (q : x < y) : ifCond.holds .lt (lcmpW x y) = true ∧ ifCond.holds .ge (lcmpW x y) = false := by
  rw [if0, if0]; exact ⟨(tlt ((lw_lt x y).mpr q)).1, (tlt ((lw_lt x y).mpr q)).2.1⟩
theorem own_fltL {x y : Int64} (q : ¬ x < y) : ifCond.holds .lt (lcmpW x y) = false ∧ ifCond.holds .ge (lcmpW x y) = true := by
  rw [if0, if0]; exact ⟨(flt fun z => q ((lw_lt x y).mp z)).1, (flt fun z => q ((lw_lt x y).mp z)).2.1⟩
theorem own_tgtL {x y : Int64} (q : y < x) : ifCond.holds .gt (lcmpW x y) = true ∧ ifCond.holds .le (lcmpW x y) = false := by
  rw [if0, if0]; exact ⟨(tlt ((lw_gt x y).mpr q)).2.2.1, (tlt ((lw_gt x y).mpr q)).2.2.2⟩
theorem own_fgtL {x y : Int64} (q : ¬ y < x) : ifCond.holds .gt (lcmpW x y) = false ∧ ifCond.holds .le (lcmpW x y) = true := by
  rw [if0, if0]; exact ⟨(flt fun z => q ((lw_gt x y).mp z)).2.2.1, (flt fun z => q ((lw_gt x y).mp z)).2.2.2⟩
theorem own_teqL {x y : Int64} (q : x = y) : ifCond.holds .eq (lcmpW x y) = true ∧ ifCond.holds .ne (lcmpW x y) = false := by
  rw [if0, if0]; exact ⟨(teq ((lw_eq x y).mpr q)).1, (teq ((lw_eq x y).mpr q)).2⟩
theorem own_feqL {x y : Int64} (q : ¬ x = y) : ifCond.holds .eq (lcmpW x y) = false ∧ ifCond.holds .ne (lcmpW x y) = true := by
  rw [if0, if0]; exact ⟨(feq fun z => q ((lw_eq x y).mp z)).1, (feq fun z => q ((lw_eq x y).mp z)).2⟩
theorem own_st1 {L : Array Slot} {i : Nat} {v : Value} {o : Slot} {L' : Array Slot} (hold : L[i]? = some o) (ho : One o) (hv : v.category = 1) (hL : L.setIfInBounds i (.val v) = L' := by rfl) : storeLocals L i v = some L' := hL ▸ XS.store1 hold ho hv
theorem own_privSel {s : State} {args : Array Value} {y : MethodName} {n : Nat} (wi : (Cond.instantiable y.cls n).before args s = true) (hp : s.PrivateAt y) (hinst : (Cond.instanceMethod y).before args s = true) (hy : y.cls ≠ "java/lang/invoke/MethodHandle" ∧ y.cls ≠ "java/lang/invoke/VarHandle") : (Cond.selects y.cls y y).before args s = true := by
  obtain ⟨c, k, h1, h2, -, h3, -⟩ := Cond.instantiable_spec wi
  exact selects_self_of_private h1 h2 (Bool.or_eq_false_iff.mp h3).1 hp hinst hy
theorem own_st2 {L L' : Array Slot} {i : Nat} {x : Int64} {o1 o2 : Slot} (h1 : L[i]? = some o1) (h2 : L[i + 1]? = some o2) (q1 : One o1) (q2 : One o2) (hL : (L.setIfInBounds i (.val (.long x))).setIfInBounds (i + 1) .second = L' := by rfl) : storeLocals L i (.long x) = some L' := by
  subst hL
  obtain ⟨b1, g1⟩ := Array.getElem?_eq_some_iff.mp h1
  obtain ⟨b2, g2⟩ := Array.getElem?_eq_some_iff.mp h2
  have hc : (Value.long x).category = 2 := rfl
  rcases q1 with rfl | ⟨w, rfl, hw⟩ <;> rcases q2 with rfl | ⟨w', rfl, hw'⟩ <;> simp [storeLocals, storeSelf, setAt, hc, *]
/-! 4. arrays: what lies in them, as a list -/
def own_Ar (Z : State) (h : Heap) (a : Addr) (ty : FieldType) (vs : List Value) : Prop := ∃ c : Cell, Arr Z h a c ty ∧ c.slots.toList = vs ∧ vs.length < 2 ^ 31 ∧ ∀ v ∈ vs, fits ty v = true
variable {a b : Addr} {ty : FieldType} {vs : List Value}
theorem own_Ar.lt (F : own_Ar Z h a ty vs) : a < h.size := by obtain ⟨c, A, -⟩ := F; exact A.lt
theorem own_Ar.ext (F : own_Ar Z h a ty vs) (E : Ext h h') : own_Ar Z h' a ty vs := by obtain ⟨c, A, r⟩ := F; exact ⟨c, A.ext E, r⟩
theorem own_Ar.other {k : Nat} {v : Value} (F : own_Ar Z h b ty vs) (W : Wr h h' a k v) (q : b ≠ a) : own_Ar Z h' b ty vs := by obtain ⟨c, A, r⟩ := F; exact ⟨c, A.other W q, r⟩
theorem own_Ar.keep {ws : List Addr} (F : own_Ar Z h a ty vs) (K : Keep h h' ws) (q : a ∉ ws) : own_Ar Z h' a ty vs := by obtain ⟨c, A, r⟩ := F; exact ⟨c, ⟨K.2.1 a c A.1 q, A.2⟩, r⟩
theorem own_Ar.size {c : Cell} (q : c.slots.toList = vs) : c.slots.size = vs.length := by rw [← q]; simp
theorem own_in {c : Cell} {j : Int32} (q : c.slots.toList = vs) (hj : own_inb vs j) : ¬ (j < 0 ∨ c.slots.size ≤ j.toNatClampNeg) := by
  rw [own_Ar.size q]
  rintro (r | r)
  · exact hj.1 r
  · exact absurd hj.2 (Nat.not_lt.mpr r)
theorem own_get {c : Cell} {i : Nat} (q : c.slots.toList = vs) (d : Value) (hi : i < vs.length) : c.slots[i]? = some (vs.getD i d) := by
  have e : c.slots = vs.toArray := by rw [← q]
  rw [e]
  simp [List.getD, hi]
theorem own_set {c : Cell} {i : Nat} {v : Value} (q : c.slots.toList = vs) : (c.setSlot i v).slots.toList = vs.set i v := by
  have e : c.slots = vs.toArray := by rw [← q]
  simp [Cell.setSlot, e]
theorem own_fits {i : Nat} {v : Value} (q : ∀ v ∈ vs, fits ty v = true) (hv : fits ty v = true) : ∀ u ∈ vs.set i v, fits ty u = true := fun u hu => by
  rcases List.mem_or_eq_of_mem_set hu with r | r
  · exact q u r
  · rw [r]; exact hv
theorem own_mapGet {bs : List Int32} {i : Nat} (hi : i < bs.length) : (bs.map Value.int).getD i (.int 0) = .int (bs.getD i 0) := by simp [List.getD, hi]
theorem own_mapGetJ {bs : List Int64} {i : Nat} (hi : i < bs.length) : (bs.map Value.long).getD i (.long 0) = .long (bs.getD i 0) := by simp [List.getD, hi]
theorem own_mapSet {bs : List Int32} {i : Nat} {v : Int32} : (bs.map Value.int).set i (.int v) = (bs.set i v).map Value.int := by simp
theorem own_mapSetJ {bs : List Int64} {i : Nat} {v : Int64} : (bs.map Value.long).set i (.long v) = (bs.set i v).map Value.long := by simp
theorem own_inbM {α : Type} {f : α → Value} {bs : List α} {j : Int32} (q : own_inb bs j) : own_inb (bs.map f) j := ⟨q.1, by rw [List.length_map]; exact q.2⟩
theorem own_wrk {α : Type} {bs : List α} {j : Int32} {v : α} (k : Nat) (hk : j.toNatClampNeg = k) : own_wr bs j v = bs.set k v := by rw [own_wr, hk]
theorem own_rdk {α : Type} [OfNat α 0] {bs : List α} {j : Int32} (k : Nat) (hk : j.toNatClampNeg = k) : own_rd bs j = bs.getD k 0 := by rw [own_rd, hk]
theorem own_inbk {α : Type} {bs : List α} {j : Int32} (k n : Nat) (h0 : ¬ j < 0) (hk : j.toNatClampNeg = k) (hl : bs.length = n) (hkn : k < n) : own_inb bs j := ⟨h0, by rw [hk, hl]; exact hkn⟩
theorem own_len {α : Type} {f : α → Value} {bs : List α} (X : Stand p l e R s m args below meth c T locs cells slots) (hx : p.tables.exec = Jvm.exec) (hZ : Z.Warmed39 s.vm) (eT : T.heap = h) (A : own_Ar Z h a ty (bs.map f)) {g : JFrame} (hg : g.method = m) {rest : List Value} (hs : g.stack = .ref a :: rest) (hd : decode c.code g.pc = .ok (.arraylength, 1)) {target : State}
    (hr : Steps p.tables e below (T.setTop { g with pc := g.pc + 1, stack := .int (own_sz bs) :: rest }) target) : Steps p.tables e below (T.setTop g) target := by
  obtain ⟨cl, A, q, -⟩ := A
  refine X.arraylength hx (by rw [eT]; exact A.1) (State.isArrayOf_alike hZ.alike A.2.1) hg hs hd _ ?_
  rw [own_Ar.size q, List.length_map]; exact hr
theorem own_ldI {bs : List Int32} {j v : Int32} (X : Stand p l e R s m args below meth c T locs cells slots) (hx : p.tables.exec = Jvm.exec) (hZ : Z.Warmed39 s.vm) (eT : T.heap = h) (A : own_Ar Z h a .int (bs.map Value.int)) (hj : own_inb bs j) (hv : own_rd bs j = v) {g : JFrame} (hg : g.method = m) {rest : List Value} (hs : g.stack = .int j :: .ref a :: rest) (hd : decode c.code g.pc = .ok (.iaload, 1)) {target : State}
    (hr : Steps p.tables e below (T.setTop { g with pc := g.pc + 1, stack := .int v :: rest }) target) : Steps p.tables e below (T.setTop g) target := by
  subst hv
  obtain ⟨cl, A, q, -⟩ := A
  exact X.iaload hx (by rw [eT]; exact A.1) (State.isArrayOf_alike hZ.alike A.2.1) A.2.2 (own_in q (own_inbM hj)) ((own_get q (.int 0) (own_inbM hj).2).trans (congrArg some (own_mapGet hj.2))) hg hs hd _ hr
theorem own_ldB {bs : List Int32} {j v : Int32} (X : Stand p l e R s m args below meth c T locs cells slots) (hx : p.tables.exec = Jvm.exec) (hZ : Z.Warmed39 s.vm) (eT : T.heap = h) (A : own_Ar Z h a .byte (bs.map Value.int)) (hj : own_inb bs j) (hv : own_rd bs j = v) {g : JFrame} (hg : g.method = m) {rest : List Value} (hs : g.stack = .int j :: .ref a :: rest) (hd : decode c.code g.pc = .ok (.baload, 1)) {target : State}
    (hr : Steps p.tables e below (T.setTop { g with pc := g.pc + 1, stack := .int v :: rest }) target) : Steps p.tables e below (T.setTop g) target := by
  subst hv
  obtain ⟨cl, A, q, -⟩ := A
  exact X.baloadBytes hx (by rw [eT]; exact A.1) (State.isArrayOf_alike hZ.alike A.2.1) A.2.2 (own_in q (own_inbM hj)) ((own_get q (.int 0) (own_inbM hj).2).trans (congrArg some (own_mapGet hj.2))) hg hs hd _ hr
theorem own_ldZ {bs : List Int32} {j v : Int32} (X : Stand p l e R s m args below meth c T locs cells slots) (hx : p.tables.exec = Jvm.exec) (hZ : Z.Warmed39 s.vm) (eT : T.heap = h) (A : own_Ar Z h a .boolean (bs.map Value.int)) (hj : own_inb bs j) (hv : own_rd bs j = v) {g : JFrame} (hg : g.method = m) {rest : List Value} (hs : g.stack = .int j :: .ref a :: rest) (hd : decode c.code g.pc = .ok (.baload, 1)) {target : State}
    (hr : Steps p.tables e below (T.setTop { g with pc := g.pc + 1, stack := .int v :: rest }) target) : Steps p.tables e below (T.setTop g) target := by
  subst hv
  obtain ⟨cl, A, q, -⟩ := A
  exact X.baloadBooleans hx (by rw [eT]; exact A.1) (State.isArrayOf_alike hZ.alike A.2.1) A.2.2 (own_in q (own_inbM hj)) ((own_get q (.int 0) (own_inbM hj).2).trans (congrArg some (own_mapGet hj.2))) hg hs hd _ hr
theorem own_ldJ {bs : List Int64} {j : Int32} {v : Int64} (X : Stand p l e R s m args below meth c T locs cells slots) (hx : p.tables.exec = Jvm.exec) (hZ : Z.Warmed39 s.vm) (eT : T.heap = h) (A : own_Ar Z h a .long (bs.map Value.long)) (hj : own_inb bs j) (hv : own_rd bs j = v) {g : JFrame} (hg : g.method = m) {rest : List Value} (hs : g.stack = .int j :: .ref a :: rest) (hd : decode c.code g.pc = .ok (.laload, 1)) {target : State}
    (hr : Steps p.tables e below (T.setTop { g with pc := g.pc + 1, stack := .long v :: rest }) target) : Steps p.tables e below (T.setTop g) target := by
  subst hv
  obtain ⟨cl, A, q, -⟩ := A
  exact X.laload hx (by rw [eT]; exact A.1) (State.isArrayOf_alike hZ.alike A.2.1) A.2.2 (own_in q (own_inbM hj)) ((own_get q (.long 0) (own_inbM hj).2).trans (congrArg some (own_mapGetJ hj.2))) hg hs hd _ hr
theorem own_stI {bs : List Int32} {j x : Int32} (X : Stand p l e R s m args below meth c T locs cells slots) (hx : p.tables.exec = Jvm.exec) (hZ : Z.Warmed39 s.vm) (eT : T.heap = h) (A : own_Ar Z h a .int (bs.map Value.int)) (hj : own_inb bs j) {g : JFrame} (hg : g.method = m) {rest : List Value} (hs : g.stack = .int x :: .int j :: .ref a :: rest) (hd : decode c.code g.pc = .ok (.iastore, 1)) :
    ∃ T' h', Stand p l e R s m args below meth c T' (locs ++ [⟨a, j.toNatClampNeg⟩]) cells slots ∧ T'.heap = h' ∧ Wr h h' a j.toNatClampNeg (.int x) ∧ own_Ar Z h' a .int ((own_wr bs j x).map Value.int) ∧ ∀ target, Steps p.tables e below (T'.setTop { g with pc := g.pc + 1, stack := rest }) target → Steps p.tables e below (T.setTop g) target := by
  obtain ⟨cl, A, q, r, ft⟩ := A
  obtain ⟨T', h', X', e', W, st⟩ := stI X hx hZ eT A (own_in q (own_inbM hj)) hg hs hd
  exact ⟨T', h', X', e', W, ⟨_, A.same W, (own_set q).trans own_mapSet, by simpa [own_wr] using r, own_mapSet ▸ own_fits ft rfl⟩, st⟩
theorem own_stB {bs : List Int32} {j x : Int32} (X : Stand p l e R s m args below meth c T locs cells slots) (hx : p.tables.exec = Jvm.exec) (hZ : Z.Warmed39 s.vm) (eT : T.heap = h) (A : own_Ar Z h a .byte (bs.map Value.int)) (hj : own_inb bs j) {g : JFrame} (hg : g.method = m) {rest : List Value} (hs : g.stack = .int x :: .int j :: .ref a :: rest) (hd : decode c.code g.pc = .ok (.bastore, 1)) :
    ∃ T' h', Stand p l e R s m args below meth c T' (locs ++ [⟨a, j.toNatClampNeg⟩]) cells slots ∧ T'.heap = h' ∧ Wr h h' a j.toNatClampNeg (.int x.toInt8.toInt32) ∧ own_Ar Z h' a .byte ((own_wr bs j x.toInt8.toInt32).map Value.int) ∧ ∀ target, Steps p.tables e below (T'.setTop { g with pc := g.pc + 1, stack := rest }) target → Steps p.tables e below (T.setTop g) target := by
  obtain ⟨cl, A, q, r, ft⟩ := A
  obtain ⟨T', h', X', e', W, st⟩ := stB X hx hZ eT A (own_in q (own_inbM hj)) hg hs hd
  exact ⟨T', h', X', e', W, ⟨_, A.same W, (own_set q).trans own_mapSet, by simpa [own_wr] using r, own_mapSet ▸ own_fits ft (fits_nar_byte _)⟩, st⟩
theorem own_stZ {bs : List Int32} {j x : Int32} (X : Stand p l e R s m args below meth c T locs cells slots) (hx : p.tables.exec = Jvm.exec) (hZ : Z.Warmed39 s.vm) (eT : T.heap = h) (A : own_Ar Z h a .boolean (bs.map Value.int)) (hj : own_inb bs j) {g : JFrame} (hg : g.method = m) {rest : List Value} (hs : g.stack = .int x :: .int j :: .ref a :: rest) (hd : decode c.code g.pc = .ok (.bastore, 1)) :
    ∃ T' h', Stand p l e R s m args below meth c T' (locs ++ [⟨a, j.toNatClampNeg⟩]) cells slots ∧ T'.heap = h' ∧ Wr h h' a j.toNatClampNeg (.int (x &&& 1)) ∧ own_Ar Z h' a .boolean ((own_wr bs j (x &&& 1)).map Value.int) ∧ ∀ target, Steps p.tables e below (T'.setTop { g with pc := g.pc + 1, stack := rest }) target → Steps p.tables e below (T.setTop g) target := by
  obtain ⟨cl, A, q, r, ft⟩ := A
  obtain ⟨T', h', X', e', W, st⟩ := stZ X hx hZ eT A (own_in q (own_inbM hj)) hg hs hd
  exact ⟨T', h', X', e', W, ⟨_, A.same W, (own_set q).trans own_mapSet, by simpa [own_wr] using r, own_mapSet ▸ own_fits ft (fits_nar_bool _)⟩, st⟩
theorem own_stJ {bs : List Int64} {j : Int32} {x : Int64} (X : Stand p l e R s m args below meth c T locs cells slots) (hx : p.tables.exec = Jvm.exec) (hZ : Z.Warmed39 s.vm) (eT : T.heap = h) (A : own_Ar Z h a .long (bs.map Value.long)) (hj : own_inb bs j) {g : JFrame} (hg : g.method = m) {rest : List Value} (hs : g.stack = .long x :: .int j :: .ref a :: rest) (hd : decode c.code g.pc = .ok (.lastore, 1)) :
    ∃ T' h', Stand p l e R s m args below meth c T' (locs ++ [⟨a, j.toNatClampNeg⟩]) cells slots ∧ T'.heap = h' ∧ Wr h h' a j.toNatClampNeg (.long x) ∧ own_Ar Z h' a .long ((own_wr bs j x).map Value.long) ∧ ∀ target, Steps p.tables e below (T'.setTop { g with pc := g.pc + 1, stack := rest }) target → Steps p.tables e below (T.setTop g) target := by
  obtain ⟨cl, A, q, r, ft⟩ := A
  obtain ⟨T', h', X', e', W, st⟩ := stJ X hx hZ eT A (own_in q (own_inbM hj)) hg hs hd
  exact ⟨T', h', X', e', W, ⟨_, A.same W, (own_set q).trans own_mapSetJ, by simpa [own_wr] using r, own_mapSetJ ▸ own_fits ft rfl⟩, st⟩
theorem own_newI {k : ClassId} {n : Int32} {kk : Nat} (A : Arr Z h a (newA k ty n) ty) (q : ¬ n < 0) (hd : defaultValue ty = .int 0) (hk : n.toNatClampNeg = kk) : own_Ar Z h a ty ((List.replicate kk (0 : Int32)).map Value.int) := hk ▸
  ⟨_, A, by simp [newA, hd], by rw [List.length_map, List.length_replicate]; exact (back32 q).2, fun v hv => by
    rw [List.map_replicate] at hv
    rw [(List.mem_replicate.mp hv).2, ← hd]; cases ty <;> rfl⟩
theorem own_newJ {k : ClassId} {n : Int32} {kk : Nat} (A : Arr Z h a (newA k ty n) ty) (q : ¬ n < 0) (hd : defaultValue ty = .long 0) (hk : n.toNatClampNeg = kk) : own_Ar Z h a ty ((List.replicate kk (0 : Int64)).map Value.long) := hk ▸
  ⟨_, A, by simp [newA, hd], by rw [List.length_map, List.length_replicate]; exact (back32 q).2, fun v hv => by
    rw [List.map_replicate] at hv
    rw [(List.mem_replicate.mp hv).2, ← hd]; cases ty <;> rfl⟩
end Own
theorem w0 {a0 : Array Value} {Z : State} (hw : ∀ d ∈ tables_1, d.before a0 Z = true) : ((Jvm.Cond.arrayClass Jvm.ClassFile.FieldType.boolean)).before a0 Z = true := hw _ (List.mem_of_getElem? (i := 0) rfl)
theorem w1 {a0 : Array Value} {Z : State} (hw : ∀ d ∈ tables_1, d.before a0 Z = true) : ((Jvm.Cond.classLink "com/example/rulr/rulr/SlotIsBoundPinLaw" (7 : Nat) "com/example/rulr/rulr/BodyMatcher$Slot")).before a0 Z = true := hw _ (List.mem_of_getElem? (i := 1) rfl)
theorem w2 {a0 : Array Value} {Z : State} (hw : ∀ d ∈ tables_1, d.before a0 Z = true) : ((Jvm.Cond.instantiable "com/example/rulr/rulr/BodyMatcher$Slot" (2 : Nat))).before a0 Z = true := hw _ (List.mem_of_getElem? (i := 2) rfl)
theorem w3 {a0 : Array Value} {Z : State} (hw : ∀ d ∈ tables_1, d.before a0 Z = true) : ((Jvm.Cond.initialized "com/example/rulr/rulr/BodyMatcher$Slot")).before a0 Z = true := hw _ (List.mem_of_getElem? (i := 3) rfl)
theorem w4 {a0 : Array Value} {Z : State} (hw : ∀ d ∈ tables_1, d.before a0 Z = true) : ((Jvm.Cond.methodLink "com/example/rulr/rulr/SlotIsBoundPinLaw" (9 : Nat) ({ cls := "com/example/rulr/rulr/BodyMatcher$Slot", name := "<init>", desc := "(II)V" } : Jvm.MethodName))).before a0 Z = true := hw _ (List.mem_of_getElem? (i := 4) rfl)
theorem w5 {a0 : Array Value} {Z : State} (hw : ∀ d ∈ tables_1, d.before a0 Z = true) : ((Jvm.Cond.instanceMethod ({ cls := "com/example/rulr/rulr/BodyMatcher$Slot", name := "<init>", desc := "(II)V" } : Jvm.MethodName))).before a0 Z = true := hw _ (List.mem_of_getElem? (i := 5) rfl)
theorem w6 {a0 : Array Value} {Z : State} (hw : ∀ d ∈ tables_1, d.before a0 Z = true) : ((Jvm.Cond.code ({ cls := "com/example/rulr/rulr/BodyMatcher$Slot", name := "<init>", desc := "(II)V" } : Jvm.MethodName) prog_11_method_1_code (3 : Nat) (Option.none : Option Jvm.ClassFile.FieldType))).before a0 Z = true := hw _ (List.mem_of_getElem? (i := 6) rfl)
theorem w7 {a0 : Array Value} {Z : State} (hw : ∀ d ∈ tables_1, d.before a0 Z = true) : ((Jvm.Cond.methodLink "com/example/rulr/rulr/BodyMatcher$Slot" (1 : Nat) ({ cls := "java/lang/Record", name := "<init>", desc := "()V" } : Jvm.MethodName))).before a0 Z = true := hw _ (List.mem_of_getElem? (i := 7) rfl)
theorem w8 {a0 : Array Value} {Z : State} (hw : ∀ d ∈ tables_1, d.before a0 Z = true) : ((Jvm.Cond.instanceMethod ({ cls := "java/lang/Record", name := "<init>", desc := "()V" } : Jvm.MethodName))).before a0 Z = true := hw _ (List.mem_of_getElem? (i := 8) rfl)
theorem w10 {a0 : Array Value} {Z : State} (hw : ∀ d ∈ tables_1, d.before a0 Z = true) : ((Jvm.Cond.initialized "java/lang/Record")).before a0 Z = true := hw _ (List.mem_of_getElem? (i := 10) rfl)
theorem w11 {a0 : Array Value} {Z : State} (hw : ∀ d ∈ tables_1, d.before a0 Z = true) : ((Jvm.Cond.code ({ cls := "java/lang/Record", name := "<init>", desc := "()V" } : Jvm.MethodName) jdk_30_method_1_code (1 : Nat) (Option.none : Option Jvm.ClassFile.FieldType))).before a0 Z = true := hw _ (List.mem_of_getElem? (i := 11) rfl)
theorem w12 {a0 : Array Value} {Z : State} (hw : ∀ d ∈ tables_1, d.before a0 Z = true) : ((Jvm.Cond.methodLink "java/lang/Record" (1 : Nat) ({ cls := "java/lang/Object", name := "<init>", desc := "()V" } : Jvm.MethodName))).before a0 Z = true := hw _ (List.mem_of_getElem? (i := 12) rfl)
theorem w13 {a0 : Array Value} {Z : State} (hw : ∀ d ∈ tables_1, d.before a0 Z = true) : ((Jvm.Cond.instanceMethod ({ cls := "java/lang/Object", name := "<init>", desc := "()V" } : Jvm.MethodName))).before a0 Z = true := hw _ (List.mem_of_getElem? (i := 13) rfl)
theorem w14 {a0 : Array Value} {Z : State} (hw : ∀ d ∈ tables_1, d.before a0 Z = true) : ((Jvm.Cond.code ({ cls := "java/lang/Object", name := "<init>", desc := "()V" } : Jvm.MethodName) object_method_1_code (1 : Nat) (Option.none : Option Jvm.ClassFile.FieldType))).before a0 Z = true := hw _ (List.mem_of_getElem? (i := 14) rfl)
theorem w15 {a0 : Array Value} {Z : State} (hw : ∀ d ∈ tables_1, d.before a0 Z = true) : ((Jvm.Cond.fieldLink "com/example/rulr/rulr/BodyMatcher$Slot" (7 : Nat) "com/example/rulr/rulr/BodyMatcher$Slot" "variable" "I")).before a0 Z = true := hw _ (List.mem_of_getElem? (i := 15) rfl)
theorem w16 {a0 : Array Value} {Z : State} (hw : ∀ d ∈ tables_1, d.before a0 Z = true) : ((Jvm.Cond.laysFinal "com/example/rulr/rulr/BodyMatcher$Slot" "com/example/rulr/rulr/BodyMatcher$Slot" "variable" "I")).before a0 Z = true := hw _ (List.mem_of_getElem? (i := 16) rfl)
theorem w17 {a0 : Array Value} {Z : State} (hw : ∀ d ∈ tables_1, d.before a0 Z = true) : ((Jvm.Cond.fieldLink "com/example/rulr/rulr/BodyMatcher$Slot" (13 : Nat) "com/example/rulr/rulr/BodyMatcher$Slot" "constant" "I")).before a0 Z = true := hw _ (List.mem_of_getElem? (i := 17) rfl)
theorem w18 {a0 : Array Value} {Z : State} (hw : ∀ d ∈ tables_1, d.before a0 Z = true) : ((Jvm.Cond.laysFinal "com/example/rulr/rulr/BodyMatcher$Slot" "com/example/rulr/rulr/BodyMatcher$Slot" "constant" "I")).before a0 Z = true := hw _ (List.mem_of_getElem? (i := 18) rfl)
theorem w19 {a0 : Array Value} {Z : State} (hw : ∀ d ∈ tables_1, d.before a0 Z = true) : ((Jvm.Cond.methodLink "com/example/rulr/rulr/SlotIsBoundPinLaw" (12 : Nat) ({ cls := "com/example/rulr/rulr/BodyMatcher$Slot", name := "isBound", desc := "([Z)Z" } : Jvm.MethodName))).before a0 Z = true := hw _ (List.mem_of_getElem? (i := 19) rfl)
theorem w20 {a0 : Array Value} {Z : State} (hw : ∀ d ∈ tables_1, d.before a0 Z = true) : ((Jvm.Cond.declares ({ cls := "com/example/rulr/rulr/BodyMatcher$Slot", name := "isBound", desc := "([Z)Z" } : Jvm.MethodName))).before a0 Z = true := hw _ (List.mem_of_getElem? (i := 20) rfl)
theorem w21 {a0 : Array Value} {Z : State} (hw : ∀ d ∈ tables_1, d.before a0 Z = true) : ((Jvm.Cond.instanceMethod ({ cls := "com/example/rulr/rulr/BodyMatcher$Slot", name := "isBound", desc := "([Z)Z" } : Jvm.MethodName))).before a0 Z = true := hw _ (List.mem_of_getElem? (i := 21) rfl)
theorem w22 {a0 : Array Value} {Z : State} (hw : ∀ d ∈ tables_1, d.before a0 Z = true) : ((Jvm.Cond.selects "com/example/rulr/rulr/BodyMatcher$Slot" ({ cls := "com/example/rulr/rulr/BodyMatcher$Slot", name := "isBound", desc := "([Z)Z" } : Jvm.MethodName) ({ cls := "com/example/rulr/rulr/BodyMatcher$Slot", name := "isBound", desc := "([Z)Z" } : Jvm.MethodName))).before a0 Z = true := hw _ (List.mem_of_getElem? (i := 22) rfl)
theorem w23 {a0 : Array Value} {Z : State} (hw : ∀ d ∈ tables_1, d.before a0 Z = true) : ((Jvm.Cond.code ({ cls := "com/example/rulr/rulr/BodyMatcher$Slot", name := "isBound", desc := "([Z)Z" } : Jvm.MethodName) prog_11_method_4_code (2 : Nat) (Option.some Jvm.ClassFile.FieldType.boolean))).before a0 Z = true := hw _ (List.mem_of_getElem? (i := 23) rfl)
theorem pn_java_lang_Record : plainName "java/lang/Record" = true := by first | (simp [plainName, overriddenIn]; done) | decide +kernel
theorem pn_com_example_rulr_rulr_BodyMatcher_Slot : plainName "com/example/rulr/rulr/BodyMatcher$Slot" = true := by first | (simp [plainName, overriddenIn]; done) | decide +kernel
theorem pn_com_example_rulr_rulr_SlotIsBoundPinLaw : plainName "com/example/rulr/rulr/SlotIsBoundPinLaw" = true := by first | (simp [plainName, overriddenIn]; done) | decide +kernel
theorem pd_0 : parseMethodDescriptor "()V" = some ⟨[], none⟩ := by decide +kernel
theorem pd_1 : parseMethodDescriptor "(II)V" = some ⟨[.int, .int], none⟩ := by decide +kernel
theorem pd_2 : parseMethodDescriptor "([Z)Z" = some ⟨[(.array .boolean)], some .boolean⟩ := by decide +kernel
theorem dSlot_mk_0 : decode prog_11_method_1_code 0 = .ok (.aload_n 0, 1) := by decide +kernel
theorem dSlot_mk_1 : decode prog_11_method_1_code 1 = .ok (.invokespecial 1, 3) := by decide +kernel
theorem dSlot_mk_4 : decode prog_11_method_1_code 4 = .ok (.aload_n 0, 1) := by decide +kernel
theorem dSlot_mk_5 : decode prog_11_method_1_code 5 = .ok (.iload_n 1, 1) := by decide +kernel
theorem dSlot_mk_6 : decode prog_11_method_1_code 6 = .ok (.putfield 7, 3) := by decide +kernel
theorem dSlot_mk_9 : decode prog_11_method_1_code 9 = .ok (.aload_n 0, 1) := by decide +kernel
theorem dSlot_mk_10 : decode prog_11_method_1_code 10 = .ok (.iload_n 2, 1) := by decide +kernel
theorem dSlot_mk_11 : decode prog_11_method_1_code 11 = .ok (.putfield 13, 3) := by decide +kernel
theorem dSlot_mk_14 : decode prog_11_method_1_code 14 = .ok (.return_, 1) := by decide +kernel
theorem dRecord_mk_0 : decode jdk_30_method_1_code 0 = .ok (.aload_n 0, 1) := by decide +kernel
theorem dRecord_mk_1 : decode jdk_30_method_1_code 1 = .ok (.invokespecial 1, 3) := by decide +kernel
theorem dRecord_mk_4 : decode jdk_30_method_1_code 4 = .ok (.return_, 1) := by decide +kernel
theorem dSlot_isBound_0 : decode prog_11_method_4_code 0 = .ok (.aload_n 0, 1) := by decide +kernel
theorem dSlot_isBound_1 : decode prog_11_method_4_code 1 = .ok (.getfield 7, 3) := by decide +kernel
theorem dSlot_isBound_4 : decode prog_11_method_4_code 4 = .ok (.ifCond .lt 12, 3) := by decide +kernel
theorem dSlot_isBound_7 : decode prog_11_method_4_code 7 = .ok (.aload_n 1, 1) := by decide +kernel
theorem dSlot_isBound_8 : decode prog_11_method_4_code 8 = .ok (.aload_n 0, 1) := by decide +kernel
theorem dSlot_isBound_9 : decode prog_11_method_4_code 9 = .ok (.getfield 7, 3) := by decide +kernel
theorem dSlot_isBound_12 : decode prog_11_method_4_code 12 = .ok (.baload, 1) := by decide +kernel
theorem dSlot_isBound_13 : decode prog_11_method_4_code 13 = .ok (.ifCond .eq 7, 3) := by decide +kernel
theorem dSlot_isBound_16 : decode prog_11_method_4_code 16 = .ok (.iconst 1, 1) := by decide +kernel
theorem dSlot_isBound_17 : decode prog_11_method_4_code 17 = .ok (.goto 4, 3) := by decide +kernel
theorem dSlot_isBound_20 : decode prog_11_method_4_code 20 = .ok (.iconst 0, 1) := by decide +kernel
theorem dSlot_isBound_21 : decode prog_11_method_4_code 21 = .ok (.ireturn, 1) := by decide +kernel
/-! java/lang/Record.<init>:()V -/
def f_Record_mk (f_a1_constant : Int32) (f_a1_variable : Int32) : Option (Unit) :=
  some ()
def Q_Record_mk (Z : State) (hE : Heap) (n0 : Nat) (a1 : Addr) (r : Unit) (v : Option Value) (h : Heap) (L : List Loc) : Prop := v = none ∧ Fr n0 L ∧ h = hE
def Cx_Record_mk (p : Program) (s : State) (m : MethodId) (meth : Method) (c : Code) (Z : State) (a0 : Array Value) : Prop := p.tables.exec = Jvm.exec ∧ Z.Warmed39 s.vm ∧ (∀ d ∈ tables_1, d.before a0 Z = true) ∧ c.code = jdk_30_method_1_code ∧ c.maxLocals = 1 ∧ s.vm.findClass "java/lang/Record" = some m.cls ∧ meth.sig.returnType = none ∧ meth.locks = false ∧ meth.name = "<init>"
set_option maxRecDepth 65536 in
set_option maxHeartbeats 4000000 in
theorem b_Record_mk {p : Program} {l : Launch} {e : Env} {s : State} {m : MethodId} {args : Array Value} {below : List Frame} {meth : Method} {c : Code} {Z : State} {a0 : Array Value} {n0 : Nat} {hE : Heap} (cx : Cx_Record_mk p s m meth c Z a0) (a1 : Addr) :
    ∀ {T : State} {locs : List Loc} (X : Stand p l e ({ frames := 1, cells := 0, slots := 0, locals := 12 } : Room) s m args below meth c T locs 0 0) (eT : T.heap = hE) (N : Fr n0 locs) (z : n0 ≤ hE.size) (f_a1_constant : Int32) (f_a1_variable : Int32) (E_a1 : Exa Z hE a1 "com/example/rulr/rulr/BodyMatcher$Slot") (F_a1_constant : Fld Z hE a1 "com/example/rulr/rulr/BodyMatcher$Slot" "constant" "I" (.int f_a1_constant)) (F_a1_variable : Fld Z hE a1 "com/example/rulr/rulr/BodyMatcher$Slot" "variable" "I" (.int f_a1_variable)) (g_a1 : n0 ≤ a1) (r : Unit), f_Record_mk f_a1_constant f_a1_variable = some r → own_Goes p e below s (Q_Record_mk Z hE n0 a1 r) 0 0 (T.setTop (mkF m 0 #[.val (.ref a1)] [])) := by
  have cx' := cx
  obtain ⟨hx, hZ, hw, hby, hml, hown, hret, hlk, hnm⟩ := cx'
  intro T locs X eT N z f_a1_constant f_a1_variable E_a1 F_a1_constant F_a1_variable g_a1 r hF
  unfold f_Record_mk at hF
  refine own_Goes.via (B := T.setTop (mkF m 1 #[.val (.ref a1)] [(.ref a1)])) (fun t k => ?_) ?_
  · show Steps p.tables e below (T.setTop (mkF m 0 #[.val (.ref a1)] [])) t
    refine XS.aloadN X.here hx rfl (hb hby dRecord_mk_0) rfl rfl ?_
    exact k
  obtain ⟨T14, X14, e14, st14⟩ := initO X hx hZ hown (w12 hw) (w13 hw) (w14 hw) eT (g := (mkF m 1 #[.val (.ref a1)] [(.ref a1)])) rfl (by rw [hml]; rfl) rfl (hb hby dRecord_mk_1) (by decide) (W := 0) (by show 2 * 0 + _ ≤ _; exact Nat.le_of_eq rfl) (by decide)
  refine own_Goes.via st14 ?_
  show own_Goes _ _ _ _ _ _ _ (T14.setTop (mkF m 4 #[.val (.ref a1)] []))
  obtain rfl : () = r := Option.some.inj hF
  exact own_retV X14 hx hret hlk (hb hby dRecord_mk_4) e14 ⟨rfl, N, rfl⟩ (by decide) (by decide)
theorem ef_Record_mk (m : MethodId) (x0 : Addr) : entryFrame m #[(.ref x0)] 1 = mkF m 0 #[.val (.ref x0)] [] := by first | (simp [entryFrame, mkF, argsToLocals, Value.category]; done) | rfl
set_option maxRecDepth 65536 in
set_option maxHeartbeats 4000000 in
theorem rm_Record_mk (l : Launch) (Z : State) (a0 : Array Value) (hw : ∀ d ∈ tables_1, d.before a0 Z = true) (ws : List Jvm.Cond) (hE : Heap) (n0 : Nat) (z : n0 ≤ hE.size) (a1 : Addr) (f_a1_constant : Int32) (f_a1_variable : Int32) (E_a1 : Exa Z hE a1 "com/example/rulr/rulr/BodyMatcher$Slot") (F_a1_constant : Fld Z hE a1 "com/example/rulr/rulr/BodyMatcher$Slot" "constant" "I" (.int f_a1_constant)) (F_a1_variable : Fld Z hE a1 "com/example/rulr/rulr/BodyMatcher$Slot" "variable" "I" (.int f_a1_variable)) (g_a1 : n0 ≤ a1) (r : Unit) (hF : (f_Record_mk f_a1_constant f_a1_variable) = some r) :
    MetFree l (⟨"java/lang/Record", "<init>", "()V"⟩ : MethodName) (head1 (Jvm.Cond.code (⟨"java/lang/Record", "<init>", "()V"⟩ : MethodName) jdk_30_method_1_code 1 none :: ws) ({ frames := 1, cells := 0, slots := 0, locals := 12 } : Room)) (fun a U => a = #[(.ref a1)] ∧ Z.Warmed39 U.vm ∧ U.heap = hE) (fun _ _ _ _ _ => True) (fun _ U o U' => ∃ v L, o = .returned v ∧ (Q_Record_mk Z hE n0 a1 r) v U'.heap L ∧ FrameEnd U o U' L ({ frames := 1, cells := 0, slots := 0, locals := 12 } : Room).cells ({ frames := 1, cells := 0, slots := 0, locals := 12 } : Room).slots) := by
  refine MetFree.of_bodySF (plainFor_of_name pn_java_lang_Record) hisR ?_
  intro p e s m args below meth c s₁ Bd hml0 hP hK
  obtain ⟨rfl, hZ, hh⟩ := hP
  have X0 : Stand p l e ({ frames := 1, cells := 0, slots := 0, locals := 12 } : Room) s m #[(.ref a1)] below meth c s₁ [] 0 0 := Stand.of_body Bd
  have e0 : s₁.heap = hE := by rw [← hh, Bd.state]; rfl
  have cx : Cx_Record_mk p s m meth c Z a0 := ⟨Bd.exec, hZ, hw, Bd.bytes, hml0, findClass_of_methodNamed Bd.named, Bd.returns, Bd.notSynchronized, (name_of_methodNamed Bd.named Bd.method).1⟩
  show own_Goes p e below s (Q_Record_mk Z hE n0 a1 r) ({ frames := 1, cells := 0, slots := 0, locals := 12 } : Room).cells ({ frames := 1, cells := 0, slots := 0, locals := 12 } : Room).slots (s₁.setTop (entryFrame m #[(.ref a1)] 1))
  rw [ef_Record_mk]
  exact b_Record_mk cx a1 X0 e0 (Fr.nil n0) z f_a1_constant f_a1_variable E_a1 F_a1_constant F_a1_variable g_a1 _ hF
/-! com/example/rulr/rulr/BodyMatcher$Slot.<init>:(II)V -/
def f_Slot_mk (v1 : Int32) (v2 : Int32) (f_a1_constant : Int32) (f_a1_variable : Int32) : Option (Int32 × Int32) :=
  own_bd (f_Record_mk f_a1_constant f_a1_variable) fun r24 =>
  some (v2, v1)
def Q_Slot_mk (Z : State) (hE : Heap) (n0 : Nat) (a1 : Addr) (r : Int32 × Int32) (v : Option Value) (h : Heap) (L : List Loc) : Prop := v = none ∧ Fr n0 L ∧ Keep hE h [a1] ∧ Exa Z h a1 "com/example/rulr/rulr/BodyMatcher$Slot" ∧ Fld Z h a1 "com/example/rulr/rulr/BodyMatcher$Slot" "constant" "I" (.int r.1) ∧ Fld Z h a1 "com/example/rulr/rulr/BodyMatcher$Slot" "variable" "I" (.int r.2)
def Cx_Slot_mk (p : Program) (s : State) (m : MethodId) (meth : Method) (c : Code) (Z : State) (a0 : Array Value) : Prop := p.tables.exec = Jvm.exec ∧ Z.Warmed39 s.vm ∧ (∀ d ∈ tables_1, d.before a0 Z = true) ∧ c.code = prog_11_method_1_code ∧ c.maxLocals = 3 ∧ s.vm.findClass "com/example/rulr/rulr/BodyMatcher$Slot" = some m.cls ∧ meth.sig.returnType = none ∧ meth.locks = false ∧ meth.name = "<init>"
set_option maxRecDepth 65536 in
set_option maxHeartbeats 4000000 in
theorem b_Slot_mk {p : Program} {l : Launch} {e : Env} {s : State} {m : MethodId} {args : Array Value} {below : List Frame} {meth : Method} {c : Code} {Z : State} {a0 : Array Value} {n0 : Nat} {hE : Heap} (cx : Cx_Slot_mk p s m meth c Z a0) (a1 : Addr) :
    ∀ {T : State} {locs : List Loc} {h : Heap} (X : Stand p l e ({ frames := 2, cells := 0, slots := 0, locals := 24 } : Room) s m args below meth c T locs 0 0) (eT : T.heap = h) (N : Fr n0 locs) (K : Keep hE h [a1]) (z : n0 ≤ h.size) (v1 : Int32) (v2 : Int32) (f_a1_constant : Int32) (f_a1_variable : Int32) (E_a1 : Exa Z h a1 "com/example/rulr/rulr/BodyMatcher$Slot") (F_a1_constant : Fld Z h a1 "com/example/rulr/rulr/BodyMatcher$Slot" "constant" "I" (.int f_a1_constant)) (F_a1_variable : Fld Z h a1 "com/example/rulr/rulr/BodyMatcher$Slot" "variable" "I" (.int f_a1_variable)) (g_a1 : n0 ≤ a1) (r : Int32 × Int32), f_Slot_mk v1 v2 f_a1_constant f_a1_variable = some r → own_Goes p e below s (Q_Slot_mk Z hE n0 a1 r) 0 0 (T.setTop (mkF m 0 #[.val (.ref a1), .val (.int v1), .val (.int v2)] [])) := by
  have cx' := cx
  obtain ⟨hx, hZ, hw, hby, hml, hown, hret, hlk, hnm⟩ := cx'
  intro T locs h X eT N K z v1 v2 f_a1_constant f_a1_variable E_a1 F_a1_constant F_a1_variable g_a1 r hF
  unfold f_Slot_mk at hF
  refine own_Goes.via (B := T.setTop (mkF m 1 #[.val (.ref a1), .val (.int v1), .val (.int v2)] [(.ref a1)])) (fun t k => ?_) ?_
  · show Steps p.tables e below (T.setTop (mkF m 0 #[.val (.ref a1), .val (.int v1), .val (.int v2)] [])) t
    refine XS.aloadN X.here hx rfl (hb hby dSlot_mk_0) rfl rfl ?_
    exact k
  obtain ⟨r24, hr24, hF⟩ := own_bd_e hF
  obtain ⟨_, _, ⟨T24, L24, k24, n24⟩, -, X24, ⟨Lc24, hQ24, l24, y24, z24⟩, st24⟩ := X.specialBack hx (y := (⟨"java/lang/Record", "<init>", "()V"⟩ : MethodName)) rfl hown (mvT hZ (w7 hw)) (mvT hZ (w8 hw)) (mvT hZ (w11 hw)) (by decide) (backOf (W := 0) (rm_Record_mk l Z a0 hw [] h n0 z a1 f_a1_constant f_a1_variable E_a1 F_a1_constant F_a1_variable g_a1 r24 hr24) hZ (w11 hw) (w10 hw) (by decide) (by decide)) (g := (mkF m 1 #[.val (.ref a1), .val (.int v1), .val (.int v2)] [(.ref a1)])) rfl (by rw [hml]; rfl) (Steps.refl _) (a := a1) (argsL := []) (rest := []) (lenOf pd_0 rfl) rfl (by show 2 * 0 + _ ≤ _; exact Nat.le_of_eq rfl) (hb hby dSlot_mk_1) (fun _ _ => ⟨rfl, eT, (by decide : 0 + 0 ≤ _), (by decide : 0 + 0 ≤ _)⟩)
  dsimp only [Pt.U, Pt.locs, Pt.cells, Pt.slots] at X24 l24 y24 z24 st24 hQ24
  subst l24 y24 z24
  obtain ⟨rfl, N24q, e24⟩ := hQ24
  have N24 := Fr.app N N24q
  refine own_Goes.tr st24 ?_
  show own_Goes _ _ _ _ _ _ _ (T24.setTop (mkF m 4 #[.val (.ref a1), .val (.int v1), .val (.int v2)] []))
  refine own_Goes.via (B := T24.setTop (mkF m 6 #[.val (.ref a1), .val (.int v1), .val (.int v2)] [(.int v1), (.ref a1)])) (fun t k => ?_) ?_
  · show Steps p.tables e below (T24.setTop (mkF m 4 #[.val (.ref a1), .val (.int v1), .val (.int v2)] [])) t
    refine XS.aloadN X24.here hx rfl (hb hby dSlot_mk_4) rfl rfl ?_
    show Steps p.tables e below (T24.setTop (mkF m 5 #[.val (.ref a1), .val (.int v1), .val (.int v2)] [(.ref a1)])) t
    refine XS.iloadN X24.here hx rfl (hb hby dSlot_mk_5) rfl ?_
    exact k
  obtain ⟨T25, h25, X25, e25, W25, st25⟩ := putF X24 hx hZ hown (host := "") (Or.inl (w15 hw)) Via.refl e24 F_a1_variable E_a1 (Or.inr ⟨(w16 hw), rfl, hnm⟩) (w2 hw) (ty := .int) (by decide) rfl rfl (g := (mkF m 6 #[.val (.ref a1), .val (.int v1), .val (.int v2)] [(.int v1), (.ref a1)])) rfl rfl (hb hby dSlot_mk_6)
  refine own_Goes.via st25 ?_
  have E25_a1 := E_a1.wr W25
  have F25_a1_constant := F_a1_constant.other W25 (Or.inr (slot_ne (Or.inr (w18 hw)) (Or.inr (w16 hw)) (by decide) (t := .int) (t' := .int) (by decide) (by decide)))
  have F25_a1_variable := F_a1_variable.same W25
  have z25 := Nat.le_trans z (Keep.of_wr W25).1
  have K25_ := K.wr W25 (Or.inl (List.mem_of_getElem? (i := 0) rfl))
  have N25 := Fr.snoc X25 N24 g_a1
  show own_Goes _ _ _ _ _ _ _ (T25.setTop (mkF m 9 #[.val (.ref a1), .val (.int v1), .val (.int v2)] []))
  refine own_Goes.via (B := T25.setTop (mkF m 11 #[.val (.ref a1), .val (.int v1), .val (.int v2)] [(.int v2), (.ref a1)])) (fun t k => ?_) ?_
  · show Steps p.tables e below (T25.setTop (mkF m 9 #[.val (.ref a1), .val (.int v1), .val (.int v2)] [])) t
    refine XS.aloadN X25.here hx rfl (hb hby dSlot_mk_9) rfl rfl ?_
    show Steps p.tables e below (T25.setTop (mkF m 10 #[.val (.ref a1), .val (.int v1), .val (.int v2)] [(.ref a1)])) t
    refine XS.iloadN X25.here hx rfl (hb hby dSlot_mk_10) rfl ?_
    exact k
  obtain ⟨T26, h26, X26, e26, W26, st26⟩ := putF X25 hx hZ hown (host := "") (Or.inl (w17 hw)) Via.refl e25 F25_a1_constant E25_a1 (Or.inr ⟨(w18 hw), rfl, hnm⟩) (w2 hw) (ty := .int) (by decide) rfl rfl (g := (mkF m 11 #[.val (.ref a1), .val (.int v1), .val (.int v2)] [(.int v2), (.ref a1)])) rfl rfl (hb hby dSlot_mk_11)
  refine own_Goes.via st26 ?_
  have E26_a1 := E25_a1.wr W26
  have F26_a1_variable := F25_a1_variable.other W26 (Or.inr (slot_ne (Or.inr (w16 hw)) (Or.inr (w18 hw)) (by decide) (t := .int) (t' := .int) (by decide) (by decide)))
  have F26_a1_constant := F25_a1_constant.same W26
  have z26 := Nat.le_trans z25 (Keep.of_wr W26).1
  have K26_ := K25_.wr W26 (Or.inl (List.mem_of_getElem? (i := 0) rfl))
  have N26 := Fr.snoc X26 N25 g_a1
  show own_Goes _ _ _ _ _ _ _ (T26.setTop (mkF m 14 #[.val (.ref a1), .val (.int v1), .val (.int v2)] []))
  obtain rfl : (v2, v1) = r := Option.some.inj hF
  exact own_retV X26 hx hret hlk (hb hby dSlot_mk_14) e26 ⟨rfl, N26, K26_, E26_a1, F26_a1_constant, F26_a1_variable⟩ (by decide) (by decide)
theorem ef_Slot_mk (m : MethodId) (x0 : Addr) (x1 : Int32) (x2 : Int32) : entryFrame m #[(.ref x0), (.int x1), (.int x2)] 3 = mkF m 0 #[.val (.ref x0), .val (.int x1), .val (.int x2)] [] := by first | (simp [entryFrame, mkF, argsToLocals, Value.category]; done) | rfl
set_option maxRecDepth 65536 in
set_option maxHeartbeats 4000000 in
theorem rm_Slot_mk (l : Launch) (Z : State) (a0 : Array Value) (hw : ∀ d ∈ tables_1, d.before a0 Z = true) (ws : List Jvm.Cond) (hE : Heap) (n0 : Nat) (z : n0 ≤ hE.size) (a1 : Addr) (v1 : Int32) (v2 : Int32) (f_a1_constant : Int32) (f_a1_variable : Int32) (E_a1 : Exa Z hE a1 "com/example/rulr/rulr/BodyMatcher$Slot") (F_a1_constant : Fld Z hE a1 "com/example/rulr/rulr/BodyMatcher$Slot" "constant" "I" (.int f_a1_constant)) (F_a1_variable : Fld Z hE a1 "com/example/rulr/rulr/BodyMatcher$Slot" "variable" "I" (.int f_a1_variable)) (g_a1 : n0 ≤ a1) (r : Int32 × Int32) (hF : (f_Slot_mk v1 v2 f_a1_constant f_a1_variable) = some r) :
    MetFree l (⟨"com/example/rulr/rulr/BodyMatcher$Slot", "<init>", "(II)V"⟩ : MethodName) (head1 (Jvm.Cond.code (⟨"com/example/rulr/rulr/BodyMatcher$Slot", "<init>", "(II)V"⟩ : MethodName) prog_11_method_1_code 3 none :: ws) ({ frames := 2, cells := 0, slots := 0, locals := 24 } : Room)) (fun a U => a = #[(.ref a1), (.int v1), (.int v2)] ∧ Z.Warmed39 U.vm ∧ U.heap = hE) (fun _ _ _ _ _ => True) (fun _ U o U' => ∃ v L, o = .returned v ∧ (Q_Slot_mk Z hE n0 a1 r) v U'.heap L ∧ FrameEnd U o U' L ({ frames := 2, cells := 0, slots := 0, locals := 24 } : Room).cells ({ frames := 2, cells := 0, slots := 0, locals := 24 } : Room).slots) := by
  refine MetFree.of_bodySF (plainFor_of_name pn_com_example_rulr_rulr_BodyMatcher_Slot) hisR ?_
  intro p e s m args below meth c s₁ Bd hml0 hP hK
  obtain ⟨rfl, hZ, hh⟩ := hP
  have X0 : Stand p l e ({ frames := 2, cells := 0, slots := 0, locals := 24 } : Room) s m #[(.ref a1), (.int v1), (.int v2)] below meth c s₁ [] 0 0 := Stand.of_body Bd
  have e0 : s₁.heap = hE := by rw [← hh, Bd.state]; rfl
  have cx : Cx_Slot_mk p s m meth c Z a0 := ⟨Bd.exec, hZ, hw, Bd.bytes, hml0, findClass_of_methodNamed Bd.named, Bd.returns, Bd.notSynchronized, (name_of_methodNamed Bd.named Bd.method).1⟩
  show own_Goes p e below s (Q_Slot_mk Z hE n0 a1 r) ({ frames := 2, cells := 0, slots := 0, locals := 24 } : Room).cells ({ frames := 2, cells := 0, slots := 0, locals := 24 } : Room).slots (s₁.setTop (entryFrame m #[(.ref a1), (.int v1), (.int v2)] 3))
  rw [ef_Slot_mk]
  exact b_Slot_mk cx a1 X0 e0 (Fr.nil n0) (Keep.refl _ _) z v1 v2 f_a1_constant f_a1_variable E_a1 F_a1_constant F_a1_variable g_a1 _ hF
/-! com/example/rulr/rulr/BodyMatcher$Slot.isBound:([Z)Z -/
def f_Slot_isBound (f_a1_constant : Int32) (f_a1_variable : Int32) (bs_a2 : List Int32) : Option (Int32) :=
  if f_a1_variable < (0 : Int32) then
    some (1 : Int32)
  else
    own_ck (own_inb bs_a2 f_a1_variable) <|
    if (own_rd bs_a2 f_a1_variable) = (0 : Int32) then
      some (0 : Int32)
    else
      some (1 : Int32)
def Q_Slot_isBound (Z : State) (hE : Heap) (n0 : Nat) (a1 : Addr) (a2 : Addr) (r : Int32) (v : Option Value) (h : Heap) (L : List Loc) : Prop := v = some (.int r) ∧ Fr n0 L ∧ h = hE
def Cx_Slot_isBound (p : Program) (s : State) (m : MethodId) (meth : Method) (c : Code) (Z : State) (a0 : Array Value) : Prop := p.tables.exec = Jvm.exec ∧ Z.Warmed39 s.vm ∧ (∀ d ∈ tables_1, d.before a0 Z = true) ∧ c.code = prog_11_method_4_code ∧ c.maxLocals = 2 ∧ s.vm.findClass "com/example/rulr/rulr/BodyMatcher$Slot" = some m.cls ∧ meth.sig.returnType = some .boolean ∧ meth.locks = false ∧ meth.name = "isBound"
set_option maxRecDepth 65536 in
set_option maxHeartbeats 4000000 in
theorem b_Slot_isBound {p : Program} {l : Launch} {e : Env} {s : State} {m : MethodId} {args : Array Value} {below : List Frame} {meth : Method} {c : Code} {Z : State} {a0 : Array Value} {n0 : Nat} {hE : Heap} (cx : Cx_Slot_isBound p s m meth c Z a0) (a1 : Addr) (a2 : Addr) :
    ∀ {T : State} {locs : List Loc} (X : Stand p l e ({ frames := 0, cells := 0, slots := 0, locals := 0 } : Room) s m args below meth c T locs 0 0) (eT : T.heap = hE) (N : Fr n0 locs) (z : n0 ≤ hE.size) (f_a1_constant : Int32) (f_a1_variable : Int32) (bs_a2 : List Int32) (E_a1 : Exa Z hE a1 "com/example/rulr/rulr/BodyMatcher$Slot") (F_a1_constant : Fld Z hE a1 "com/example/rulr/rulr/BodyMatcher$Slot" "constant" "I" (.int f_a1_constant)) (F_a1_variable : Fld Z hE a1 "com/example/rulr/rulr/BodyMatcher$Slot" "variable" "I" (.int f_a1_variable)) (g_a1 : n0 ≤ a1) (A_a2 : own_Ar Z hE a2 .boolean (bs_a2.map Value.int)) (g_a2 : n0 ≤ a2) (ne_a1_a2 : a1 ≠ a2) (r : Int32), f_Slot_isBound f_a1_constant f_a1_variable bs_a2 = some r → own_Goes p e below s (Q_Slot_isBound Z hE n0 a1 a2 r) 0 0 (T.setTop (mkF m 0 #[.val (.ref a1), .val (.ref a2)] [])) := by
  have cx' := cx
  obtain ⟨hx, hZ, hw, hby, hml, hown, hret, hlk, hnm⟩ := cx'
  intro T locs X eT N z f_a1_constant f_a1_variable bs_a2 E_a1 F_a1_constant F_a1_variable g_a1 A_a2 g_a2 ne_a1_a2 r hF
  unfold f_Slot_isBound at hF
  refine own_Goes.via (B := T.setTop (mkF m 1 #[.val (.ref a1), .val (.ref a2)] [(.ref a1)])) (fun t k => ?_) ?_
  · show Steps p.tables e below (T.setTop (mkF m 0 #[.val (.ref a1), .val (.ref a2)] [])) t
    refine XS.aloadN X.here hx rfl (hb hby dSlot_isBound_0) rfl rfl ?_
    exact k
  obtain ⟨T34, X34, e34, st34⟩ := getF X hx hZ hown (host := "") (Or.inl (w15 hw)) Via.refl eT F_a1_variable (g := (mkF m 1 #[.val (.ref a1), .val (.ref a2)] [(.ref a1)])) rfl rfl (hb hby dSlot_isBound_1)
  refine own_Goes.via st34 ?_
  show own_Goes _ _ _ _ _ _ _ (T34.setTop (mkF m 4 #[.val (.ref a1), .val (.ref a2)] [(.int f_a1_variable)]))
  by_cases hc4 : f_a1_variable < (0 : Int32)
  · rw [if_pos hc4] at hF
    refine own_Goes.via (B := T34.setTop (mkF m 21 #[.val (.ref a1), .val (.ref a2)] [(.int (1 : Int32))])) (fun t k => ?_) ?_
    · show Steps p.tables e below (T34.setTop (mkF m 4 #[.val (.ref a1), .val (.ref a2)] [(.int f_a1_variable)])) t
      refine XS.ifYes X34.here hx rfl (pc0 := 4) (pc' := 16) rfl (hb hby dSlot_isBound_4) rfl ((if0 _ _).trans (tlt hc4).1) (by decide) (by decide) ?_
      show Steps p.tables e below (T34.setTop (mkF m 16 #[.val (.ref a1), .val (.ref a2)] [])) t
      refine XS.iconst X34.here hx rfl (hb hby dSlot_isBound_16) ?_
      show Steps p.tables e below (T34.setTop (mkF m 17 #[.val (.ref a1), .val (.ref a2)] [(.int (1 : Int32))])) t
      refine XS.goto X34.here hx rfl (pc0 := 17) (pc' := 21) rfl (hb hby dSlot_isBound_17) (by decide) (by decide) ?_
      exact k
    obtain rfl : (1 : Int32) = r := Option.some.inj hF
    exact own_retN X34 hx (t := .boolean) hret hlk (by simp) (hb hby dSlot_isBound_21) e34 (v := (1 : Int32)) (by decide) ⟨rfl, N, rfl⟩ (by decide) (by decide)
  · rw [if_neg hc4] at hF
    refine own_Goes.via (B := T34.setTop (mkF m 9 #[.val (.ref a1), .val (.ref a2)] [(.ref a1), (.ref a2)])) (fun t k => ?_) ?_
    · show Steps p.tables e below (T34.setTop (mkF m 4 #[.val (.ref a1), .val (.ref a2)] [(.int f_a1_variable)])) t
      refine XS.ifNo X34.here hx rfl (hb hby dSlot_isBound_4) rfl ((if0 _ _).trans (flt hc4).1) ?_
      show Steps p.tables e below (T34.setTop (mkF m 7 #[.val (.ref a1), .val (.ref a2)] [])) t
      refine XS.aloadN X34.here hx rfl (hb hby dSlot_isBound_7) rfl rfl ?_
      show Steps p.tables e below (T34.setTop (mkF m 8 #[.val (.ref a1), .val (.ref a2)] [(.ref a2)])) t
      refine XS.aloadN X34.here hx rfl (hb hby dSlot_isBound_8) rfl rfl ?_
      exact k
    obtain ⟨T35, X35, e35, st35⟩ := getF X34 hx hZ hown (host := "") (Or.inl (w15 hw)) Via.refl e34 F_a1_variable (g := (mkF m 9 #[.val (.ref a1), .val (.ref a2)] [(.ref a1), (.ref a2)])) rfl rfl (hb hby dSlot_isBound_9)
    refine own_Goes.via st35 ?_
    show own_Goes _ _ _ _ _ _ _ (T35.setTop (mkF m 12 #[.val (.ref a1), .val (.ref a2)] [(.int f_a1_variable), (.ref a2)]))
    obtain ⟨hi12, hF⟩ := own_ck_e hF
    refine own_Goes.via (B := T35.setTop (mkF m 13 #[.val (.ref a1), .val (.ref a2)] [(.int (own_rd bs_a2 f_a1_variable))])) (fun t k => ?_) ?_
    · show Steps p.tables e below (T35.setTop (mkF m 12 #[.val (.ref a1), .val (.ref a2)] [(.int f_a1_variable), (.ref a2)])) t
      refine own_ldZ X35 hx hZ e35 A_a2 hi12 rfl (g := (mkF m 12 #[.val (.ref a1), .val (.ref a2)] [(.int f_a1_variable), (.ref a2)])) rfl rfl (hb hby dSlot_isBound_12) ?_
      exact k
    by_cases hc13 : (own_rd bs_a2 f_a1_variable) = (0 : Int32)
    · rw [if_pos hc13] at hF
      refine own_Goes.via (B := T35.setTop (mkF m 21 #[.val (.ref a1), .val (.ref a2)] [(.int (0 : Int32))])) (fun t k => ?_) ?_
      · show Steps p.tables e below (T35.setTop (mkF m 13 #[.val (.ref a1), .val (.ref a2)] [(.int (own_rd bs_a2 f_a1_variable))])) t
        refine XS.ifYes X35.here hx rfl (pc0 := 13) (pc' := 20) rfl (hb hby dSlot_isBound_13) rfl ((if0 _ _).trans (teq hc13).1) (by decide) (by decide) ?_
        show Steps p.tables e below (T35.setTop (mkF m 20 #[.val (.ref a1), .val (.ref a2)] [])) t
        refine XS.iconst X35.here hx rfl (hb hby dSlot_isBound_20) ?_
        exact k
      obtain rfl : (0 : Int32) = r := Option.some.inj hF
      exact own_retN X35 hx (t := .boolean) hret hlk (by simp) (hb hby dSlot_isBound_21) e35 (v := (0 : Int32)) (by decide) ⟨rfl, N, rfl⟩ (by decide) (by decide)
    · rw [if_neg hc13] at hF
      refine own_Goes.via (B := T35.setTop (mkF m 21 #[.val (.ref a1), .val (.ref a2)] [(.int (1 : Int32))])) (fun t k => ?_) ?_
      · show Steps p.tables e below (T35.setTop (mkF m 13 #[.val (.ref a1), .val (.ref a2)] [(.int (own_rd bs_a2 f_a1_variable))])) t
        refine XS.ifNo X35.here hx rfl (hb hby dSlot_isBound_13) rfl ((if0 _ _).trans (feq hc13).1) ?_
        show Steps p.tables e below (T35.setTop (mkF m 16 #[.val (.ref a1), .val (.ref a2)] [])) t
        refine XS.iconst X35.here hx rfl (hb hby dSlot_isBound_16) ?_
        show Steps p.tables e below (T35.setTop (mkF m 17 #[.val (.ref a1), .val (.ref a2)] [(.int (1 : Int32))])) t
        refine XS.goto X35.here hx rfl (pc0 := 17) (pc' := 21) rfl (hb hby dSlot_isBound_17) (by decide) (by decide) ?_
        exact k
      obtain rfl : (1 : Int32) = r := Option.some.inj hF
      exact own_retN X35 hx (t := .boolean) hret hlk (by simp) (hb hby dSlot_isBound_21) e35 (v := (1 : Int32)) (by decide) ⟨rfl, N, rfl⟩ (by decide) (by decide)
theorem ef_Slot_isBound (m : MethodId) (x0 : Addr) (x1 : Addr) : entryFrame m #[(.ref x0), (.ref x1)] 2 = mkF m 0 #[.val (.ref x0), .val (.ref x1)] [] := by first | (simp [entryFrame, mkF, argsToLocals, Value.category]; done) | rfl
set_option maxRecDepth 65536 in
set_option maxHeartbeats 4000000 in
theorem rm_Slot_isBound (l : Launch) (Z : State) (a0 : Array Value) (hw : ∀ d ∈ tables_1, d.before a0 Z = true) (ws : List Jvm.Cond) (hE : Heap) (n0 : Nat) (z : n0 ≤ hE.size) (a1 : Addr) (a2 : Addr) (f_a1_constant : Int32) (f_a1_variable : Int32) (bs_a2 : List Int32) (E_a1 : Exa Z hE a1 "com/example/rulr/rulr/BodyMatcher$Slot") (F_a1_constant : Fld Z hE a1 "com/example/rulr/rulr/BodyMatcher$Slot" "constant" "I" (.int f_a1_constant)) (F_a1_variable : Fld Z hE a1 "com/example/rulr/rulr/BodyMatcher$Slot" "variable" "I" (.int f_a1_variable)) (g_a1 : n0 ≤ a1) (A_a2 : own_Ar Z hE a2 .boolean (bs_a2.map Value.int)) (g_a2 : n0 ≤ a2) (ne_a1_a2 : a1 ≠ a2) (r : Int32) (hF : (f_Slot_isBound f_a1_constant f_a1_variable bs_a2) = some r) :
    MetFree l (⟨"com/example/rulr/rulr/BodyMatcher$Slot", "isBound", "([Z)Z"⟩ : MethodName) (head1 (Jvm.Cond.code (⟨"com/example/rulr/rulr/BodyMatcher$Slot", "isBound", "([Z)Z"⟩ : MethodName) prog_11_method_4_code 2 (some .boolean) :: ws) ({ frames := 0, cells := 0, slots := 0, locals := 0 } : Room)) (fun a U => a = #[(.ref a1), (.ref a2)] ∧ Z.Warmed39 U.vm ∧ U.heap = hE) (fun _ _ _ _ _ => True) (fun _ U o U' => ∃ v L, o = .returned v ∧ (Q_Slot_isBound Z hE n0 a1 a2 r) v U'.heap L ∧ FrameEnd U o U' L ({ frames := 0, cells := 0, slots := 0, locals := 0 } : Room).cells ({ frames := 0, cells := 0, slots := 0, locals := 0 } : Room).slots) := by
  refine MetFree.of_bodySF (plainFor_of_name pn_com_example_rulr_rulr_BodyMatcher_Slot) hisR ?_
  intro p e s m args below meth c s₁ Bd hml0 hP hK
  obtain ⟨rfl, hZ, hh⟩ := hP
  have X0 : Stand p l e ({ frames := 0, cells := 0, slots := 0, locals := 0 } : Room) s m #[(.ref a1), (.ref a2)] below meth c s₁ [] 0 0 := Stand.of_body Bd
  have e0 : s₁.heap = hE := by rw [← hh, Bd.state]; rfl
  have cx : Cx_Slot_isBound p s m meth c Z a0 := ⟨Bd.exec, hZ, hw, Bd.bytes, hml0, findClass_of_methodNamed Bd.named, Bd.returns, Bd.notSynchronized, (name_of_methodNamed Bd.named Bd.method).1⟩
  show own_Goes p e below s (Q_Slot_isBound Z hE n0 a1 a2 r) ({ frames := 0, cells := 0, slots := 0, locals := 0 } : Room).cells ({ frames := 0, cells := 0, slots := 0, locals := 0 } : Room).slots (s₁.setTop (entryFrame m #[(.ref a1), (.ref a2)] 2))
  rw [ef_Slot_isBound]
  exact b_Slot_isBound cx a1 a2 X0 e0 (Fr.nil n0) z f_a1_constant f_a1_variable bs_a2 E_a1 F_a1_constant F_a1_variable g_a1 A_a2 g_a2 ne_a1_a2 _ hF
/-! com/example/rulr/rulr/SlotIsBoundPinLaw.law:(III)Z -/
def f_law_187 (v6 : Int32) (v7 : Int32) (t0 : Int32) (t1 : Int32) : Option (Int32) :=
  if t1 = t0 then
    if v6 = v7 then
      some (1 : Int32)
    else
      some (0 : Int32)
  else
    if v6 = v7 then
      some (0 : Int32)
    else
      some (0 : Int32)
def f_law_169 (v2 : Int32) (v6 : Int32) (v7 : Int32) (t0 : Int32) (t1 : Int32) (bs_b1 : List Int32) : Option (Int32) :=
  if t1 = t0 then
    own_ck (own_inb bs_b1 (3 : Int32)) <|
    if (v2 &&& (8 : Int32)) = (0 : Int32) then
      (f_law_187 v6 v7 (0 : Int32) (own_rd bs_b1 (3 : Int32)))
    else
      (f_law_187 v6 v7 (1 : Int32) (own_rd bs_b1 (3 : Int32)))
  else
    if v6 = v7 then
      some (0 : Int32)
    else
      some (0 : Int32)
def f_law_152 (v2 : Int32) (v6 : Int32) (v7 : Int32) (t0 : Int32) (t1 : Int32) (bs_b1 : List Int32) : Option (Int32) :=
  if t1 = t0 then
    own_ck (own_inb bs_b1 (2 : Int32)) <|
    if (v2 &&& (4 : Int32)) = (0 : Int32) then
      (f_law_169 v2 v6 v7 (0 : Int32) (own_rd bs_b1 (2 : Int32)) bs_b1)
    else
      (f_law_169 v2 v6 v7 (1 : Int32) (own_rd bs_b1 (2 : Int32)) bs_b1)
  else
    if v6 = v7 then
      some (0 : Int32)
    else
      some (0 : Int32)
def f_law_135 (v2 : Int32) (v6 : Int32) (v7 : Int32) (t0 : Int32) (t1 : Int32) (bs_b1 : List Int32) : Option (Int32) :=
  if t1 = t0 then
    own_ck (own_inb bs_b1 (1 : Int32)) <|
    if (v2 &&& (2 : Int32)) = (0 : Int32) then
      (f_law_152 v2 v6 v7 (0 : Int32) (own_rd bs_b1 (1 : Int32)) bs_b1)
    else
      (f_law_152 v2 v6 v7 (1 : Int32) (own_rd bs_b1 (1 : Int32)) bs_b1)
  else
    if v6 = v7 then
      some (0 : Int32)
    else
      some (0 : Int32)
def f_law_72 (v1 : Int32) (v2 : Int32) (t0 : Int32) (bs_b1 : List Int32) : Option (Int32) :=
  own_bd (f_Slot_mk t0 v1 (0 : Int32) (0 : Int32)) fun r70 =>
  own_bd (f_Slot_isBound r70.1 r70.2 bs_b1) fun r71 =>
  if t0 < (0 : Int32) then
    own_ck (own_inb bs_b1 (0 : Int32)) <|
    if (v2 &&& (1 : Int32)) = (0 : Int32) then
      (f_law_135 v2 r71 (1 : Int32) (0 : Int32) (own_rd bs_b1 (0 : Int32)) bs_b1)
    else
      (f_law_135 v2 r71 (1 : Int32) (1 : Int32) (own_rd bs_b1 (0 : Int32)) bs_b1)
  else
    if ((v2 >>> (t0 &&& 31)) &&& (1 : Int32)) = (0 : Int32) then
      own_ck (own_inb bs_b1 (0 : Int32)) <|
      if (v2 &&& (1 : Int32)) = (0 : Int32) then
        (f_law_135 v2 r71 (0 : Int32) (0 : Int32) (own_rd bs_b1 (0 : Int32)) bs_b1)
      else
        (f_law_135 v2 r71 (0 : Int32) (1 : Int32) (own_rd bs_b1 (0 : Int32)) bs_b1)
    else
      own_ck (own_inb bs_b1 (0 : Int32)) <|
      if (v2 &&& (1 : Int32)) = (0 : Int32) then
        (f_law_135 v2 r71 (1 : Int32) (0 : Int32) (own_rd bs_b1 (0 : Int32)) bs_b1)
      else
        (f_law_135 v2 r71 (1 : Int32) (1 : Int32) (own_rd bs_b1 (0 : Int32)) bs_b1)
def f_law_45 (v0 : Int32) (v1 : Int32) (v2 : Int32) (t0 : Int32) (t1 : Int32) (bs_b1 : List Int32) : Option (Int32) :=
  own_ck (own_inb bs_b1 t1) <|
  own_lt (own_wr bs_b1 t1 (t0 &&& 1)) fun bs75 =>
  if (v2 &&& (8 : Int32)) = (0 : Int32) then
    own_ck (own_inb bs75 (3 : Int32)) <|
    own_lt (own_wr bs75 (3 : Int32) (0 : Int32)) fun bs77 =>
    if v0 < (0 : Int32) then
      (f_law_72 v1 v2 v0 bs77)
    else
      (f_law_72 v1 v2 (v0 &&& (3 : Int32)) bs77)
  else
    own_ck (own_inb bs75 (3 : Int32)) <|
    own_lt (own_wr bs75 (3 : Int32) (1 : Int32)) fun bs79 =>
    if v0 < (0 : Int32) then
      (f_law_72 v1 v2 v0 bs79)
    else
      (f_law_72 v1 v2 (v0 &&& (3 : Int32)) bs79)
def f_law_17 (v0 : Int32) (v1 : Int32) (v2 : Int32) (t0 : Int32) (t1 : Int32) (bs_b1 : List Int32) : Option (Int32) :=
  own_ck (own_inb bs_b1 t1) <|
  own_lt (own_wr bs_b1 t1 (t0 &&& 1)) fun bs83 =>
  if (v2 &&& (2 : Int32)) = (0 : Int32) then
    own_ck (own_inb bs83 (1 : Int32)) <|
    own_lt (own_wr bs83 (1 : Int32) (0 : Int32)) fun bs85 =>
    if (v2 &&& (4 : Int32)) = (0 : Int32) then
      (f_law_45 v0 v1 v2 (0 : Int32) (2 : Int32) bs85)
    else
      (f_law_45 v0 v1 v2 (1 : Int32) (2 : Int32) bs85)
  else
    own_ck (own_inb bs83 (1 : Int32)) <|
    own_lt (own_wr bs83 (1 : Int32) (1 : Int32)) fun bs87 =>
    if (v2 &&& (4 : Int32)) = (0 : Int32) then
      (f_law_45 v0 v1 v2 (0 : Int32) (2 : Int32) bs87)
    else
      (f_law_45 v0 v1 v2 (1 : Int32) (2 : Int32) bs87)
def f_law (v0 : Int32) (v1 : Int32) (v2 : Int32) : Option (Int32) :=
  if (v2 &&& (1 : Int32)) = (0 : Int32) then
    (f_law_17 v0 v1 v2 (0 : Int32) (0 : Int32) ([(0 : Int32), (0 : Int32), (0 : Int32), (0 : Int32)] : List Int32))
  else
    (f_law_17 v0 v1 v2 (1 : Int32) (0 : Int32) ([(0 : Int32), (0 : Int32), (0 : Int32), (0 : Int32)] : List Int32))
def Q_law (Z : State) (hE : Heap) (n0 : Nat)  (r : Int32) (v : Option Value) (h : Heap) (L : List Loc) : Prop := v = some (.int r) ∧ Fr n0 L ∧ Keep hE h []
def Cx_law (p : Program) (s : State) (m : MethodId) (meth : Method) (c : Code) (Z : State) (a0 : Array Value) : Prop := p.tables.exec = Jvm.exec ∧ Z.Warmed39 s.vm ∧ (∀ d ∈ tables_1, d.before a0 Z = true) ∧ c.code = code ∧ c.maxLocals = 9 ∧ s.vm.findClass "com/example/rulr/rulr/SlotIsBoundPinLaw" = some m.cls ∧ meth.sig.returnType = some .boolean ∧ meth.locks = false ∧ meth.name = "law"
set_option maxRecDepth 65536 in
set_option maxHeartbeats 4000000 in
theorem b_law_187 {p : Program} {l : Launch} {e : Env} {s : State} {m : MethodId} {args : Array Value} {below : List Frame} {meth : Method} {c : Code} {Z : State} {a0 : Array Value} {n0 : Nat} {hE : Heap} (cx : Cx_law p s m meth c Z a0) :
    ∀ {T : State} {locs : List Loc} {h : Heap} (X : Stand p l e room_1 s m args below meth c T locs 2 6) (eT : T.heap = h) (N : Fr n0 locs) (K : Keep hE h []) (z : n0 ≤ h.size) (v6 : Int32) (v7 : Int32) (t0 : Int32) (t1 : Int32) (d0 : Slot) (d1 : Slot) (d2 : Slot) (d3 : Slot) (d4 : Slot) (d5 : Slot) (d8 : Slot) (o_d0 : One d0) (o_d1 : One d1) (o_d2 : One d2) (o_d3 : One d3) (o_d4 : One d4) (o_d5 : One d5) (o_d8 : One d8) (r : Int32), f_law_187 v6 v7 t0 t1 = some r → own_Goes p e below s (Q_law Z hE n0 r) 2 6 (T.setTop (mkF m 187 #[d0, d1, d2, d3, d4, d5, .val (.int v6), .val (.int v7), d8] [(.int t0), (.int t1)])) := by
  have cx' := cx
  obtain ⟨hx, hZ, hw, hby, hml, hown, hret, hlk, hnm⟩ := cx'
  intro T locs h X eT N K z v6 v7 t0 t1 d0 d1 d2 d3 d4 d5 d8 o_d0 o_d1 o_d2 o_d3 o_d4 o_d5 o_d8 r hF
  unfold f_law_187 at hF
  by_cases hc187 : t1 = t0
  · rw [if_pos hc187] at hF
    refine own_Goes.via (B := T.setTop (mkF m 201 #[d0, d1, d2, d3, d4, d5, .val (.int v6), .val (.int v7), .val (.int (1 : Int32))] [(.int v7), (.int v6)])) (fun t k => ?_) ?_
    · show Steps p.tables e below (T.setTop (mkF m 187 #[d0, d1, d2, d3, d4, d5, .val (.int v6), .val (.int v7), d8] [(.int t0), (.int t1)])) t
      refine XS.icmpNo X.here hx rfl (hb hby at_187) rfl (teq hc187).2 ?_
      show Steps p.tables e below (T.setTop (mkF m 190 #[d0, d1, d2, d3, d4, d5, .val (.int v6), .val (.int v7), d8] [])) t
      refine XS.iconst X.here hx rfl (hb hby at_190) ?_
      show Steps p.tables e below (T.setTop (mkF m 191 #[d0, d1, d2, d3, d4, d5, .val (.int v6), .val (.int v7), d8] [(.int (1 : Int32))])) t
      refine XS.goto X.here hx rfl (pc0 := 191) (pc' := 195) rfl (hb hby at_191) (by decide) (by decide) ?_
      show Steps p.tables e below (T.setTop (mkF m 195 #[d0, d1, d2, d3, d4, d5, .val (.int v6), .val (.int v7), d8] [(.int (1 : Int32))])) t
      refine XS.istoreS X.here hx rfl (hb hby at_195) rfl rfl o_d8 ?_
      show Steps p.tables e below (T.setTop (mkF m 197 #[d0, d1, d2, d3, d4, d5, .val (.int v6), .val (.int v7), .val (.int (1 : Int32))] [])) t
      refine XS.iload X.here hx rfl (hb hby at_197) rfl ?_
      show Steps p.tables e below (T.setTop (mkF m 199 #[d0, d1, d2, d3, d4, d5, .val (.int v6), .val (.int v7), .val (.int (1 : Int32))] [(.int v6)])) t
      refine XS.iload X.here hx rfl (hb hby at_199) rfl ?_
      exact k
    by_cases hc201 : v6 = v7
    · rw [if_pos hc201] at hF
      refine own_Goes.via (B := T.setTop (mkF m 214 #[d0, d1, d2, d3, d4, d5, .val (.int v6), .val (.int v7), .val (.int (1 : Int32))] [(.int (1 : Int32))])) (fun t k => ?_) ?_
      · show Steps p.tables e below (T.setTop (mkF m 201 #[d0, d1, d2, d3, d4, d5, .val (.int v6), .val (.int v7), .val (.int (1 : Int32))] [(.int v7), (.int v6)])) t
        refine XS.icmpNo X.here hx rfl (hb hby at_201) rfl (teq hc201).2 ?_
        show Steps p.tables e below (T.setTop (mkF m 204 #[d0, d1, d2, d3, d4, d5, .val (.int v6), .val (.int v7), .val (.int (1 : Int32))] [])) t
        refine XS.iload X.here hx rfl (hb hby at_204) rfl ?_
        show Steps p.tables e below (T.setTop (mkF m 206 #[d0, d1, d2, d3, d4, d5, .val (.int v6), .val (.int v7), .val (.int (1 : Int32))] [(.int (1 : Int32))])) t
        refine XS.ifNo X.here hx rfl (hb hby at_206) rfl ((if0 _ _).trans (feq (by decide : ¬ (1 : Int32) = (0 : Int32))).1) ?_
        show Steps p.tables e below (T.setTop (mkF m 209 #[d0, d1, d2, d3, d4, d5, .val (.int v6), .val (.int v7), .val (.int (1 : Int32))] [])) t
        refine XS.iconst X.here hx rfl (hb hby at_209) ?_
        show Steps p.tables e below (T.setTop (mkF m 210 #[d0, d1, d2, d3, d4, d5, .val (.int v6), .val (.int v7), .val (.int (1 : Int32))] [(.int (1 : Int32))])) t
        refine XS.goto X.here hx rfl (pc0 := 210) (pc' := 214) rfl (hb hby at_210) (by decide) (by decide) ?_
        exact k
      obtain rfl : (1 : Int32) = r := Option.some.inj hF
      exact own_retN X hx (t := .boolean) hret hlk (by simp) (hb hby at_214) eT (v := (1 : Int32)) (by decide) ⟨rfl, N, K⟩ (by decide) (by decide)
    · rw [if_neg hc201] at hF
      refine own_Goes.via (B := T.setTop (mkF m 214 #[d0, d1, d2, d3, d4, d5, .val (.int v6), .val (.int v7), .val (.int (1 : Int32))] [(.int (0 : Int32))])) (fun t k => ?_) ?_
      · show Steps p.tables e below (T.setTop (mkF m 201 #[d0, d1, d2, d3, d4, d5, .val (.int v6), .val (.int v7), .val (.int (1 : Int32))] [(.int v7), (.int v6)])) t
        refine XS.icmpYes X.here hx rfl (pc0 := 201) (pc' := 213) rfl (hb hby at_201) rfl (feq hc201).2 (by decide) (by decide) ?_
        show Steps p.tables e below (T.setTop (mkF m 213 #[d0, d1, d2, d3, d4, d5, .val (.int v6), .val (.int v7), .val (.int (1 : Int32))] [])) t
        refine XS.iconst X.here hx rfl (hb hby at_213) ?_
        exact k
      obtain rfl : (0 : Int32) = r := Option.some.inj hF
      exact own_retN X hx (t := .boolean) hret hlk (by simp) (hb hby at_214) eT (v := (0 : Int32)) (by decide) ⟨rfl, N, K⟩ (by decide) (by decide)
  · rw [if_neg hc187] at hF
    refine own_Goes.via (B := T.setTop (mkF m 201 #[d0, d1, d2, d3, d4, d5, .val (.int v6), .val (.int v7), .val (.int (0 : Int32))] [(.int v7), (.int v6)])) (fun t k => ?_) ?_
    · show Steps p.tables e below (T.setTop (mkF m 187 #[d0, d1, d2, d3, d4, d5, .val (.int v6), .val (.int v7), d8] [(.int t0), (.int t1)])) t
      refine XS.icmpYes X.here hx rfl (pc0 := 187) (pc' := 194) rfl (hb hby at_187) rfl (feq hc187).2 (by decide) (by decide) ?_
      show Steps p.tables e below (T.setTop (mkF m 194 #[d0, d1, d2, d3, d4, d5, .val (.int v6), .val (.int v7), d8] [])) t
      refine XS.iconst X.here hx rfl (hb hby at_194) ?_
      show Steps p.tables e below (T.setTop (mkF m 195 #[d0, d1, d2, d3, d4, d5, .val (.int v6), .val (.int v7), d8] [(.int (0 : Int32))])) t
      refine XS.istoreS X.here hx rfl (hb hby at_195) rfl rfl o_d8 ?_
      show Steps p.tables e below (T.setTop (mkF m 197 #[d0, d1, d2, d3, d4, d5, .val (.int v6), .val (.int v7), .val (.int (0 : Int32))] [])) t
      refine XS.iload X.here hx rfl (hb hby at_197) rfl ?_
      show Steps p.tables e below (T.setTop (mkF m 199 #[d0, d1, d2, d3, d4, d5, .val (.int v6), .val (.int v7), .val (.int (0 : Int32))] [(.int v6)])) t
      refine XS.iload X.here hx rfl (hb hby at_199) rfl ?_
      exact k
    by_cases hc201 : v6 = v7
    · rw [if_pos hc201] at hF
      refine own_Goes.via (B := T.setTop (mkF m 214 #[d0, d1, d2, d3, d4, d5, .val (.int v6), .val (.int v7), .val (.int (0 : Int32))] [(.int (0 : Int32))])) (fun t k => ?_) ?_
      · show Steps p.tables e below (T.setTop (mkF m 201 #[d0, d1, d2, d3, d4, d5, .val (.int v6), .val (.int v7), .val (.int (0 : Int32))] [(.int v7), (.int v6)])) t
        refine XS.icmpNo X.here hx rfl (hb hby at_201) rfl (teq hc201).2 ?_
        show Steps p.tables e below (T.setTop (mkF m 204 #[d0, d1, d2, d3, d4, d5, .val (.int v6), .val (.int v7), .val (.int (0 : Int32))] [])) t
        refine XS.iload X.here hx rfl (hb hby at_204) rfl ?_
        show Steps p.tables e below (T.setTop (mkF m 206 #[d0, d1, d2, d3, d4, d5, .val (.int v6), .val (.int v7), .val (.int (0 : Int32))] [(.int (0 : Int32))])) t
        refine XS.ifYes X.here hx rfl (pc0 := 206) (pc' := 213) rfl (hb hby at_206) rfl ((if0 _ _).trans (teq (by decide : (0 : Int32) = (0 : Int32))).1) (by decide) (by decide) ?_
        show Steps p.tables e below (T.setTop (mkF m 213 #[d0, d1, d2, d3, d4, d5, .val (.int v6), .val (.int v7), .val (.int (0 : Int32))] [])) t
        refine XS.iconst X.here hx rfl (hb hby at_213) ?_
        exact k
      obtain rfl : (0 : Int32) = r := Option.some.inj hF
      exact own_retN X hx (t := .boolean) hret hlk (by simp) (hb hby at_214) eT (v := (0 : Int32)) (by decide) ⟨rfl, N, K⟩ (by decide) (by decide)
    · rw [if_neg hc201] at hF
      refine own_Goes.via (B := T.setTop (mkF m 214 #[d0, d1, d2, d3, d4, d5, .val (.int v6), .val (.int v7), .val (.int (0 : Int32))] [(.int (0 : Int32))])) (fun t k => ?_) ?_
      · show Steps p.tables e below (T.setTop (mkF m 201 #[d0, d1, d2, d3, d4, d5, .val (.int v6), .val (.int v7), .val (.int (0 : Int32))] [(.int v7), (.int v6)])) t
        refine XS.icmpYes X.here hx rfl (pc0 := 201) (pc' := 213) rfl (hb hby at_201) rfl (feq hc201).2 (by decide) (by decide) ?_
        show Steps p.tables e below (T.setTop (mkF m 213 #[d0, d1, d2, d3, d4, d5, .val (.int v6), .val (.int v7), .val (.int (0 : Int32))] [])) t
        refine XS.iconst X.here hx rfl (hb hby at_213) ?_
        exact k
      obtain rfl : (0 : Int32) = r := Option.some.inj hF
      exact own_retN X hx (t := .boolean) hret hlk (by simp) (hb hby at_214) eT (v := (0 : Int32)) (by decide) ⟨rfl, N, K⟩ (by decide) (by decide)
set_option maxRecDepth 65536 in
set_option maxHeartbeats 4000000 in
theorem b_law_169 {p : Program} {l : Launch} {e : Env} {s : State} {m : MethodId} {args : Array Value} {below : List Frame} {meth : Method} {c : Code} {Z : State} {a0 : Array Value} {n0 : Nat} {hE : Heap} (cx : Cx_law p s m meth c Z a0) :
    ∀ {T : State} {locs : List Loc} {h : Heap} (X : Stand p l e room_1 s m args below meth c T locs 2 6) (eT : T.heap = h) (N : Fr n0 locs) (K : Keep hE h []) (z : n0 ≤ h.size) (b1 : Addr) (v2 : Int32) (v6 : Int32) (v7 : Int32) (t0 : Int32) (t1 : Int32) (bs_b1 : List Int32) (d0 : Slot) (d1 : Slot) (d4 : Slot) (d5 : Slot) (d8 : Slot) (o_d0 : One d0) (o_d1 : One d1) (o_d4 : One d4) (o_d5 : One d5) (o_d8 : One d8) (A_b1 : own_Ar Z h b1 .boolean (bs_b1.map Value.int)) (g_b1 : n0 ≤ b1) (nE_b1 : hE.size ≤ b1) (r : Int32), f_law_169 v2 v6 v7 t0 t1 bs_b1 = some r → own_Goes p e below s (Q_law Z hE n0 r) 2 6 (T.setTop (mkF m 169 #[d0, d1, .val (.int v2), .val (.ref b1), d4, d5, .val (.int v6), .val (.int v7), d8] [(.int t0), (.int t1)])) := by
  have cx' := cx
  obtain ⟨hx, hZ, hw, hby, hml, hown, hret, hlk, hnm⟩ := cx'
  intro T locs h X eT N K z b1 v2 v6 v7 t0 t1 bs_b1 d0 d1 d4 d5 d8 o_d0 o_d1 o_d4 o_d5 o_d8 A_b1 g_b1 nE_b1 r hF
  unfold f_law_169 at hF
  by_cases hc169 : t1 = t0
  · rw [if_pos hc169] at hF
    refine own_Goes.via (B := T.setTop (mkF m 174 #[d0, d1, .val (.int v2), .val (.ref b1), d4, d5, .val (.int v6), .val (.int v7), d8] [(.int (3 : Int32)), (.ref b1)])) (fun t k => ?_) ?_
    · show Steps p.tables e below (T.setTop (mkF m 169 #[d0, d1, .val (.int v2), .val (.ref b1), d4, d5, .val (.int v6), .val (.int v7), d8] [(.int t0), (.int t1)])) t
      refine XS.icmpNo X.here hx rfl (hb hby at_169) rfl (teq hc169).2 ?_
      show Steps p.tables e below (T.setTop (mkF m 172 #[d0, d1, .val (.int v2), .val (.ref b1), d4, d5, .val (.int v6), .val (.int v7), d8] [])) t
      refine XS.aloadN X.here hx rfl (hb hby at_172) rfl rfl ?_
      show Steps p.tables e below (T.setTop (mkF m 173 #[d0, d1, .val (.int v2), .val (.ref b1), d4, d5, .val (.int v6), .val (.int v7), d8] [(.ref b1)])) t
      refine XS.iconst X.here hx rfl (hb hby at_173) ?_
      exact k
    obtain ⟨hi174, hF⟩ := own_ck_e hF
    refine own_Goes.via (B := T.setTop (mkF m 179 #[d0, d1, .val (.int v2), .val (.ref b1), d4, d5, .val (.int v6), .val (.int v7), d8] [(.int (v2 &&& (8 : Int32))), (.int (own_rd bs_b1 (3 : Int32)))])) (fun t k => ?_) ?_
    · show Steps p.tables e below (T.setTop (mkF m 174 #[d0, d1, .val (.int v2), .val (.ref b1), d4, d5, .val (.int v6), .val (.int v7), d8] [(.int (3 : Int32)), (.ref b1)])) t
      refine own_ldZ X hx hZ eT A_b1 hi174 rfl (g := (mkF m 174 #[d0, d1, .val (.int v2), .val (.ref b1), d4, d5, .val (.int v6), .val (.int v7), d8] [(.int (3 : Int32)), (.ref b1)])) rfl rfl (hb hby at_174) ?_
      show Steps p.tables e below (T.setTop (mkF m 175 #[d0, d1, .val (.int v2), .val (.ref b1), d4, d5, .val (.int v6), .val (.int v7), d8] [(.int (own_rd bs_b1 (3 : Int32)))])) t
      refine XS.iloadN X.here hx rfl (hb hby at_175) rfl ?_
      show Steps p.tables e below (T.setTop (mkF m 176 #[d0, d1, .val (.int v2), .val (.ref b1), d4, d5, .val (.int v6), .val (.int v7), d8] [(.int v2), (.int (own_rd bs_b1 (3 : Int32)))])) t
      refine XS.bipush X.here hx rfl (hb hby at_176) ?_
      show Steps p.tables e below (T.setTop (mkF m 178 #[d0, d1, .val (.int v2), .val (.ref b1), d4, d5, .val (.int v6), .val (.int v7), d8] [(.int (8 : Int32)), (.int v2), (.int (own_rd bs_b1 (3 : Int32)))])) t
      refine XS.iand X.here hx rfl (hb hby at_178) rfl ?_
      exact k
    by_cases hc179 : (v2 &&& (8 : Int32)) = (0 : Int32)
    · rw [if_pos hc179] at hF
      refine own_Goes.via (B := T.setTop (mkF m 187 #[d0, d1, .val (.int v2), .val (.ref b1), d4, d5, .val (.int v6), .val (.int v7), d8] [(.int (0 : Int32)), (.int (own_rd bs_b1 (3 : Int32)))])) (fun t k => ?_) ?_
      · show Steps p.tables e below (T.setTop (mkF m 179 #[d0, d1, .val (.int v2), .val (.ref b1), d4, d5, .val (.int v6), .val (.int v7), d8] [(.int (v2 &&& (8 : Int32))), (.int (own_rd bs_b1 (3 : Int32)))])) t
        refine XS.ifYes X.here hx rfl (pc0 := 179) (pc' := 186) rfl (hb hby at_179) rfl ((if0 _ _).trans (teq hc179).1) (by decide) (by decide) ?_
        show Steps p.tables e below (T.setTop (mkF m 186 #[d0, d1, .val (.int v2), .val (.ref b1), d4, d5, .val (.int v6), .val (.int v7), d8] [(.int (own_rd bs_b1 (3 : Int32)))])) t
        refine XS.iconst X.here hx rfl (hb hby at_186) ?_
        exact k
      exact b_law_187 cx X eT N K z v6 v7 (0 : Int32) (own_rd bs_b1 (3 : Int32)) d0 d1 (.val (.int v2)) (.val (.ref b1)) d4 d5 d8 o_d0 o_d1 (One.val rfl) (One.val rfl) o_d4 o_d5 o_d8 _ hF
    · rw [if_neg hc179] at hF
      refine own_Goes.via (B := T.setTop (mkF m 187 #[d0, d1, .val (.int v2), .val (.ref b1), d4, d5, .val (.int v6), .val (.int v7), d8] [(.int (1 : Int32)), (.int (own_rd bs_b1 (3 : Int32)))])) (fun t k => ?_) ?_
      · show Steps p.tables e below (T.setTop (mkF m 179 #[d0, d1, .val (.int v2), .val (.ref b1), d4, d5, .val (.int v6), .val (.int v7), d8] [(.int (v2 &&& (8 : Int32))), (.int (own_rd bs_b1 (3 : Int32)))])) t
        refine XS.ifNo X.here hx rfl (hb hby at_179) rfl ((if0 _ _).trans (feq hc179).1) ?_
        show Steps p.tables e below (T.setTop (mkF m 182 #[d0, d1, .val (.int v2), .val (.ref b1), d4, d5, .val (.int v6), .val (.int v7), d8] [(.int (own_rd bs_b1 (3 : Int32)))])) t
        refine XS.iconst X.here hx rfl (hb hby at_182) ?_
        show Steps p.tables e below (T.setTop (mkF m 183 #[d0, d1, .val (.int v2), .val (.ref b1), d4, d5, .val (.int v6), .val (.int v7), d8] [(.int (1 : Int32)), (.int (own_rd bs_b1 (3 : Int32)))])) t
        refine XS.goto X.here hx rfl (pc0 := 183) (pc' := 187) rfl (hb hby at_183) (by decide) (by decide) ?_
        exact k
      exact b_law_187 cx X eT N K z v6 v7 (1 : Int32) (own_rd bs_b1 (3 : Int32)) d0 d1 (.val (.int v2)) (.val (.ref b1)) d4 d5 d8 o_d0 o_d1 (One.val rfl) (One.val rfl) o_d4 o_d5 o_d8 _ hF
  · rw [if_neg hc169] at hF
    refine own_Goes.via (B := T.setTop (mkF m 201 #[d0, d1, .val (.int v2), .val (.ref b1), d4, d5, .val (.int v6), .val (.int v7), .val (.int (0 : Int32))] [(.int v7), (.int v6)])) (fun t k => ?_) ?_
    · show Steps p.tables e below (T.setTop (mkF m 169 #[d0, d1, .val (.int v2), .val (.ref b1), d4, d5, .val (.int v6), .val (.int v7), d8] [(.int t0), (.int t1)])) t
      refine XS.icmpYes X.here hx rfl (pc0 := 169) (pc' := 194) rfl (hb hby at_169) rfl (feq hc169).2 (by decide) (by decide) ?_
      show Steps p.tables e below (T.setTop (mkF m 194 #[d0, d1, .val (.int v2), .val (.ref b1), d4, d5, .val (.int v6), .val (.int v7), d8] [])) t
      refine XS.iconst X.here hx rfl (hb hby at_194) ?_
      show Steps p.tables e below (T.setTop (mkF m 195 #[d0, d1, .val (.int v2), .val (.ref b1), d4, d5, .val (.int v6), .val (.int v7), d8] [(.int (0 : Int32))])) t
      refine XS.istoreS X.here hx rfl (hb hby at_195) rfl rfl o_d8 ?_
      show Steps p.tables e below (T.setTop (mkF m 197 #[d0, d1, .val (.int v2), .val (.ref b1), d4, d5, .val (.int v6), .val (.int v7), .val (.int (0 : Int32))] [])) t
      refine XS.iload X.here hx rfl (hb hby at_197) rfl ?_
      show Steps p.tables e below (T.setTop (mkF m 199 #[d0, d1, .val (.int v2), .val (.ref b1), d4, d5, .val (.int v6), .val (.int v7), .val (.int (0 : Int32))] [(.int v6)])) t
      refine XS.iload X.here hx rfl (hb hby at_199) rfl ?_
      exact k
    by_cases hc201 : v6 = v7
    · rw [if_pos hc201] at hF
      refine own_Goes.via (B := T.setTop (mkF m 214 #[d0, d1, .val (.int v2), .val (.ref b1), d4, d5, .val (.int v6), .val (.int v7), .val (.int (0 : Int32))] [(.int (0 : Int32))])) (fun t k => ?_) ?_
      · show Steps p.tables e below (T.setTop (mkF m 201 #[d0, d1, .val (.int v2), .val (.ref b1), d4, d5, .val (.int v6), .val (.int v7), .val (.int (0 : Int32))] [(.int v7), (.int v6)])) t
        refine XS.icmpNo X.here hx rfl (hb hby at_201) rfl (teq hc201).2 ?_
        show Steps p.tables e below (T.setTop (mkF m 204 #[d0, d1, .val (.int v2), .val (.ref b1), d4, d5, .val (.int v6), .val (.int v7), .val (.int (0 : Int32))] [])) t
        refine XS.iload X.here hx rfl (hb hby at_204) rfl ?_
        show Steps p.tables e below (T.setTop (mkF m 206 #[d0, d1, .val (.int v2), .val (.ref b1), d4, d5, .val (.int v6), .val (.int v7), .val (.int (0 : Int32))] [(.int (0 : Int32))])) t
        refine XS.ifYes X.here hx rfl (pc0 := 206) (pc' := 213) rfl (hb hby at_206) rfl ((if0 _ _).trans (teq (by decide : (0 : Int32) = (0 : Int32))).1) (by decide) (by decide) ?_
        show Steps p.tables e below (T.setTop (mkF m 213 #[d0, d1, .val (.int v2), .val (.ref b1), d4, d5, .val (.int v6), .val (.int v7), .val (.int (0 : Int32))] [])) t
        refine XS.iconst X.here hx rfl (hb hby at_213) ?_
        exact k
      obtain rfl : (0 : Int32) = r := Option.some.inj hF
      exact own_retN X hx (t := .boolean) hret hlk (by simp) (hb hby at_214) eT (v := (0 : Int32)) (by decide) ⟨rfl, N, K⟩ (by decide) (by decide)
    · rw [if_neg hc201] at hF
      refine own_Goes.via (B := T.setTop (mkF m 214 #[d0, d1, .val (.int v2), .val (.ref b1), d4, d5, .val (.int v6), .val (.int v7), .val (.int (0 : Int32))] [(.int (0 : Int32))])) (fun t k => ?_) ?_
      · show Steps p.tables e below (T.setTop (mkF m 201 #[d0, d1, .val (.int v2), .val (.ref b1), d4, d5, .val (.int v6), .val (.int v7), .val (.int (0 : Int32))] [(.int v7), (.int v6)])) t
        refine XS.icmpYes X.here hx rfl (pc0 := 201) (pc' := 213) rfl (hb hby at_201) rfl (feq hc201).2 (by decide) (by decide) ?_
        show Steps p.tables e below (T.setTop (mkF m 213 #[d0, d1, .val (.int v2), .val (.ref b1), d4, d5, .val (.int v6), .val (.int v7), .val (.int (0 : Int32))] [])) t
        refine XS.iconst X.here hx rfl (hb hby at_213) ?_
        exact k
      obtain rfl : (0 : Int32) = r := Option.some.inj hF
      exact own_retN X hx (t := .boolean) hret hlk (by simp) (hb hby at_214) eT (v := (0 : Int32)) (by decide) ⟨rfl, N, K⟩ (by decide) (by decide)
set_option maxRecDepth 65536 in
set_option maxHeartbeats 4000000 in
theorem b_law_152 {p : Program} {l : Launch} {e : Env} {s : State} {m : MethodId} {args : Array Value} {below : List Frame} {meth : Method} {c : Code} {Z : State} {a0 : Array Value} {n0 : Nat} {hE : Heap} (cx : Cx_law p s m meth c Z a0) :
    ∀ {T : State} {locs : List Loc} {h : Heap} (X : Stand p l e room_1 s m args below meth c T locs 2 6) (eT : T.heap = h) (N : Fr n0 locs) (K : Keep hE h []) (z : n0 ≤ h.size) (b1 : Addr) (v2 : Int32) (v6 : Int32) (v7 : Int32) (t0 : Int32) (t1 : Int32) (bs_b1 : List Int32) (d0 : Slot) (d1 : Slot) (d4 : Slot) (d5 : Slot) (d8 : Slot) (o_d0 : One d0) (o_d1 : One d1) (o_d4 : One d4) (o_d5 : One d5) (o_d8 : One d8) (A_b1 : own_Ar Z h b1 .boolean (bs_b1.map Value.int)) (g_b1 : n0 ≤ b1) (nE_b1 : hE.size ≤ b1) (r : Int32), f_law_152 v2 v6 v7 t0 t1 bs_b1 = some r → own_Goes p e below s (Q_law Z hE n0 r) 2 6 (T.setTop (mkF m 152 #[d0, d1, .val (.int v2), .val (.ref b1), d4, d5, .val (.int v6), .val (.int v7), d8] [(.int t0), (.int t1)])) := by
  have cx' := cx
  obtain ⟨hx, hZ, hw, hby, hml, hown, hret, hlk, hnm⟩ := cx'
  intro T locs h X eT N K z b1 v2 v6 v7 t0 t1 bs_b1 d0 d1 d4 d5 d8 o_d0 o_d1 o_d4 o_d5 o_d8 A_b1 g_b1 nE_b1 r hF
  unfold f_law_152 at hF
  by_cases hc152 : t1 = t0
  · rw [if_pos hc152] at hF
    refine own_Goes.via (B := T.setTop (mkF m 157 #[d0, d1, .val (.int v2), .val (.ref b1), d4, d5, .val (.int v6), .val (.int v7), d8] [(.int (2 : Int32)), (.ref b1)])) (fun t k => ?_) ?_
    · show Steps p.tables e below (T.setTop (mkF m 152 #[d0, d1, .val (.int v2), .val (.ref b1), d4, d5, .val (.int v6), .val (.int v7), d8] [(.int t0), (.int t1)])) t
      refine XS.icmpNo X.here hx rfl (hb hby at_152) rfl (teq hc152).2 ?_
      show Steps p.tables e below (T.setTop (mkF m 155 #[d0, d1, .val (.int v2), .val (.ref b1), d4, d5, .val (.int v6), .val (.int v7), d8] [])) t
      refine XS.aloadN X.here hx rfl (hb hby at_155) rfl rfl ?_
      show Steps p.tables e below (T.setTop (mkF m 156 #[d0, d1, .val (.int v2), .val (.ref b1), d4, d5, .val (.int v6), .val (.int v7), d8] [(.ref b1)])) t
      refine XS.iconst X.here hx rfl (hb hby at_156) ?_
      exact k
    obtain ⟨hi157, hF⟩ := own_ck_e hF
    refine own_Goes.via (B := T.setTop (mkF m 161 #[d0, d1, .val (.int v2), .val (.ref b1), d4, d5, .val (.int v6), .val (.int v7), d8] [(.int (v2 &&& (4 : Int32))), (.int (own_rd bs_b1 (2 : Int32)))])) (fun t k => ?_) ?_
    · show Steps p.tables e below (T.setTop (mkF m 157 #[d0, d1, .val (.int v2), .val (.ref b1), d4, d5, .val (.int v6), .val (.int v7), d8] [(.int (2 : Int32)), (.ref b1)])) t
      refine own_ldZ X hx hZ eT A_b1 hi157 rfl (g := (mkF m 157 #[d0, d1, .val (.int v2), .val (.ref b1), d4, d5, .val (.int v6), .val (.int v7), d8] [(.int (2 : Int32)), (.ref b1)])) rfl rfl (hb hby at_157) ?_
      show Steps p.tables e below (T.setTop (mkF m 158 #[d0, d1, .val (.int v2), .val (.ref b1), d4, d5, .val (.int v6), .val (.int v7), d8] [(.int (own_rd bs_b1 (2 : Int32)))])) t
      refine XS.iloadN X.here hx rfl (hb hby at_158) rfl ?_
      show Steps p.tables e below (T.setTop (mkF m 159 #[d0, d1, .val (.int v2), .val (.ref b1), d4, d5, .val (.int v6), .val (.int v7), d8] [(.int v2), (.int (own_rd bs_b1 (2 : Int32)))])) t
      refine XS.iconst X.here hx rfl (hb hby at_159) ?_
      show Steps p.tables e below (T.setTop (mkF m 160 #[d0, d1, .val (.int v2), .val (.ref b1), d4, d5, .val (.int v6), .val (.int v7), d8] [(.int (4 : Int32)), (.int v2), (.int (own_rd bs_b1 (2 : Int32)))])) t
      refine XS.iand X.here hx rfl (hb hby at_160) rfl ?_
      exact k
    by_cases hc161 : (v2 &&& (4 : Int32)) = (0 : Int32)
    · rw [if_pos hc161] at hF
      refine own_Goes.via (B := T.setTop (mkF m 169 #[d0, d1, .val (.int v2), .val (.ref b1), d4, d5, .val (.int v6), .val (.int v7), d8] [(.int (0 : Int32)), (.int (own_rd bs_b1 (2 : Int32)))])) (fun t k => ?_) ?_
      · show Steps p.tables e below (T.setTop (mkF m 161 #[d0, d1, .val (.int v2), .val (.ref b1), d4, d5, .val (.int v6), .val (.int v7), d8] [(.int (v2 &&& (4 : Int32))), (.int (own_rd bs_b1 (2 : Int32)))])) t
        refine XS.ifYes X.here hx rfl (pc0 := 161) (pc' := 168) rfl (hb hby at_161) rfl ((if0 _ _).trans (teq hc161).1) (by decide) (by decide) ?_
        show Steps p.tables e below (T.setTop (mkF m 168 #[d0, d1, .val (.int v2), .val (.ref b1), d4, d5, .val (.int v6), .val (.int v7), d8] [(.int (own_rd bs_b1 (2 : Int32)))])) t
        refine XS.iconst X.here hx rfl (hb hby at_168) ?_
        exact k
      exact b_law_169 cx X eT N K z b1 v2 v6 v7 (0 : Int32) (own_rd bs_b1 (2 : Int32)) bs_b1 d0 d1 d4 d5 d8 o_d0 o_d1 o_d4 o_d5 o_d8 A_b1 g_b1 nE_b1 _ hF
    · rw [if_neg hc161] at hF
      refine own_Goes.via (B := T.setTop (mkF m 169 #[d0, d1, .val (.int v2), .val (.ref b1), d4, d5, .val (.int v6), .val (.int v7), d8] [(.int (1 : Int32)), (.int (own_rd bs_b1 (2 : Int32)))])) (fun t k => ?_) ?_
      · show Steps p.tables e below (T.setTop (mkF m 161 #[d0, d1, .val (.int v2), .val (.ref b1), d4, d5, .val (.int v6), .val (.int v7), d8] [(.int (v2 &&& (4 : Int32))), (.int (own_rd bs_b1 (2 : Int32)))])) t
        refine XS.ifNo X.here hx rfl (hb hby at_161) rfl ((if0 _ _).trans (feq hc161).1) ?_
        show Steps p.tables e below (T.setTop (mkF m 164 #[d0, d1, .val (.int v2), .val (.ref b1), d4, d5, .val (.int v6), .val (.int v7), d8] [(.int (own_rd bs_b1 (2 : Int32)))])) t
        refine XS.iconst X.here hx rfl (hb hby at_164) ?_
        show Steps p.tables e below (T.setTop (mkF m 165 #[d0, d1, .val (.int v2), .val (.ref b1), d4, d5, .val (.int v6), .val (.int v7), d8] [(.int (1 : Int32)), (.int (own_rd bs_b1 (2 : Int32)))])) t
        refine XS.goto X.here hx rfl (pc0 := 165) (pc' := 169) rfl (hb hby at_165) (by decide) (by decide) ?_
        exact k
      exact b_law_169 cx X eT N K z b1 v2 v6 v7 (1 : Int32) (own_rd bs_b1 (2 : Int32)) bs_b1 d0 d1 d4 d5 d8 o_d0 o_d1 o_d4 o_d5 o_d8 A_b1 g_b1 nE_b1 _ hF
  · rw [if_neg hc152] at hF
    refine own_Goes.via (B := T.setTop (mkF m 201 #[d0, d1, .val (.int v2), .val (.ref b1), d4, d5, .val (.int v6), .val (.int v7), .val (.int (0 : Int32))] [(.int v7), (.int v6)])) (fun t k => ?_) ?_
    · show Steps p.tables e below (T.setTop (mkF m 152 #[d0, d1, .val (.int v2), .val (.ref b1), d4, d5, .val (.int v6), .val (.int v7), d8] [(.int t0), (.int t1)])) t
      refine XS.icmpYes X.here hx rfl (pc0 := 152) (pc' := 194) rfl (hb hby at_152) rfl (feq hc152).2 (by decide) (by decide) ?_
      show Steps p.tables e below (T.setTop (mkF m 194 #[d0, d1, .val (.int v2), .val (.ref b1), d4, d5, .val (.int v6), .val (.int v7), d8] [])) t
      refine XS.iconst X.here hx rfl (hb hby at_194) ?_
      show Steps p.tables e below (T.setTop (mkF m 195 #[d0, d1, .val (.int v2), .val (.ref b1), d4, d5, .val (.int v6), .val (.int v7), d8] [(.int (0 : Int32))])) t
      refine XS.istoreS X.here hx rfl (hb hby at_195) rfl rfl o_d8 ?_
      show Steps p.tables e below (T.setTop (mkF m 197 #[d0, d1, .val (.int v2), .val (.ref b1), d4, d5, .val (.int v6), .val (.int v7), .val (.int (0 : Int32))] [])) t
      refine XS.iload X.here hx rfl (hb hby at_197) rfl ?_
      show Steps p.tables e below (T.setTop (mkF m 199 #[d0, d1, .val (.int v2), .val (.ref b1), d4, d5, .val (.int v6), .val (.int v7), .val (.int (0 : Int32))] [(.int v6)])) t
      refine XS.iload X.here hx rfl (hb hby at_199) rfl ?_
      exact k
    by_cases hc201 : v6 = v7
    · rw [if_pos hc201] at hF
      refine own_Goes.via (B := T.setTop (mkF m 214 #[d0, d1, .val (.int v2), .val (.ref b1), d4, d5, .val (.int v6), .val (.int v7), .val (.int (0 : Int32))] [(.int (0 : Int32))])) (fun t k => ?_) ?_
      · show Steps p.tables e below (T.setTop (mkF m 201 #[d0, d1, .val (.int v2), .val (.ref b1), d4, d5, .val (.int v6), .val (.int v7), .val (.int (0 : Int32))] [(.int v7), (.int v6)])) t
        refine XS.icmpNo X.here hx rfl (hb hby at_201) rfl (teq hc201).2 ?_
        show Steps p.tables e below (T.setTop (mkF m 204 #[d0, d1, .val (.int v2), .val (.ref b1), d4, d5, .val (.int v6), .val (.int v7), .val (.int (0 : Int32))] [])) t
        refine XS.iload X.here hx rfl (hb hby at_204) rfl ?_
        show Steps p.tables e below (T.setTop (mkF m 206 #[d0, d1, .val (.int v2), .val (.ref b1), d4, d5, .val (.int v6), .val (.int v7), .val (.int (0 : Int32))] [(.int (0 : Int32))])) t
        refine XS.ifYes X.here hx rfl (pc0 := 206) (pc' := 213) rfl (hb hby at_206) rfl ((if0 _ _).trans (teq (by decide : (0 : Int32) = (0 : Int32))).1) (by decide) (by decide) ?_
        show Steps p.tables e below (T.setTop (mkF m 213 #[d0, d1, .val (.int v2), .val (.ref b1), d4, d5, .val (.int v6), .val (.int v7), .val (.int (0 : Int32))] [])) t
        refine XS.iconst X.here hx rfl (hb hby at_213) ?_
        exact k
      obtain rfl : (0 : Int32) = r := Option.some.inj hF
      exact own_retN X hx (t := .boolean) hret hlk (by simp) (hb hby at_214) eT (v := (0 : Int32)) (by decide) ⟨rfl, N, K⟩ (by decide) (by decide)
    · rw [if_neg hc201] at hF
      refine own_Goes.via (B := T.setTop (mkF m 214 #[d0, d1, .val (.int v2), .val (.ref b1), d4, d5, .val (.int v6), .val (.int v7), .val (.int (0 : Int32))] [(.int (0 : Int32))])) (fun t k => ?_) ?_
      · show Steps p.tables e below (T.setTop (mkF m 201 #[d0, d1, .val (.int v2), .val (.ref b1), d4, d5, .val (.int v6), .val (.int v7), .val (.int (0 : Int32))] [(.int v7), (.int v6)])) t
        refine XS.icmpYes X.here hx rfl (pc0 := 201) (pc' := 213) rfl (hb hby at_201) rfl (feq hc201).2 (by decide) (by decide) ?_
        show Steps p.tables e below (T.setTop (mkF m 213 #[d0, d1, .val (.int v2), .val (.ref b1), d4, d5, .val (.int v6), .val (.int v7), .val (.int (0 : Int32))] [])) t
        refine XS.iconst X.here hx rfl (hb hby at_213) ?_
        exact k
      obtain rfl : (0 : Int32) = r := Option.some.inj hF
      exact own_retN X hx (t := .boolean) hret hlk (by simp) (hb hby at_214) eT (v := (0 : Int32)) (by decide) ⟨rfl, N, K⟩ (by decide) (by decide)
set_option maxRecDepth 65536 in
set_option maxHeartbeats 4000000 in
theorem b_law_135 {p : Program} {l : Launch} {e : Env} {s : State} {m : MethodId} {args : Array Value} {below : List Frame} {meth : Method} {c : Code} {Z : State} {a0 : Array Value} {n0 : Nat} {hE : Heap} (cx : Cx_law p s m meth c Z a0) :
    ∀ {T : State} {locs : List Loc} {h : Heap} (X : Stand p l e room_1 s m args below meth c T locs 2 6) (eT : T.heap = h) (N : Fr n0 locs) (K : Keep hE h []) (z : n0 ≤ h.size) (b1 : Addr) (v2 : Int32) (v6 : Int32) (v7 : Int32) (t0 : Int32) (t1 : Int32) (bs_b1 : List Int32) (d0 : Slot) (d1 : Slot) (d4 : Slot) (d5 : Slot) (d8 : Slot) (o_d0 : One d0) (o_d1 : One d1) (o_d4 : One d4) (o_d5 : One d5) (o_d8 : One d8) (A_b1 : own_Ar Z h b1 .boolean (bs_b1.map Value.int)) (g_b1 : n0 ≤ b1) (nE_b1 : hE.size ≤ b1) (r : Int32), f_law_135 v2 v6 v7 t0 t1 bs_b1 = some r → own_Goes p e below s (Q_law Z hE n0 r) 2 6 (T.setTop (mkF m 135 #[d0, d1, .val (.int v2), .val (.ref b1), d4, d5, .val (.int v6), .val (.int v7), d8] [(.int t0), (.int t1)])) := by
  have cx' := cx
  obtain ⟨hx, hZ, hw, hby, hml, hown, hret, hlk, hnm⟩ := cx'
  intro T locs h X eT N K z b1 v2 v6 v7 t0 t1 bs_b1 d0 d1 d4 d5 d8 o_d0 o_d1 o_d4 o_d5 o_d8 A_b1 g_b1 nE_b1 r hF
  unfold f_law_135 at hF
  by_cases hc135 : t1 = t0
  · rw [if_pos hc135] at hF
    refine own_Goes.via (B := T.setTop (mkF m 140 #[d0, d1, .val (.int v2), .val (.ref b1), d4, d5, .val (.int v6), .val (.int v7), d8] [(.int (1 : Int32)), (.ref b1)])) (fun t k => ?_) ?_
    · show Steps p.tables e below (T.setTop (mkF m 135 #[d0, d1, .val (.int v2), .val (.ref b1), d4, d5, .val (.int v6), .val (.int v7), d8] [(.int t0), (.int t1)])) t
      refine XS.icmpNo X.here hx rfl (hb hby at_135) rfl (teq hc135).2 ?_
      show Steps p.tables e below (T.setTop (mkF m 138 #[d0, d1, .val (.int v2), .val (.ref b1), d4, d5, .val (.int v6), .val (.int v7), d8] [])) t
      refine XS.aloadN X.here hx rfl (hb hby at_138) rfl rfl ?_
      show Steps p.tables e below (T.setTop (mkF m 139 #[d0, d1, .val (.int v2), .val (.ref b1), d4, d5, .val (.int v6), .val (.int v7), d8] [(.ref b1)])) t
      refine XS.iconst X.here hx rfl (hb hby at_139) ?_
      exact k
    obtain ⟨hi140, hF⟩ := own_ck_e hF
    refine own_Goes.via (B := T.setTop (mkF m 144 #[d0, d1, .val (.int v2), .val (.ref b1), d4, d5, .val (.int v6), .val (.int v7), d8] [(.int (v2 &&& (2 : Int32))), (.int (own_rd bs_b1 (1 : Int32)))])) (fun t k => ?_) ?_
    · show Steps p.tables e below (T.setTop (mkF m 140 #[d0, d1, .val (.int v2), .val (.ref b1), d4, d5, .val (.int v6), .val (.int v7), d8] [(.int (1 : Int32)), (.ref b1)])) t
      refine own_ldZ X hx hZ eT A_b1 hi140 rfl (g := (mkF m 140 #[d0, d1, .val (.int v2), .val (.ref b1), d4, d5, .val (.int v6), .val (.int v7), d8] [(.int (1 : Int32)), (.ref b1)])) rfl rfl (hb hby at_140) ?_
      show Steps p.tables e below (T.setTop (mkF m 141 #[d0, d1, .val (.int v2), .val (.ref b1), d4, d5, .val (.int v6), .val (.int v7), d8] [(.int (own_rd bs_b1 (1 : Int32)))])) t
      refine XS.iloadN X.here hx rfl (hb hby at_141) rfl ?_
      show Steps p.tables e below (T.setTop (mkF m 142 #[d0, d1, .val (.int v2), .val (.ref b1), d4, d5, .val (.int v6), .val (.int v7), d8] [(.int v2), (.int (own_rd bs_b1 (1 : Int32)))])) t
      refine XS.iconst X.here hx rfl (hb hby at_142) ?_
      show Steps p.tables e below (T.setTop (mkF m 143 #[d0, d1, .val (.int v2), .val (.ref b1), d4, d5, .val (.int v6), .val (.int v7), d8] [(.int (2 : Int32)), (.int v2), (.int (own_rd bs_b1 (1 : Int32)))])) t
      refine XS.iand X.here hx rfl (hb hby at_143) rfl ?_
      exact k
    by_cases hc144 : (v2 &&& (2 : Int32)) = (0 : Int32)
    · rw [if_pos hc144] at hF
      refine own_Goes.via (B := T.setTop (mkF m 152 #[d0, d1, .val (.int v2), .val (.ref b1), d4, d5, .val (.int v6), .val (.int v7), d8] [(.int (0 : Int32)), (.int (own_rd bs_b1 (1 : Int32)))])) (fun t k => ?_) ?_
      · show Steps p.tables e below (T.setTop (mkF m 144 #[d0, d1, .val (.int v2), .val (.ref b1), d4, d5, .val (.int v6), .val (.int v7), d8] [(.int (v2 &&& (2 : Int32))), (.int (own_rd bs_b1 (1 : Int32)))])) t
        refine XS.ifYes X.here hx rfl (pc0 := 144) (pc' := 151) rfl (hb hby at_144) rfl ((if0 _ _).trans (teq hc144).1) (by decide) (by decide) ?_
        show Steps p.tables e below (T.setTop (mkF m 151 #[d0, d1, .val (.int v2), .val (.ref b1), d4, d5, .val (.int v6), .val (.int v7), d8] [(.int (own_rd bs_b1 (1 : Int32)))])) t
        refine XS.iconst X.here hx rfl (hb hby at_151) ?_
        exact k
      exact b_law_152 cx X eT N K z b1 v2 v6 v7 (0 : Int32) (own_rd bs_b1 (1 : Int32)) bs_b1 d0 d1 d4 d5 d8 o_d0 o_d1 o_d4 o_d5 o_d8 A_b1 g_b1 nE_b1 _ hF
    · rw [if_neg hc144] at hF
      refine own_Goes.via (B := T.setTop (mkF m 152 #[d0, d1, .val (.int v2), .val (.ref b1), d4, d5, .val (.int v6), .val (.int v7), d8] [(.int (1 : Int32)), (.int (own_rd bs_b1 (1 : Int32)))])) (fun t k => ?_) ?_
      · show Steps p.tables e below (T.setTop (mkF m 144 #[d0, d1, .val (.int v2), .val (.ref b1), d4, d5, .val (.int v6), .val (.int v7), d8] [(.int (v2 &&& (2 : Int32))), (.int (own_rd bs_b1 (1 : Int32)))])) t
        refine XS.ifNo X.here hx rfl (hb hby at_144) rfl ((if0 _ _).trans (feq hc144).1) ?_
        show Steps p.tables e below (T.setTop (mkF m 147 #[d0, d1, .val (.int v2), .val (.ref b1), d4, d5, .val (.int v6), .val (.int v7), d8] [(.int (own_rd bs_b1 (1 : Int32)))])) t
        refine XS.iconst X.here hx rfl (hb hby at_147) ?_
        show Steps p.tables e below (T.setTop (mkF m 148 #[d0, d1, .val (.int v2), .val (.ref b1), d4, d5, .val (.int v6), .val (.int v7), d8] [(.int (1 : Int32)), (.int (own_rd bs_b1 (1 : Int32)))])) t
        refine XS.goto X.here hx rfl (pc0 := 148) (pc' := 152) rfl (hb hby at_148) (by decide) (by decide) ?_
        exact k
      exact b_law_152 cx X eT N K z b1 v2 v6 v7 (1 : Int32) (own_rd bs_b1 (1 : Int32)) bs_b1 d0 d1 d4 d5 d8 o_d0 o_d1 o_d4 o_d5 o_d8 A_b1 g_b1 nE_b1 _ hF
  · rw [if_neg hc135] at hF
    refine own_Goes.via (B := T.setTop (mkF m 201 #[d0, d1, .val (.int v2), .val (.ref b1), d4, d5, .val (.int v6), .val (.int v7), .val (.int (0 : Int32))] [(.int v7), (.int v6)])) (fun t k => ?_) ?_
    · show Steps p.tables e below (T.setTop (mkF m 135 #[d0, d1, .val (.int v2), .val (.ref b1), d4, d5, .val (.int v6), .val (.int v7), d8] [(.int t0), (.int t1)])) t
      refine XS.icmpYes X.here hx rfl (pc0 := 135) (pc' := 194) rfl (hb hby at_135) rfl (feq hc135).2 (by decide) (by decide) ?_
      show Steps p.tables e below (T.setTop (mkF m 194 #[d0, d1, .val (.int v2), .val (.ref b1), d4, d5, .val (.int v6), .val (.int v7), d8] [])) t
      refine XS.iconst X.here hx rfl (hb hby at_194) ?_
      show Steps p.tables e below (T.setTop (mkF m 195 #[d0, d1, .val (.int v2), .val (.ref b1), d4, d5, .val (.int v6), .val (.int v7), d8] [(.int (0 : Int32))])) t
      refine XS.istoreS X.here hx rfl (hb hby at_195) rfl rfl o_d8 ?_
      show Steps p.tables e below (T.setTop (mkF m 197 #[d0, d1, .val (.int v2), .val (.ref b1), d4, d5, .val (.int v6), .val (.int v7), .val (.int (0 : Int32))] [])) t
      refine XS.iload X.here hx rfl (hb hby at_197) rfl ?_
      show Steps p.tables e below (T.setTop (mkF m 199 #[d0, d1, .val (.int v2), .val (.ref b1), d4, d5, .val (.int v6), .val (.int v7), .val (.int (0 : Int32))] [(.int v6)])) t
      refine XS.iload X.here hx rfl (hb hby at_199) rfl ?_
      exact k
    by_cases hc201 : v6 = v7
    · rw [if_pos hc201] at hF
      refine own_Goes.via (B := T.setTop (mkF m 214 #[d0, d1, .val (.int v2), .val (.ref b1), d4, d5, .val (.int v6), .val (.int v7), .val (.int (0 : Int32))] [(.int (0 : Int32))])) (fun t k => ?_) ?_
      · show Steps p.tables e below (T.setTop (mkF m 201 #[d0, d1, .val (.int v2), .val (.ref b1), d4, d5, .val (.int v6), .val (.int v7), .val (.int (0 : Int32))] [(.int v7), (.int v6)])) t
        refine XS.icmpNo X.here hx rfl (hb hby at_201) rfl (teq hc201).2 ?_
        show Steps p.tables e below (T.setTop (mkF m 204 #[d0, d1, .val (.int v2), .val (.ref b1), d4, d5, .val (.int v6), .val (.int v7), .val (.int (0 : Int32))] [])) t
        refine XS.iload X.here hx rfl (hb hby at_204) rfl ?_
        show Steps p.tables e below (T.setTop (mkF m 206 #[d0, d1, .val (.int v2), .val (.ref b1), d4, d5, .val (.int v6), .val (.int v7), .val (.int (0 : Int32))] [(.int (0 : Int32))])) t
        refine XS.ifYes X.here hx rfl (pc0 := 206) (pc' := 213) rfl (hb hby at_206) rfl ((if0 _ _).trans (teq (by decide : (0 : Int32) = (0 : Int32))).1) (by decide) (by decide) ?_
        show Steps p.tables e below (T.setTop (mkF m 213 #[d0, d1, .val (.int v2), .val (.ref b1), d4, d5, .val (.int v6), .val (.int v7), .val (.int (0 : Int32))] [])) t
        refine XS.iconst X.here hx rfl (hb hby at_213) ?_
        exact k
      obtain rfl : (0 : Int32) = r := Option.some.inj hF
      exact own_retN X hx (t := .boolean) hret hlk (by simp) (hb hby at_214) eT (v := (0 : Int32)) (by decide) ⟨rfl, N, K⟩ (by decide) (by decide)
    · rw [if_neg hc201] at hF
      refine own_Goes.via (B := T.setTop (mkF m 214 #[d0, d1, .val (.int v2), .val (.ref b1), d4, d5, .val (.int v6), .val (.int v7), .val (.int (0 : Int32))] [(.int (0 : Int32))])) (fun t k => ?_) ?_
      · show Steps p.tables e below (T.setTop (mkF m 201 #[d0, d1, .val (.int v2), .val (.ref b1), d4, d5, .val (.int v6), .val (.int v7), .val (.int (0 : Int32))] [(.int v7), (.int v6)])) t
        refine XS.icmpYes X.here hx rfl (pc0 := 201) (pc' := 213) rfl (hb hby at_201) rfl (feq hc201).2 (by decide) (by decide) ?_
        show Steps p.tables e below (T.setTop (mkF m 213 #[d0, d1, .val (.int v2), .val (.ref b1), d4, d5, .val (.int v6), .val (.int v7), .val (.int (0 : Int32))] [])) t
        refine XS.iconst X.here hx rfl (hb hby at_213) ?_
        exact k
      obtain rfl : (0 : Int32) = r := Option.some.inj hF
      exact own_retN X hx (t := .boolean) hret hlk (by simp) (hb hby at_214) eT (v := (0 : Int32)) (by decide) ⟨rfl, N, K⟩ (by decide) (by decide)
set_option maxRecDepth 65536 in
set_option maxHeartbeats 4000000 in
theorem b_law_72 {p : Program} {l : Launch} {e : Env} {s : State} {m : MethodId} {args : Array Value} {below : List Frame} {meth : Method} {c : Code} {Z : State} {a0 : Array Value} {n0 : Nat} {hE : Heap} (cx : Cx_law p s m meth c Z a0) :
    ∀ {T : State} {locs : List Loc} {h : Heap} (X : Stand p l e room_1 s m args below meth c T locs 1 4) (eT : T.heap = h) (N : Fr n0 locs) (K : Keep hE h []) (z : n0 ≤ h.size) (b1 : Addr) (v1 : Int32) (v2 : Int32) (t0 : Int32) (bs_b1 : List Int32) (d0 : Slot) (d4 : Slot) (d5 : Slot) (d6 : Slot) (d7 : Slot) (d8 : Slot) (o_d0 : One d0) (o_d4 : One d4) (o_d5 : One d5) (o_d6 : One d6) (o_d7 : One d7) (o_d8 : One d8) (A_b1 : own_Ar Z h b1 .boolean (bs_b1.map Value.int)) (g_b1 : n0 ≤ b1) (nE_b1 : hE.size ≤ b1) (r : Int32), f_law_72 v1 v2 t0 bs_b1 = some r → own_Goes p e below s (Q_law Z hE n0 r) 2 6 (T.setTop (mkF m 72 #[d0, .val (.int v1), .val (.int v2), .val (.ref b1), d4, d5, d6, d7, d8] [(.int t0)])) := by
  have cx' := cx
  obtain ⟨hx, hZ, hw, hby, hml, hown, hret, hlk, hnm⟩ := cx'
  intro T locs h X eT N K z b1 v1 v2 t0 bs_b1 d0 d4 d5 d6 d7 d8 o_d0 o_d4 o_d5 o_d6 o_d7 o_d8 A_b1 g_b1 nE_b1 r hF
  unfold f_law_72 at hF
  refine own_Goes.via (B := T.setTop (mkF m 74 #[d0, .val (.int v1), .val (.int v2), .val (.ref b1), .val (.int t0), d5, d6, d7, d8] [])) (fun t k => ?_) ?_
  · show Steps p.tables e below (T.setTop (mkF m 72 #[d0, .val (.int v1), .val (.int v2), .val (.ref b1), d4, d5, d6, d7, d8] [(.int t0)])) t
    refine XS.istoreS X.here hx rfl (hb hby at_72) rfl rfl o_d4 ?_
    exact k
  obtain ⟨T69, h69, X69, e69, E69, A69, D69, -, st69⟩ := newO X hx hZ hown (w1 hw) (w2 hw) (w3 hw) eT (g := (mkF m 74 #[d0, .val (.int v1), .val (.int v2), .val (.ref b1), .val (.int t0), d5, d6, d7, d8] [])) rfl (hb hby at_74) (by decide) (by decide)
  obtain ⟨c69, q69⟩ : ∃ z, z = h.size := ⟨_, rfl⟩
  rw [← q69] at A69 D69 st69
  have F69_c69_variable : Fld Z h69 c69 "com/example/rulr/rulr/BodyMatcher$Slot" "variable" "I" (.int (0 : Int32)) := D69 (Or.inr (w16 hw)) (ty := .int) (by decide)
  have F69_c69_constant : Fld Z h69 c69 "com/example/rulr/rulr/BodyMatcher$Slot" "constant" "I" (.int (0 : Int32)) := D69 (Or.inr (w18 hw)) (ty := .int) (by decide)
  have g69_c69 : n0 ≤ c69 := Nat.le_trans z (Nat.le_of_eq q69.symm)
  have nE69_c69 : hE.size ≤ c69 := Nat.le_trans K.1 (Nat.le_of_eq q69.symm)
  have ne_b1_c69 : b1 ≠ c69 := Nat.ne_of_lt (Nat.lt_of_lt_of_le A_b1.lt (Nat.le_of_eq q69.symm))
  have A69_b1 := A_b1.ext E69
  have z69 := Nat.le_trans z E69.1
  have K69_ := K.ext E69
  refine own_Goes.via st69 ?_
  show own_Goes _ _ _ _ _ _ _ (T69.setTop (mkF m 77 #[d0, .val (.int v1), .val (.int v2), .val (.ref b1), .val (.int t0), d5, d6, d7, d8] [(.ref c69)]))
  refine own_Goes.via (B := T69.setTop (mkF m 81 #[d0, .val (.int v1), .val (.int v2), .val (.ref b1), .val (.int t0), d5, d6, d7, d8] [(.int v1), (.int t0), (.ref c69), (.ref c69)])) (fun t k => ?_) ?_
  · show Steps p.tables e below (T69.setTop (mkF m 77 #[d0, .val (.int v1), .val (.int v2), .val (.ref b1), .val (.int t0), d5, d6, d7, d8] [(.ref c69)])) t
    refine XS.dup X69.here hx rfl (hb hby at_77) rfl rfl ?_
    show Steps p.tables e below (T69.setTop (mkF m 78 #[d0, .val (.int v1), .val (.int v2), .val (.ref b1), .val (.int t0), d5, d6, d7, d8] [(.ref c69), (.ref c69)])) t
    refine XS.iload X69.here hx rfl (hb hby at_78) rfl ?_
    show Steps p.tables e below (T69.setTop (mkF m 80 #[d0, .val (.int v1), .val (.int v2), .val (.ref b1), .val (.int t0), d5, d6, d7, d8] [(.int t0), (.ref c69), (.ref c69)])) t
    refine XS.iloadN X69.here hx rfl (hb hby at_80) rfl ?_
    exact k
  obtain ⟨r70, hr70, hF⟩ := own_bd_e hF
  obtain ⟨_, _, ⟨T70, L70, k70, n70⟩, -, X70, ⟨Lc70, hQ70, l70, y70, z70⟩, st70⟩ := X69.specialBack hx (y := (⟨"com/example/rulr/rulr/BodyMatcher$Slot", "<init>", "(II)V"⟩ : MethodName)) rfl hown (mvT hZ (w4 hw)) (mvT hZ (w5 hw)) (mvT hZ (w6 hw)) (by decide) (backOf (W := 1) (rm_Slot_mk l Z a0 hw [] h69 n0 z69 c69 t0 v1 (0 : Int32) (0 : Int32) A69 F69_c69_constant F69_c69_variable g69_c69 r70 hr70) hZ (w6 hw) (w3 hw) (by decide) (by decide)) (g := (mkF m 81 #[d0, .val (.int v1), .val (.int v2), .val (.ref b1), .val (.int t0), d5, d6, d7, d8] [(.int v1), (.int t0), (.ref c69), (.ref c69)])) rfl (by rw [hml]; rfl) (Steps.refl _) (a := c69) (argsL := [(.int t0), (.int v1)]) (rest := [(.ref c69)]) (lenOf pd_1 rfl) rfl (by show 2 * 0 + _ ≤ _; exact Nat.le_of_eq rfl) (hb hby at_81) (fun _ _ => ⟨rfl, e69, (by decide : 2 + 0 ≤ _), (by decide : 6 + 0 ≤ _)⟩)
  dsimp only [Pt.U, Pt.locs, Pt.cells, Pt.slots] at X70 l70 y70 z70 st70 hQ70
  subst l70 y70 z70
  obtain ⟨rfl, N70q, K70, E70_c69, F70_c69_constant, F70_c69_variable⟩ := hQ70
  have N70 := Fr.app N N70q
  have A70_b1 := A69_b1.keep K70 (ninS ne_b1_c69 nin0)
  have K70_ := K69_.trans K70 (allS (Or.inr nE69_c69) all0)
  have z70_ := Nat.le_trans z69 K70.1
  refine own_Goes.tr st70 ?_
  show own_Goes _ _ _ _ _ _ _ (T70.setTop (mkF m 84 #[d0, .val (.int v1), .val (.int v2), .val (.ref b1), .val (.int t0), d5, d6, d7, d8] [(.ref c69)]))
  refine own_Goes.via (B := T70.setTop (mkF m 89 #[d0, .val (.int v1), .val (.int v2), .val (.ref b1), .val (.int t0), .val (.ref c69), d6, d7, d8] [(.ref b1), (.ref c69)])) (fun t k => ?_) ?_
  · show Steps p.tables e below (T70.setTop (mkF m 84 #[d0, .val (.int v1), .val (.int v2), .val (.ref b1), .val (.int t0), d5, d6, d7, d8] [(.ref c69)])) t
    refine XS.astoreS X70.here hx rfl (hb hby at_84) rfl rfl rfl rfl o_d5 ?_
    show Steps p.tables e below (T70.setTop (mkF m 86 #[d0, .val (.int v1), .val (.int v2), .val (.ref b1), .val (.int t0), .val (.ref c69), d6, d7, d8] [])) t
    refine XS.aload X70.here hx rfl (hb hby at_86) rfl rfl ?_
    show Steps p.tables e below (T70.setTop (mkF m 88 #[d0, .val (.int v1), .val (.int v2), .val (.ref b1), .val (.int t0), .val (.ref c69), d6, d7, d8] [(.ref c69)])) t
    refine XS.aloadN X70.here hx rfl (hb hby at_88) rfl rfl ?_
    exact k
  obtain ⟨r71, hr71, hF⟩ := own_bd_e hF
  obtain ⟨cq71, kq71, q71a, q71b, q71c⟩ := isOf hZ rfl E70_c69
  obtain ⟨_, _, ⟨T71, L71, k71, n71⟩, -, X71, ⟨Lc71, hQ71, l71, y71, z71⟩, st71⟩ := X70.virtualBack hx (y := (⟨"com/example/rulr/rulr/BodyMatcher$Slot", "isBound", "([Z)Z"⟩ : MethodName)) (z := (⟨"com/example/rulr/rulr/BodyMatcher$Slot", "isBound", "([Z)Z"⟩ : MethodName)) hown (mvT hZ (w19 hw)) (mvT hZ (w20 hw)) (notFace_of_selects (args := #[]) (mvT hZ (w22 hw))) (mvT hZ (w22 hw)) (mvT hZ (w21 hw)) (by decide) (backOf (W := 0) (rm_Slot_isBound l Z a0 hw [] T70.heap n0 z70_ c69 b1 r70.1 r70.2 bs_b1 E70_c69 F70_c69_constant F70_c69_variable g69_c69 A70_b1 g_b1 (Ne.symm ne_b1_c69) r71 hr71) hZ (w23 hw) (w3 hw) (by decide) (by decide)) q71a q71c (g := (mkF m 89 #[d0, .val (.int v1), .val (.int v2), .val (.ref b1), .val (.int t0), .val (.ref c69), d6, d7, d8] [(.ref b1), (.ref c69)])) rfl (by rw [hml]; rfl) (Steps.refl _) (argsL := [(.ref b1)]) (rest := []) (lenOf pd_2 rfl) rfl (by show 2 * 0 + _ ≤ _; exact Nat.le_of_eq rfl) (hb hby at_89) (fun _ _ => ⟨rfl, rfl, (by decide : 2 + 0 ≤ _), (by decide : 6 + 0 ≤ _)⟩)
  dsimp only [Pt.U, Pt.locs, Pt.cells, Pt.slots] at X71 l71 y71 z71 st71 hQ71
  subst l71 y71 z71
  obtain ⟨rfl, N71q, e71⟩ := hQ71
  have N71 := Fr.app N70 N71q
  refine own_Goes.tr st71 ?_
  show own_Goes _ _ _ _ _ _ _ (T71.setTop (mkF m 92 #[d0, .val (.int v1), .val (.int v2), .val (.ref b1), .val (.int t0), .val (.ref c69), d6, d7, d8] [(.int r71)]))
  refine own_Goes.via (B := T71.setTop (mkF m 96 #[d0, .val (.int v1), .val (.int v2), .val (.ref b1), .val (.int t0), .val (.ref c69), .val (.int r71), d7, d8] [(.int t0)])) (fun t k => ?_) ?_
  · show Steps p.tables e below (T71.setTop (mkF m 92 #[d0, .val (.int v1), .val (.int v2), .val (.ref b1), .val (.int t0), .val (.ref c69), d6, d7, d8] [(.int r71)])) t
    refine XS.istoreS X71.here hx rfl (hb hby at_92) rfl rfl o_d6 ?_
    show Steps p.tables e below (T71.setTop (mkF m 94 #[d0, .val (.int v1), .val (.int v2), .val (.ref b1), .val (.int t0), .val (.ref c69), .val (.int r71), d7, d8] [])) t
    refine XS.iload X71.here hx rfl (hb hby at_94) rfl ?_
    exact k
  by_cases hc96 : t0 < (0 : Int32)
  · rw [if_pos hc96] at hF
    refine own_Goes.via (B := T71.setTop (mkF m 123 #[d0, .val (.int v1), .val (.int v2), .val (.ref b1), .val (.int t0), .val (.ref c69), .val (.int r71), .val (.int (1 : Int32)), d8] [(.int (0 : Int32)), (.ref b1)])) (fun t k => ?_) ?_
    · show Steps p.tables e below (T71.setTop (mkF m 96 #[d0, .val (.int v1), .val (.int v2), .val (.ref b1), .val (.int t0), .val (.ref c69), .val (.int r71), d7, d8] [(.int t0)])) t
      refine XS.ifNo X71.here hx rfl (hb hby at_96) rfl ((if0 _ _).trans (tlt hc96).2.1) ?_
      show Steps p.tables e below (T71.setTop (mkF m 99 #[d0, .val (.int v1), .val (.int v2), .val (.ref b1), .val (.int t0), .val (.ref c69), .val (.int r71), d7, d8] [])) t
      refine XS.iconst X71.here hx rfl (hb hby at_99) ?_
      show Steps p.tables e below (T71.setTop (mkF m 100 #[d0, .val (.int v1), .val (.int v2), .val (.ref b1), .val (.int t0), .val (.ref c69), .val (.int r71), d7, d8] [(.int (1 : Int32))])) t
      refine XS.istoreS X71.here hx rfl (hb hby at_100) rfl rfl o_d7 ?_
      show Steps p.tables e below (T71.setTop (mkF m 102 #[d0, .val (.int v1), .val (.int v2), .val (.ref b1), .val (.int t0), .val (.ref c69), .val (.int r71), .val (.int (1 : Int32)), d8] [])) t
      refine XS.goto X71.here hx rfl (pc0 := 102) (pc' := 121) rfl (hb hby at_102) (by decide) (by decide) ?_
      show Steps p.tables e below (T71.setTop (mkF m 121 #[d0, .val (.int v1), .val (.int v2), .val (.ref b1), .val (.int t0), .val (.ref c69), .val (.int r71), .val (.int (1 : Int32)), d8] [])) t
      refine XS.aloadN X71.here hx rfl (hb hby at_121) rfl rfl ?_
      show Steps p.tables e below (T71.setTop (mkF m 122 #[d0, .val (.int v1), .val (.int v2), .val (.ref b1), .val (.int t0), .val (.ref c69), .val (.int r71), .val (.int (1 : Int32)), d8] [(.ref b1)])) t
      refine XS.iconst X71.here hx rfl (hb hby at_122) ?_
      exact k
    obtain ⟨hi123, hF⟩ := own_ck_e hF
    refine own_Goes.via (B := T71.setTop (mkF m 127 #[d0, .val (.int v1), .val (.int v2), .val (.ref b1), .val (.int t0), .val (.ref c69), .val (.int r71), .val (.int (1 : Int32)), d8] [(.int (v2 &&& (1 : Int32))), (.int (own_rd bs_b1 (0 : Int32)))])) (fun t k => ?_) ?_
    · show Steps p.tables e below (T71.setTop (mkF m 123 #[d0, .val (.int v1), .val (.int v2), .val (.ref b1), .val (.int t0), .val (.ref c69), .val (.int r71), .val (.int (1 : Int32)), d8] [(.int (0 : Int32)), (.ref b1)])) t
      refine own_ldZ X71 hx hZ e71 A70_b1 hi123 rfl (g := (mkF m 123 #[d0, .val (.int v1), .val (.int v2), .val (.ref b1), .val (.int t0), .val (.ref c69), .val (.int r71), .val (.int (1 : Int32)), d8] [(.int (0 : Int32)), (.ref b1)])) rfl rfl (hb hby at_123) ?_
      show Steps p.tables e below (T71.setTop (mkF m 124 #[d0, .val (.int v1), .val (.int v2), .val (.ref b1), .val (.int t0), .val (.ref c69), .val (.int r71), .val (.int (1 : Int32)), d8] [(.int (own_rd bs_b1 (0 : Int32)))])) t
      refine XS.iloadN X71.here hx rfl (hb hby at_124) rfl ?_
      show Steps p.tables e below (T71.setTop (mkF m 125 #[d0, .val (.int v1), .val (.int v2), .val (.ref b1), .val (.int t0), .val (.ref c69), .val (.int r71), .val (.int (1 : Int32)), d8] [(.int v2), (.int (own_rd bs_b1 (0 : Int32)))])) t
      refine XS.iconst X71.here hx rfl (hb hby at_125) ?_
      show Steps p.tables e below (T71.setTop (mkF m 126 #[d0, .val (.int v1), .val (.int v2), .val (.ref b1), .val (.int t0), .val (.ref c69), .val (.int r71), .val (.int (1 : Int32)), d8] [(.int (1 : Int32)), (.int v2), (.int (own_rd bs_b1 (0 : Int32)))])) t
      refine XS.iand X71.here hx rfl (hb hby at_126) rfl ?_
      exact k
    by_cases hc127 : (v2 &&& (1 : Int32)) = (0 : Int32)
    · rw [if_pos hc127] at hF
      refine own_Goes.via (B := T71.setTop (mkF m 135 #[d0, .val (.int v1), .val (.int v2), .val (.ref b1), .val (.int t0), .val (.ref c69), .val (.int r71), .val (.int (1 : Int32)), d8] [(.int (0 : Int32)), (.int (own_rd bs_b1 (0 : Int32)))])) (fun t k => ?_) ?_
      · show Steps p.tables e below (T71.setTop (mkF m 127 #[d0, .val (.int v1), .val (.int v2), .val (.ref b1), .val (.int t0), .val (.ref c69), .val (.int r71), .val (.int (1 : Int32)), d8] [(.int (v2 &&& (1 : Int32))), (.int (own_rd bs_b1 (0 : Int32)))])) t
        refine XS.ifYes X71.here hx rfl (pc0 := 127) (pc' := 134) rfl (hb hby at_127) rfl ((if0 _ _).trans (teq hc127).1) (by decide) (by decide) ?_
        show Steps p.tables e below (T71.setTop (mkF m 134 #[d0, .val (.int v1), .val (.int v2), .val (.ref b1), .val (.int t0), .val (.ref c69), .val (.int r71), .val (.int (1 : Int32)), d8] [(.int (own_rd bs_b1 (0 : Int32)))])) t
        refine XS.iconst X71.here hx rfl (hb hby at_134) ?_
        exact k
      exact b_law_135 cx X71 e71 N71 K70_ z70_ b1 v2 r71 (1 : Int32) (0 : Int32) (own_rd bs_b1 (0 : Int32)) bs_b1 d0 (.val (.int v1)) (.val (.int t0)) (.val (.ref c69)) d8 o_d0 (One.val rfl) (One.val rfl) (One.val rfl) o_d8 A70_b1 g_b1 nE_b1 _ hF
    · rw [if_neg hc127] at hF
      refine own_Goes.via (B := T71.setTop (mkF m 135 #[d0, .val (.int v1), .val (.int v2), .val (.ref b1), .val (.int t0), .val (.ref c69), .val (.int r71), .val (.int (1 : Int32)), d8] [(.int (1 : Int32)), (.int (own_rd bs_b1 (0 : Int32)))])) (fun t k => ?_) ?_
      · show Steps p.tables e below (T71.setTop (mkF m 127 #[d0, .val (.int v1), .val (.int v2), .val (.ref b1), .val (.int t0), .val (.ref c69), .val (.int r71), .val (.int (1 : Int32)), d8] [(.int (v2 &&& (1 : Int32))), (.int (own_rd bs_b1 (0 : Int32)))])) t
        refine XS.ifNo X71.here hx rfl (hb hby at_127) rfl ((if0 _ _).trans (feq hc127).1) ?_
        show Steps p.tables e below (T71.setTop (mkF m 130 #[d0, .val (.int v1), .val (.int v2), .val (.ref b1), .val (.int t0), .val (.ref c69), .val (.int r71), .val (.int (1 : Int32)), d8] [(.int (own_rd bs_b1 (0 : Int32)))])) t
        refine XS.iconst X71.here hx rfl (hb hby at_130) ?_
        show Steps p.tables e below (T71.setTop (mkF m 131 #[d0, .val (.int v1), .val (.int v2), .val (.ref b1), .val (.int t0), .val (.ref c69), .val (.int r71), .val (.int (1 : Int32)), d8] [(.int (1 : Int32)), (.int (own_rd bs_b1 (0 : Int32)))])) t
        refine XS.goto X71.here hx rfl (pc0 := 131) (pc' := 135) rfl (hb hby at_131) (by decide) (by decide) ?_
        exact k
      exact b_law_135 cx X71 e71 N71 K70_ z70_ b1 v2 r71 (1 : Int32) (1 : Int32) (own_rd bs_b1 (0 : Int32)) bs_b1 d0 (.val (.int v1)) (.val (.int t0)) (.val (.ref c69)) d8 o_d0 (One.val rfl) (One.val rfl) (One.val rfl) o_d8 A70_b1 g_b1 nE_b1 _ hF
  · rw [if_neg hc96] at hF
    refine own_Goes.via (B := T71.setTop (mkF m 111 #[d0, .val (.int v1), .val (.int v2), .val (.ref b1), .val (.int t0), .val (.ref c69), .val (.int r71), d7, d8] [(.int ((v2 >>> (t0 &&& 31)) &&& (1 : Int32)))])) (fun t k => ?_) ?_
    · show Steps p.tables e below (T71.setTop (mkF m 96 #[d0, .val (.int v1), .val (.int v2), .val (.ref b1), .val (.int t0), .val (.ref c69), .val (.int r71), d7, d8] [(.int t0)])) t
      refine XS.ifYes X71.here hx rfl (pc0 := 96) (pc' := 105) rfl (hb hby at_96) rfl ((if0 _ _).trans (flt hc96).2.1) (by decide) (by decide) ?_
      show Steps p.tables e below (T71.setTop (mkF m 105 #[d0, .val (.int v1), .val (.int v2), .val (.ref b1), .val (.int t0), .val (.ref c69), .val (.int r71), d7, d8] [])) t
      refine XS.iloadN X71.here hx rfl (hb hby at_105) rfl ?_
      show Steps p.tables e below (T71.setTop (mkF m 106 #[d0, .val (.int v1), .val (.int v2), .val (.ref b1), .val (.int t0), .val (.ref c69), .val (.int r71), d7, d8] [(.int v2)])) t
      refine XS.iload X71.here hx rfl (hb hby at_106) rfl ?_
      show Steps p.tables e below (T71.setTop (mkF m 108 #[d0, .val (.int v1), .val (.int v2), .val (.ref b1), .val (.int t0), .val (.ref c69), .val (.int r71), d7, d8] [(.int t0), (.int v2)])) t
      refine XS.ishr X71.here hx rfl (hb hby at_108) rfl ?_
      show Steps p.tables e below (T71.setTop (mkF m 109 #[d0, .val (.int v1), .val (.int v2), .val (.ref b1), .val (.int t0), .val (.ref c69), .val (.int r71), d7, d8] [(.int (v2 >>> (t0 &&& 31)))])) t
      refine XS.iconst X71.here hx rfl (hb hby at_109) ?_
      show Steps p.tables e below (T71.setTop (mkF m 110 #[d0, .val (.int v1), .val (.int v2), .val (.ref b1), .val (.int t0), .val (.ref c69), .val (.int r71), d7, d8] [(.int (1 : Int32)), (.int (v2 >>> (t0 &&& 31)))])) t
      refine XS.iand X71.here hx rfl (hb hby at_110) rfl ?_
      exact k
    by_cases hc111 : ((v2 >>> (t0 &&& 31)) &&& (1 : Int32)) = (0 : Int32)
    · rw [if_pos hc111] at hF
      refine own_Goes.via (B := T71.setTop (mkF m 123 #[d0, .val (.int v1), .val (.int v2), .val (.ref b1), .val (.int t0), .val (.ref c69), .val (.int r71), .val (.int (0 : Int32)), d8] [(.int (0 : Int32)), (.ref b1)])) (fun t k => ?_) ?_
      · show Steps p.tables e below (T71.setTop (mkF m 111 #[d0, .val (.int v1), .val (.int v2), .val (.ref b1), .val (.int t0), .val (.ref c69), .val (.int r71), d7, d8] [(.int ((v2 >>> (t0 &&& 31)) &&& (1 : Int32)))])) t
        refine XS.ifYes X71.here hx rfl (pc0 := 111) (pc' := 118) rfl (hb hby at_111) rfl ((if0 _ _).trans (teq hc111).1) (by decide) (by decide) ?_
        show Steps p.tables e below (T71.setTop (mkF m 118 #[d0, .val (.int v1), .val (.int v2), .val (.ref b1), .val (.int t0), .val (.ref c69), .val (.int r71), d7, d8] [])) t
        refine XS.iconst X71.here hx rfl (hb hby at_118) ?_
        show Steps p.tables e below (T71.setTop (mkF m 119 #[d0, .val (.int v1), .val (.int v2), .val (.ref b1), .val (.int t0), .val (.ref c69), .val (.int r71), d7, d8] [(.int (0 : Int32))])) t
        refine XS.istoreS X71.here hx rfl (hb hby at_119) rfl rfl o_d7 ?_
        show Steps p.tables e below (T71.setTop (mkF m 121 #[d0, .val (.int v1), .val (.int v2), .val (.ref b1), .val (.int t0), .val (.ref c69), .val (.int r71), .val (.int (0 : Int32)), d8] [])) t
        refine XS.aloadN X71.here hx rfl (hb hby at_121) rfl rfl ?_
        show Steps p.tables e below (T71.setTop (mkF m 122 #[d0, .val (.int v1), .val (.int v2), .val (.ref b1), .val (.int t0), .val (.ref c69), .val (.int r71), .val (.int (0 : Int32)), d8] [(.ref b1)])) t
        refine XS.iconst X71.here hx rfl (hb hby at_122) ?_
        exact k
      obtain ⟨hi123, hF⟩ := own_ck_e hF
      refine own_Goes.via (B := T71.setTop (mkF m 127 #[d0, .val (.int v1), .val (.int v2), .val (.ref b1), .val (.int t0), .val (.ref c69), .val (.int r71), .val (.int (0 : Int32)), d8] [(.int (v2 &&& (1 : Int32))), (.int (own_rd bs_b1 (0 : Int32)))])) (fun t k => ?_) ?_
      · show Steps p.tables e below (T71.setTop (mkF m 123 #[d0, .val (.int v1), .val (.int v2), .val (.ref b1), .val (.int t0), .val (.ref c69), .val (.int r71), .val (.int (0 : Int32)), d8] [(.int (0 : Int32)), (.ref b1)])) t
        refine own_ldZ X71 hx hZ e71 A70_b1 hi123 rfl (g := (mkF m 123 #[d0, .val (.int v1), .val (.int v2), .val (.ref b1), .val (.int t0), .val (.ref c69), .val (.int r71), .val (.int (0 : Int32)), d8] [(.int (0 : Int32)), (.ref b1)])) rfl rfl (hb hby at_123) ?_
        show Steps p.tables e below (T71.setTop (mkF m 124 #[d0, .val (.int v1), .val (.int v2), .val (.ref b1), .val (.int t0), .val (.ref c69), .val (.int r71), .val (.int (0 : Int32)), d8] [(.int (own_rd bs_b1 (0 : Int32)))])) t
        refine XS.iloadN X71.here hx rfl (hb hby at_124) rfl ?_
        show Steps p.tables e below (T71.setTop (mkF m 125 #[d0, .val (.int v1), .val (.int v2), .val (.ref b1), .val (.int t0), .val (.ref c69), .val (.int r71), .val (.int (0 : Int32)), d8] [(.int v2), (.int (own_rd bs_b1 (0 : Int32)))])) t
        refine XS.iconst X71.here hx rfl (hb hby at_125) ?_
        show Steps p.tables e below (T71.setTop (mkF m 126 #[d0, .val (.int v1), .val (.int v2), .val (.ref b1), .val (.int t0), .val (.ref c69), .val (.int r71), .val (.int (0 : Int32)), d8] [(.int (1 : Int32)), (.int v2), (.int (own_rd bs_b1 (0 : Int32)))])) t
        refine XS.iand X71.here hx rfl (hb hby at_126) rfl ?_
        exact k
      by_cases hc127 : (v2 &&& (1 : Int32)) = (0 : Int32)
      · rw [if_pos hc127] at hF
        refine own_Goes.via (B := T71.setTop (mkF m 135 #[d0, .val (.int v1), .val (.int v2), .val (.ref b1), .val (.int t0), .val (.ref c69), .val (.int r71), .val (.int (0 : Int32)), d8] [(.int (0 : Int32)), (.int (own_rd bs_b1 (0 : Int32)))])) (fun t k => ?_) ?_
        · show Steps p.tables e below (T71.setTop (mkF m 127 #[d0, .val (.int v1), .val (.int v2), .val (.ref b1), .val (.int t0), .val (.ref c69), .val (.int r71), .val (.int (0 : Int32)), d8] [(.int (v2 &&& (1 : Int32))), (.int (own_rd bs_b1 (0 : Int32)))])) t
          refine XS.ifYes X71.here hx rfl (pc0 := 127) (pc' := 134) rfl (hb hby at_127) rfl ((if0 _ _).trans (teq hc127).1) (by decide) (by decide) ?_
          show Steps p.tables e below (T71.setTop (mkF m 134 #[d0, .val (.int v1), .val (.int v2), .val (.ref b1), .val (.int t0), .val (.ref c69), .val (.int r71), .val (.int (0 : Int32)), d8] [(.int (own_rd bs_b1 (0 : Int32)))])) t
          refine XS.iconst X71.here hx rfl (hb hby at_134) ?_
          exact k
        exact b_law_135 cx X71 e71 N71 K70_ z70_ b1 v2 r71 (0 : Int32) (0 : Int32) (own_rd bs_b1 (0 : Int32)) bs_b1 d0 (.val (.int v1)) (.val (.int t0)) (.val (.ref c69)) d8 o_d0 (One.val rfl) (One.val rfl) (One.val rfl) o_d8 A70_b1 g_b1 nE_b1 _ hF
      · rw [if_neg hc127] at hF
        refine own_Goes.via (B := T71.setTop (mkF m 135 #[d0, .val (.int v1), .val (.int v2), .val (.ref b1), .val (.int t0), .val (.ref c69), .val (.int r71), .val (.int (0 : Int32)), d8] [(.int (1 : Int32)), (.int (own_rd bs_b1 (0 : Int32)))])) (fun t k => ?_) ?_
        · show Steps p.tables e below (T71.setTop (mkF m 127 #[d0, .val (.int v1), .val (.int v2), .val (.ref b1), .val (.int t0), .val (.ref c69), .val (.int r71), .val (.int (0 : Int32)), d8] [(.int (v2 &&& (1 : Int32))), (.int (own_rd bs_b1 (0 : Int32)))])) t
          refine XS.ifNo X71.here hx rfl (hb hby at_127) rfl ((if0 _ _).trans (feq hc127).1) ?_
          show Steps p.tables e below (T71.setTop (mkF m 130 #[d0, .val (.int v1), .val (.int v2), .val (.ref b1), .val (.int t0), .val (.ref c69), .val (.int r71), .val (.int (0 : Int32)), d8] [(.int (own_rd bs_b1 (0 : Int32)))])) t
          refine XS.iconst X71.here hx rfl (hb hby at_130) ?_
          show Steps p.tables e below (T71.setTop (mkF m 131 #[d0, .val (.int v1), .val (.int v2), .val (.ref b1), .val (.int t0), .val (.ref c69), .val (.int r71), .val (.int (0 : Int32)), d8] [(.int (1 : Int32)), (.int (own_rd bs_b1 (0 : Int32)))])) t
          refine XS.goto X71.here hx rfl (pc0 := 131) (pc' := 135) rfl (hb hby at_131) (by decide) (by decide) ?_
          exact k
        exact b_law_135 cx X71 e71 N71 K70_ z70_ b1 v2 r71 (0 : Int32) (1 : Int32) (own_rd bs_b1 (0 : Int32)) bs_b1 d0 (.val (.int v1)) (.val (.int t0)) (.val (.ref c69)) d8 o_d0 (One.val rfl) (One.val rfl) (One.val rfl) o_d8 A70_b1 g_b1 nE_b1 _ hF
    · rw [if_neg hc111] at hF
      refine own_Goes.via (B := T71.setTop (mkF m 123 #[d0, .val (.int v1), .val (.int v2), .val (.ref b1), .val (.int t0), .val (.ref c69), .val (.int r71), .val (.int (1 : Int32)), d8] [(.int (0 : Int32)), (.ref b1)])) (fun t k => ?_) ?_
      · show Steps p.tables e below (T71.setTop (mkF m 111 #[d0, .val (.int v1), .val (.int v2), .val (.ref b1), .val (.int t0), .val (.ref c69), .val (.int r71), d7, d8] [(.int ((v2 >>> (t0 &&& 31)) &&& (1 : Int32)))])) t
        refine XS.ifNo X71.here hx rfl (hb hby at_111) rfl ((if0 _ _).trans (feq hc111).1) ?_
        show Steps p.tables e below (T71.setTop (mkF m 114 #[d0, .val (.int v1), .val (.int v2), .val (.ref b1), .val (.int t0), .val (.ref c69), .val (.int r71), d7, d8] [])) t
        refine XS.iconst X71.here hx rfl (hb hby at_114) ?_
        show Steps p.tables e below (T71.setTop (mkF m 115 #[d0, .val (.int v1), .val (.int v2), .val (.ref b1), .val (.int t0), .val (.ref c69), .val (.int r71), d7, d8] [(.int (1 : Int32))])) t
        refine XS.goto X71.here hx rfl (pc0 := 115) (pc' := 119) rfl (hb hby at_115) (by decide) (by decide) ?_
        show Steps p.tables e below (T71.setTop (mkF m 119 #[d0, .val (.int v1), .val (.int v2), .val (.ref b1), .val (.int t0), .val (.ref c69), .val (.int r71), d7, d8] [(.int (1 : Int32))])) t
        refine XS.istoreS X71.here hx rfl (hb hby at_119) rfl rfl o_d7 ?_
        show Steps p.tables e below (T71.setTop (mkF m 121 #[d0, .val (.int v1), .val (.int v2), .val (.ref b1), .val (.int t0), .val (.ref c69), .val (.int r71), .val (.int (1 : Int32)), d8] [])) t
        refine XS.aloadN X71.here hx rfl (hb hby at_121) rfl rfl ?_
        show Steps p.tables e below (T71.setTop (mkF m 122 #[d0, .val (.int v1), .val (.int v2), .val (.ref b1), .val (.int t0), .val (.ref c69), .val (.int r71), .val (.int (1 : Int32)), d8] [(.ref b1)])) t
        refine XS.iconst X71.here hx rfl (hb hby at_122) ?_
        exact k
      obtain ⟨hi123, hF⟩ := own_ck_e hF
      refine own_Goes.via (B := T71.setTop (mkF m 127 #[d0, .val (.int v1), .val (.int v2), .val (.ref b1), .val (.int t0), .val (.ref c69), .val (.int r71), .val (.int (1 : Int32)), d8] [(.int (v2 &&& (1 : Int32))), (.int (own_rd bs_b1 (0 : Int32)))])) (fun t k => ?_) ?_
      · show Steps p.tables e below (T71.setTop (mkF m 123 #[d0, .val (.int v1), .val (.int v2), .val (.ref b1), .val (.int t0), .val (.ref c69), .val (.int r71), .val (.int (1 : Int32)), d8] [(.int (0 : Int32)), (.ref b1)])) t
        refine own_ldZ X71 hx hZ e71 A70_b1 hi123 rfl (g := (mkF m 123 #[d0, .val (.int v1), .val (.int v2), .val (.ref b1), .val (.int t0), .val (.ref c69), .val (.int r71), .val (.int (1 : Int32)), d8] [(.int (0 : Int32)), (.ref b1)])) rfl rfl (hb hby at_123) ?_
        show Steps p.tables e below (T71.setTop (mkF m 124 #[d0, .val (.int v1), .val (.int v2), .val (.ref b1), .val (.int t0), .val (.ref c69), .val (.int r71), .val (.int (1 : Int32)), d8] [(.int (own_rd bs_b1 (0 : Int32)))])) t
        refine XS.iloadN X71.here hx rfl (hb hby at_124) rfl ?_
        show Steps p.tables e below (T71.setTop (mkF m 125 #[d0, .val (.int v1), .val (.int v2), .val (.ref b1), .val (.int t0), .val (.ref c69), .val (.int r71), .val (.int (1 : Int32)), d8] [(.int v2), (.int (own_rd bs_b1 (0 : Int32)))])) t
        refine XS.iconst X71.here hx rfl (hb hby at_125) ?_
        show Steps p.tables e below (T71.setTop (mkF m 126 #[d0, .val (.int v1), .val (.int v2), .val (.ref b1), .val (.int t0), .val (.ref c69), .val (.int r71), .val (.int (1 : Int32)), d8] [(.int (1 : Int32)), (.int v2), (.int (own_rd bs_b1 (0 : Int32)))])) t
        refine XS.iand X71.here hx rfl (hb hby at_126) rfl ?_
        exact k
      by_cases hc127 : (v2 &&& (1 : Int32)) = (0 : Int32)
      · rw [if_pos hc127] at hF
        refine own_Goes.via (B := T71.setTop (mkF m 135 #[d0, .val (.int v1), .val (.int v2), .val (.ref b1), .val (.int t0), .val (.ref c69), .val (.int r71), .val (.int (1 : Int32)), d8] [(.int (0 : Int32)), (.int (own_rd bs_b1 (0 : Int32)))])) (fun t k => ?_) ?_
        · show Steps p.tables e below (T71.setTop (mkF m 127 #[d0, .val (.int v1), .val (.int v2), .val (.ref b1), .val (.int t0), .val (.ref c69), .val (.int r71), .val (.int (1 : Int32)), d8] [(.int (v2 &&& (1 : Int32))), (.int (own_rd bs_b1 (0 : Int32)))])) t
          refine XS.ifYes X71.here hx rfl (pc0 := 127) (pc' := 134) rfl (hb hby at_127) rfl ((if0 _ _).trans (teq hc127).1) (by decide) (by decide) ?_
          show Steps p.tables e below (T71.setTop (mkF m 134 #[d0, .val (.int v1), .val (.int v2), .val (.ref b1), .val (.int t0), .val (.ref c69), .val (.int r71), .val (.int (1 : Int32)), d8] [(.int (own_rd bs_b1 (0 : Int32)))])) t
          refine XS.iconst X71.here hx rfl (hb hby at_134) ?_
          exact k
        exact b_law_135 cx X71 e71 N71 K70_ z70_ b1 v2 r71 (1 : Int32) (0 : Int32) (own_rd bs_b1 (0 : Int32)) bs_b1 d0 (.val (.int v1)) (.val (.int t0)) (.val (.ref c69)) d8 o_d0 (One.val rfl) (One.val rfl) (One.val rfl) o_d8 A70_b1 g_b1 nE_b1 _ hF
      · rw [if_neg hc127] at hF
        refine own_Goes.via (B := T71.setTop (mkF m 135 #[d0, .val (.int v1), .val (.int v2), .val (.ref b1), .val (.int t0), .val (.ref c69), .val (.int r71), .val (.int (1 : Int32)), d8] [(.int (1 : Int32)), (.int (own_rd bs_b1 (0 : Int32)))])) (fun t k => ?_) ?_
        · show Steps p.tables e below (T71.setTop (mkF m 127 #[d0, .val (.int v1), .val (.int v2), .val (.ref b1), .val (.int t0), .val (.ref c69), .val (.int r71), .val (.int (1 : Int32)), d8] [(.int (v2 &&& (1 : Int32))), (.int (own_rd bs_b1 (0 : Int32)))])) t
          refine XS.ifNo X71.here hx rfl (hb hby at_127) rfl ((if0 _ _).trans (feq hc127).1) ?_
          show Steps p.tables e below (T71.setTop (mkF m 130 #[d0, .val (.int v1), .val (.int v2), .val (.ref b1), .val (.int t0), .val (.ref c69), .val (.int r71), .val (.int (1 : Int32)), d8] [(.int (own_rd bs_b1 (0 : Int32)))])) t
          refine XS.iconst X71.here hx rfl (hb hby at_130) ?_
          show Steps p.tables e below (T71.setTop (mkF m 131 #[d0, .val (.int v1), .val (.int v2), .val (.ref b1), .val (.int t0), .val (.ref c69), .val (.int r71), .val (.int (1 : Int32)), d8] [(.int (1 : Int32)), (.int (own_rd bs_b1 (0 : Int32)))])) t
          refine XS.goto X71.here hx rfl (pc0 := 131) (pc' := 135) rfl (hb hby at_131) (by decide) (by decide) ?_
          exact k
        exact b_law_135 cx X71 e71 N71 K70_ z70_ b1 v2 r71 (1 : Int32) (1 : Int32) (own_rd bs_b1 (0 : Int32)) bs_b1 d0 (.val (.int v1)) (.val (.int t0)) (.val (.ref c69)) d8 o_d0 (One.val rfl) (One.val rfl) (One.val rfl) o_d8 A70_b1 g_b1 nE_b1 _ hF
set_option maxRecDepth 65536 in
set_option maxHeartbeats 4000000 in
theorem b_law_45 {p : Program} {l : Launch} {e : Env} {s : State} {m : MethodId} {args : Array Value} {below : List Frame} {meth : Method} {c : Code} {Z : State} {a0 : Array Value} {n0 : Nat} {hE : Heap} (cx : Cx_law p s m meth c Z a0) :
    ∀ {T : State} {locs : List Loc} {h : Heap} (X : Stand p l e room_1 s m args below meth c T locs 1 4) (eT : T.heap = h) (N : Fr n0 locs) (K : Keep hE h []) (z : n0 ≤ h.size) (b1 : Addr) (v0 : Int32) (v1 : Int32) (v2 : Int32) (t0 : Int32) (t1 : Int32) (bs_b1 : List Int32) (d4 : Slot) (d5 : Slot) (d6 : Slot) (d7 : Slot) (d8 : Slot) (o_d4 : One d4) (o_d5 : One d5) (o_d6 : One d6) (o_d7 : One d7) (o_d8 : One d8) (A_b1 : own_Ar Z h b1 .boolean (bs_b1.map Value.int)) (g_b1 : n0 ≤ b1) (nE_b1 : hE.size ≤ b1) (r : Int32), f_law_45 v0 v1 v2 t0 t1 bs_b1 = some r → own_Goes p e below s (Q_law Z hE n0 r) 2 6 (T.setTop (mkF m 45 #[.val (.int v0), .val (.int v1), .val (.int v2), .val (.ref b1), d4, d5, d6, d7, d8] [(.int t0), (.int t1), (.ref b1)])) := by
  have cx' := cx
  obtain ⟨hx, hZ, hw, hby, hml, hown, hret, hlk, hnm⟩ := cx'
  intro T locs h X eT N K z b1 v0 v1 v2 t0 t1 bs_b1 d4 d5 d6 d7 d8 o_d4 o_d5 o_d6 o_d7 o_d8 A_b1 g_b1 nE_b1 r hF
  unfold f_law_45 at hF
  obtain ⟨hi45, hF⟩ := own_ck_e hF
  obtain ⟨T74, h74, X74, e74, W74, A74_b1, st74⟩ := own_stZ X hx hZ eT A_b1 hi45 (g := (mkF m 45 #[.val (.int v0), .val (.int v1), .val (.int v2), .val (.ref b1), d4, d5, d6, d7, d8] [(.int t0), (.int t1), (.ref b1)])) rfl rfl (hb hby at_45)
  refine own_Goes.via st74 ?_
  have z74 := Nat.le_trans z (Keep.of_wr W74).1
  have K74_ := K.wr W74 (Or.inr nE_b1)
  have N74 := Fr.snoc X74 N g_b1
  have A74_b1 : own_Ar Z h74 b1 .boolean ((own_wr bs_b1 t1 (t0 &&& 1)).map Value.int) := A74_b1
  show own_Goes _ _ _ _ _ _ _ (T74.setTop (mkF m 46 #[.val (.int v0), .val (.int v1), .val (.int v2), .val (.ref b1), d4, d5, d6, d7, d8] []))
  obtain ⟨bs75, hbs75, hF⟩ := own_lt_e hF
  rw [← hbs75] at A74_b1
  refine own_Goes.via (B := T74.setTop (mkF m 52 #[.val (.int v0), .val (.int v1), .val (.int v2), .val (.ref b1), d4, d5, d6, d7, d8] [(.int (v2 &&& (8 : Int32))), (.int (3 : Int32)), (.ref b1)])) (fun t k => ?_) ?_
  · show Steps p.tables e below (T74.setTop (mkF m 46 #[.val (.int v0), .val (.int v1), .val (.int v2), .val (.ref b1), d4, d5, d6, d7, d8] [])) t
    refine XS.aloadN X74.here hx rfl (hb hby at_46) rfl rfl ?_
    show Steps p.tables e below (T74.setTop (mkF m 47 #[.val (.int v0), .val (.int v1), .val (.int v2), .val (.ref b1), d4, d5, d6, d7, d8] [(.ref b1)])) t
    refine XS.iconst X74.here hx rfl (hb hby at_47) ?_
    show Steps p.tables e below (T74.setTop (mkF m 48 #[.val (.int v0), .val (.int v1), .val (.int v2), .val (.ref b1), d4, d5, d6, d7, d8] [(.int (3 : Int32)), (.ref b1)])) t
    refine XS.iloadN X74.here hx rfl (hb hby at_48) rfl ?_
    show Steps p.tables e below (T74.setTop (mkF m 49 #[.val (.int v0), .val (.int v1), .val (.int v2), .val (.ref b1), d4, d5, d6, d7, d8] [(.int v2), (.int (3 : Int32)), (.ref b1)])) t
    refine XS.bipush X74.here hx rfl (hb hby at_49) ?_
    show Steps p.tables e below (T74.setTop (mkF m 51 #[.val (.int v0), .val (.int v1), .val (.int v2), .val (.ref b1), d4, d5, d6, d7, d8] [(.int (8 : Int32)), (.int v2), (.int (3 : Int32)), (.ref b1)])) t
    refine XS.iand X74.here hx rfl (hb hby at_51) rfl ?_
    exact k
  by_cases hc52 : (v2 &&& (8 : Int32)) = (0 : Int32)
  · rw [if_pos hc52] at hF
    refine own_Goes.via (B := T74.setTop (mkF m 60 #[.val (.int v0), .val (.int v1), .val (.int v2), .val (.ref b1), d4, d5, d6, d7, d8] [(.int (0 : Int32)), (.int (3 : Int32)), (.ref b1)])) (fun t k => ?_) ?_
    · show Steps p.tables e below (T74.setTop (mkF m 52 #[.val (.int v0), .val (.int v1), .val (.int v2), .val (.ref b1), d4, d5, d6, d7, d8] [(.int (v2 &&& (8 : Int32))), (.int (3 : Int32)), (.ref b1)])) t
      refine XS.ifYes X74.here hx rfl (pc0 := 52) (pc' := 59) rfl (hb hby at_52) rfl ((if0 _ _).trans (teq hc52).1) (by decide) (by decide) ?_
      show Steps p.tables e below (T74.setTop (mkF m 59 #[.val (.int v0), .val (.int v1), .val (.int v2), .val (.ref b1), d4, d5, d6, d7, d8] [(.int (3 : Int32)), (.ref b1)])) t
      refine XS.iconst X74.here hx rfl (hb hby at_59) ?_
      exact k
    obtain ⟨hi60, hF⟩ := own_ck_e hF
    obtain ⟨T76, h76, X76, e76, W76, A76_b1, st76⟩ := own_stZ X74 hx hZ e74 A74_b1 hi60 (g := (mkF m 60 #[.val (.int v0), .val (.int v1), .val (.int v2), .val (.ref b1), d4, d5, d6, d7, d8] [(.int (0 : Int32)), (.int (3 : Int32)), (.ref b1)])) rfl rfl (hb hby at_60)
    refine own_Goes.via st76 ?_
    have z76 := Nat.le_trans z74 (Keep.of_wr W76).1
    have K76_ := K74_.wr W76 (Or.inr nE_b1)
    have N76 := Fr.snoc X76 N74 g_b1
    have A76_b1 : own_Ar Z h76 b1 .boolean ((own_wr bs75 (3 : Int32) (0 : Int32)).map Value.int) := A76_b1
    show own_Goes _ _ _ _ _ _ _ (T76.setTop (mkF m 61 #[.val (.int v0), .val (.int v1), .val (.int v2), .val (.ref b1), d4, d5, d6, d7, d8] []))
    obtain ⟨bs77, hbs77, hF⟩ := own_lt_e hF
    rw [← hbs77] at A76_b1
    refine own_Goes.via (B := T76.setTop (mkF m 62 #[.val (.int v0), .val (.int v1), .val (.int v2), .val (.ref b1), d4, d5, d6, d7, d8] [(.int v0)])) (fun t k => ?_) ?_
    · show Steps p.tables e below (T76.setTop (mkF m 61 #[.val (.int v0), .val (.int v1), .val (.int v2), .val (.ref b1), d4, d5, d6, d7, d8] [])) t
      refine XS.iloadN X76.here hx rfl (hb hby at_61) rfl ?_
      exact k
    by_cases hc62 : v0 < (0 : Int32)
    · rw [if_pos hc62] at hF
      refine own_Goes.via (B := T76.setTop (mkF m 72 #[.val (.int v0), .val (.int v1), .val (.int v2), .val (.ref b1), d4, d5, d6, d7, d8] [(.int v0)])) (fun t k => ?_) ?_
      · show Steps p.tables e below (T76.setTop (mkF m 62 #[.val (.int v0), .val (.int v1), .val (.int v2), .val (.ref b1), d4, d5, d6, d7, d8] [(.int v0)])) t
        refine XS.ifNo X76.here hx rfl (hb hby at_62) rfl ((if0 _ _).trans (tlt hc62).2.1) ?_
        show Steps p.tables e below (T76.setTop (mkF m 65 #[.val (.int v0), .val (.int v1), .val (.int v2), .val (.ref b1), d4, d5, d6, d7, d8] [])) t
        refine XS.iloadN X76.here hx rfl (hb hby at_65) rfl ?_
        show Steps p.tables e below (T76.setTop (mkF m 66 #[.val (.int v0), .val (.int v1), .val (.int v2), .val (.ref b1), d4, d5, d6, d7, d8] [(.int v0)])) t
        refine XS.goto X76.here hx rfl (pc0 := 66) (pc' := 72) rfl (hb hby at_66) (by decide) (by decide) ?_
        exact k
      exact b_law_72 cx X76 e76 N76 K76_ z76 b1 v1 v2 v0 bs77 (.val (.int v0)) d4 d5 d6 d7 d8 (One.val rfl) o_d4 o_d5 o_d6 o_d7 o_d8 A76_b1 g_b1 nE_b1 _ hF
    · rw [if_neg hc62] at hF
      refine own_Goes.via (B := T76.setTop (mkF m 72 #[.val (.int v0), .val (.int v1), .val (.int v2), .val (.ref b1), d4, d5, d6, d7, d8] [(.int (v0 &&& (3 : Int32)))])) (fun t k => ?_) ?_
      · show Steps p.tables e below (T76.setTop (mkF m 62 #[.val (.int v0), .val (.int v1), .val (.int v2), .val (.ref b1), d4, d5, d6, d7, d8] [(.int v0)])) t
        refine XS.ifYes X76.here hx rfl (pc0 := 62) (pc' := 69) rfl (hb hby at_62) rfl ((if0 _ _).trans (flt hc62).2.1) (by decide) (by decide) ?_
        show Steps p.tables e below (T76.setTop (mkF m 69 #[.val (.int v0), .val (.int v1), .val (.int v2), .val (.ref b1), d4, d5, d6, d7, d8] [])) t
        refine XS.iloadN X76.here hx rfl (hb hby at_69) rfl ?_
        show Steps p.tables e below (T76.setTop (mkF m 70 #[.val (.int v0), .val (.int v1), .val (.int v2), .val (.ref b1), d4, d5, d6, d7, d8] [(.int v0)])) t
        refine XS.iconst X76.here hx rfl (hb hby at_70) ?_
        show Steps p.tables e below (T76.setTop (mkF m 71 #[.val (.int v0), .val (.int v1), .val (.int v2), .val (.ref b1), d4, d5, d6, d7, d8] [(.int (3 : Int32)), (.int v0)])) t
        refine XS.iand X76.here hx rfl (hb hby at_71) rfl ?_
        exact k
      exact b_law_72 cx X76 e76 N76 K76_ z76 b1 v1 v2 (v0 &&& (3 : Int32)) bs77 (.val (.int v0)) d4 d5 d6 d7 d8 (One.val rfl) o_d4 o_d5 o_d6 o_d7 o_d8 A76_b1 g_b1 nE_b1 _ hF
  · rw [if_neg hc52] at hF
    refine own_Goes.via (B := T74.setTop (mkF m 60 #[.val (.int v0), .val (.int v1), .val (.int v2), .val (.ref b1), d4, d5, d6, d7, d8] [(.int (1 : Int32)), (.int (3 : Int32)), (.ref b1)])) (fun t k => ?_) ?_
    · show Steps p.tables e below (T74.setTop (mkF m 52 #[.val (.int v0), .val (.int v1), .val (.int v2), .val (.ref b1), d4, d5, d6, d7, d8] [(.int (v2 &&& (8 : Int32))), (.int (3 : Int32)), (.ref b1)])) t
      refine XS.ifNo X74.here hx rfl (hb hby at_52) rfl ((if0 _ _).trans (feq hc52).1) ?_
      show Steps p.tables e below (T74.setTop (mkF m 55 #[.val (.int v0), .val (.int v1), .val (.int v2), .val (.ref b1), d4, d5, d6, d7, d8] [(.int (3 : Int32)), (.ref b1)])) t
      refine XS.iconst X74.here hx rfl (hb hby at_55) ?_
      show Steps p.tables e below (T74.setTop (mkF m 56 #[.val (.int v0), .val (.int v1), .val (.int v2), .val (.ref b1), d4, d5, d6, d7, d8] [(.int (1 : Int32)), (.int (3 : Int32)), (.ref b1)])) t
      refine XS.goto X74.here hx rfl (pc0 := 56) (pc' := 60) rfl (hb hby at_56) (by decide) (by decide) ?_
      exact k
    obtain ⟨hi60, hF⟩ := own_ck_e hF
    obtain ⟨T78, h78, X78, e78, W78, A78_b1, st78⟩ := own_stZ X74 hx hZ e74 A74_b1 hi60 (g := (mkF m 60 #[.val (.int v0), .val (.int v1), .val (.int v2), .val (.ref b1), d4, d5, d6, d7, d8] [(.int (1 : Int32)), (.int (3 : Int32)), (.ref b1)])) rfl rfl (hb hby at_60)
    refine own_Goes.via st78 ?_
    have z78 := Nat.le_trans z74 (Keep.of_wr W78).1
    have K78_ := K74_.wr W78 (Or.inr nE_b1)
    have N78 := Fr.snoc X78 N74 g_b1
    have A78_b1 : own_Ar Z h78 b1 .boolean ((own_wr bs75 (3 : Int32) (1 : Int32)).map Value.int) := A78_b1
    show own_Goes _ _ _ _ _ _ _ (T78.setTop (mkF m 61 #[.val (.int v0), .val (.int v1), .val (.int v2), .val (.ref b1), d4, d5, d6, d7, d8] []))
    obtain ⟨bs79, hbs79, hF⟩ := own_lt_e hF
    rw [← hbs79] at A78_b1
    refine own_Goes.via (B := T78.setTop (mkF m 62 #[.val (.int v0), .val (.int v1), .val (.int v2), .val (.ref b1), d4, d5, d6, d7, d8] [(.int v0)])) (fun t k => ?_) ?_
    · show Steps p.tables e below (T78.setTop (mkF m 61 #[.val (.int v0), .val (.int v1), .val (.int v2), .val (.ref b1), d4, d5, d6, d7, d8] [])) t
      refine XS.iloadN X78.here hx rfl (hb hby at_61) rfl ?_
      exact k
    by_cases hc62 : v0 < (0 : Int32)
    · rw [if_pos hc62] at hF
      refine own_Goes.via (B := T78.setTop (mkF m 72 #[.val (.int v0), .val (.int v1), .val (.int v2), .val (.ref b1), d4, d5, d6, d7, d8] [(.int v0)])) (fun t k => ?_) ?_
      · show Steps p.tables e below (T78.setTop (mkF m 62 #[.val (.int v0), .val (.int v1), .val (.int v2), .val (.ref b1), d4, d5, d6, d7, d8] [(.int v0)])) t
        refine XS.ifNo X78.here hx rfl (hb hby at_62) rfl ((if0 _ _).trans (tlt hc62).2.1) ?_
        show Steps p.tables e below (T78.setTop (mkF m 65 #[.val (.int v0), .val (.int v1), .val (.int v2), .val (.ref b1), d4, d5, d6, d7, d8] [])) t
        refine XS.iloadN X78.here hx rfl (hb hby at_65) rfl ?_
        show Steps p.tables e below (T78.setTop (mkF m 66 #[.val (.int v0), .val (.int v1), .val (.int v2), .val (.ref b1), d4, d5, d6, d7, d8] [(.int v0)])) t
        refine XS.goto X78.here hx rfl (pc0 := 66) (pc' := 72) rfl (hb hby at_66) (by decide) (by decide) ?_
        exact k
      exact b_law_72 cx X78 e78 N78 K78_ z78 b1 v1 v2 v0 bs79 (.val (.int v0)) d4 d5 d6 d7 d8 (One.val rfl) o_d4 o_d5 o_d6 o_d7 o_d8 A78_b1 g_b1 nE_b1 _ hF
    · rw [if_neg hc62] at hF
      refine own_Goes.via (B := T78.setTop (mkF m 72 #[.val (.int v0), .val (.int v1), .val (.int v2), .val (.ref b1), d4, d5, d6, d7, d8] [(.int (v0 &&& (3 : Int32)))])) (fun t k => ?_) ?_
      · show Steps p.tables e below (T78.setTop (mkF m 62 #[.val (.int v0), .val (.int v1), .val (.int v2), .val (.ref b1), d4, d5, d6, d7, d8] [(.int v0)])) t
        refine XS.ifYes X78.here hx rfl (pc0 := 62) (pc' := 69) rfl (hb hby at_62) rfl ((if0 _ _).trans (flt hc62).2.1) (by decide) (by decide) ?_
        show Steps p.tables e below (T78.setTop (mkF m 69 #[.val (.int v0), .val (.int v1), .val (.int v2), .val (.ref b1), d4, d5, d6, d7, d8] [])) t
        refine XS.iloadN X78.here hx rfl (hb hby at_69) rfl ?_
        show Steps p.tables e below (T78.setTop (mkF m 70 #[.val (.int v0), .val (.int v1), .val (.int v2), .val (.ref b1), d4, d5, d6, d7, d8] [(.int v0)])) t
        refine XS.iconst X78.here hx rfl (hb hby at_70) ?_
        show Steps p.tables e below (T78.setTop (mkF m 71 #[.val (.int v0), .val (.int v1), .val (.int v2), .val (.ref b1), d4, d5, d6, d7, d8] [(.int (3 : Int32)), (.int v0)])) t
        refine XS.iand X78.here hx rfl (hb hby at_71) rfl ?_
        exact k
      exact b_law_72 cx X78 e78 N78 K78_ z78 b1 v1 v2 (v0 &&& (3 : Int32)) bs79 (.val (.int v0)) d4 d5 d6 d7 d8 (One.val rfl) o_d4 o_d5 o_d6 o_d7 o_d8 A78_b1 g_b1 nE_b1 _ hF
set_option maxRecDepth 65536 in
set_option maxHeartbeats 4000000 in
theorem b_law_17 {p : Program} {l : Launch} {e : Env} {s : State} {m : MethodId} {args : Array Value} {below : List Frame} {meth : Method} {c : Code} {Z : State} {a0 : Array Value} {n0 : Nat} {hE : Heap} (cx : Cx_law p s m meth c Z a0) :
    ∀ {T : State} {locs : List Loc} {h : Heap} (X : Stand p l e room_1 s m args below meth c T locs 1 4) (eT : T.heap = h) (N : Fr n0 locs) (K : Keep hE h []) (z : n0 ≤ h.size) (b1 : Addr) (v0 : Int32) (v1 : Int32) (v2 : Int32) (t0 : Int32) (t1 : Int32) (bs_b1 : List Int32) (d4 : Slot) (d5 : Slot) (d6 : Slot) (d7 : Slot) (d8 : Slot) (o_d4 : One d4) (o_d5 : One d5) (o_d6 : One d6) (o_d7 : One d7) (o_d8 : One d8) (A_b1 : own_Ar Z h b1 .boolean (bs_b1.map Value.int)) (g_b1 : n0 ≤ b1) (nE_b1 : hE.size ≤ b1) (r : Int32), f_law_17 v0 v1 v2 t0 t1 bs_b1 = some r → own_Goes p e below s (Q_law Z hE n0 r) 2 6 (T.setTop (mkF m 17 #[.val (.int v0), .val (.int v1), .val (.int v2), .val (.ref b1), d4, d5, d6, d7, d8] [(.int t0), (.int t1), (.ref b1)])) := by
  have cx' := cx
  obtain ⟨hx, hZ, hw, hby, hml, hown, hret, hlk, hnm⟩ := cx'
  intro T locs h X eT N K z b1 v0 v1 v2 t0 t1 bs_b1 d4 d5 d6 d7 d8 o_d4 o_d5 o_d6 o_d7 o_d8 A_b1 g_b1 nE_b1 r hF
  unfold f_law_17 at hF
  obtain ⟨hi17, hF⟩ := own_ck_e hF
  obtain ⟨T82, h82, X82, e82, W82, A82_b1, st82⟩ := own_stZ X hx hZ eT A_b1 hi17 (g := (mkF m 17 #[.val (.int v0), .val (.int v1), .val (.int v2), .val (.ref b1), d4, d5, d6, d7, d8] [(.int t0), (.int t1), (.ref b1)])) rfl rfl (hb hby at_17)
  refine own_Goes.via st82 ?_
  have z82 := Nat.le_trans z (Keep.of_wr W82).1
  have K82_ := K.wr W82 (Or.inr nE_b1)
  have N82 := Fr.snoc X82 N g_b1
  have A82_b1 : own_Ar Z h82 b1 .boolean ((own_wr bs_b1 t1 (t0 &&& 1)).map Value.int) := A82_b1
  show own_Goes _ _ _ _ _ _ _ (T82.setTop (mkF m 18 #[.val (.int v0), .val (.int v1), .val (.int v2), .val (.ref b1), d4, d5, d6, d7, d8] []))
  obtain ⟨bs83, hbs83, hF⟩ := own_lt_e hF
  rw [← hbs83] at A82_b1
  refine own_Goes.via (B := T82.setTop (mkF m 23 #[.val (.int v0), .val (.int v1), .val (.int v2), .val (.ref b1), d4, d5, d6, d7, d8] [(.int (v2 &&& (2 : Int32))), (.int (1 : Int32)), (.ref b1)])) (fun t k => ?_) ?_
  · show Steps p.tables e below (T82.setTop (mkF m 18 #[.val (.int v0), .val (.int v1), .val (.int v2), .val (.ref b1), d4, d5, d6, d7, d8] [])) t
    refine XS.aloadN X82.here hx rfl (hb hby at_18) rfl rfl ?_
    show Steps p.tables e below (T82.setTop (mkF m 19 #[.val (.int v0), .val (.int v1), .val (.int v2), .val (.ref b1), d4, d5, d6, d7, d8] [(.ref b1)])) t
    refine XS.iconst X82.here hx rfl (hb hby at_19) ?_
    show Steps p.tables e below (T82.setTop (mkF m 20 #[.val (.int v0), .val (.int v1), .val (.int v2), .val (.ref b1), d4, d5, d6, d7, d8] [(.int (1 : Int32)), (.ref b1)])) t
    refine XS.iloadN X82.here hx rfl (hb hby at_20) rfl ?_
    show Steps p.tables e below (T82.setTop (mkF m 21 #[.val (.int v0), .val (.int v1), .val (.int v2), .val (.ref b1), d4, d5, d6, d7, d8] [(.int v2), (.int (1 : Int32)), (.ref b1)])) t
    refine XS.iconst X82.here hx rfl (hb hby at_21) ?_
    show Steps p.tables e below (T82.setTop (mkF m 22 #[.val (.int v0), .val (.int v1), .val (.int v2), .val (.ref b1), d4, d5, d6, d7, d8] [(.int (2 : Int32)), (.int v2), (.int (1 : Int32)), (.ref b1)])) t
    refine XS.iand X82.here hx rfl (hb hby at_22) rfl ?_
    exact k
  by_cases hc23 : (v2 &&& (2 : Int32)) = (0 : Int32)
  · rw [if_pos hc23] at hF
    refine own_Goes.via (B := T82.setTop (mkF m 31 #[.val (.int v0), .val (.int v1), .val (.int v2), .val (.ref b1), d4, d5, d6, d7, d8] [(.int (0 : Int32)), (.int (1 : Int32)), (.ref b1)])) (fun t k => ?_) ?_
    · show Steps p.tables e below (T82.setTop (mkF m 23 #[.val (.int v0), .val (.int v1), .val (.int v2), .val (.ref b1), d4, d5, d6, d7, d8] [(.int (v2 &&& (2 : Int32))), (.int (1 : Int32)), (.ref b1)])) t
      refine XS.ifYes X82.here hx rfl (pc0 := 23) (pc' := 30) rfl (hb hby at_23) rfl ((if0 _ _).trans (teq hc23).1) (by decide) (by decide) ?_
      show Steps p.tables e below (T82.setTop (mkF m 30 #[.val (.int v0), .val (.int v1), .val (.int v2), .val (.ref b1), d4, d5, d6, d7, d8] [(.int (1 : Int32)), (.ref b1)])) t
      refine XS.iconst X82.here hx rfl (hb hby at_30) ?_
      exact k
    obtain ⟨hi31, hF⟩ := own_ck_e hF
    obtain ⟨T84, h84, X84, e84, W84, A84_b1, st84⟩ := own_stZ X82 hx hZ e82 A82_b1 hi31 (g := (mkF m 31 #[.val (.int v0), .val (.int v1), .val (.int v2), .val (.ref b1), d4, d5, d6, d7, d8] [(.int (0 : Int32)), (.int (1 : Int32)), (.ref b1)])) rfl rfl (hb hby at_31)
    refine own_Goes.via st84 ?_
    have z84 := Nat.le_trans z82 (Keep.of_wr W84).1
    have K84_ := K82_.wr W84 (Or.inr nE_b1)
    have N84 := Fr.snoc X84 N82 g_b1
    have A84_b1 : own_Ar Z h84 b1 .boolean ((own_wr bs83 (1 : Int32) (0 : Int32)).map Value.int) := A84_b1
    show own_Goes _ _ _ _ _ _ _ (T84.setTop (mkF m 32 #[.val (.int v0), .val (.int v1), .val (.int v2), .val (.ref b1), d4, d5, d6, d7, d8] []))
    obtain ⟨bs85, hbs85, hF⟩ := own_lt_e hF
    rw [← hbs85] at A84_b1
    refine own_Goes.via (B := T84.setTop (mkF m 37 #[.val (.int v0), .val (.int v1), .val (.int v2), .val (.ref b1), d4, d5, d6, d7, d8] [(.int (v2 &&& (4 : Int32))), (.int (2 : Int32)), (.ref b1)])) (fun t k => ?_) ?_
    · show Steps p.tables e below (T84.setTop (mkF m 32 #[.val (.int v0), .val (.int v1), .val (.int v2), .val (.ref b1), d4, d5, d6, d7, d8] [])) t
      refine XS.aloadN X84.here hx rfl (hb hby at_32) rfl rfl ?_
      show Steps p.tables e below (T84.setTop (mkF m 33 #[.val (.int v0), .val (.int v1), .val (.int v2), .val (.ref b1), d4, d5, d6, d7, d8] [(.ref b1)])) t
      refine XS.iconst X84.here hx rfl (hb hby at_33) ?_
      show Steps p.tables e below (T84.setTop (mkF m 34 #[.val (.int v0), .val (.int v1), .val (.int v2), .val (.ref b1), d4, d5, d6, d7, d8] [(.int (2 : Int32)), (.ref b1)])) t
      refine XS.iloadN X84.here hx rfl (hb hby at_34) rfl ?_
      show Steps p.tables e below (T84.setTop (mkF m 35 #[.val (.int v0), .val (.int v1), .val (.int v2), .val (.ref b1), d4, d5, d6, d7, d8] [(.int v2), (.int (2 : Int32)), (.ref b1)])) t
      refine XS.iconst X84.here hx rfl (hb hby at_35) ?_
      show Steps p.tables e below (T84.setTop (mkF m 36 #[.val (.int v0), .val (.int v1), .val (.int v2), .val (.ref b1), d4, d5, d6, d7, d8] [(.int (4 : Int32)), (.int v2), (.int (2 : Int32)), (.ref b1)])) t
      refine XS.iand X84.here hx rfl (hb hby at_36) rfl ?_
      exact k
    by_cases hc37 : (v2 &&& (4 : Int32)) = (0 : Int32)
    · rw [if_pos hc37] at hF
      refine own_Goes.via (B := T84.setTop (mkF m 45 #[.val (.int v0), .val (.int v1), .val (.int v2), .val (.ref b1), d4, d5, d6, d7, d8] [(.int (0 : Int32)), (.int (2 : Int32)), (.ref b1)])) (fun t k => ?_) ?_
      · show Steps p.tables e below (T84.setTop (mkF m 37 #[.val (.int v0), .val (.int v1), .val (.int v2), .val (.ref b1), d4, d5, d6, d7, d8] [(.int (v2 &&& (4 : Int32))), (.int (2 : Int32)), (.ref b1)])) t
        refine XS.ifYes X84.here hx rfl (pc0 := 37) (pc' := 44) rfl (hb hby at_37) rfl ((if0 _ _).trans (teq hc37).1) (by decide) (by decide) ?_
        show Steps p.tables e below (T84.setTop (mkF m 44 #[.val (.int v0), .val (.int v1), .val (.int v2), .val (.ref b1), d4, d5, d6, d7, d8] [(.int (2 : Int32)), (.ref b1)])) t
        refine XS.iconst X84.here hx rfl (hb hby at_44) ?_
        exact k
      exact b_law_45 cx X84 e84 N84 K84_ z84 b1 v0 v1 v2 (0 : Int32) (2 : Int32) bs85 d4 d5 d6 d7 d8 o_d4 o_d5 o_d6 o_d7 o_d8 A84_b1 g_b1 nE_b1 _ hF
    · rw [if_neg hc37] at hF
      refine own_Goes.via (B := T84.setTop (mkF m 45 #[.val (.int v0), .val (.int v1), .val (.int v2), .val (.ref b1), d4, d5, d6, d7, d8] [(.int (1 : Int32)), (.int (2 : Int32)), (.ref b1)])) (fun t k => ?_) ?_
      · show Steps p.tables e below (T84.setTop (mkF m 37 #[.val (.int v0), .val (.int v1), .val (.int v2), .val (.ref b1), d4, d5, d6, d7, d8] [(.int (v2 &&& (4 : Int32))), (.int (2 : Int32)), (.ref b1)])) t
        refine XS.ifNo X84.here hx rfl (hb hby at_37) rfl ((if0 _ _).trans (feq hc37).1) ?_
        show Steps p.tables e below (T84.setTop (mkF m 40 #[.val (.int v0), .val (.int v1), .val (.int v2), .val (.ref b1), d4, d5, d6, d7, d8] [(.int (2 : Int32)), (.ref b1)])) t
        refine XS.iconst X84.here hx rfl (hb hby at_40) ?_
        show Steps p.tables e below (T84.setTop (mkF m 41 #[.val (.int v0), .val (.int v1), .val (.int v2), .val (.ref b1), d4, d5, d6, d7, d8] [(.int (1 : Int32)), (.int (2 : Int32)), (.ref b1)])) t
        refine XS.goto X84.here hx rfl (pc0 := 41) (pc' := 45) rfl (hb hby at_41) (by decide) (by decide) ?_
        exact k
      exact b_law_45 cx X84 e84 N84 K84_ z84 b1 v0 v1 v2 (1 : Int32) (2 : Int32) bs85 d4 d5 d6 d7 d8 o_d4 o_d5 o_d6 o_d7 o_d8 A84_b1 g_b1 nE_b1 _ hF
  · rw [if_neg hc23] at hF
    refine own_Goes.via (B := T82.setTop (mkF m 31 #[.val (.int v0), .val (.int v1), .val (.int v2), .val (.ref b1), d4, d5, d6, d7, d8] [(.int (1 : Int32)), (.int (1 : Int32)), (.ref b1)])) (fun t k => ?_) ?_
    · show Steps p.tables e below (T82.setTop (mkF m 23 #[.val (.int v0), .val (.int v1), .val (.int v2), .val (.ref b1), d4, d5, d6, d7, d8] [(.int (v2 &&& (2 : Int32))), (.int (1 : Int32)), (.ref b1)])) t
      refine XS.ifNo X82.here hx rfl (hb hby at_23) rfl ((if0 _ _).trans (feq hc23).1) ?_
      show Steps p.tables e below (T82.setTop (mkF m 26 #[.val (.int v0), .val (.int v1), .val (.int v2), .val (.ref b1), d4, d5, d6, d7, d8] [(.int (1 : Int32)), (.ref b1)])) t
      refine XS.iconst X82.here hx rfl (hb hby at_26) ?_
      show Steps p.tables e below (T82.setTop (mkF m 27 #[.val (.int v0), .val (.int v1), .val (.int v2), .val (.ref b1), d4, d5, d6, d7, d8] [(.int (1 : Int32)), (.int (1 : Int32)), (.ref b1)])) t
      refine XS.goto X82.here hx rfl (pc0 := 27) (pc' := 31) rfl (hb hby at_27) (by decide) (by decide) ?_
      exact k
    obtain ⟨hi31, hF⟩ := own_ck_e hF
    obtain ⟨T86, h86, X86, e86, W86, A86_b1, st86⟩ := own_stZ X82 hx hZ e82 A82_b1 hi31 (g := (mkF m 31 #[.val (.int v0), .val (.int v1), .val (.int v2), .val (.ref b1), d4, d5, d6, d7, d8] [(.int (1 : Int32)), (.int (1 : Int32)), (.ref b1)])) rfl rfl (hb hby at_31)
    refine own_Goes.via st86 ?_
    have z86 := Nat.le_trans z82 (Keep.of_wr W86).1
    have K86_ := K82_.wr W86 (Or.inr nE_b1)
    have N86 := Fr.snoc X86 N82 g_b1
    have A86_b1 : own_Ar Z h86 b1 .boolean ((own_wr bs83 (1 : Int32) (1 : Int32)).map Value.int) := A86_b1
    show own_Goes _ _ _ _ _ _ _ (T86.setTop (mkF m 32 #[.val (.int v0), .val (.int v1), .val (.int v2), .val (.ref b1), d4, d5, d6, d7, d8] []))
    obtain ⟨bs87, hbs87, hF⟩ := own_lt_e hF
    rw [← hbs87] at A86_b1
    refine own_Goes.via (B := T86.setTop (mkF m 37 #[.val (.int v0), .val (.int v1), .val (.int v2), .val (.ref b1), d4, d5, d6, d7, d8] [(.int (v2 &&& (4 : Int32))), (.int (2 : Int32)), (.ref b1)])) (fun t k => ?_) ?_
    · show Steps p.tables e below (T86.setTop (mkF m 32 #[.val (.int v0), .val (.int v1), .val (.int v2), .val (.ref b1), d4, d5, d6, d7, d8] [])) t
      refine XS.aloadN X86.here hx rfl (hb hby at_32) rfl rfl ?_
      show Steps p.tables e below (T86.setTop (mkF m 33 #[.val (.int v0), .val (.int v1), .val (.int v2), .val (.ref b1), d4, d5, d6, d7, d8] [(.ref b1)])) t
      refine XS.iconst X86.here hx rfl (hb hby at_33) ?_
      show Steps p.tables e below (T86.setTop (mkF m 34 #[.val (.int v0), .val (.int v1), .val (.int v2), .val (.ref b1), d4, d5, d6, d7, d8] [(.int (2 : Int32)), (.ref b1)])) t
      refine XS.iloadN X86.here hx rfl (hb hby at_34) rfl ?_
      show Steps p.tables e below (T86.setTop (mkF m 35 #[.val (.int v0), .val (.int v1), .val (.int v2), .val (.ref b1), d4, d5, d6, d7, d8] [(.int v2), (.int (2 : Int32)), (.ref b1)])) t
      refine XS.iconst X86.here hx rfl (hb hby at_35) ?_
      show Steps p.tables e below (T86.setTop (mkF m 36 #[.val (.int v0), .val (.int v1), .val (.int v2), .val (.ref b1), d4, d5, d6, d7, d8] [(.int (4 : Int32)), (.int v2), (.int (2 : Int32)), (.ref b1)])) t
      refine XS.iand X86.here hx rfl (hb hby at_36) rfl ?_
      exact k
    by_cases hc37 : (v2 &&& (4 : Int32)) = (0 : Int32)
    · rw [if_pos hc37] at hF
      refine own_Goes.via (B := T86.setTop (mkF m 45 #[.val (.int v0), .val (.int v1), .val (.int v2), .val (.ref b1), d4, d5, d6, d7, d8] [(.int (0 : Int32)), (.int (2 : Int32)), (.ref b1)])) (fun t k => ?_) ?_
      · show Steps p.tables e below (T86.setTop (mkF m 37 #[.val (.int v0), .val (.int v1), .val (.int v2), .val (.ref b1), d4, d5, d6, d7, d8] [(.int (v2 &&& (4 : Int32))), (.int (2 : Int32)), (.ref b1)])) t
        refine XS.ifYes X86.here hx rfl (pc0 := 37) (pc' := 44) rfl (hb hby at_37) rfl ((if0 _ _).trans (teq hc37).1) (by decide) (by decide) ?_
        show Steps p.tables e below (T86.setTop (mkF m 44 #[.val (.int v0), .val (.int v1), .val (.int v2), .val (.ref b1), d4, d5, d6, d7, d8] [(.int (2 : Int32)), (.ref b1)])) t
        refine XS.iconst X86.here hx rfl (hb hby at_44) ?_
        exact k
      exact b_law_45 cx X86 e86 N86 K86_ z86 b1 v0 v1 v2 (0 : Int32) (2 : Int32) bs87 d4 d5 d6 d7 d8 o_d4 o_d5 o_d6 o_d7 o_d8 A86_b1 g_b1 nE_b1 _ hF
    · rw [if_neg hc37] at hF
      refine own_Goes.via (B := T86.setTop (mkF m 45 #[.val (.int v0), .val (.int v1), .val (.int v2), .val (.ref b1), d4, d5, d6, d7, d8] [(.int (1 : Int32)), (.int (2 : Int32)), (.ref b1)])) (fun t k => ?_) ?_
      · show Steps p.tables e below (T86.setTop (mkF m 37 #[.val (.int v0), .val (.int v1), .val (.int v2), .val (.ref b1), d4, d5, d6, d7, d8] [(.int (v2 &&& (4 : Int32))), (.int (2 : Int32)), (.ref b1)])) t
        refine XS.ifNo X86.here hx rfl (hb hby at_37) rfl ((if0 _ _).trans (feq hc37).1) ?_
        show Steps p.tables e below (T86.setTop (mkF m 40 #[.val (.int v0), .val (.int v1), .val (.int v2), .val (.ref b1), d4, d5, d6, d7, d8] [(.int (2 : Int32)), (.ref b1)])) t
        refine XS.iconst X86.here hx rfl (hb hby at_40) ?_
        show Steps p.tables e below (T86.setTop (mkF m 41 #[.val (.int v0), .val (.int v1), .val (.int v2), .val (.ref b1), d4, d5, d6, d7, d8] [(.int (1 : Int32)), (.int (2 : Int32)), (.ref b1)])) t
        refine XS.goto X86.here hx rfl (pc0 := 41) (pc' := 45) rfl (hb hby at_41) (by decide) (by decide) ?_
        exact k
      exact b_law_45 cx X86 e86 N86 K86_ z86 b1 v0 v1 v2 (1 : Int32) (2 : Int32) bs87 d4 d5 d6 d7 d8 o_d4 o_d5 o_d6 o_d7 o_d8 A86_b1 g_b1 nE_b1 _ hF
set_option maxRecDepth 65536 in
set_option maxHeartbeats 4000000 in
theorem b_law {p : Program} {l : Launch} {e : Env} {s : State} {m : MethodId} {args : Array Value} {below : List Frame} {meth : Method} {c : Code} {Z : State} {a0 : Array Value} {n0 : Nat} {hE : Heap} (cx : Cx_law p s m meth c Z a0) :
    ∀ {T : State} {locs : List Loc} {h : Heap} (X : Stand p l e room_1 s m args below meth c T locs 0 0) (eT : T.heap = h) (N : Fr n0 locs) (K : Keep hE h []) (z : n0 ≤ h.size) (v0 : Int32) (v1 : Int32) (v2 : Int32) (r : Int32), f_law v0 v1 v2 = some r → own_Goes p e below s (Q_law Z hE n0 r) 2 6 (T.setTop (mkF m 0 #[.val (.int v0), .val (.int v1), .val (.int v2), .unset, .unset, .unset, .unset, .unset, .unset] [])) := by
  have cx' := cx
  obtain ⟨hx, hZ, hw, hby, hml, hown, hret, hlk, hnm⟩ := cx'
  intro T locs h X eT N K z v0 v1 v2 r hF
  unfold f_law at hF
  refine own_Goes.via (B := T.setTop (mkF m 1 #[.val (.int v0), .val (.int v1), .val (.int v2), .unset, .unset, .unset, .unset, .unset, .unset] [(.int (4 : Int32))])) (fun t k => ?_) ?_
  · show Steps p.tables e below (T.setTop (mkF m 0 #[.val (.int v0), .val (.int v1), .val (.int v2), .unset, .unset, .unset, .unset, .unset, .unset] [])) t
    refine XS.iconst X.here hx rfl (hb hby at_0) ?_
    exact k
  obtain ⟨T88, h88, k88, X88, e88, E88, A88, st88⟩ := newP X hx hZ (aty := .boolean) (w0 hw) eT (g := (mkF m 1 #[.val (.int v0), .val (.int v1), .val (.int v2), .unset, .unset, .unset, .unset, .unset, .unset] [(.int (4 : Int32))])) rfl (hb hby at_1) rfl (by decide) (cap := 4) (by decide) (by decide) (by decide) (by decide)
  obtain ⟨c88, q88⟩ : ∃ z, z = h.size := ⟨_, rfl⟩
  rw [← q88] at A88 st88
  have A88_c88 : own_Ar Z h88 c88 .boolean (([(0 : Int32), (0 : Int32), (0 : Int32), (0 : Int32)] : List Int32).map Value.int) := own_newI A88 (by decide) rfl (kk := 4) (by decide)
  have g88_c88 : n0 ≤ c88 := Nat.le_trans z (Nat.le_of_eq q88.symm)
  have nE88_c88 : hE.size ≤ c88 := Nat.le_trans K.1 (Nat.le_of_eq q88.symm)
  have z88 := Nat.le_trans z E88.1
  have K88_ := K.ext E88
  refine own_Goes.via st88 ?_
  show own_Goes _ _ _ _ _ _ _ (T88.setTop (mkF m 3 #[.val (.int v0), .val (.int v1), .val (.int v2), .unset, .unset, .unset, .unset, .unset, .unset] [(.ref c88)]))
  refine own_Goes.via (B := T88.setTop (mkF m 9 #[.val (.int v0), .val (.int v1), .val (.int v2), .val (.ref c88), .unset, .unset, .unset, .unset, .unset] [(.int (v2 &&& (1 : Int32))), (.int (0 : Int32)), (.ref c88)])) (fun t k => ?_) ?_
  · show Steps p.tables e below (T88.setTop (mkF m 3 #[.val (.int v0), .val (.int v1), .val (.int v2), .unset, .unset, .unset, .unset, .unset, .unset] [(.ref c88)])) t
    refine XS.astoreN X88.here hx rfl (hb hby at_3) rfl rfl (l' := #[.val (.int v0), .val (.int v1), .val (.int v2), .val (.ref c88), .unset, .unset, .unset, .unset, .unset]) rfl ?_
    show Steps p.tables e below (T88.setTop (mkF m 4 #[.val (.int v0), .val (.int v1), .val (.int v2), .val (.ref c88), .unset, .unset, .unset, .unset, .unset] [])) t
    refine XS.aloadN X88.here hx rfl (hb hby at_4) rfl rfl ?_
    show Steps p.tables e below (T88.setTop (mkF m 5 #[.val (.int v0), .val (.int v1), .val (.int v2), .val (.ref c88), .unset, .unset, .unset, .unset, .unset] [(.ref c88)])) t
    refine XS.iconst X88.here hx rfl (hb hby at_5) ?_
    show Steps p.tables e below (T88.setTop (mkF m 6 #[.val (.int v0), .val (.int v1), .val (.int v2), .val (.ref c88), .unset, .unset, .unset, .unset, .unset] [(.int (0 : Int32)), (.ref c88)])) t
    refine XS.iloadN X88.here hx rfl (hb hby at_6) rfl ?_
    show Steps p.tables e below (T88.setTop (mkF m 7 #[.val (.int v0), .val (.int v1), .val (.int v2), .val (.ref c88), .unset, .unset, .unset, .unset, .unset] [(.int v2), (.int (0 : Int32)), (.ref c88)])) t
    refine XS.iconst X88.here hx rfl (hb hby at_7) ?_
    show Steps p.tables e below (T88.setTop (mkF m 8 #[.val (.int v0), .val (.int v1), .val (.int v2), .val (.ref c88), .unset, .unset, .unset, .unset, .unset] [(.int (1 : Int32)), (.int v2), (.int (0 : Int32)), (.ref c88)])) t
    refine XS.iand X88.here hx rfl (hb hby at_8) rfl ?_
    exact k
  by_cases hc9 : (v2 &&& (1 : Int32)) = (0 : Int32)
  · rw [if_pos hc9] at hF
    refine own_Goes.via (B := T88.setTop (mkF m 17 #[.val (.int v0), .val (.int v1), .val (.int v2), .val (.ref c88), .unset, .unset, .unset, .unset, .unset] [(.int (0 : Int32)), (.int (0 : Int32)), (.ref c88)])) (fun t k => ?_) ?_
    · show Steps p.tables e below (T88.setTop (mkF m 9 #[.val (.int v0), .val (.int v1), .val (.int v2), .val (.ref c88), .unset, .unset, .unset, .unset, .unset] [(.int (v2 &&& (1 : Int32))), (.int (0 : Int32)), (.ref c88)])) t
      refine XS.ifYes X88.here hx rfl (pc0 := 9) (pc' := 16) rfl (hb hby at_9) rfl ((if0 _ _).trans (teq hc9).1) (by decide) (by decide) ?_
      show Steps p.tables e below (T88.setTop (mkF m 16 #[.val (.int v0), .val (.int v1), .val (.int v2), .val (.ref c88), .unset, .unset, .unset, .unset, .unset] [(.int (0 : Int32)), (.ref c88)])) t
      refine XS.iconst X88.here hx rfl (hb hby at_16) ?_
      exact k
    exact b_law_17 cx X88 e88 N K88_ z88 c88 v0 v1 v2 (0 : Int32) (0 : Int32) ([(0 : Int32), (0 : Int32), (0 : Int32), (0 : Int32)] : List Int32) (.unset) (.unset) (.unset) (.unset) (.unset) One.u One.u One.u One.u One.u A88_c88 g88_c88 nE88_c88 _ hF
  · rw [if_neg hc9] at hF
    refine own_Goes.via (B := T88.setTop (mkF m 17 #[.val (.int v0), .val (.int v1), .val (.int v2), .val (.ref c88), .unset, .unset, .unset, .unset, .unset] [(.int (1 : Int32)), (.int (0 : Int32)), (.ref c88)])) (fun t k => ?_) ?_
    · show Steps p.tables e below (T88.setTop (mkF m 9 #[.val (.int v0), .val (.int v1), .val (.int v2), .val (.ref c88), .unset, .unset, .unset, .unset, .unset] [(.int (v2 &&& (1 : Int32))), (.int (0 : Int32)), (.ref c88)])) t
      refine XS.ifNo X88.here hx rfl (hb hby at_9) rfl ((if0 _ _).trans (feq hc9).1) ?_
      show Steps p.tables e below (T88.setTop (mkF m 12 #[.val (.int v0), .val (.int v1), .val (.int v2), .val (.ref c88), .unset, .unset, .unset, .unset, .unset] [(.int (0 : Int32)), (.ref c88)])) t
      refine XS.iconst X88.here hx rfl (hb hby at_12) ?_
      show Steps p.tables e below (T88.setTop (mkF m 13 #[.val (.int v0), .val (.int v1), .val (.int v2), .val (.ref c88), .unset, .unset, .unset, .unset, .unset] [(.int (1 : Int32)), (.int (0 : Int32)), (.ref c88)])) t
      refine XS.goto X88.here hx rfl (pc0 := 13) (pc' := 17) rfl (hb hby at_13) (by decide) (by decide) ?_
      exact k
    exact b_law_17 cx X88 e88 N K88_ z88 c88 v0 v1 v2 (1 : Int32) (0 : Int32) ([(0 : Int32), (0 : Int32), (0 : Int32), (0 : Int32)] : List Int32) (.unset) (.unset) (.unset) (.unset) (.unset) One.u One.u One.u One.u One.u A88_c88 g88_c88 nE88_c88 _ hF
theorem ef_law (m : MethodId) (x0 : Int32) (x1 : Int32) (x2 : Int32) : entryFrame m #[(.int x0), (.int x1), (.int x2)] maxLocals = mkF m 0 #[.val (.int x0), .val (.int x1), .val (.int x2), .unset, .unset, .unset, .unset, .unset, .unset] [] := by first | (simp [entryFrame, mkF, argsToLocals, Value.category, maxLocals]; done) | rfl
set_option maxRecDepth 65536 in
set_option maxHeartbeats 4000000 in
theorem rm_law (l : Launch) (Z : State) (a0 : Array Value) (hw : ∀ d ∈ tables_1, d.before a0 Z = true) (ws : List Jvm.Cond) (hE : Heap) (n0 : Nat) (z : n0 ≤ hE.size)  (v0 : Int32) (v1 : Int32) (v2 : Int32) (r : Int32) (hF : (f_law v0 v1 v2) = some r) :
    MetFree l x (head1 (Jvm.Cond.code x code maxLocals ret :: ws) room_1) (fun a U => a = #[(.int v0), (.int v1), (.int v2)] ∧ Z.Warmed39 U.vm ∧ U.heap = hE) (fun _ _ _ _ _ => True) (fun _ U o U' => ∃ v L, o = .returned v ∧ (Q_law Z hE n0 r) v U'.heap L ∧ FrameEnd U o U' L 2 6) := by
  refine MetFree.of_bodySF (plainFor_of_name pn_com_example_rulr_rulr_SlotIsBoundPinLaw) hisR ?_
  intro p e s m args below meth c s₁ Bd hml0 hP hK
  obtain ⟨rfl, hZ, hh⟩ := hP
  have X0 : Stand p l e room_1 s m #[(.int v0), (.int v1), (.int v2)] below meth c s₁ [] 0 0 := Stand.of_body Bd
  have e0 : s₁.heap = hE := by rw [← hh, Bd.state]; rfl
  have cx : Cx_law p s m meth c Z a0 := ⟨Bd.exec, hZ, hw, Bd.bytes, hml0, findClass_of_methodNamed Bd.named, Bd.returns, Bd.notSynchronized, (name_of_methodNamed Bd.named Bd.method).1⟩
  show own_Goes p e below s (Q_law Z hE n0 r) 2 6 (s₁.setTop (entryFrame m #[(.int v0), (.int v1), (.int v2)] maxLocals))
  rw [ef_law]
  exact b_law cx X0 e0 (Fr.nil n0) (Keep.refl _ _) z v0 v1 v2 _ hF
/-! the words of the mirrors -/
theorem own_bs {α β : Type} (x : α) (f : α → Option β) : own_bd (some x) f = f x := by unfold own_bd; exact rfl
theorem own_ls {α β : Type} (x : α) (f : α → Option β) : own_lt x f = f x := by unfold own_lt; exact rfl
theorem own_bn {α : Type} (x : Option α) : own_bd x (fun y => some y) = x := by cases x <;> exact rfl
theorem own_ct {β : Type} {P : Prop} [Decidable P] (x : Option β) (h : P) : own_ck P x = x := by unfold own_ck; exact if_pos h
/-! numbers: ints and longs as integers -/
theorem own_i1 (x : Int32) : -2147483648 ≤ x.toInt := Int32.le_toInt x
theorem own_i2 (x : Int32) : x.toInt < 2147483648 := Int32.toInt_lt x
theorem own_j1 (x : Int64) : -9223372036854775808 ≤ x.toInt := Int64.le_toInt x
theorem own_j2 (x : Int64) : x.toInt < 9223372036854775808 := Int64.toInt_lt x
theorem own_iadd {a b : Int32} (h1 : -2147483648 ≤ a.toInt + b.toInt) (h2 : a.toInt + b.toInt < 2147483648) : (a + b).toInt = a.toInt + b.toInt := by
  rw [Int32.toInt_add]; exact Int.bmod_eq_of_le (by omega) (by omega)
theorem own_isub {a b : Int32} (h1 : -2147483648 ≤ a.toInt - b.toInt) (h2 : a.toInt - b.toInt < 2147483648) : (a - b).toInt = a.toInt - b.toInt := by
  rw [Int32.toInt_sub]; exact Int.bmod_eq_of_le (by omega) (by omega)
theorem own_imul {a b : Int32} (h1 : -2147483648 ≤ a.toInt * b.toInt) (h2 : a.toInt * b.toInt < 2147483648) : (a * b).toInt = a.toInt * b.toInt := by
  rw [Int32.toInt_mul]; exact Int.bmod_eq_of_le (by omega) (by omega)
theorem own_ladd {a b : Int64} (h1 : -9223372036854775808 ≤ a.toInt + b.toInt) (h2 : a.toInt + b.toInt < 9223372036854775808) : (a + b).toInt = a.toInt + b.toInt := by
  rw [Int64.toInt_add]; exact Int.bmod_eq_of_le (by omega) (by omega)
theorem own_lsub {a b : Int64} (h1 : -9223372036854775808 ≤ a.toInt - b.toInt) (h2 : a.toInt - b.toInt < 9223372036854775808) : (a - b).toInt = a.toInt - b.toInt := by
  rw [Int64.toInt_sub]; exact Int.bmod_eq_of_le (by omega) (by omega)
theorem own_lmul {a b : Int64} (h1 : -9223372036854775808 ≤ a.toInt * b.toInt) (h2 : a.toInt * b.toInt < 9223372036854775808) : (a * b).toInt = a.toInt * b.toInt := by
  rw [Int64.toInt_mul]; exact Int.bmod_eq_of_le (by omega) (by omega)
theorem own_imask {x m : Int32} (k : Nat) (hk : k ≤ 31) (hm : m.toBitVec.toNat = 2 ^ k - 1) : (x &&& m).toInt = x.toInt % 2 ^ k := by
  have h1 : (x &&& m).toBitVec.toNat = x.toBitVec.toNat % 2 ^ k := by rw [Int32.toBitVec_and, BitVec.toNat_and, hm, Nat.and_two_pow_sub_one_eq_mod]
  have h3 : x.toBitVec.toNat % 2 ^ k < 2 ^ k := Nat.mod_lt _ (Nat.pow_pos (by decide))
  have h4 : (2 : Nat) ^ k ≤ 2 ^ 31 := Nat.pow_le_pow_right (by decide) hk
  have h2 : (x &&& m).toInt = ((x.toBitVec.toNat % 2 ^ k : Nat) : Int) := by
    show (x &&& m).toBitVec.toInt = _
    rw [BitVec.toInt_eq_toNat_of_lt (by rw [h1]; omega), h1]
  rw [h2]
  have h5 : x.toInt = x.toBitVec.toInt := rfl
  have h6 : ((2 : Int) ^ k) ∣ 4294967296 := by
    have : (4294967296 : Int) = 2 ^ k * 2 ^ (32 - k) := by rw [← Int.pow_add, show k + (32 - k) = 32 by omega]; rfl
    exact ⟨_, this⟩
  rw [h5, BitVec.toInt_eq_toNat_cond]
  split
  · exact Int.natCast_emod _ _
  · rw [Int.natCast_emod, show (((2 ^ 32 : Nat) : Int)) = 4294967296 from rfl, Int.sub_emod, Int.emod_eq_zero_of_dvd h6]; simp
theorem own_lmask {x m : Int64} (k : Nat) (hk : k ≤ 63) (hm : m.toBitVec.toNat = 2 ^ k - 1) : (x &&& m).toInt = x.toInt % 2 ^ k := by
  have h1 : (x &&& m).toBitVec.toNat = x.toBitVec.toNat % 2 ^ k := by rw [Int64.toBitVec_and, BitVec.toNat_and, hm, Nat.and_two_pow_sub_one_eq_mod]
  have h3 : x.toBitVec.toNat % 2 ^ k < 2 ^ k := Nat.mod_lt _ (Nat.pow_pos (by decide))
  have h4 : (2 : Nat) ^ k ≤ 2 ^ 63 := Nat.pow_le_pow_right (by decide) hk
  have h2 : (x &&& m).toInt = ((x.toBitVec.toNat % 2 ^ k : Nat) : Int) := by
    show (x &&& m).toBitVec.toInt = _
    rw [BitVec.toInt_eq_toNat_of_lt (by rw [h1]; omega), h1]
  rw [h2]
  have h5 : x.toInt = x.toBitVec.toInt := rfl
  have h6 : ((2 : Int) ^ k) ∣ 18446744073709551616 := by
    have : (18446744073709551616 : Int) = 2 ^ k * 2 ^ (64 - k) := by rw [← Int.pow_add, show k + (64 - k) = 64 by omega]; rfl
    exact ⟨_, this⟩
  rw [h5, BitVec.toInt_eq_toNat_cond]
  split
  · exact Int.natCast_emod _ _
  · rw [Int.natCast_emod, show (((2 ^ 64 : Nat) : Int)) = 18446744073709551616 from rfl, Int.sub_emod, Int.emod_eq_zero_of_dvd h6]; simp
theorem own_bm32 (x : Int) : x.bmod 4294967296 = (x + 2147483648) % 4294967296 - 2147483648 := by
  unfold Int.bmod; dsimp only; split <;> omega
theorem own_bm64 (x : Int) : x.bmod 18446744073709551616 = (x + 9223372036854775808) % 18446744073709551616 - 9223372036854775808 := by
  unfold Int.bmod; dsimp only; split <;> omega
theorem own_bm8 (x : Int) : x.bmod 256 = (x + 128) % 256 - 128 := by
  unfold Int.bmod; dsimp only; split <;> omega
theorem own_bm16 (x : Int) : x.bmod 65536 = (x + 32768) % 65536 - 32768 := by
  unfold Int.bmod; dsimp only; split <;> omega
theorem own_b8 (x : Int32) : x.toInt8.toInt32.toInt = (x.toInt + 128) % 256 - 128 := by rw [Int8.toInt_toInt32, Int32.toInt_toInt8]; exact own_bm8 _
theorem own_s16 (x : Int32) : x.toInt16.toInt32.toInt = (x.toInt + 32768) % 65536 - 32768 := by rw [Int16.toInt_toInt32, Int32.toInt_toInt16]; exact own_bm16 _
theorem own_l2i (x : Int64) : x.toInt32.toInt = (x.toInt + 2147483648) % 4294967296 - 2147483648 := by rw [Int64.toInt_toInt32]; exact own_bm32 _
theorem own_i2l (x : Int32) : x.toInt64.toInt = x.toInt := Int32.toInt_toInt64 x
theorem own_idiv {a b : Int32} (h1 : 0 ≤ a.toInt) (h2 : 0 < b.toInt) : (a / b).toInt = a.toInt / b.toInt := by
  rw [Int32.toInt_div_of_ne_right a b (fun q => by rw [q] at h2; exact absurd h2 (by decide)), Int.tdiv_eq_ediv_of_nonneg h1]
theorem own_ldiv {a b : Int64} (h1 : 0 ≤ a.toInt) (h2 : 0 < b.toInt) : (a / b).toInt = a.toInt / b.toInt := by
  rw [Int64.toInt_div_of_ne_right a b (fun q => by rw [q] at h2; exact absurd h2 (by decide)), Int.tdiv_eq_ediv_of_nonneg h1]
theorem own_imod {a b : Int32} (h1 : 0 ≤ a.toInt) : (a % b).toInt = a.toInt % b.toInt := by rw [Int32.toInt_mod, Int.tmod_eq_emod_of_nonneg h1]
theorem own_lmod {a b : Int64} (h1 : 0 ≤ a.toInt) : (a % b).toInt = a.toInt % b.toInt := by rw [Int64.toInt_mod, Int.tmod_eq_emod_of_nonneg h1]
theorem own_uI (x : Int32) : (x.toUInt32.toNat : Int) = x.toInt % 4294967296 := by
  have h : x.toInt = x.toBitVec.toInt := rfl
  have q : x.toUInt32.toNat = x.toBitVec.toNat := rfl
  have b := x.toBitVec.isLt
  rw [h, q, BitVec.toInt_eq_toNat_cond]
  split <;> omega
theorem own_uJ (x : Int64) : (x.toUInt64.toNat : Int) = x.toInt % 18446744073709551616 := by
  have h : x.toInt = x.toBitVec.toInt := rfl
  have q : x.toUInt64.toNat = x.toBitVec.toNat := rfl
  have b := x.toBitVec.isLt
  rw [h, q, BitVec.toInt_eq_toNat_cond]
  split <;> omega
theorem own_ofU (u : UInt32) (h : u.toNat < 2147483648) : u.toInt32.toInt = u.toNat := by
  show u.toBitVec.toInt = _
  exact BitVec.toInt_eq_toNat_of_lt (by show 2 * u.toNat < 2 ^ 32; omega)
theorem own_ofUJ (u : UInt64) (h : u.toNat < 9223372036854775808) : u.toInt64.toInt = u.toNat := by
  show u.toBitVec.toInt = _
  exact BitVec.toInt_eq_toNat_of_lt (by show 2 * u.toNat < 2 ^ 64; omega)
/-- Java's >>> on ints by a constant from 1 to 31 -/
theorem own_iushr (x s : Int32) (n : Nat) (h0 : 1 ≤ n) (hn : n < 32) (hs : (s &&& 31).toUInt32.toNat = n) : ((x.toUInt32 >>> (s &&& 31).toUInt32).toInt32).toInt = (x.toInt % 4294967296) / (2 ^ n : Nat) := by
  have e : (x.toUInt32 >>> (s &&& 31).toUInt32).toNat = x.toUInt32.toNat / 2 ^ n := by rw [UInt32.toNat_shiftRight, hs, Nat.mod_eq_of_lt hn, Nat.shiftRight_eq_div_pow]
  have b : x.toUInt32.toNat < 4294967296 := x.toUInt32.toNat_lt
  have c : x.toUInt32.toNat / 2 ^ n ≤ x.toUInt32.toNat / 2 ^ 1 := Nat.div_le_div_left (Nat.pow_le_pow_right (by decide) h0) (by decide)
  rw [own_ofU _ (by rw [e]; omega), e, Int.natCast_ediv, own_uI]
theorem own_lushr (x : Int64) (s : Int32) (n : Nat) (h0 : 1 ≤ n) (hn : n < 64) (hs : (s &&& 0x3f).toInt64.toUInt64.toNat = n) : ((x.toUInt64 >>> (s &&& 0x3f).toInt64.toUInt64).toInt64).toInt = (x.toInt % 18446744073709551616) / (2 ^ n : Nat) := by
  have e : (x.toUInt64 >>> (s &&& 0x3f).toInt64.toUInt64).toNat = x.toUInt64.toNat / 2 ^ n := by rw [UInt64.toNat_shiftRight, hs, Nat.mod_eq_of_lt hn, Nat.shiftRight_eq_div_pow]
  have b : x.toUInt64.toNat < 18446744073709551616 := x.toUInt64.toNat_lt
  have c : x.toUInt64.toNat / 2 ^ n ≤ x.toUInt64.toNat / 2 ^ 1 := Nat.div_le_div_left (Nat.pow_le_pow_right (by decide) h0) (by decide)
  rw [own_ofUJ _ (by rw [e]; omega), e, Int.natCast_ediv, own_uJ]
theorem own_ishl {x s : Int32} (n : Nat) (hs : (s.toBitVec.smod 32).toNat = n) (h0 : 0 ≤ x.toInt) (h1 : x.toInt * (2 ^ n : Nat) < 2147483648) : (x <<< s).toInt = x.toInt * (2 ^ n : Nat) := by
  have h : x.toInt = x.toBitVec.toInt := rfl
  have hx : x.toInt = x.toBitVec.toNat := by
    have b := x.toBitVec.isLt
    rw [h, BitVec.toInt_eq_toNat_cond]; rw [h, BitVec.toInt_eq_toNat_cond] at h0
    split at h0 <;> rename_i q
    · rw [if_pos q]
    · omega
  have e : (x <<< s).toBitVec.toNat = x.toBitVec.toNat * 2 ^ n := by
    rw [Int32.toBitVec_shiftLeft, BitVec.shiftLeft_eq', hs, BitVec.toNat_shiftLeft, Nat.shiftLeft_eq]
    apply Nat.mod_eq_of_lt
    rw [hx] at h1
    omega
  show (x <<< s).toBitVec.toInt = _
  rw [BitVec.toInt_eq_toNat_of_lt (by rw [e]; rw [hx] at h1; omega), e, hx]
  simp
theorem own_lshl {x s : Int64} (n : Nat) (hs : (s.toBitVec.smod 64).toNat = n) (h0 : 0 ≤ x.toInt) (h1 : x.toInt * (2 ^ n : Nat) < 9223372036854775808) : (x <<< s).toInt = x.toInt * (2 ^ n : Nat) := by
  have h : x.toInt = x.toBitVec.toInt := rfl
  have hx : x.toInt = x.toBitVec.toNat := by
    have b := x.toBitVec.isLt
    rw [h, BitVec.toInt_eq_toNat_cond]; rw [h, BitVec.toInt_eq_toNat_cond] at h0
    split at h0 <;> rename_i q
    · rw [if_pos q]
    · omega
  have e : (x <<< s).toBitVec.toNat = x.toBitVec.toNat * 2 ^ n := by
    rw [Int64.toBitVec_shiftLeft, BitVec.shiftLeft_eq', hs, BitVec.toNat_shiftLeft, Nat.shiftLeft_eq]
    apply Nat.mod_eq_of_lt
    rw [hx] at h1
    omega
  show (x <<< s).toBitVec.toInt = _
  rw [BitVec.toInt_eq_toNat_of_lt (by rw [e]; rw [hx] at h1; omega), e, hx]
  simp
theorem own_ishr (x s : Int32) (n : Nat) (hs : (s.toBitVec.smod 32).toNat = n) : (x >>> s).toInt = x.toInt / (2 ^ n : Nat) := by
  show (x >>> s).toBitVec.toInt = _
  rw [Int32.toBitVec_shiftRight, BitVec.sshiftRight', hs, BitVec.toInt_sshiftRight, Int.shiftRight_eq_div_pow]
  rfl
theorem own_lshr (x s : Int64) (n : Nat) (hs : (s.toBitVec.smod 64).toNat = n) : (x >>> s).toInt = x.toInt / (2 ^ n : Nat) := by
  show (x >>> s).toBitVec.toInt = _
  rw [Int64.toBitVec_shiftRight, BitVec.sshiftRight', hs, BitVec.toInt_sshiftRight, Int.shiftRight_eq_div_pow]
  rfl
theorem own_natbit (x k : Nat) : x &&& 2 ^ k = 0 ↔ x / 2 ^ k % 2 = 0 := by
  constructor
  · intro h
    have q : (x &&& 2 ^ k).testBit k = false := by rw [h]; exact Nat.zero_testBit k
    rw [Nat.testBit_and, Nat.testBit_two_pow_self, Bool.and_true, Nat.testBit_eq_decide_div_mod_eq] at q
    have q := of_decide_eq_false q
    omega
  · intro h
    apply Nat.eq_of_testBit_eq
    intro i
    rw [Nat.testBit_and, Nat.zero_testBit, Nat.testBit_two_pow]
    by_cases e : k = i
    · subst e
      rw [Nat.testBit_eq_decide_div_mod_eq, h]; rfl
    · simp [e]
/-- one bit of an int -/
theorem own_ibit (x m : Int32) (k : Nat) (hm : m.toBitVec.toNat = 2 ^ k) : (x &&& m = 0) ↔ x.toInt % 4294967296 / (2 ^ k : Nat) % 2 = 0 := by
  have u : (x.toBitVec.toNat : Int) = x.toInt % 4294967296 := own_uI x
  have z : (0 : Int32).toBitVec.toNat = 0 := rfl
  rw [← u, ← Int.natCast_ediv, ← Int32.toBitVec_inj, ← BitVec.toNat_inj, Int32.toBitVec_and, BitVec.toNat_and, hm, z, own_natbit]
  omega
theorem own_k0 : (0 : Int32).toNatClampNeg = 0 := by decide
theorem own_k1 : (1 : Int32).toNatClampNeg = 1 := by decide
theorem own_k2 : (2 : Int32).toNatClampNeg = 2 := by decide
theorem own_k3 : (3 : Int32).toNatClampNeg = 3 := by decide
theorem own_k4 : (4 : Int32).toNatClampNeg = 4 := by decide
theorem own_k5 : (5 : Int32).toNatClampNeg = 5 := by decide
theorem own_k6 : (6 : Int32).toNatClampNeg = 6 := by decide
theorem own_k7 : (7 : Int32).toNatClampNeg = 7 := by decide
/-- a bit as 0 or 1 -/
def own_bit (f m : Int32) : Int32 := if f &&& m = 0 then 0 else 1
theorem own_bit01 (f m : Int32) : own_bit f m = 0 ∨ own_bit f m = 1 := by unfold own_bit; split <;> simp
theorem own_r (a b c d : Int32) : own_rd [a, b, c, d] 0 = a ∧ own_rd [a, b, c, d] 1 = b ∧ own_rd [a, b, c, d] 2 = c ∧ own_rd [a, b, c, d] 3 = d := by
  simp only [own_rd, own_k0, own_k1, own_k2, own_k3]; exact ⟨rfl, rfl, rfl, rfl⟩
theorem own_i (a b c d : Int32) : own_inb [a, b, c, d] 0 ∧ own_inb [a, b, c, d] 1 ∧ own_inb [a, b, c, d] 2 ∧ own_inb [a, b, c, d] 3 := by
  refine ⟨⟨by decide, ?_⟩, ⟨by decide, ?_⟩, ⟨by decide, ?_⟩, ⟨by decide, ?_⟩⟩
  · rw [own_k0]; exact Nat.zero_lt_succ _
  · rw [own_k1]; exact Nat.succ_lt_succ (Nat.zero_lt_succ _)
  · rw [own_k2]; exact Nat.succ_lt_succ (Nat.succ_lt_succ (Nat.zero_lt_succ _))
  · rw [own_k3]; exact Nat.succ_lt_succ (Nat.succ_lt_succ (Nat.succ_lt_succ (Nat.zero_lt_succ _)))
/-- what is stored is still there -/
theorem own_kept (f r e : Int32) : (if f &&& 1 = 0 then f_law_135 f r e 0 (own_rd [own_bit f 1, own_bit f 2, own_bit f 4, own_bit f 8] 0) [own_bit f 1, own_bit f 2, own_bit f 4, own_bit f 8] else f_law_135 f r e 1 (own_rd [own_bit f 1, own_bit f 2, own_bit f 4, own_bit f 8] 0) [own_bit f 1, own_bit f 2, own_bit f 4, own_bit f 8]) = if r = e then some 1 else some 0 := by
  obtain ⟨r0, r1, r2, r3⟩ := own_r (own_bit f 1) (own_bit f 2) (own_bit f 4) (own_bit f 8)
  obtain ⟨i0, i1, i2, i3⟩ := own_i (own_bit f 1) (own_bit f 2) (own_bit f 4) (own_bit f 8)
  have s1 : (if f &&& 1 = 0 then f_law_135 f r e 0 (own_rd [own_bit f 1, own_bit f 2, own_bit f 4, own_bit f 8] 0) [own_bit f 1, own_bit f 2, own_bit f 4, own_bit f 8] else f_law_135 f r e 1 (own_rd [own_bit f 1, own_bit f 2, own_bit f 4, own_bit f 8] 0) [own_bit f 1, own_bit f 2, own_bit f 4, own_bit f 8]) = f_law_135 f r e (own_bit f 1) (own_bit f 1) [own_bit f 1, own_bit f 2, own_bit f 4, own_bit f 8] := by
    rw [r0]; generalize own_bit f 2 = x2; generalize own_bit f 4 = x4; generalize own_bit f 8 = x8
    unfold own_bit; split <;> rfl
  rw [s1]
  unfold f_law_135
  rw [if_pos rfl, own_ct _ i1, r1]
  have s2 : (if f &&& 2 = 0 then f_law_152 f r e 0 (own_bit f 2) [own_bit f 1, own_bit f 2, own_bit f 4, own_bit f 8] else f_law_152 f r e 1 (own_bit f 2) [own_bit f 1, own_bit f 2, own_bit f 4, own_bit f 8]) = f_law_152 f r e (own_bit f 2) (own_bit f 2) [own_bit f 1, own_bit f 2, own_bit f 4, own_bit f 8] := by
    generalize own_bit f 1 = x2; generalize own_bit f 4 = x4; generalize own_bit f 8 = x8
    unfold own_bit; split <;> rfl
  rw [s2]
  unfold f_law_152
  rw [if_pos rfl, own_ct _ i2, r2]
  have s3 : (if f &&& 4 = 0 then f_law_169 f r e 0 (own_bit f 4) [own_bit f 1, own_bit f 2, own_bit f 4, own_bit f 8] else f_law_169 f r e 1 (own_bit f 4) [own_bit f 1, own_bit f 2, own_bit f 4, own_bit f 8]) = f_law_169 f r e (own_bit f 4) (own_bit f 4) [own_bit f 1, own_bit f 2, own_bit f 4, own_bit f 8] := by
    generalize own_bit f 1 = x2; generalize own_bit f 2 = x4; generalize own_bit f 8 = x8
    unfold own_bit; split <;> rfl
  rw [s3]
  unfold f_law_169
  rw [if_pos rfl, own_ct _ i3, r3]
  have s4 : (if f &&& 8 = 0 then f_law_187 r e 0 (own_bit f 8) else f_law_187 r e 1 (own_bit f 8)) = f_law_187 r e (own_bit f 8) (own_bit f 8) := by
    unfold own_bit; split <;> rfl
  rw [s4]
  unfold f_law_187
  rw [if_pos rfl]
theorem own_72 (c f t : Int32) (ht : t.toInt < 4) : f_law_72 c f t [own_bit f 1, own_bit f 2, own_bit f 4, own_bit f 8] = some 1 := by
  obtain ⟨r0, r1, r2, r3⟩ := own_r (own_bit f 1) (own_bit f 2) (own_bit f 4) (own_bit f 8)
  obtain ⟨i0, i1, i2, i3⟩ := own_i (own_bit f 1) (own_bit f 2) (own_bit f 4) (own_bit f 8)
  have kk := own_kept f
  unfold f_law_72 f_Slot_mk f_Record_mk
  rw [own_bs, own_bs]
  dsimp only
  unfold f_Slot_isBound
  by_cases hn : t < 0
  · rw [if_pos hn, own_bs, if_pos hn, own_ct _ i0, kk, if_pos rfl]
  · simp only [if_neg hn]
    -- the bit that is asked
    have sh : ∀ (n : Nat) (m : Int32), ((t &&& 31).toBitVec.smod 32).toNat = n → n ≤ 3 → m.toBitVec.toNat = 2 ^ n → ((((f >>> (t &&& 31)) &&& 1) = 0) ↔ (f &&& m = 0)) := by
      intro n m h1 h2 h3
      rw [own_ibit f m n h3, ← Int32.toInt_inj, own_imask 1 (by decide) (by decide), own_ishr f (t &&& 31) n h1]
      have z : (0 : Int32).toInt = 0 := rfl
      rw [z]
      have : n = 0 ∨ n = 1 ∨ n = 2 ∨ n = 3 := by omega
      rcases this with rfl | rfl | rfl | rfl <;> omega
    have main : ∀ m : Int32, own_inb [own_bit f 1, own_bit f 2, own_bit f 4, own_bit f 8] t → own_rd [own_bit f 1, own_bit f 2, own_bit f 4, own_bit f 8] t = own_bit f m → ((((f >>> (t &&& 31)) &&& 1) = 0) ↔ (f &&& m = 0)) →
        (own_bd (own_ck (own_inb [own_bit f 1, own_bit f 2, own_bit f 4, own_bit f 8] t) (if own_rd [own_bit f 1, own_bit f 2, own_bit f 4, own_bit f 8] t = 0 then some 0 else some 1)) fun r71 => if (f >>> (t &&& 31)) &&& 1 = 0 then own_ck (own_inb [own_bit f 1, own_bit f 2, own_bit f 4, own_bit f 8] 0) (if f &&& 1 = 0 then f_law_135 f r71 0 0 (own_rd [own_bit f 1, own_bit f 2, own_bit f 4, own_bit f 8] 0) [own_bit f 1, own_bit f 2, own_bit f 4, own_bit f 8] else f_law_135 f r71 0 1 (own_rd [own_bit f 1, own_bit f 2, own_bit f 4, own_bit f 8] 0) [own_bit f 1, own_bit f 2, own_bit f 4, own_bit f 8]) else own_ck (own_inb [own_bit f 1, own_bit f 2, own_bit f 4, own_bit f 8] 0) (if f &&& 1 = 0 then f_law_135 f r71 1 0 (own_rd [own_bit f 1, own_bit f 2, own_bit f 4, own_bit f 8] 0) [own_bit f 1, own_bit f 2, own_bit f 4, own_bit f 8] else f_law_135 f r71 1 1 (own_rd [own_bit f 1, own_bit f 2, own_bit f 4, own_bit f 8] 0) [own_bit f 1, own_bit f 2, own_bit f 4, own_bit f 8])) = some 1 := by
      intro m hi hr hs
      rw [own_ct _ hi, hr]
      by_cases hb : f &&& m = 0
      · have e : own_bit f m = 0 := if_pos hb
        rw [e, if_pos rfl, own_bs, if_pos (hs.mpr hb), own_ct _ i0, kk, if_pos rfl]
      · have e : own_bit f m = 1 := if_neg hb
        rw [e, if_neg (by decide), own_bs, if_neg (fun q => hb (hs.mp q)), own_ct _ i0, kk, if_pos rfl]
    have l0 : (0 : Int32).toInt = 0 := rfl
    have l1 : (1 : Int32).toInt = 1 := rfl
    have l2 : (2 : Int32).toInt = 2 := rfl
    have l3 : (3 : Int32).toInt = 3 := rfl
    have ht' : t = 0 ∨ t = 1 ∨ t = 2 ∨ t = 3 := by
      rw [Int32.lt_iff_toInt_lt, l0] at hn
      simp only [← Int32.toInt_inj, l0, l1, l2, l3]; omega
    rcases ht' with rfl | rfl | rfl | rfl
    · exact main 1 i0 r0 (sh 0 1 (by decide) (by decide) (by decide))
    · exact main 2 i1 r1 (sh 1 2 (by decide) (by decide) (by decide))
    · exact main 4 i2 r2 (sh 2 4 (by decide) (by decide) (by decide))
    · exact main 8 i3 r3 (sh 3 8 (by decide) (by decide) (by decide))
theorem own_law (v c f : Int32) : f_law v c f = some 1 := by
  have m3 : (v &&& (3 : Int32)).toInt = v.toInt % 2 ^ 2 := own_imask 2 (by decide) (by decide)
  have go : f_law v c f = if v < 0 then f_law_72 c f v [own_bit f 1, own_bit f 2, own_bit f 4, own_bit f 8] else f_law_72 c f (v &&& 3) [own_bit f 1, own_bit f 2, own_bit f 4, own_bit f 8] := by
    have j0 : ∀ a b c d : Int32, own_inb [a, b, c, d] 0 := fun a b c d => (own_i a b c d).1
    have j1 : ∀ a b c d : Int32, own_inb [a, b, c, d] 1 := fun a b c d => (own_i a b c d).2.1
    have j2 : ∀ a b c d : Int32, own_inb [a, b, c, d] 2 := fun a b c d => (own_i a b c d).2.2.1
    have j3 : ∀ a b c d : Int32, own_inb [a, b, c, d] 3 := fun a b c d => (own_i a b c d).2.2.2
    have w0 : ∀ a b c d x : Int32, own_wr [a, b, c, d] 0 x = [x, b, c, d] := fun a b c d x => by rw [own_wr, own_k0]; rfl
    have w1 : ∀ a b c d x : Int32, own_wr [a, b, c, d] 1 x = [a, x, c, d] := fun a b c d x => by rw [own_wr, own_k1]; rfl
    have w2 : ∀ a b c d x : Int32, own_wr [a, b, c, d] 2 x = [a, b, x, d] := fun a b c d x => by rw [own_wr, own_k2]; rfl
    have w3 : ∀ a b c d x : Int32, own_wr [a, b, c, d] 3 x = [a, b, c, x] := fun a b c d x => by rw [own_wr, own_k3]; rfl
    have o0 : (0 : Int32) &&& 1 = 0 := by decide
    have o1 : (1 : Int32) &&& 1 = 1 := by decide
    unfold f_law f_law_17 f_law_45
    by_cases h0 : f &&& 1 = 0 <;> by_cases h1 : f &&& 2 = 0 <;> by_cases h2 : f &&& 4 = 0 <;> by_cases h3 : f &&& 8 = 0 <;>
      simp only [own_bit, if_pos, if_neg, h0, h1, h2, h3, own_ls, own_ct _ (j0 _ _ _ _), own_ct _ (j1 _ _ _ _), own_ct _ (j2 _ _ _ _), own_ct _ (j3 _ _ _ _), w0, w1, w2, w3, o0, o1, if_true, if_false, not_false_eq_true]
  rw [go]
  split
  · rename_i h
    rw [Int32.lt_iff_toInt_lt] at h
    have l0 : (0 : Int32).toInt = 0 := rfl
    exact own_72 _ _ _ (by omega)
  · exact own_72 _ _ _ (by omega)

set_option maxRecDepth 65536 in
set_option maxHeartbeats 4000000 in
theorem comes_1 {Post : Tables → Env → Array Value → State → Outcome → State → Prop} (hpost : ∀ tb e args s v u, (limb_1_1.after args s (.returned v) u = true ∧ limb_1_2.after args s (.returned v) u = true ∧ True) → FrameEnd s (.returned v) u (Jvm.fieldLocs frame_1_writes args s ++ Jvm.arrayLocs frame_1_arrays args s ++ Jvm.staticLocs frame_1_statics s) 16 128 → Post tb e args s (.returned v) u) :
    ArmFor flags0 classFile x code maxLocals ret World_1 tables_1 room_1 Calls_1 rest_1 Pre_1 Post := by
  intro l hfl _ _ p e ha hc hk s m args below hf hA hF happ hP
  obtain ⟨hcalls, hrest, hpre⟩ := hP
  obtain ⟨-, -, -, hnamed, -, -, -, hat⟩ := (Spec.applies_iff hf).mp happ
  obtain ⟨hg, hn⟩ := and_e (Cond.before_iff.mp (show (Jvm.Cond.and given_1 narrow_1).before args s = true from hpre))
  obtain ⟨gc, g0⟩ := and_e hg
  obtain ⟨ga0, g1⟩ := and_e g0
  obtain ⟨ga1, g2⟩ := and_e g1
  have ga2 := g2
  obtain ⟨w0, w1, w2, rfl⟩ : ∃ w0 w1 w2 : Value, args = #[w0, w1, w2] := by
    have hs : args.size = 3 := by simpa [Cond.value, given_1] using gc
    obtain ⟨L⟩ := args
    match L, hs with
    | [w0, w1, w2], _ => exact ⟨w0, w1, w2, rfl⟩
  have hw := fun d (hd : d ∈ tables_1) => atoms_spec (ws := Jvm.Cond.code x code maxLocals ret :: tables_1) hat d (List.mem_cons_of_mem _ hd)
  obtain ⟨i0, ei0⟩ := is_v ga0
  obtain rfl : w0 = (.int i0) := Option.some.inj ei0
  obtain ⟨i1, ei1⟩ := is_v ga1
  obtain rfl : w1 = (.int i1) := Option.some.inj ei1
  obtain ⟨i2, ei2⟩ := is_v ga2
  obtain rfl : w2 = (.int i2) := Option.some.inj ei2
  obtain ⟨n, o, h1, h2, h3, _, L, rfl, hQ, hq⟩ := rm_law l s _ hw tables_1 s.heap s.heap.size (Nat.le_refl _) i0 i1 i2 1 (own_law i0 i1 i2) p e ha hc hk s m _ below hf ((Spec.applies_iff_loose hf).mp happ).1 ⟨rfl, State.Warmed39.refl s, rfl⟩ trivial
  obtain ⟨rfl, N, -⟩ := hQ
  refine ⟨n, _, h1, h2, h3, hpost _ _ _ _ _ _ ⟨Cond.after_iff.mpr rfl, Cond.after_iff.mpr (eq_i res_at (Term.int_eval (1)) rfl), trivial⟩ ⟨hq.1, hq.2.1, (hq.2.2.sift fun y hy => Or.inr (N y hy)).mono (by decide) (by decide)⟩⟩
theorem main_1_1 : Claimed_1_1 := comes_1 fun _ _ _ _ _ _ h hF => ⟨h.1, hF⟩
theorem main_1_2 : Claimed_1_2 := comes_1 fun _ _ _ _ _ _ h hF => ⟨h.2.1, hF⟩
end Jvm.Pilot.@@N@@
namespace Jvm.Pilot.@@N@@
open Jvm Jvm.ClassFile Sem Op Lib Jvm.Free Jvm.Stand Jvm.Pilot.@@N@@.Jvm.D
/-! MADE BY PROGRAM (witnessworld.py) out of the Statement's table words and the real class files: 12 classes; the members and pool entries that the words name. The judged class is class 1, her method 1. -/
namespace start1
open Jvm.ClassFile
def u (s : String) : CpInfo := .utf8 (stringToUtf16 s)
/-- a pool by its gaps: so many unusable entries, then the entry; so many at the end -/
def gap : Nat → List CpInfo → List CpInfo
  | 0, r => r
  | n + 1, r => .unusable :: gap n r
def poolList (es : List (Nat × CpInfo)) (last : Nat) : List CpInfo := es.foldr (fun e r => gap e.1 (e.2 :: r)) (gap last [])
def pool (es : List (Nat × CpInfo)) (last : Nat) : Array CpInfo := ⟨poolList es last⟩
def fileOf (pool : Array CpInfo) (this : Nat) (attrs : Array Attribute := #[]) (ms : Array MethodInfo := #[]) (fl : Nat := 33) (sup : Nat := 0) (ifs : Array Nat := #[]) (fds : Array FieldInfo := #[]) : ClassFile where
  minorVersion := 0
  majorVersion := 65
  constantPool := pool
  accessFlags := fl
  thisClass := this
  superClass := sup
  interfaces := ifs
  fields := fds
  methods := ms
  attributes := attrs
def plain (name : String) (sup : Option ClassId) : Class where
  name := name
  kind := .ordinary
  loader := none
  accessFlags := 33
  super := sup
  interfaces := #[]
  cf := none
  fields := #[]
  methods := #[]
  instanceTypes := #[]
  staticTypes := #[]
  resolved := #[]
  callSites := []
  init := .initialized
  statics := none
  mirror := none

def pool0 : Array CpInfo := pool [(5, u "<init>"), (0, u "()V"), (1, .class_ 10), (1, u "java/lang/Object")] 113

def k0c0 : Code := { maxStack := 0, maxLocals := 1, code := object_method_1_code, exceptionTable := #[], attributes := #[] }
def k0m0 : Method := { name := "<init>", desc := "()V", sig := { parameters := [], returnType := none }, accessFlags := 1, code := some k0c0 }
/-- java/lang/Object -/
def k0 : Class := { plain "java/lang/Object" none with
  accessFlags := 33
  interfaces := #[]
  cf := some (fileOf pool0 8 #[] #[{ accessFlags := 1, nameIndex := 5, descriptorIndex := 6, attributes := #[] }] 33 0 #[] #[])
  fields := #[]
  methods := #[k0m0]
  instanceTypes := #[]
  staticTypes := #[]
  resolved := Array.replicate 124 none
  statics := none }

def pool1 : Array CpInfo := pool [(2, .class_ 4), (1, u "java/lang/Object"), (0, u "<init>"), (0, u "()V"), (0, .class_ 8), (0, u "com/example/rulr/rulr/BodyMatcher$Slot"), (0, .methodref 7 10), (0, .nameAndType 5 11), (0, u "(II)V"), (0, .methodref 7 13), (0, .nameAndType 14 15), (0, u "isBound"), (0, u "([Z)Z"), (0, .class_ 17), (0, u "com/example/rulr/rulr/SlotIsBoundPinLaw"), (2, u "law"), (0, u "(III)Z")] 9

def k1m0 : Method := { name := "<init>", desc := "()V", sig := { parameters := [], returnType := none }, accessFlags := 1, code := none }
def k1c1 : Code := { maxStack := 4, maxLocals := 9, code := code, exceptionTable := #[], attributes := #[] }
def k1m1 : Method := { name := "law", desc := "(III)Z", sig := { parameters := [.int, .int, .int], returnType := some .boolean }, accessFlags := 9, code := some k1c1 }
/-- com/example/rulr/rulr/SlotIsBoundPinLaw -/
def k1 : Class := { plain "com/example/rulr/rulr/SlotIsBoundPinLaw" (some 0) with
  accessFlags := 49
  interfaces := #[]
  cf := some (fileOf pool1 16 #[] #[{ accessFlags := 1, nameIndex := 5, descriptorIndex := 6, attributes := #[] }, { accessFlags := 9, nameIndex := 20, descriptorIndex := 21, attributes := #[] }] 49 2 #[] #[])
  fields := #[]
  methods := #[k1m0, k1m1]
  instanceTypes := #[]
  staticTypes := #[]
  resolved := Array.replicate 31 none
  statics := none }

def pool2 : Array CpInfo := pool [(1, .methodref 2 3), (0, .class_ 4), (0, .nameAndType 5 6), (0, u "java/lang/Object"), (0, u "<init>"), (0, u "()V"), (0, .class_ 8), (0, u "java/lang/Record")] 13

def k2c0 : Code := { maxStack := 1, maxLocals := 1, code := jdk_30_method_1_code, exceptionTable := #[], attributes := #[] }
def k2m0 : Method := { name := "<init>", desc := "()V", sig := { parameters := [], returnType := none }, accessFlags := 4, code := some k2c0 }
/-- java/lang/Record -/
def k2 : Class := { plain "java/lang/Record" (some 0) with
  accessFlags := 1057
  interfaces := #[]
  cf := some (fileOf pool2 7 #[] #[{ accessFlags := 4, nameIndex := 5, descriptorIndex := 6, attributes := #[] }] 1057 2 #[] #[])
  fields := #[]
  methods := #[k2m0]
  instanceTypes := #[]
  staticTypes := #[]
  resolved := Array.replicate 22 none
  statics := none }

def pool3 : Array CpInfo := pool [(1, .methodref 2 3), (0, .class_ 4), (0, .nameAndType 5 6), (0, u "java/lang/Record"), (0, u "<init>"), (0, u "()V"), (0, .fieldref 8 9), (0, .class_ 10), (0, .nameAndType 11 12), (0, u "com/example/rulr/rulr/BodyMatcher$Slot"), (0, u "variable"), (0, u "I"), (0, .fieldref 8 14), (0, .nameAndType 15 12), (0, u "constant"), (2, u "(II)V"), (16, u "isBound"), (0, u "([Z)Z"), (9, .class_ 47), (0, u "com/example/rulr/rulr/BodyMatcher")] 20

def k3c0 : Code := { maxStack := 2, maxLocals := 3, code := prog_11_method_1_code, exceptionTable := #[], attributes := #[] }
def k3m0 : Method := { name := "<init>", desc := "(II)V", sig := { parameters := [.int, .int], returnType := none }, accessFlags := 0, code := some k3c0 }
def k3c1 : Code := { maxStack := 2, maxLocals := 2, code := prog_11_method_4_code, exceptionTable := #[], attributes := #[] }
def k3m1 : Method := { name := "isBound", desc := "([Z)Z", sig := { parameters := [(.array .boolean)], returnType := some .boolean }, accessFlags := 0, code := some k3c1 }
/-- com/example/rulr/rulr/BodyMatcher$Slot -/
def k3 : Class := { plain "com/example/rulr/rulr/BodyMatcher$Slot" (some 2) with
  accessFlags := 48
  interfaces := #[]
  cf := some (fileOf pool3 8 #[.nestHost 46] #[{ accessFlags := 0, nameIndex := 5, descriptorIndex := 18, attributes := #[] }, { accessFlags := 0, nameIndex := 35, descriptorIndex := 36, attributes := #[] }] 48 2 #[] #[{ accessFlags := 18, nameIndex := 11, descriptorIndex := 12, attributes := #[] }, { accessFlags := 18, nameIndex := 15, descriptorIndex := 12, attributes := #[] }])
  fields := #[{ name := "variable", type := .int, accessFlags := 18, slot := 0, constantValue := 0 }, { name := "constant", type := .int, accessFlags := 18, slot := 1, constantValue := 0 }]
  methods := #[k3m0, k3m1]
  instanceTypes := #[.int, .int]
  staticTypes := #[]
  resolved := Array.replicate 68 none
  statics := none }

def pool4 : Array CpInfo := pool [(1, u "java/lang/Cloneable"), (0, .class_ 1), (0, u "java/lang/Object"), (0, .class_ 3)] 3

/-- java/lang/Cloneable -/
def k4 : Class := { plain "java/lang/Cloneable" (some 0) with
  accessFlags := 1537
  interfaces := #[]
  cf := some (fileOf pool4 2 #[] #[] 1537 4 #[] #[])
  fields := #[]
  methods := #[]
  instanceTypes := #[]
  staticTypes := #[]
  resolved := Array.replicate 8 none
  statics := none }

def pool5 : Array CpInfo := pool [(1, u "java/io/Serializable"), (0, .class_ 1), (0, u "java/lang/Object"), (0, .class_ 3)] 3

/-- java/io/Serializable -/
def k5 : Class := { plain "java/io/Serializable" (some 0) with
  accessFlags := 1537
  interfaces := #[]
  cf := some (fileOf pool5 2 #[] #[] 1537 4 #[] #[])
  fields := #[]
  methods := #[]
  instanceTypes := #[]
  staticTypes := #[]
  resolved := Array.replicate 8 none
  statics := none }

/-- the primitive boolean -/
def k6 : Class := { plain "boolean" none with kind := .primitive 'Z', accessFlags := 0x411 }
/-- [Z -/
def k7 : Class := { plain "[Z" (some 0) with kind := .array 6 .boolean, interfaces := #[4, 5], accessFlags := 1041 }

/-- the primitive byte -/
def k8 : Class := { plain "byte" none with kind := .primitive 'B', accessFlags := 0x411 }
/-- [B -/
def k9 : Class := { plain "[B" (some 0) with kind := .array 8 .byte, interfaces := #[4, 5], accessFlags := 1041 }

/-- the primitive int -/
def k10 : Class := { plain "int" none with kind := .primitive 'I', accessFlags := 0x411 }
/-- [I -/
def k11 : Class := { plain "[I" (some 0) with kind := .array 10 .int, interfaces := #[4, 5], accessFlags := 1041 }

def heap : Heap := #[]
def classes : Array Class := #[k0, k1, k2, k3, k4, k5, k6, k7, k8, k9, k10, k11]
def interned : List (Array UInt16 × Addr) := []
def slotsUsed : Nat := 0
def theMethod : MethodId := ⟨1, 1⟩
def args0 : Array Value := #[.int 5, .int 5, .int 5]
def aboutOver (below : List Frame) : State where
  vm := { classes := classes, interned := interned.toArray }
  heap := heap
  slotsUsed := slotsUsed
  threads := #[{ frames := .invoking theMethod args0 :: below }]
def below0 : List Frame := [.native { method := ⟨0, 0⟩, args := #[] }]
def about1 : State := aboutOver below0
def p0 : Program := .bare "" "" ""
def e0 : Env := launch0.env 0 0 0
theorem w_frames : about1.frames = Frame.invoking theMethod args0 :: below0 := rfl
set_option maxRecDepth 65536 in
theorem w_args : argsFit about1.vm theMethod args0 = true := by decide +kernel
set_option maxRecDepth 65536 in
theorem w_heap : heapFits about1 = true := by decide +kernel
set_option maxRecDepth 65536 in
theorem w_runnable : about1.curStatus? = some .runnable := by decide +kernel
set_option maxRecDepth 65536 in
theorem w_alone : about1.alone = true := by decide +kernel
set_option maxRecDepth 65536 in
theorem w_named : about1.methodNamed? x = some theMethod := by decide +kernel
set_option maxRecDepth 65536 in
theorem w_hears : about1.hears theMethod below0 = true := by decide +kernel
set_option maxRecDepth 65536 in
theorem w_ripe : about1.ripe theMethod args0 below0 = true := by decide +kernel
theorem w_running : about1.status = .running := rfl
set_option maxRecDepth 65536 in
theorem w_room : about1.hasRoom e0.platform room_1 = true :=
  launch0.hasRoom_least _ room_1 (by decide +kernel) (by decide +kernel) (by decide +kernel) (by decide +kernel) (by decide +kernel) (by decide +kernel)
theorem allAtoms_all (ts : List Jvm.Cond) (a : Array Jvm.Value) (st : Jvm.State) : (allAtoms ts).before a st = ts.all (fun c => c.before a st) := by
  induction ts with
  | nil => rfl
  | cons c t ih =>
    show (Jvm.Cond.and c (allAtoms t)).before a st = _
    rw [Jvm.Cond.before_and, ih, List.all_cons]
def words1 : List Jvm.Cond := Jvm.Cond.code x code maxLocals ret :: tables_1
/-- a 'code' word, met by the world's own term for the bytes: nothing is compared byte by byte -/
theorem code_word {y : MethodName} {bytes : ByteArray} {mx : Nat} {rt : Option FieldType} {a : Array Value} {s : State} {m : MethodId} {meth : Method} {c : Code} (h1 : s.methodNamed? y = some m) (h2 : s.vm.method? m = some meth) (h3 : meth.code = some c) (h4 : c.code = bytes)
    (h5 : (c.maxLocals == mx && c.exceptionTable.isEmpty && decide (c.maxStack ≤ mostOperands) && decide (meth.sig.returnType = rt) && !meth.locks && decide (parseMethodDescriptor y.desc = some meth.sig)) = true) : (Jvm.Cond.code y bytes mx rt).before a s = true := by
  simp only [Bool.and_eq_true, beq_iff_eq, Bool.not_eq_true', decide_eq_true_eq] at h5
  obtain ⟨⟨⟨⟨⟨g1, g2⟩, g3⟩, g4⟩, g5⟩, g6⟩ := h5
  simp [Cond.before, Cond.holds, Cond.value, h1, h2, h3, h4, g1, g2, g3, g4, g5, g6]
def isCode : Jvm.Cond → Bool
  | .code _ _ _ _ => true
  | _ => false
theorem all_split {L : List Jvm.Cond} {P : Jvm.Cond → Bool} (h1 : L.all (fun c => isCode c || P c) = true) (h2 : ∀ c ∈ L.filter isCode, P c = true) : L.all P = true := by
  refine List.all_eq_true.mpr fun c hc => ?_
  have h := List.all_eq_true.mp h1 c hc
  rcases Bool.eq_false_or_eq_true (isCode c) with hi | hi
  · exact h2 c (List.mem_filter.mpr ⟨hc, hi⟩)
  · simpa [hi] using h
set_option maxRecDepth 65536 in
theorem w_c0 : (Jvm.Cond.code x code maxLocals ret).before args0 about1 = true := code_word (m := ⟨1, 1⟩) (meth := k1m1) (c := k1c1) (by decide +kernel) rfl rfl rfl (by decide +kernel)
set_option maxRecDepth 65536 in
theorem w_c1 : (Jvm.Cond.code ({ cls := "com/example/rulr/rulr/BodyMatcher$Slot", name := "<init>", desc := "(II)V" } : Jvm.MethodName) prog_11_method_1_code (3 : Nat) (Option.none : Option Jvm.ClassFile.FieldType)).before args0 about1 = true := code_word (m := ⟨3, 0⟩) (meth := k3m0) (c := k3c0) (by decide +kernel) rfl rfl rfl (by decide +kernel)
set_option maxRecDepth 65536 in
theorem w_c2 : (Jvm.Cond.code ({ cls := "java/lang/Record", name := "<init>", desc := "()V" } : Jvm.MethodName) jdk_30_method_1_code (1 : Nat) (Option.none : Option Jvm.ClassFile.FieldType)).before args0 about1 = true := code_word (m := ⟨2, 0⟩) (meth := k2m0) (c := k2c0) (by decide +kernel) rfl rfl rfl (by decide +kernel)
set_option maxRecDepth 65536 in
theorem w_c3 : (Jvm.Cond.code ({ cls := "java/lang/Object", name := "<init>", desc := "()V" } : Jvm.MethodName) object_method_1_code (1 : Nat) (Option.none : Option Jvm.ClassFile.FieldType)).before args0 about1 = true := code_word (m := ⟨0, 0⟩) (meth := k0m0) (c := k0c0) (by decide +kernel) rfl rfl rfl (by decide +kernel)
set_option maxRecDepth 65536 in
theorem w_c4 : (Jvm.Cond.code ({ cls := "com/example/rulr/rulr/BodyMatcher$Slot", name := "isBound", desc := "([Z)Z" } : Jvm.MethodName) prog_11_method_4_code (2 : Nat) (Option.some Jvm.ClassFile.FieldType.boolean)).before args0 about1 = true := code_word (m := ⟨3, 1⟩) (meth := k3m1) (c := k3c1) (by decide +kernel) rfl rfl rfl (by decide +kernel)
def codes1 : List Jvm.Cond := [Jvm.Cond.code x code maxLocals ret, Jvm.Cond.code ({ cls := "com/example/rulr/rulr/BodyMatcher$Slot", name := "<init>", desc := "(II)V" } : Jvm.MethodName) prog_11_method_1_code (3 : Nat) (Option.none : Option Jvm.ClassFile.FieldType), Jvm.Cond.code ({ cls := "java/lang/Record", name := "<init>", desc := "()V" } : Jvm.MethodName) jdk_30_method_1_code (1 : Nat) (Option.none : Option Jvm.ClassFile.FieldType), Jvm.Cond.code ({ cls := "java/lang/Object", name := "<init>", desc := "()V" } : Jvm.MethodName) object_method_1_code (1 : Nat) (Option.none : Option Jvm.ClassFile.FieldType), Jvm.Cond.code ({ cls := "com/example/rulr/rulr/BodyMatcher$Slot", name := "isBound", desc := "([Z)Z" } : Jvm.MethodName) prog_11_method_4_code (2 : Nat) (Option.some Jvm.ClassFile.FieldType.boolean)]
set_option maxRecDepth 65536 in
theorem codes_eq : words1.filter isCode = codes1 := rfl
theorem w_codes : ∀ c ∈ words1.filter isCode, c.before args0 about1 = true := by
  rw [codes_eq]
  intro c hc
  simp only [codes1, List.mem_cons, List.not_mem_nil, or_false] at hc
  rcases hc with rfl | rfl | rfl | rfl | rfl
  · exact w_c0
  · exact w_c1
  · exact w_c2
  · exact w_c3
  · exact w_c4
set_option maxRecDepth 65536 in
theorem w_t1 : (words1.take 24).all (fun c => isCode c || c.before args0 about1) = true := by decide +kernel
set_option maxRecDepth 65536 in
theorem w_t2 : (words1.drop 24).all (fun c => isCode c || c.before args0 about1) = true := by decide +kernel
theorem w_tables : (allAtoms (Jvm.Cond.code x code maxLocals ret :: tables_1)).before args0 about1 = true := by
  rw [allAtoms_all]
  show words1.all (fun c => c.before args0 about1) = true
  refine all_split ?_ w_codes
  rw [← List.take_append_drop 24 words1, List.all_append, w_t1, w_t2]
  rfl
set_option maxRecDepth 65536 in
theorem w_case : (Jvm.Cond.and given_1 narrow_1).before args0 about1 = true := by decide +kernel
theorem w_applies : (headSpec (Jvm.Cond.code x code maxLocals ret :: tables_1) room_1).applies x e0.platform about1 = true :=
  (Spec.applies_iff w_frames).mpr ⟨w_running, w_runnable, w_alone, w_named, w_hears, w_ripe, w_room, w_tables⟩
theorem atStart : AtStart classFile x code maxLocals ret World_1 tables_1 room_1 Calls_1 rest_1 Pre_1 launch0 p0 e0 about1 theMethod args0 below0 :=
  ⟨lists_1, trivial, launch0.admits_env _ _ _, launch0.least_env, fairChoices_fair.cas, fairChoices_fair.clock, w_frames, w_args, w_heap, w_applies, trivial, trivial, w_case⟩
end start1
theorem witness_1 : WitnessClaimed_1 := ⟨start1.p0, start1.e0, start1.about1, start1.theMethod, start1.args0, start1.below0, start1.atStart⟩
end Jvm.Pilot.@@N@@
