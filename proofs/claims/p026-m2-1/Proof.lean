import JvmDerived
import JvmDerived.Pilot.@@N@@Statement
import JvmDerived.Pilot.@@N@@Code
set_option linter.unusedVariables false
set_option linter.unusedSimpArgs false
namespace Jvm.Pilot.@@N@@
open Jvm Jvm.ClassFile Sem Op Lib Jvm.Free Jvm.Stand Jvm.LawKit Jvm.RoadKit Bundle Jvm.Pilot.@@N@@.Jvm.D
/-! 1. the words of the mirrors: a named value, a check, a call -/
def own_lt {α β : Type} (x : α) (f : α → Option β) : Option β := f x
def own_ck {β : Type} (P : Prop) [Decidable P] (x : Option β) : Option β := if P then x else none
def own_bd {α β : Type} (x : Option α) (f : α → Option β) : Option β := x.bind f
theorem own_lt_e {α β : Type} {x : α} {f : α → Option β} {r : β} (h : own_lt x f = some r) : ∃ v, v = x ∧ f v = some r := ⟨x, rfl, h⟩
theorem own_ck_e {β : Type} {P : Prop} [Decidable P] {x : Option β} {r : β} (h : own_ck P x = some r) : P ∧ x = some r := by
  unfold own_ck at h
  by_cases q : P
  · rw [if_pos q] at h; exact ⟨q, h⟩
  · rw [if_neg q] at h; cases h
theorem own_bd_e {α β : Type} {x : Option α} {f : α → Option β} {r : β} (h : own_bd x f = some r) : ∃ v, x = some v ∧ f v = some r := by
  unfold own_bd at h
  cases x with
  | none => cases h
  | some v => exact ⟨v, rfl, h⟩
abbrev own_inb {α : Type} (bs : List α) (j : Int32) : Prop := ¬ j < 0 ∧ j.toNatClampNeg < bs.length
def own_rd {α : Type} [OfNat α 0] (bs : List α) (j : Int32) : α := bs.getD j.toNatClampNeg 0
def own_wr {α : Type} (bs : List α) (j : Int32) (v : α) : List α := bs.set j.toNatClampNeg v
def own_sz {α : Type} (bs : List α) : Int32 := bs.length.toInt32
/-! 2. a run that comes to an end as Q says -/
def own_Goes (p : Program) (e : Env) (below : List Frame) (s : State) (Q : Option Value → Heap → List Loc → Prop) (ce sl : Nat) (A : State) : Prop :=
  ∃ s₂ o, Steps p.tables e below A s₂ ∧ s₂.status = .running ∧ Ended s₂ below o ∧ ∃ v L, o = .returned v ∧ Q v s₂.heap L ∧ FrameEnd s o s₂ L ce sl
section Own
variable {p : Program} {l : Launch} {e : Env} {R : Room} {s : State} {m : MethodId} {args : Array Value} {below : List Frame} {meth : Method} {c : Code} {T : State} {locs : List Loc} {cells slots : Nat} {Z : State} {h h' : Heap} {Q : Option Value → Heap → List Loc → Prop} {ce sl : Nat}
theorem own_Goes.via {A B : State} (q : ∀ t, Steps p.tables e below B t → Steps p.tables e below A t) (g : own_Goes p e below s Q ce sl B) : own_Goes p e below s Q ce sl A := by
  obtain ⟨s₂, o, h1, r⟩ := g
  exact ⟨s₂, o, q _ h1, r⟩
theorem own_Goes.tr {A B : State} (q : Steps p.tables e below A B) (g : own_Goes p e below s Q ce sl B) : own_Goes p e below s Q ce sl A := g.via fun _ k => q.trans k
theorem own_retV (X : Stand p l e R s m args below meth c T locs cells slots) (hx : p.tables.exec = Jvm.exec) {pc : Nat} {Ls : Array Slot} (hret : meth.sig.returnType = none) (hlk : meth.locks = false) (hd : decode c.code pc = .ok (.return_, 1)) (eT : T.heap = h) (hQ : Q none h locs) (hc : cells ≤ ce) (hs : slots ≤ sl) :
    own_Goes p e below s Q ce sl (T.setTop (mkF m pc Ls [])) := by
  obtain ⟨fs, hr, hrun, hended, hW, hsame⟩ := X.leave (v := none) (fun _ => rfl) hlk
  refine ⟨_, _, ?_, hrun, hended, _, _, rfl, ?_, ⟨_, rfl⟩, hW, hsame.mono hc hs⟩
  · exact X.returnOut hx hret hd hr
  · show Q none T.heap locs
    rw [eT]; exact hQ
theorem own_retI (X : Stand p l e R s m args below meth c T locs cells slots) (hx : p.tables.exec = Jvm.exec) {pc : Nat} {Ls : Array Slot} {z : Int32} {rest : List Value} (hret : meth.sig.returnType = some .int) (hlk : meth.locks = false) (hd : decode c.code pc = .ok (.ireturn, 1)) (eT : T.heap = h) (hQ : Q (some (.int z)) h locs) (hc : cells ≤ ce) (hs : slots ≤ sl) :
    own_Goes p e below s Q ce sl (T.setTop (mkF m pc Ls (.int z :: rest))) := by
  obtain ⟨fs, hr, hrun, hended, hW, hsame⟩ := X.leave (v := some (.int z)) (fun h => by rw [hret] at h; cases h) hlk
  refine ⟨_, _, ?_, hrun, hended, _, _, rfl, ?_, ⟨_, rfl⟩, hW, hsame.mono hc hs⟩
  · exact retOut X hx hret rfl (Or.inl ⟨rfl, Or.inl rfl, z, rfl⟩) hd hr
  · show Q _ T.heap locs
    rw [eT]; exact hQ
theorem own_retJ (X : Stand p l e R s m args below meth c T locs cells slots) (hx : p.tables.exec = Jvm.exec) {pc : Nat} {Ls : Array Slot} {z : Int64} {rest : List Value} (hret : meth.sig.returnType = some .long) (hlk : meth.locks = false) (hd : decode c.code pc = .ok (.lreturn, 1)) (eT : T.heap = h) (hQ : Q (some (.long z)) h locs) (hc : cells ≤ ce) (hs : slots ≤ sl) :
    own_Goes p e below s Q ce sl (T.setTop (mkF m pc Ls (.long z :: rest))) := by
  obtain ⟨fs, hr, hrun, hended, hW, hsame⟩ := X.leave (v := some (.long z)) (fun h => by rw [hret] at h; cases h) hlk
  refine ⟨_, _, ?_, hrun, hended, _, _, rfl, ?_, ⟨_, rfl⟩, hW, hsame.mono hc hs⟩
  · exact retOut X hx hret rfl (Or.inr (Or.inl ⟨rfl, rfl, z, rfl⟩)) hd hr
  · show Q _ T.heap locs
    rw [eT]; exact hQ
theorem own_retR (X : Stand p l e R s m args below meth c T locs cells slots) (hx : p.tables.exec = Jvm.exec) {pc : Nat} {Ls : Array Slot} {t : FieldType} {w : Value} {rest : List Value} (hret : meth.sig.returnType = some t) (hlk : meth.locks = false) (hd : decode c.code pc = .ok (.areturn, 1)) (ht : t.isReference = true) (eT : T.heap = h) (hw : w.isRef = true) (hQ : Q (some w) h locs) (hc : cells ≤ ce) (hs : slots ≤ sl) :
    own_Goes p e below s Q ce sl (T.setTop (mkF m pc Ls (w :: rest))) := by
  obtain ⟨fs, hr, hrun, hended, hW, hsame⟩ := X.leave (v := some w) (fun h => by rw [hret] at h; cases h) hlk
  refine ⟨_, _, ?_, hrun, hended, _, _, rfl, ?_, ⟨_, rfl⟩, hW, hsame.mono hc hs⟩
  · exact retOut X hx hret (by cases t <;> first | (cases ht; done) | rfl) (Or.inr (Or.inr (Or.inr (Or.inr ⟨rfl, ht, hw⟩)))) hd hr
  · show Q _ T.heap locs
    rw [eT]; exact hQ
theorem own_retN (X : Stand p l e R s m args below meth c T locs cells slots) (hx : p.tables.exec = Jvm.exec) {pc : Nat} {Ls : Array Slot} {z v : Int32} {t : FieldType} {rest : List Value} (hret : meth.sig.returnType = some t) (hlk : meth.locks = false) (ht : t = .boolean ∨ t = .byte ∨ t = .char ∨ t = .short) (hd : decode c.code pc = .ok (.ireturn, 1)) (eT : T.heap = h) (hv : nar t z = v) (hQ : Q (some (.int v)) h locs) (hc : cells ≤ ce) (hs : slots ≤ sl) :
    own_Goes p e below s Q ce sl (T.setTop (mkF m pc Ls (.int z :: rest))) := by
  subst hv
  obtain ⟨fs, hr, hrun, hended, hW, hsame⟩ := X.leave (v := some (.int (nar t z))) (fun h => by rw [hret] at h; cases h) hlk
  refine ⟨_, _, ?_, hrun, hended, _, _, rfl, ?_, ⟨_, rfl⟩, hW, hsame.mono hc hs⟩
  · exact retN X hx hret ht hd hr
  · show Q _ T.heap locs
    rw [eT]; exact hQ
/-! 3. single steps -/
theorem own_irem {g : JFrame} {target : State} (X : Stand p l e R s m args below meth c T locs cells slots) (hx : p.tables.exec = Jvm.exec) (hg : g.method = m) {x y : Int32} {rest : List Value} (hd : decode c.code g.pc = .ok (.irem, 1)) (hs : g.stack = .int y :: .int x :: rest) (hy : y ≠ 0)
    (hr : Steps p.tables e below (T.setTop { g with pc := g.pc + 1, stack := .int (x % y) :: rest }) target) : Steps p.tables e below (T.setTop g) target := iremM X hx hg hd hs hy hr
theorem own_lrem {g : JFrame} {target : State} (X : Stand p l e R s m args below meth c T locs cells slots) (hx : p.tables.exec = Jvm.exec) (hg : g.method = m) {x y : Int64} {rest : List Value} (hd : decode c.code g.pc = .ok (.lrem, 1)) (hs : g.stack = .long y :: .long x :: rest) (hy : y ≠ 0)
    (hr : Steps p.tables e below (T.setTop { g with pc := g.pc + 1, stack := .long (x % y) :: rest }) target) : Steps p.tables e below (T.setTop g) target :=
  XS.lrem X.here hx hg hd hs hy (by rw [lrem_mod]; exact hr)
theorem own_tltL {x y : Int64} (q : x < y) : ifCond.holds .lt (lcmpW x y) = true ∧ ifCond.holds .ge (lcmpW x y) = false := by
  rw [if0, if0]; exact ⟨(tlt ((lw_lt x y).mpr q)).1, (tlt ((lw_lt x y).mpr q)).2.1⟩
theorem own_fltL {x y : Int64} (q : ¬ x < y) : ifCond.holds .lt (lcmpW x y) = false ∧ ifCond.holds .ge (lcmpW x y) = true := by
  rw [if0, if0]; exact ⟨(flt fun z => q ((lw_lt x y).mp z)).1, (flt fun z => q ((lw_lt x y).mp z)).2.1⟩
theorem own_tgtL {x y : Int64} (q : y < x) : ifCond.holds .gt (lcmpW x y) = true ∧ ifCond.holds .le (lcmpW x y) = false := by
  rw [if0, if0]; exact ⟨(tlt ((lw_gt x y).mpr q)).2.2.1, (tlt ((lw_gt x y).mpr q)).2.2.2⟩
theorem own_fgtL {x y : Int64} (q : ¬ y < x) : ifCond.holds .gt (lcmpW x y) = false ∧ ifCond.holds .le (lcmpW x y) = true := by
  rw [if0, if0]; exact ⟨(flt fun z => q ((lw_gt x y).mp z)).2.2.1, (flt fun z => q ((lw_gt x y).mp z)).2.2.2⟩
theorem own_teqL {x y : Int64} (q : x = y) : ifCond.holds .eq (lcmpW x y) = true ∧ ifCond.holds .ne (lcmpW x y) = false := by
  rw [if0, if0]; exact ⟨(teq ((lw_eq x y).mpr q)).1, (teq ((lw_eq x y).mpr q)).2⟩
theorem own_feqL {x y : Int64} (q : ¬ x = y) : ifCond.holds .eq (lcmpW x y) = false ∧ ifCond.holds .ne (lcmpW x y) = true := by
  rw [if0, if0]; exact ⟨(feq fun z => q ((lw_eq x y).mp z)).1, (feq fun z => q ((lw_eq x y).mp z)).2⟩
theorem own_st1 {L : Array Slot} {i : Nat} {v : Value} {o : Slot} {L' : Array Slot} (hold : L[i]? = some o) (ho : One o) (hv : v.category = 1) (hL : L.setIfInBounds i (.val v) = L' := by rfl) : storeLocals L i v = some L' := hL ▸ XS.store1 hold ho hv
theorem own_privSel {s : State} {args : Array Value} {y : MethodName} {n : Nat} (wi : (Cond.instantiable y.cls n).before args s = true) (hp : s.PrivateAt y) (hinst : (Cond.instanceMethod y).before args s = true) (hy : y.cls ≠ "java/lang/invoke/MethodHandle" ∧ y.cls ≠ "java/lang/invoke/VarHandle") : (Cond.selects y.cls y y).before args s = true := by
  obtain ⟨c, k, h1, h2, -, h3, -⟩ := Cond.instantiable_spec wi
  exact selects_self_of_private h1 h2 (Bool.or_eq_false_iff.mp h3).1 hp hinst hy
theorem own_st2 {L L' : Array Slot} {i : Nat} {x : Int64} {o1 o2 : Slot} (h1 : L[i]? = some o1) (h2 : L[i + 1]? = some o2) (q1 : One o1) (q2 : One o2) (hL : (L.setIfInBounds i (.val (.long x))).setIfInBounds (i + 1) .second = L' := by rfl) : storeLocals L i (.long x) = some L' := by
  subst hL
  obtain ⟨b1, g1⟩ := Array.getElem?_eq_some_iff.mp h1
  obtain ⟨b2, g2⟩ := Array.getElem?_eq_some_iff.mp h2
  have hc : (Value.long x).category = 2 := rfl
  rcases q1 with rfl | ⟨w, rfl, hw⟩ <;> rcases q2 with rfl | ⟨w', rfl, hw'⟩ <;> simp [storeLocals, storeSelf, setAt, hc, *]
/-! 4. arrays: what lies in them, as a list -/
def own_Ar (Z : State) (h : Heap) (a : Addr) (ty : FieldType) (vs : List Value) : Prop := ∃ c : Cell, Arr Z h a c ty ∧ c.slots.toList = vs ∧ vs.length < 2 ^ 31 ∧ ∀ v ∈ vs, fits ty v = true
variable {a b : Addr} {ty : FieldType} {vs : List Value}
theorem own_Ar.lt (F : own_Ar Z h a ty vs) : a < h.size := by obtain ⟨c, A, -⟩ := F; exact A.lt
theorem own_Ar.ext (F : own_Ar Z h a ty vs) (E : Ext h h') : own_Ar Z h' a ty vs := by obtain ⟨c, A, r⟩ := F; exact ⟨c, A.ext E, r⟩
theorem own_Ar.other {k : Nat} {v : Value} (F : own_Ar Z h b ty vs) (W : Wr h h' a k v) (q : b ≠ a) : own_Ar Z h' b ty vs := by obtain ⟨c, A, r⟩ := F; exact ⟨c, A.other W q, r⟩
theorem own_Ar.keep {ws : List Addr} (F : own_Ar Z h a ty vs) (K : Keep h h' ws) (q : a ∉ ws) : own_Ar Z h' a ty vs := by obtain ⟨c, A, r⟩ := F; exact ⟨c, ⟨K.2.1 a c A.1 q, A.2⟩, r⟩
theorem own_Ar.size {c : Cell} (q : c.slots.toList = vs) : c.slots.size = vs.length := by rw [← q]; simp
theorem own_in {c : Cell} {j : Int32} (q : c.slots.toList = vs) (hj : own_inb vs j) : ¬ (j < 0 ∨ c.slots.size ≤ j.toNatClampNeg) := by
  rw [own_Ar.size q]
  rintro (r | r)
  · exact hj.1 r
  · exact absurd hj.2 (Nat.not_lt.mpr r)
theorem own_get {c : Cell} {i : Nat} (q : c.slots.toList = vs) (d : Value) (hi : i < vs.length) : c.slots[i]? = some (vs.getD i d) := by
  have e : c.slots = vs.toArray := by rw [← q]
  rw [e]
  simp [List.getD, hi]
theorem own_set {c : Cell} {i : Nat} {v : Value} (q : c.slots.toList = vs) : (c.setSlot i v).slots.toList = vs.set i v := by
  have e : c.slots = vs.toArray := by rw [← q]
  simp [Cell.setSlot, e]
theorem own_fits {i : Nat} {v : Value} (q : ∀ v ∈ vs, fits ty v = true) (hv : fits ty v = true) : ∀ u ∈ vs.set i v, fits ty u = true := fun u hu => by
  rcases List.mem_or_eq_of_mem_set hu with r | r
  · exact q u r
  · rw [r]; exact hv
theorem own_mapGet {bs : List Int32} {i : Nat} (hi : i < bs.length) : (bs.map Value.int).getD i (.int 0) = .int (bs.getD i 0) := by simp [List.getD, hi]
theorem own_mapGetJ {bs : List Int64} {i : Nat} (hi : i < bs.length) : (bs.map Value.long).getD i (.long 0) = .long (bs.getD i 0) := by simp [List.getD, hi]
theorem own_mapSet {bs : List Int32} {i : Nat} {v : Int32} : (bs.map Value.int).set i (.int v) = (bs.set i v).map Value.int := by simp
theorem own_mapSetJ {bs : List Int64} {i : Nat} {v : Int64} : (bs.map Value.long).set i (.long v) = (bs.set i v).map Value.long := by simp
theorem own_inbM {α : Type} {f : α → Value} {bs : List α} {j : Int32} (q : own_inb bs j) : own_inb (bs.map f) j := ⟨q.1, by rw [List.length_map]; exact q.2⟩
theorem own_wrk {α : Type} {bs : List α} {j : Int32} {v : α} (k : Nat) (hk : j.toNatClampNeg = k) : own_wr bs j v = bs.set k v := by rw [own_wr, hk]
theorem own_rdk {α : Type} [OfNat α 0] {bs : List α} {j : Int32} (k : Nat) (hk : j.toNatClampNeg = k) : own_rd bs j = bs.getD k 0 := by rw [own_rd, hk]
theorem own_inbk {α : Type} {bs : List α} {j : Int32} (k n : Nat) (h0 : ¬ j < 0) (hk : j.toNatClampNeg = k) (hl : bs.length = n) (hkn : k < n) : own_inb bs j := ⟨h0, by rw [hk, hl]; exact hkn⟩
theorem own_len {α : Type} {f : α → Value} {bs : List α} (X : Stand p l e R s m args below meth c T locs cells slots) (hx : p.tables.exec = Jvm.exec) (hZ : Z.Warmed39 s.vm) (eT : T.heap = h) (A : own_Ar Z h a ty (bs.map f)) {g : JFrame} (hg : g.method = m) {rest : List Value} (hs : g.stack = .ref a :: rest) (hd : decode c.code g.pc = .ok (.arraylength, 1)) {target : State}
    (hr : Steps p.tables e below (T.setTop { g with pc := g.pc + 1, stack := .int (own_sz bs) :: rest }) target) : Steps p.tables e below (T.setTop g) target := by
  obtain ⟨cl, A, q, -⟩ := A
  refine X.arraylength hx (by rw [eT]; exact A.1) (State.isArrayOf_alike hZ.alike A.2.1) hg hs hd _ ?_
  rw [own_Ar.size q, List.length_map]; exact hr
theorem own_ldI {bs : List Int32} {j v : Int32} (X : Stand p l e R s m args below meth c T locs cells slots) (hx : p.tables.exec = Jvm.exec) (hZ : Z.Warmed39 s.vm) (eT : T.heap = h) (A : own_Ar Z h a .int (bs.map Value.int)) (hj : own_inb bs j) (hv : own_rd bs j = v) {g : JFrame} (hg : g.method = m) {rest : List Value} (hs : g.stack = .int j :: .ref a :: rest) (hd : decode c.code g.pc = .ok (.iaload, 1)) {target : State}
    (hr : Steps p.tables e below (T.setTop { g with pc := g.pc + 1, stack := .int v :: rest }) target) : Steps p.tables e below (T.setTop g) target := by
  subst hv
  obtain ⟨cl, A, q, -⟩ := A
  exact X.iaload hx (by rw [eT]; exact A.1) (State.isArrayOf_alike hZ.alike A.2.1) A.2.2 (own_in q (own_inbM hj)) ((own_get q (.int 0) (own_inbM hj).2).trans (congrArg some (own_mapGet hj.2))) hg hs hd _ hr
theorem own_ldB {bs : List Int32} {j v : Int32} (X : Stand p l e R s m args below meth c T locs cells slots) (hx : p.tables.exec = Jvm.exec) (hZ : Z.Warmed39 s.vm) (eT : T.heap = h) (A : own_Ar Z h a .byte (bs.map Value.int)) (hj : own_inb bs j) (hv : own_rd bs j = v) {g : JFrame} (hg : g.method = m) {rest : List Value} (hs : g.stack = .int j :: .ref a :: rest) (hd : decode c.code g.pc = .ok (.baload, 1)) {target : State}
    (hr : Steps p.tables e below (T.setTop { g with pc := g.pc + 1, stack := .int v :: rest }) target) : Steps p.tables e below (T.setTop g) target := by
  subst hv
  obtain ⟨cl, A, q, -⟩ := A
  exact X.baloadBytes hx (by rw [eT]; exact A.1) (State.isArrayOf_alike hZ.alike A.2.1) A.2.2 (own_in q (own_inbM hj)) ((own_get q (.int 0) (own_inbM hj).2).trans (congrArg some (own_mapGet hj.2))) hg hs hd _ hr
theorem own_ldZ {bs : List Int32} {j v : Int32} (X : Stand p l e R s m args below meth c T locs cells slots) (hx : p.tables.exec = Jvm.exec) (hZ : Z.Warmed39 s.vm) (eT : T.heap = h) (A : own_Ar Z h a .boolean (bs.map Value.int)) (hj : own_inb bs j) (hv : own_rd bs j = v) {g : JFrame} (hg : g.method = m) {rest : List Value} (hs : g.stack = .int j :: .ref a :: rest) (hd : decode c.code g.pc = .ok (.baload, 1)) {target : State}
    (hr : Steps p.tables e below (T.setTop { g with pc := g.pc + 1, stack := .int v :: rest }) target) : Steps p.tables e below (T.setTop g) target := by
  subst hv
  obtain ⟨cl, A, q, -⟩ := A
  exact X.baloadBooleans hx (by rw [eT]; exact A.1) (State.isArrayOf_alike hZ.alike A.2.1) A.2.2 (own_in q (own_inbM hj)) ((own_get q (.int 0) (own_inbM hj).2).trans (congrArg some (own_mapGet hj.2))) hg hs hd _ hr
theorem own_ldJ {bs : List Int64} {j : Int32} {v : Int64} (X : Stand p l e R s m args below meth c T locs cells slots) (hx : p.tables.exec = Jvm.exec) (hZ : Z.Warmed39 s.vm) (eT : T.heap = h) (A : own_Ar Z h a .long (bs.map Value.long)) (hj : own_inb bs j) (hv : own_rd bs j = v) {g : JFrame} (hg : g.method = m) {rest : List Value} (hs : g.stack = .int j :: .ref a :: rest) (hd : decode c.code g.pc = .ok (.laload, 1)) {target : State}
    (hr : Steps p.tables e below (T.setTop { g with pc := g.pc + 1, stack := .long v :: rest }) target) : Steps p.tables e below (T.setTop g) target := by
  subst hv
  obtain ⟨cl, A, q, -⟩ := A
  exact X.laload hx (by rw [eT]; exact A.1) (State.isArrayOf_alike hZ.alike A.2.1) A.2.2 (own_in q (own_inbM hj)) ((own_get q (.long 0) (own_inbM hj).2).trans (congrArg some (own_mapGetJ hj.2))) hg hs hd _ hr
theorem own_stI {bs : List Int32} {j x : Int32} (X : Stand p l e R s m args below meth c T locs cells slots) (hx : p.tables.exec = Jvm.exec) (hZ : Z.Warmed39 s.vm) (eT : T.heap = h) (A : own_Ar Z h a .int (bs.map Value.int)) (hj : own_inb bs j) {g : JFrame} (hg : g.method = m) {rest : List Value} (hs : g.stack = .int x :: .int j :: .ref a :: rest) (hd : decode c.code g.pc = .ok (.iastore, 1)) :
    ∃ T' h', Stand p l e R s m args below meth c T' (locs ++ [⟨a, j.toNatClampNeg⟩]) cells slots ∧ T'.heap = h' ∧ Wr h h' a j.toNatClampNeg (.int x) ∧ own_Ar Z h' a .int ((own_wr bs j x).map Value.int) ∧ ∀ target, Steps p.tables e below (T'.setTop { g with pc := g.pc + 1, stack := rest }) target → Steps p.tables e below (T.setTop g) target := by
  obtain ⟨cl, A, q, r, ft⟩ := A
  obtain ⟨T', h', X', e', W, st⟩ := stI X hx hZ eT A (own_in q (own_inbM hj)) hg hs hd
  exact ⟨T', h', X', e', W, ⟨_, A.same W, (own_set q).trans own_mapSet, by simpa [own_wr] using r, own_mapSet ▸ own_fits ft rfl⟩, st⟩
theorem own_stB {bs : List Int32} {j x : Int32} (X : Stand p l e R s m args below meth c T locs cells slots) (hx : p.tables.exec = Jvm.exec) (hZ : Z.Warmed39 s.vm) (eT : T.heap = h) (A : own_Ar Z h a .byte (bs.map Value.int)) (hj : own_inb bs j) {g : JFrame} (hg : g.method = m) {rest : List Value} (hs : g.stack = .int x :: .int j :: .ref a :: rest) (hd : decode c.code g.pc = .ok (.bastore, 1)) :
    ∃ T' h', Stand p l e R s m args below meth c T' (locs ++ [⟨a, j.toNatClampNeg⟩]) cells slots ∧ T'.heap = h' ∧ Wr h h' a j.toNatClampNeg (.int x.toInt8.toInt32) ∧ own_Ar Z h' a .byte ((own_wr bs j x.toInt8.toInt32).map Value.int) ∧ ∀ target, Steps p.tables e below (T'.setTop { g with pc := g.pc + 1, stack := rest }) target → Steps p.tables e below (T.setTop g) target := by
  obtain ⟨cl, A, q, r, ft⟩ := A
  obtain ⟨T', h', X', e', W, st⟩ := stB X hx hZ eT A (own_in q (own_inbM hj)) hg hs hd
  exact ⟨T', h', X', e', W, ⟨_, A.same W, (own_set q).trans own_mapSet, by simpa [own_wr] using r, own_mapSet ▸ own_fits ft (fits_nar_byte _)⟩, st⟩
theorem own_stZ {bs : List Int32} {j x : Int32} (X : Stand p l e R s m args below meth c T locs cells slots) (hx : p.tables.exec = Jvm.exec) (hZ : Z.Warmed39 s.vm) (eT : T.heap = h) (A : own_Ar Z h a .boolean (bs.map Value.int)) (hj : own_inb bs j) {g : JFrame} (hg : g.method = m) {rest : List Value} (hs : g.stack = .int x :: .int j :: .ref a :: rest) (hd : decode c.code g.pc = .ok (.bastore, 1)) :
    ∃ T' h', Stand p l e R s m args below meth c T' (locs ++ [⟨a, j.toNatClampNeg⟩]) cells slots ∧ T'.heap = h' ∧ Wr h h' a j.toNatClampNeg (.int (x &&& 1)) ∧ own_Ar Z h' a .boolean ((own_wr bs j (x &&& 1)).map Value.int) ∧ ∀ target, Steps p.tables e below (T'.setTop { g with pc := g.pc + 1, stack := rest }) target → Steps p.tables e below (T.setTop g) target := by
  obtain ⟨cl, A, q, r, ft⟩ := A
  obtain ⟨T', h', X', e', W, st⟩ := stZ X hx hZ eT A (own_in q (own_inbM hj)) hg hs hd
  exact ⟨T', h', X', e', W, ⟨_, A.same W, (own_set q).trans own_mapSet, by simpa [own_wr] using r, own_mapSet ▸ own_fits ft (fits_nar_bool _)⟩, st⟩
theorem own_stJ {bs : List Int64} {j : Int32} {x : Int64} (X : Stand p l e R s m args below meth c T locs cells slots) (hx : p.tables.exec = Jvm.exec) (hZ : Z.Warmed39 s.vm) (eT : T.heap = h) (A : own_Ar Z h a .long (bs.map Value.long)) (hj : own_inb bs j) {g : JFrame} (hg : g.method = m) {rest : List Value} (hs : g.stack = .long x :: .int j :: .ref a :: rest) (hd : decode c.code g.pc = .ok (.lastore, 1)) :
    ∃ T' h', Stand p l e R s m args below meth c T' (locs ++ [⟨a, j.toNatClampNeg⟩]) cells slots ∧ T'.heap = h' ∧ Wr h h' a j.toNatClampNeg (.long x) ∧ own_Ar Z h' a .long ((own_wr bs j x).map Value.long) ∧ ∀ target, Steps p.tables e below (T'.setTop { g with pc := g.pc + 1, stack := rest }) target → Steps p.tables e below (T.setTop g) target := by
  obtain ⟨cl, A, q, r, ft⟩ := A
  obtain ⟨T', h', X', e', W, st⟩ := stJ X hx hZ eT A (own_in q (own_inbM hj)) hg hs hd
  exact ⟨T', h', X', e', W, ⟨_, A.same W, (own_set q).trans own_mapSetJ, by simpa [own_wr] using r, own_mapSetJ ▸ own_fits ft rfl⟩, st⟩
theorem own_newI {k : ClassId} {n : Int32} {kk : Nat} (A : Arr Z h a (newA k ty n) ty) (q : ¬ n < 0) (hd : defaultValue ty = .int 0) (hk : n.toNatClampNeg = kk) : own_Ar Z h a ty ((List.replicate kk (0 : Int32)).map Value.int) := hk ▸
  ⟨_, A, by simp [newA, hd], by rw [List.length_map, List.length_replicate]; exact (back32 q).2, fun v hv => by
    rw [List.map_replicate] at hv
    rw [(List.mem_replicate.mp hv).2, ← hd]; cases ty <;> rfl⟩
theorem own_newJ {k : ClassId} {n : Int32} {kk : Nat} (A : Arr Z h a (newA k ty n) ty) (q : ¬ n < 0) (hd : defaultValue ty = .long 0) (hk : n.toNatClampNeg = kk) : own_Ar Z h a ty ((List.replicate kk (0 : Int64)).map Value.long) := hk ▸
  ⟨_, A, by simp [newA, hd], by rw [List.length_map, List.length_replicate]; exact (back32 q).2, fun v hv => by
    rw [List.map_replicate] at hv
    rw [(List.mem_replicate.mp hv).2, ← hd]; cases ty <;> rfl⟩
end Own
theorem w0 {a0 : Array Value} {Z : State} (hw : ∀ d ∈ tables_1, d.before a0 Z = true) : ((Jvm.Cond.arrayClass Jvm.ClassFile.FieldType.int)).before a0 Z = true := hw _ (List.mem_of_getElem? (i := 0) rfl)
theorem w1 {a0 : Array Value} {Z : State} (hw : ∀ d ∈ tables_1, d.before a0 Z = true) : ((Jvm.Cond.classLink "com/example/rulr/rulr/SlotValuePinLaw" (7 : Nat) "com/example/rulr/rulr/BodyMatcher$Slot")).before a0 Z = true := hw _ (List.mem_of_getElem? (i := 1) rfl)
theorem w2 {a0 : Array Value} {Z : State} (hw : ∀ d ∈ tables_1, d.before a0 Z = true) : ((Jvm.Cond.instantiable "com/example/rulr/rulr/BodyMatcher$Slot" (2 : Nat))).before a0 Z = true := hw _ (List.mem_of_getElem? (i := 2) rfl)
theorem w3 {a0 : Array Value} {Z : State} (hw : ∀ d ∈ tables_1, d.before a0 Z = true) : ((Jvm.Cond.initialized "com/example/rulr/rulr/BodyMatcher$Slot")).before a0 Z = true := hw _ (List.mem_of_getElem? (i := 3) rfl)
theorem w4 {a0 : Array Value} {Z : State} (hw : ∀ d ∈ tables_1, d.before a0 Z = true) : ((Jvm.Cond.methodLink "com/example/rulr/rulr/SlotValuePinLaw" (9 : Nat) ({ cls := "com/example/rulr/rulr/BodyMatcher$Slot", name := "<init>", desc := "(II)V" } : Jvm.MethodName))).before a0 Z = true := hw _ (List.mem_of_getElem? (i := 4) rfl)
theorem w5 {a0 : Array Value} {Z : State} (hw : ∀ d ∈ tables_1, d.before a0 Z = true) : ((Jvm.Cond.instanceMethod ({ cls := "com/example/rulr/rulr/BodyMatcher$Slot", name := "<init>", desc := "(II)V" } : Jvm.MethodName))).before a0 Z = true := hw _ (List.mem_of_getElem? (i := 5) rfl)
theorem w6 {a0 : Array Value} {Z : State} (hw : ∀ d ∈ tables_1, d.before a0 Z = true) : ((Jvm.Cond.code ({ cls := "com/example/rulr/rulr/BodyMatcher$Slot", name := "<init>", desc := "(II)V" } : Jvm.MethodName) prog_11_method_1_code (3 : Nat) (Option.none : Option Jvm.ClassFile.FieldType))).before a0 Z = true := hw _ (List.mem_of_getElem? (i := 6) rfl)
theorem w7 {a0 : Array Value} {Z : State} (hw : ∀ d ∈ tables_1, d.before a0 Z = true) : ((Jvm.Cond.methodLink "com/example/rulr/rulr/BodyMatcher$Slot" (1 : Nat) ({ cls := "java/lang/Record", name := "<init>", desc := "()V" } : Jvm.MethodName))).before a0 Z = true := hw _ (List.mem_of_getElem? (i := 7) rfl)
theorem w8 {a0 : Array Value} {Z : State} (hw : ∀ d ∈ tables_1, d.before a0 Z = true) : ((Jvm.Cond.instanceMethod ({ cls := "java/lang/Record", name := "<init>", desc := "()V" } : Jvm.MethodName))).before a0 Z = true := hw _ (List.mem_of_getElem? (i := 8) rfl)
theorem w10 {a0 : Array Value} {Z : State} (hw : ∀ d ∈ tables_1, d.before a0 Z = true) : ((Jvm.Cond.initialized "java/lang/Record")).before a0 Z = true := hw _ (List.mem_of_getElem? (i := 10) rfl)
theorem w11 {a0 : Array Value} {Z : State} (hw : ∀ d ∈ tables_1, d.before a0 Z = true) : ((Jvm.Cond.code ({ cls := "java/lang/Record", name := "<init>", desc := "()V" } : Jvm.MethodName) jdk_30_method_1_code (1 : Nat) (Option.none : Option Jvm.ClassFile.FieldType))).before a0 Z = true := hw _ (List.mem_of_getElem? (i := 11) rfl)
theorem w12 {a0 : Array Value} {Z : State} (hw : ∀ d ∈ tables_1, d.before a0 Z = true) : ((Jvm.Cond.methodLink "java/lang/Record" (1 : Nat) ({ cls := "java/lang/Object", name := "<init>", desc := "()V" } : Jvm.MethodName))).before a0 Z = true := hw _ (List.mem_of_getElem? (i := 12) rfl)
theorem w13 {a0 : Array Value} {Z : State} (hw : ∀ d ∈ tables_1, d.before a0 Z = true) : ((Jvm.Cond.instanceMethod ({ cls := "java/lang/Object", name := "<init>", desc := "()V" } : Jvm.MethodName))).before a0 Z = true := hw _ (List.mem_of_getElem? (i := 13) rfl)
theorem w14 {a0 : Array Value} {Z : State} (hw : ∀ d ∈ tables_1, d.before a0 Z = true) : ((Jvm.Cond.code ({ cls := "java/lang/Object", name := "<init>", desc := "()V" } : Jvm.MethodName) object_method_1_code (1 : Nat) (Option.none : Option Jvm.ClassFile.FieldType))).before a0 Z = true := hw _ (List.mem_of_getElem? (i := 14) rfl)
theorem w15 {a0 : Array Value} {Z : State} (hw : ∀ d ∈ tables_1, d.before a0 Z = true) : ((Jvm.Cond.fieldLink "com/example/rulr/rulr/BodyMatcher$Slot" (7 : Nat) "com/example/rulr/rulr/BodyMatcher$Slot" "variable" "I")).before a0 Z = true := hw _ (List.mem_of_getElem? (i := 15) rfl)
theorem w16 {a0 : Array Value} {Z : State} (hw : ∀ d ∈ tables_1, d.before a0 Z = true) : ((Jvm.Cond.laysFinal "com/example/rulr/rulr/BodyMatcher$Slot" "com/example/rulr/rulr/BodyMatcher$Slot" "variable" "I")).before a0 Z = true := hw _ (List.mem_of_getElem? (i := 16) rfl)
theorem w17 {a0 : Array Value} {Z : State} (hw : ∀ d ∈ tables_1, d.before a0 Z = true) : ((Jvm.Cond.fieldLink "com/example/rulr/rulr/BodyMatcher$Slot" (13 : Nat) "com/example/rulr/rulr/BodyMatcher$Slot" "constant" "I")).before a0 Z = true := hw _ (List.mem_of_getElem? (i := 17) rfl)
theorem w18 {a0 : Array Value} {Z : State} (hw : ∀ d ∈ tables_1, d.before a0 Z = true) : ((Jvm.Cond.laysFinal "com/example/rulr/rulr/BodyMatcher$Slot" "com/example/rulr/rulr/BodyMatcher$Slot" "constant" "I")).before a0 Z = true := hw _ (List.mem_of_getElem? (i := 18) rfl)
theorem w19 {a0 : Array Value} {Z : State} (hw : ∀ d ∈ tables_1, d.before a0 Z = true) : ((Jvm.Cond.methodLink "com/example/rulr/rulr/SlotValuePinLaw" (12 : Nat) ({ cls := "com/example/rulr/rulr/BodyMatcher$Slot", name := "value", desc := "([I)I" } : Jvm.MethodName))).before a0 Z = true := hw _ (List.mem_of_getElem? (i := 19) rfl)
theorem w20 {a0 : Array Value} {Z : State} (hw : ∀ d ∈ tables_1, d.before a0 Z = true) : ((Jvm.Cond.declares ({ cls := "com/example/rulr/rulr/BodyMatcher$Slot", name := "value", desc := "([I)I" } : Jvm.MethodName))).before a0 Z = true := hw _ (List.mem_of_getElem? (i := 20) rfl)
theorem w21 {a0 : Array Value} {Z : State} (hw : ∀ d ∈ tables_1, d.before a0 Z = true) : ((Jvm.Cond.instanceMethod ({ cls := "com/example/rulr/rulr/BodyMatcher$Slot", name := "value", desc := "([I)I" } : Jvm.MethodName))).before a0 Z = true := hw _ (List.mem_of_getElem? (i := 21) rfl)
theorem w22 {a0 : Array Value} {Z : State} (hw : ∀ d ∈ tables_1, d.before a0 Z = true) : ((Jvm.Cond.selects "com/example/rulr/rulr/BodyMatcher$Slot" ({ cls := "com/example/rulr/rulr/BodyMatcher$Slot", name := "value", desc := "([I)I" } : Jvm.MethodName) ({ cls := "com/example/rulr/rulr/BodyMatcher$Slot", name := "value", desc := "([I)I" } : Jvm.MethodName))).before a0 Z = true := hw _ (List.mem_of_getElem? (i := 22) rfl)
theorem w23 {a0 : Array Value} {Z : State} (hw : ∀ d ∈ tables_1, d.before a0 Z = true) : ((Jvm.Cond.code ({ cls := "com/example/rulr/rulr/BodyMatcher$Slot", name := "value", desc := "([I)I" } : Jvm.MethodName) prog_11_method_5_code (2 : Nat) (Option.some Jvm.ClassFile.FieldType.int))).before a0 Z = true := hw _ (List.mem_of_getElem? (i := 23) rfl)
theorem pn_java_lang_Record : plainName "java/lang/Record" = true := by first | (simp [plainName, overriddenIn]; done) | decide +kernel
theorem pn_com_example_rulr_rulr_BodyMatcher_Slot : plainName "com/example/rulr/rulr/BodyMatcher$Slot" = true := by first | (simp [plainName, overriddenIn]; done) | decide +kernel
theorem pn_com_example_rulr_rulr_SlotValuePinLaw : plainName "com/example/rulr/rulr/SlotValuePinLaw" = true := by first | (simp [plainName, overriddenIn]; done) | decide +kernel
theorem pd_0 : parseMethodDescriptor "()V" = some ⟨[], none⟩ := by decide +kernel
theorem pd_1 : parseMethodDescriptor "(II)V" = some ⟨[.int, .int], none⟩ := by decide +kernel
theorem pd_2 : parseMethodDescriptor "([I)I" = some ⟨[(.array .int)], some .int⟩ := by decide +kernel
theorem dSlot_mk_0 : decode prog_11_method_1_code 0 = .ok (.aload_n 0, 1) := by decide +kernel
theorem dSlot_mk_1 : decode prog_11_method_1_code 1 = .ok (.invokespecial 1, 3) := by decide +kernel
theorem dSlot_mk_4 : decode prog_11_method_1_code 4 = .ok (.aload_n 0, 1) := by decide +kernel
theorem dSlot_mk_5 : decode prog_11_method_1_code 5 = .ok (.iload_n 1, 1) := by decide +kernel
theorem dSlot_mk_6 : decode prog_11_method_1_code 6 = .ok (.putfield 7, 3) := by decide +kernel
theorem dSlot_mk_9 : decode prog_11_method_1_code 9 = .ok (.aload_n 0, 1) := by decide +kernel
theorem dSlot_mk_10 : decode prog_11_method_1_code 10 = .ok (.iload_n 2, 1) := by decide +kernel
theorem dSlot_mk_11 : decode prog_11_method_1_code 11 = .ok (.putfield 13, 3) := by decide +kernel
theorem dSlot_mk_14 : decode prog_11_method_1_code 14 = .ok (.return_, 1) := by decide +kernel
theorem dRecord_mk_0 : decode jdk_30_method_1_code 0 = .ok (.aload_n 0, 1) := by decide +kernel
theorem dRecord_mk_1 : decode jdk_30_method_1_code 1 = .ok (.invokespecial 1, 3) := by decide +kernel
theorem dRecord_mk_4 : decode jdk_30_method_1_code 4 = .ok (.return_, 1) := by decide +kernel
theorem dSlot_value_0 : decode prog_11_method_5_code 0 = .ok (.aload_n 0, 1) := by decide +kernel
theorem dSlot_value_1 : decode prog_11_method_5_code 1 = .ok (.getfield 7, 3) := by decide +kernel
theorem dSlot_value_4 : decode prog_11_method_5_code 4 = .ok (.ifCond .ge 10, 3) := by decide +kernel
theorem dSlot_value_7 : decode prog_11_method_5_code 7 = .ok (.aload_n 0, 1) := by decide +kernel
theorem dSlot_value_8 : decode prog_11_method_5_code 8 = .ok (.getfield 13, 3) := by decide +kernel
theorem dSlot_value_11 : decode prog_11_method_5_code 11 = .ok (.goto 9, 3) := by decide +kernel
theorem dSlot_value_14 : decode prog_11_method_5_code 14 = .ok (.aload_n 1, 1) := by decide +kernel
theorem dSlot_value_15 : decode prog_11_method_5_code 15 = .ok (.aload_n 0, 1) := by decide +kernel
theorem dSlot_value_16 : decode prog_11_method_5_code 16 = .ok (.getfield 7, 3) := by decide +kernel
theorem dSlot_value_19 : decode prog_11_method_5_code 19 = .ok (.iaload, 1) := by decide +kernel
theorem dSlot_value_20 : decode prog_11_method_5_code 20 = .ok (.ireturn, 1) := by decide +kernel
/-! java/lang/Record.<init>:()V -/
def f_Record_mk (f_a1_constant : Int32) (f_a1_variable : Int32) : Option (Unit) :=
  some ()
def Q_Record_mk (Z : State) (hE : Heap) (n0 : Nat) (a1 : Addr) (r : Unit) (v : Option Value) (h : Heap) (L : List Loc) : Prop := v = none ∧ Fr n0 L ∧ h = hE
def Cx_Record_mk (p : Program) (s : State) (m : MethodId) (meth : Method) (c : Code) (Z : State) (a0 : Array Value) : Prop := p.tables.exec = Jvm.exec ∧ Z.Warmed39 s.vm ∧ (∀ d ∈ tables_1, d.before a0 Z = true) ∧ c.code = jdk_30_method_1_code ∧ c.maxLocals = 1 ∧ s.vm.findClass "java/lang/Record" = some m.cls ∧ meth.sig.returnType = none ∧ meth.locks = false ∧ meth.name = "<init>"
set_option maxRecDepth 65536 in
set_option maxHeartbeats 4000000 in
theorem b_Record_mk {p : Program} {l : Launch} {e : Env} {s : State} {m : MethodId} {args : Array Value} {below : List Frame} {meth : Method} {c : Code} {Z : State} {a0 : Array Value} {n0 : Nat} {hE : Heap} (cx : Cx_Record_mk p s m meth c Z a0) (a1 : Addr) :
    ∀ {T : State} {locs : List Loc} (X : Stand p l e ({ frames := 1, cells := 0, slots := 0, locals := 12 } : Room) s m args below meth c T locs 0 0) (eT : T.heap = hE) (N : Fr n0 locs) (z : n0 ≤ hE.size) (f_a1_constant : Int32) (f_a1_variable : Int32) (E_a1 : Exa Z hE a1 "com/example/rulr/rulr/BodyMatcher$Slot") (F_a1_constant : Fld Z hE a1 "com/example/rulr/rulr/BodyMatcher$Slot" "constant" "I" (.int f_a1_constant)) (F_a1_variable : Fld Z hE a1 "com/example/rulr/rulr/BodyMatcher$Slot" "variable" "I" (.int f_a1_variable)) (g_a1 : n0 ≤ a1) (r : Unit), f_Record_mk f_a1_constant f_a1_variable = some r → own_Goes p e below s (Q_Record_mk Z hE n0 a1 r) 0 0 (T.setTop (mkF m 0 #[.val (.ref a1)] [])) := by
  have cx' := cx
  obtain ⟨hx, hZ, hw, hby, hml, hown, hret, hlk, hnm⟩ := cx'
  intro T locs X eT N z f_a1_constant f_a1_variable E_a1 F_a1_constant F_a1_variable g_a1 r hF
  unfold f_Record_mk at hF
  refine own_Goes.via (B := T.setTop (mkF m 1 #[.val (.ref a1)] [(.ref a1)])) (fun t k => ?_) ?_
  · show Steps p.tables e below (T.setTop (mkF m 0 #[.val (.ref a1)] [])) t
    refine XS.aloadN X.here hx rfl (hb hby dRecord_mk_0) rfl rfl ?_
    exact k
  obtain ⟨T9, X9, e9, st9⟩ := initO X hx hZ hown (w12 hw) (w13 hw) (w14 hw) eT (g := (mkF m 1 #[.val (.ref a1)] [(.ref a1)])) rfl (by rw [hml]; rfl) rfl (hb hby dRecord_mk_1) (by decide) (W := 0) (by show 2 * 0 + _ ≤ _; exact Nat.le_of_eq rfl) (by decide)
  refine own_Goes.via st9 ?_
  show own_Goes _ _ _ _ _ _ _ (T9.setTop (mkF m 4 #[.val (.ref a1)] []))
  obtain rfl : () = r := Option.some.inj hF
  exact own_retV X9 hx hret hlk (hb hby dRecord_mk_4) e9 ⟨rfl, N, rfl⟩ (by decide) (by decide)
theorem ef_Record_mk (m : MethodId) (x0 : Addr) : entryFrame m #[(.ref x0)] 1 = mkF m 0 #[.val (.ref x0)] [] := by first | (simp [entryFrame, mkF, argsToLocals, Value.category]; done) | rfl
set_option maxRecDepth 65536 in
set_option maxHeartbeats 4000000 in
theorem rm_Record_mk (l : Launch) (Z : State) (a0 : Array Value) (hw : ∀ d ∈ tables_1, d.before a0 Z = true) (ws : List Jvm.Cond) (hE : Heap) (n0 : Nat) (z : n0 ≤ hE.size) (a1 : Addr) (f_a1_constant : Int32) (f_a1_variable : Int32) (E_a1 : Exa Z hE a1 "com/example/rulr/rulr/BodyMatcher$Slot") (F_a1_constant : Fld Z hE a1 "com/example/rulr/rulr/BodyMatcher$Slot" "constant" "I" (.int f_a1_constant)) (F_a1_variable : Fld Z hE a1 "com/example/rulr/rulr/BodyMatcher$Slot" "variable" "I" (.int f_a1_variable)) (g_a1 : n0 ≤ a1) (r : Unit) (hF : (f_Record_mk f_a1_constant f_a1_variable) = some r) :
    MetFree l (⟨"java/lang/Record", "<init>", "()V"⟩ : MethodName) (head1 (Jvm.Cond.code (⟨"java/lang/Record", "<init>", "()V"⟩ : MethodName) jdk_30_method_1_code 1 none :: ws) ({ frames := 1, cells := 0, slots := 0, locals := 12 } : Room)) (fun a U => a = #[(.ref a1)] ∧ Z.Warmed39 U.vm ∧ U.heap = hE) (fun _ _ _ _ _ => True) (fun _ U o U' => ∃ v L, o = .returned v ∧ (Q_Record_mk Z hE n0 a1 r) v U'.heap L ∧ FrameEnd U o U' L ({ frames := 1, cells := 0, slots := 0, locals := 12 } : Room).cells ({ frames := 1, cells := 0, slots := 0, locals := 12 } : Room).slots) := by
  refine MetFree.of_bodySF (plainFor_of_name pn_java_lang_Record) hisR ?_
  intro p e s m args below meth c s₁ Bd hml0 hP hK
  obtain ⟨rfl, hZ, hh⟩ := hP
  have X0 : Stand p l e ({ frames := 1, cells := 0, slots := 0, locals := 12 } : Room) s m #[(.ref a1)] below meth c s₁ [] 0 0 := Stand.of_body Bd
  have e0 : s₁.heap = hE := by rw [← hh, Bd.state]; rfl
  have cx : Cx_Record_mk p s m meth c Z a0 := ⟨Bd.exec, hZ, hw, Bd.bytes, hml0, findClass_of_methodNamed Bd.named, Bd.returns, Bd.notSynchronized, (name_of_methodNamed Bd.named Bd.method).1⟩
  show own_Goes p e below s (Q_Record_mk Z hE n0 a1 r) ({ frames := 1, cells := 0, slots := 0, locals := 12 } : Room).cells ({ frames := 1, cells := 0, slots := 0, locals := 12 } : Room).slots (s₁.setTop (entryFrame m #[(.ref a1)] 1))
  rw [ef_Record_mk]
  exact b_Record_mk cx a1 X0 e0 (Fr.nil n0) z f_a1_constant f_a1_variable E_a1 F_a1_constant F_a1_variable g_a1 _ hF
/-! com/example/rulr/rulr/BodyMatcher$Slot.<init>:(II)V -/
def f_Slot_mk (v1 : Int32) (v2 : Int32) (f_a1_constant : Int32) (f_a1_variable : Int32) : Option (Int32 × Int32) :=
  own_bd (f_Record_mk f_a1_constant f_a1_variable) fun r19 =>
  some (v2, v1)
def Q_Slot_mk (Z : State) (hE : Heap) (n0 : Nat) (a1 : Addr) (r : Int32 × Int32) (v : Option Value) (h : Heap) (L : List Loc) : Prop := v = none ∧ Fr n0 L ∧ Keep hE h [a1] ∧ Exa Z h a1 "com/example/rulr/rulr/BodyMatcher$Slot" ∧ Fld Z h a1 "com/example/rulr/rulr/BodyMatcher$Slot" "constant" "I" (.int r.1) ∧ Fld Z h a1 "com/example/rulr/rulr/BodyMatcher$Slot" "variable" "I" (.int r.2)
def Cx_Slot_mk (p : Program) (s : State) (m : MethodId) (meth : Method) (c : Code) (Z : State) (a0 : Array Value) : Prop := p.tables.exec = Jvm.exec ∧ Z.Warmed39 s.vm ∧ (∀ d ∈ tables_1, d.before a0 Z = true) ∧ c.code = prog_11_method_1_code ∧ c.maxLocals = 3 ∧ s.vm.findClass "com/example/rulr/rulr/BodyMatcher$Slot" = some m.cls ∧ meth.sig.returnType = none ∧ meth.locks = false ∧ meth.name = "<init>"
set_option maxRecDepth 65536 in
set_option maxHeartbeats 4000000 in
theorem b_Slot_mk {p : Program} {l : Launch} {e : Env} {s : State} {m : MethodId} {args : Array Value} {below : List Frame} {meth : Method} {c : Code} {Z : State} {a0 : Array Value} {n0 : Nat} {hE : Heap} (cx : Cx_Slot_mk p s m meth c Z a0) (a1 : Addr) :
    ∀ {T : State} {locs : List Loc} {h : Heap} (X : Stand p l e ({ frames := 2, cells := 0, slots := 0, locals := 24 } : Room) s m args below meth c T locs 0 0) (eT : T.heap = h) (N : Fr n0 locs) (K : Keep hE h [a1]) (z : n0 ≤ h.size) (v1 : Int32) (v2 : Int32) (f_a1_constant : Int32) (f_a1_variable : Int32) (E_a1 : Exa Z h a1 "com/example/rulr/rulr/BodyMatcher$Slot") (F_a1_constant : Fld Z h a1 "com/example/rulr/rulr/BodyMatcher$Slot" "constant" "I" (.int f_a1_constant)) (F_a1_variable : Fld Z h a1 "com/example/rulr/rulr/BodyMatcher$Slot" "variable" "I" (.int f_a1_variable)) (g_a1 : n0 ≤ a1) (r : Int32 × Int32), f_Slot_mk v1 v2 f_a1_constant f_a1_variable = some r → own_Goes p e below s (Q_Slot_mk Z hE n0 a1 r) 0 0 (T.setTop (mkF m 0 #[.val (.ref a1), .val (.int v1), .val (.int v2)] [])) := by
  have cx' := cx
  obtain ⟨hx, hZ, hw, hby, hml, hown, hret, hlk, hnm⟩ := cx'
  intro T locs h X eT N K z v1 v2 f_a1_constant f_a1_variable E_a1 F_a1_constant F_a1_variable g_a1 r hF
  unfold f_Slot_mk at hF
  refine own_Goes.via (B := T.setTop (mkF m 1 #[.val (.ref a1), .val (.int v1), .val (.int v2)] [(.ref a1)])) (fun t k => ?_) ?_
  · show Steps p.tables e below (T.setTop (mkF m 0 #[.val (.ref a1), .val (.int v1), .val (.int v2)] [])) t
    refine XS.aloadN X.here hx rfl (hb hby dSlot_mk_0) rfl rfl ?_
    exact k
  obtain ⟨r19, hr19, hF⟩ := own_bd_e hF
  obtain ⟨_, _, ⟨T19, L19, k19, n19⟩, -, X19, ⟨Lc19, hQ19, l19, y19, z19⟩, st19⟩ := X.specialBack hx (y := (⟨"java/lang/Record", "<init>", "()V"⟩ : MethodName)) rfl hown (mvT hZ (w7 hw)) (mvT hZ (w8 hw)) (mvT hZ (w11 hw)) (by decide) (backOf (W := 0) (rm_Record_mk l Z a0 hw [] h n0 z a1 f_a1_constant f_a1_variable E_a1 F_a1_constant F_a1_variable g_a1 r19 hr19) hZ (w11 hw) (w10 hw) (by decide) (by decide)) (g := (mkF m 1 #[.val (.ref a1), .val (.int v1), .val (.int v2)] [(.ref a1)])) rfl (by rw [hml]; rfl) (Steps.refl _) (a := a1) (argsL := []) (rest := []) (lenOf pd_0 rfl) rfl (by show 2 * 0 + _ ≤ _; exact Nat.le_of_eq rfl) (hb hby dSlot_mk_1) (fun _ _ => ⟨rfl, eT, (by decide : 0 + 0 ≤ _), (by decide : 0 + 0 ≤ _)⟩)
  dsimp only [Pt.U, Pt.locs, Pt.cells, Pt.slots] at X19 l19 y19 z19 st19 hQ19
  subst l19 y19 z19
  obtain ⟨rfl, N19q, e19⟩ := hQ19
  have N19 := Fr.app N N19q
  refine own_Goes.tr st19 ?_
  show own_Goes _ _ _ _ _ _ _ (T19.setTop (mkF m 4 #[.val (.ref a1), .val (.int v1), .val (.int v2)] []))
  refine own_Goes.via (B := T19.setTop (mkF m 6 #[.val (.ref a1), .val (.int v1), .val (.int v2)] [(.int v1), (.ref a1)])) (fun t k => ?_) ?_
  · show Steps p.tables e below (T19.setTop (mkF m 4 #[.val (.ref a1), .val (.int v1), .val (.int v2)] [])) t
    refine XS.aloadN X19.here hx rfl (hb hby dSlot_mk_4) rfl rfl ?_
    show Steps p.tables e below (T19.setTop (mkF m 5 #[.val (.ref a1), .val (.int v1), .val (.int v2)] [(.ref a1)])) t
    refine XS.iloadN X19.here hx rfl (hb hby dSlot_mk_5) rfl ?_
    exact k
  obtain ⟨T20, h20, X20, e20, W20, st20⟩ := putF X19 hx hZ hown (host := "") (Or.inl (w15 hw)) Via.refl e19 F_a1_variable E_a1 (Or.inr ⟨(w16 hw), rfl, hnm⟩) (w2 hw) (ty := .int) (by decide) rfl rfl (g := (mkF m 6 #[.val (.ref a1), .val (.int v1), .val (.int v2)] [(.int v1), (.ref a1)])) rfl rfl (hb hby dSlot_mk_6)
  refine own_Goes.via st20 ?_
  have E20_a1 := E_a1.wr W20
  have F20_a1_constant := F_a1_constant.other W20 (Or.inr (slot_ne (Or.inr (w18 hw)) (Or.inr (w16 hw)) (by decide) (t := .int) (t' := .int) (by decide) (by decide)))
  have F20_a1_variable := F_a1_variable.same W20
  have z20 := Nat.le_trans z (Keep.of_wr W20).1
  have K20_ := K.wr W20 (Or.inl (List.mem_of_getElem? (i := 0) rfl))
  have N20 := Fr.snoc X20 N19 g_a1
  show own_Goes _ _ _ _ _ _ _ (T20.setTop (mkF m 9 #[.val (.ref a1), .val (.int v1), .val (.int v2)] []))
  refine own_Goes.via (B := T20.setTop (mkF m 11 #[.val (.ref a1), .val (.int v1), .val (.int v2)] [(.int v2), (.ref a1)])) (fun t k => ?_) ?_
  · show Steps p.tables e below (T20.setTop (mkF m 9 #[.val (.ref a1), .val (.int v1), .val (.int v2)] [])) t
    refine XS.aloadN X20.here hx rfl (hb hby dSlot_mk_9) rfl rfl ?_
    show Steps p.tables e below (T20.setTop (mkF m 10 #[.val (.ref a1), .val (.int v1), .val (.int v2)] [(.ref a1)])) t
    refine XS.iloadN X20.here hx rfl (hb hby dSlot_mk_10) rfl ?_
    exact k
  obtain ⟨T21, h21, X21, e21, W21, st21⟩ := putF X20 hx hZ hown (host := "") (Or.inl (w17 hw)) Via.refl e20 F20_a1_constant E20_a1 (Or.inr ⟨(w18 hw), rfl, hnm⟩) (w2 hw) (ty := .int) (by decide) rfl rfl (g := (mkF m 11 #[.val (.ref a1), .val (.int v1), .val (.int v2)] [(.int v2), (.ref a1)])) rfl rfl (hb hby dSlot_mk_11)
  refine own_Goes.via st21 ?_
  have E21_a1 := E20_a1.wr W21
  have F21_a1_variable := F20_a1_variable.other W21 (Or.inr (slot_ne (Or.inr (w16 hw)) (Or.inr (w18 hw)) (by decide) (t := .int) (t' := .int) (by decide) (by decide)))
  have F21_a1_constant := F20_a1_constant.same W21
  have z21 := Nat.le_trans z20 (Keep.of_wr W21).1
  have K21_ := K20_.wr W21 (Or.inl (List.mem_of_getElem? (i := 0) rfl))
  have N21 := Fr.snoc X21 N20 g_a1
  show own_Goes _ _ _ _ _ _ _ (T21.setTop (mkF m 14 #[.val (.ref a1), .val (.int v1), .val (.int v2)] []))
  obtain rfl : (v2, v1) = r := Option.some.inj hF
  exact own_retV X21 hx hret hlk (hb hby dSlot_mk_14) e21 ⟨rfl, N21, K21_, E21_a1, F21_a1_constant, F21_a1_variable⟩ (by decide) (by decide)
theorem ef_Slot_mk (m : MethodId) (x0 : Addr) (x1 : Int32) (x2 : Int32) : entryFrame m #[(.ref x0), (.int x1), (.int x2)] 3 = mkF m 0 #[.val (.ref x0), .val (.int x1), .val (.int x2)] [] := by first | (simp [entryFrame, mkF, argsToLocals, Value.category]; done) | rfl
set_option maxRecDepth 65536 in
set_option maxHeartbeats 4000000 in
theorem rm_Slot_mk (l : Launch) (Z : State) (a0 : Array Value) (hw : ∀ d ∈ tables_1, d.before a0 Z = true) (ws : List Jvm.Cond) (hE : Heap) (n0 : Nat) (z : n0 ≤ hE.size) (a1 : Addr) (v1 : Int32) (v2 : Int32) (f_a1_constant : Int32) (f_a1_variable : Int32) (E_a1 : Exa Z hE a1 "com/example/rulr/rulr/BodyMatcher$Slot") (F_a1_constant : Fld Z hE a1 "com/example/rulr/rulr/BodyMatcher$Slot" "constant" "I" (.int f_a1_constant)) (F_a1_variable : Fld Z hE a1 "com/example/rulr/rulr/BodyMatcher$Slot" "variable" "I" (.int f_a1_variable)) (g_a1 : n0 ≤ a1) (r : Int32 × Int32) (hF : (f_Slot_mk v1 v2 f_a1_constant f_a1_variable) = some r) :
    MetFree l (⟨"com/example/rulr/rulr/BodyMatcher$Slot", "<init>", "(II)V"⟩ : MethodName) (head1 (Jvm.Cond.code (⟨"com/example/rulr/rulr/BodyMatcher$Slot", "<init>", "(II)V"⟩ : MethodName) prog_11_method_1_code 3 none :: ws) ({ frames := 2, cells := 0, slots := 0, locals := 24 } : Room)) (fun a U => a = #[(.ref a1), (.int v1), (.int v2)] ∧ Z.Warmed39 U.vm ∧ U.heap = hE) (fun _ _ _ _ _ => True) (fun _ U o U' => ∃ v L, o = .returned v ∧ (Q_Slot_mk Z hE n0 a1 r) v U'.heap L ∧ FrameEnd U o U' L ({ frames := 2, cells := 0, slots := 0, locals := 24 } : Room).cells ({ frames := 2, cells := 0, slots := 0, locals := 24 } : Room).slots) := by
  refine MetFree.of_bodySF (plainFor_of_name pn_com_example_rulr_rulr_BodyMatcher_Slot) hisR ?_
  intro p e s m args below meth c s₁ Bd hml0 hP hK
  obtain ⟨rfl, hZ, hh⟩ := hP
  have X0 : Stand p l e ({ frames := 2, cells := 0, slots := 0, locals := 24 } : Room) s m #[(.ref a1), (.int v1), (.int v2)] below meth c s₁ [] 0 0 := Stand.of_body Bd
  have e0 : s₁.heap = hE := by rw [← hh, Bd.state]; rfl
  have cx : Cx_Slot_mk p s m meth c Z a0 := ⟨Bd.exec, hZ, hw, Bd.bytes, hml0, findClass_of_methodNamed Bd.named, Bd.returns, Bd.notSynchronized, (name_of_methodNamed Bd.named Bd.method).1⟩
  show own_Goes p e below s (Q_Slot_mk Z hE n0 a1 r) ({ frames := 2, cells := 0, slots := 0, locals := 24 } : Room).cells ({ frames := 2, cells := 0, slots := 0, locals := 24 } : Room).slots (s₁.setTop (entryFrame m #[(.ref a1), (.int v1), (.int v2)] 3))
  rw [ef_Slot_mk]
  exact b_Slot_mk cx a1 X0 e0 (Fr.nil n0) (Keep.refl _ _) z v1 v2 f_a1_constant f_a1_variable E_a1 F_a1_constant F_a1_variable g_a1 _ hF
/-! com/example/rulr/rulr/BodyMatcher$Slot.value:([I)I -/
def f_Slot_value (f_a1_constant : Int32) (f_a1_variable : Int32) (bs_a2 : List Int32) : Option (Int32) :=
  if f_a1_variable < (0 : Int32) then
    some f_a1_constant
  else
    own_ck (own_inb bs_a2 f_a1_variable) <|
    some (own_rd bs_a2 f_a1_variable)
def Q_Slot_value (Z : State) (hE : Heap) (n0 : Nat) (a1 : Addr) (a2 : Addr) (r : Int32) (v : Option Value) (h : Heap) (L : List Loc) : Prop := v = some (.int r) ∧ Fr n0 L ∧ h = hE
def Cx_Slot_value (p : Program) (s : State) (m : MethodId) (meth : Method) (c : Code) (Z : State) (a0 : Array Value) : Prop := p.tables.exec = Jvm.exec ∧ Z.Warmed39 s.vm ∧ (∀ d ∈ tables_1, d.before a0 Z = true) ∧ c.code = prog_11_method_5_code ∧ c.maxLocals = 2 ∧ s.vm.findClass "com/example/rulr/rulr/BodyMatcher$Slot" = some m.cls ∧ meth.sig.returnType = some .int ∧ meth.locks = false ∧ meth.name = "value"
set_option maxRecDepth 65536 in
set_option maxHeartbeats 4000000 in
theorem b_Slot_value {p : Program} {l : Launch} {e : Env} {s : State} {m : MethodId} {args : Array Value} {below : List Frame} {meth : Method} {c : Code} {Z : State} {a0 : Array Value} {n0 : Nat} {hE : Heap} (cx : Cx_Slot_value p s m meth c Z a0) (a1 : Addr) (a2 : Addr) :
    ∀ {T : State} {locs : List Loc} (X : Stand p l e ({ frames := 0, cells := 0, slots := 0, locals := 0 } : Room) s m args below meth c T locs 0 0) (eT : T.heap = hE) (N : Fr n0 locs) (z : n0 ≤ hE.size) (f_a1_constant : Int32) (f_a1_variable : Int32) (bs_a2 : List Int32) (E_a1 : Exa Z hE a1 "com/example/rulr/rulr/BodyMatcher$Slot") (F_a1_constant : Fld Z hE a1 "com/example/rulr/rulr/BodyMatcher$Slot" "constant" "I" (.int f_a1_constant)) (F_a1_variable : Fld Z hE a1 "com/example/rulr/rulr/BodyMatcher$Slot" "variable" "I" (.int f_a1_variable)) (g_a1 : n0 ≤ a1) (A_a2 : own_Ar Z hE a2 .int (bs_a2.map Value.int)) (g_a2 : n0 ≤ a2) (ne_a1_a2 : a1 ≠ a2) (r : Int32), f_Slot_value f_a1_constant f_a1_variable bs_a2 = some r → own_Goes p e below s (Q_Slot_value Z hE n0 a1 a2 r) 0 0 (T.setTop (mkF m 0 #[.val (.ref a1), .val (.ref a2)] [])) := by
  have cx' := cx
  obtain ⟨hx, hZ, hw, hby, hml, hown, hret, hlk, hnm⟩ := cx'
  intro T locs X eT N z f_a1_constant f_a1_variable bs_a2 E_a1 F_a1_constant F_a1_variable g_a1 A_a2 g_a2 ne_a1_a2 r hF
  unfold f_Slot_value at hF
  refine own_Goes.via (B := T.setTop (mkF m 1 #[.val (.ref a1), .val (.ref a2)] [(.ref a1)])) (fun t k => ?_) ?_
  · show Steps p.tables e below (T.setTop (mkF m 0 #[.val (.ref a1), .val (.ref a2)] [])) t
    refine XS.aloadN X.here hx rfl (hb hby dSlot_value_0) rfl rfl ?_
    exact k
  obtain ⟨T32, X32, e32, st32⟩ := getF X hx hZ hown (host := "") (Or.inl (w15 hw)) Via.refl eT F_a1_variable (g := (mkF m 1 #[.val (.ref a1), .val (.ref a2)] [(.ref a1)])) rfl rfl (hb hby dSlot_value_1)
  refine own_Goes.via st32 ?_
  show own_Goes _ _ _ _ _ _ _ (T32.setTop (mkF m 4 #[.val (.ref a1), .val (.ref a2)] [(.int f_a1_variable)]))
  by_cases hc4 : f_a1_variable < (0 : Int32)
  · rw [if_pos hc4] at hF
    refine own_Goes.via (B := T32.setTop (mkF m 8 #[.val (.ref a1), .val (.ref a2)] [(.ref a1)])) (fun t k => ?_) ?_
    · show Steps p.tables e below (T32.setTop (mkF m 4 #[.val (.ref a1), .val (.ref a2)] [(.int f_a1_variable)])) t
      refine XS.ifNo X32.here hx rfl (hb hby dSlot_value_4) rfl ((if0 _ _).trans (tlt hc4).2.1) ?_
      show Steps p.tables e below (T32.setTop (mkF m 7 #[.val (.ref a1), .val (.ref a2)] [])) t
      refine XS.aloadN X32.here hx rfl (hb hby dSlot_value_7) rfl rfl ?_
      exact k
    obtain ⟨T33, X33, e33, st33⟩ := getF X32 hx hZ hown (host := "") (Or.inl (w17 hw)) Via.refl e32 F_a1_constant (g := (mkF m 8 #[.val (.ref a1), .val (.ref a2)] [(.ref a1)])) rfl rfl (hb hby dSlot_value_8)
    refine own_Goes.via st33 ?_
    show own_Goes _ _ _ _ _ _ _ (T33.setTop (mkF m 11 #[.val (.ref a1), .val (.ref a2)] [(.int f_a1_constant)]))
    refine own_Goes.via (B := T33.setTop (mkF m 20 #[.val (.ref a1), .val (.ref a2)] [(.int f_a1_constant)])) (fun t k => ?_) ?_
    · show Steps p.tables e below (T33.setTop (mkF m 11 #[.val (.ref a1), .val (.ref a2)] [(.int f_a1_constant)])) t
      refine XS.goto X33.here hx rfl (pc0 := 11) (pc' := 20) rfl (hb hby dSlot_value_11) (by decide) (by decide) ?_
      exact k
    obtain rfl : f_a1_constant = r := Option.some.inj hF
    exact own_retI X33 hx hret hlk (hb hby dSlot_value_20) e33 ⟨rfl, N, rfl⟩ (by decide) (by decide)
  · rw [if_neg hc4] at hF
    refine own_Goes.via (B := T32.setTop (mkF m 16 #[.val (.ref a1), .val (.ref a2)] [(.ref a1), (.ref a2)])) (fun t k => ?_) ?_
    · show Steps p.tables e below (T32.setTop (mkF m 4 #[.val (.ref a1), .val (.ref a2)] [(.int f_a1_variable)])) t
      refine XS.ifYes X32.here hx rfl (pc0 := 4) (pc' := 14) rfl (hb hby dSlot_value_4) rfl ((if0 _ _).trans (flt hc4).2.1) (by decide) (by decide) ?_
      show Steps p.tables e below (T32.setTop (mkF m 14 #[.val (.ref a1), .val (.ref a2)] [])) t
      refine XS.aloadN X32.here hx rfl (hb hby dSlot_value_14) rfl rfl ?_
      show Steps p.tables e below (T32.setTop (mkF m 15 #[.val (.ref a1), .val (.ref a2)] [(.ref a2)])) t
      refine XS.aloadN X32.here hx rfl (hb hby dSlot_value_15) rfl rfl ?_
      exact k
    obtain ⟨T34, X34, e34, st34⟩ := getF X32 hx hZ hown (host := "") (Or.inl (w15 hw)) Via.refl e32 F_a1_variable (g := (mkF m 16 #[.val (.ref a1), .val (.ref a2)] [(.ref a1), (.ref a2)])) rfl rfl (hb hby dSlot_value_16)
    refine own_Goes.via st34 ?_
    show own_Goes _ _ _ _ _ _ _ (T34.setTop (mkF m 19 #[.val (.ref a1), .val (.ref a2)] [(.int f_a1_variable), (.ref a2)]))
    obtain ⟨hi19, hF⟩ := own_ck_e hF
    refine own_Goes.via (B := T34.setTop (mkF m 20 #[.val (.ref a1), .val (.ref a2)] [(.int (own_rd bs_a2 f_a1_variable))])) (fun t k => ?_) ?_
    · show Steps p.tables e below (T34.setTop (mkF m 19 #[.val (.ref a1), .val (.ref a2)] [(.int f_a1_variable), (.ref a2)])) t
      refine own_ldI X34 hx hZ e34 A_a2 hi19 rfl (g := (mkF m 19 #[.val (.ref a1), .val (.ref a2)] [(.int f_a1_variable), (.ref a2)])) rfl rfl (hb hby dSlot_value_19) ?_
      exact k
    obtain rfl : (own_rd bs_a2 f_a1_variable) = r := Option.some.inj hF
    exact own_retI X34 hx hret hlk (hb hby dSlot_value_20) e34 ⟨rfl, N, rfl⟩ (by decide) (by decide)
theorem ef_Slot_value (m : MethodId) (x0 : Addr) (x1 : Addr) : entryFrame m #[(.ref x0), (.ref x1)] 2 = mkF m 0 #[.val (.ref x0), .val (.ref x1)] [] := by first | (simp [entryFrame, mkF, argsToLocals, Value.category]; done) | rfl
set_option maxRecDepth 65536 in
set_option maxHeartbeats 4000000 in
theorem rm_Slot_value (l : Launch) (Z : State) (a0 : Array Value) (hw : ∀ d ∈ tables_1, d.before a0 Z = true) (ws : List Jvm.Cond) (hE : Heap) (n0 : Nat) (z : n0 ≤ hE.size) (a1 : Addr) (a2 : Addr) (f_a1_constant : Int32) (f_a1_variable : Int32) (bs_a2 : List Int32) (E_a1 : Exa Z hE a1 "com/example/rulr/rulr/BodyMatcher$Slot") (F_a1_constant : Fld Z hE a1 "com/example/rulr/rulr/BodyMatcher$Slot" "constant" "I" (.int f_a1_constant)) (F_a1_variable : Fld Z hE a1 "com/example/rulr/rulr/BodyMatcher$Slot" "variable" "I" (.int f_a1_variable)) (g_a1 : n0 ≤ a1) (A_a2 : own_Ar Z hE a2 .int (bs_a2.map Value.int)) (g_a2 : n0 ≤ a2) (ne_a1_a2 : a1 ≠ a2) (r : Int32) (hF : (f_Slot_value f_a1_constant f_a1_variable bs_a2) = some r) :
    MetFree l (⟨"com/example/rulr/rulr/BodyMatcher$Slot", "value", "([I)I"⟩ : MethodName) (head1 (Jvm.Cond.code (⟨"com/example/rulr/rulr/BodyMatcher$Slot", "value", "([I)I"⟩ : MethodName) prog_11_method_5_code 2 (some .int) :: ws) ({ frames := 0, cells := 0, slots := 0, locals := 0 } : Room)) (fun a U => a = #[(.ref a1), (.ref a2)] ∧ Z.Warmed39 U.vm ∧ U.heap = hE) (fun _ _ _ _ _ => True) (fun _ U o U' => ∃ v L, o = .returned v ∧ (Q_Slot_value Z hE n0 a1 a2 r) v U'.heap L ∧ FrameEnd U o U' L ({ frames := 0, cells := 0, slots := 0, locals := 0 } : Room).cells ({ frames := 0, cells := 0, slots := 0, locals := 0 } : Room).slots) := by
  refine MetFree.of_bodySF (plainFor_of_name pn_com_example_rulr_rulr_BodyMatcher_Slot) hisR ?_
  intro p e s m args below meth c s₁ Bd hml0 hP hK
  obtain ⟨rfl, hZ, hh⟩ := hP
  have X0 : Stand p l e ({ frames := 0, cells := 0, slots := 0, locals := 0 } : Room) s m #[(.ref a1), (.ref a2)] below meth c s₁ [] 0 0 := Stand.of_body Bd
  have e0 : s₁.heap = hE := by rw [← hh, Bd.state]; rfl
  have cx : Cx_Slot_value p s m meth c Z a0 := ⟨Bd.exec, hZ, hw, Bd.bytes, hml0, findClass_of_methodNamed Bd.named, Bd.returns, Bd.notSynchronized, (name_of_methodNamed Bd.named Bd.method).1⟩
  show own_Goes p e below s (Q_Slot_value Z hE n0 a1 a2 r) ({ frames := 0, cells := 0, slots := 0, locals := 0 } : Room).cells ({ frames := 0, cells := 0, slots := 0, locals := 0 } : Room).slots (s₁.setTop (entryFrame m #[(.ref a1), (.ref a2)] 2))
  rw [ef_Slot_value]
  exact b_Slot_value cx a1 a2 X0 e0 (Fr.nil n0) z f_a1_constant f_a1_variable bs_a2 E_a1 F_a1_constant F_a1_variable g_a1 A_a2 g_a2 ne_a1_a2 _ hF
/-! com/example/rulr/rulr/SlotValuePinLaw.law:(IIIII)Z -/
def f_law_90 (v2 : Int32) (v3 : Int32) (v4 : Int32) (v8 : Int32) (v9 : Int32) (bs_b1 : List Int32) : Option (Int32) :=
  if v8 = v9 then
    own_ck (own_inb bs_b1 (0 : Int32)) <|
    if (own_rd bs_b1 (0 : Int32)) = v2 then
      own_ck (own_inb bs_b1 (1 : Int32)) <|
      if (own_rd bs_b1 (1 : Int32)) = v3 then
        own_ck (own_inb bs_b1 (2 : Int32)) <|
        if (own_rd bs_b1 (2 : Int32)) = v4 then
          some (1 : Int32)
        else
          some (0 : Int32)
      else
        some (0 : Int32)
    else
      some (0 : Int32)
  else
    some (0 : Int32)
def f_law_11 (v1 : Int32) (v2 : Int32) (v3 : Int32) (v4 : Int32) (t0 : Int32) : Option (Int32) :=
  own_bd (f_Slot_mk t0 v1 (0 : Int32) (0 : Int32)) fun r55 =>
  own_bd (f_Slot_value r55.1 r55.2 ([v2, v3, v4] : List Int32)) fun r56 =>
  if t0 < (0 : Int32) then
    (f_law_90 v2 v3 v4 r56 v1 ([v2, v3, v4] : List Int32))
  else
    if t0 = (0 : Int32) then
      (f_law_90 v2 v3 v4 r56 v2 ([v2, v3, v4] : List Int32))
    else
      if t0 = (1 : Int32) then
        (f_law_90 v2 v3 v4 r56 v3 ([v2, v3, v4] : List Int32))
      else
        (f_law_90 v2 v3 v4 r56 v4 ([v2, v3, v4] : List Int32))
def f_law (v0 : Int32) (v1 : Int32) (v2 : Int32) (v3 : Int32) (v4 : Int32) : Option (Int32) :=
  if v0 < (0 : Int32) then
    (f_law_11 v1 v2 v3 v4 v0)
  else
    (f_law_11 v1 v2 v3 v4 (v0 % (3 : Int32)))
def Q_law (Z : State) (hE : Heap) (n0 : Nat)  (r : Int32) (v : Option Value) (h : Heap) (L : List Loc) : Prop := v = some (.int r) ∧ Fr n0 L ∧ Keep hE h []
def Cx_law (p : Program) (s : State) (m : MethodId) (meth : Method) (c : Code) (Z : State) (a0 : Array Value) : Prop := p.tables.exec = Jvm.exec ∧ Z.Warmed39 s.vm ∧ (∀ d ∈ tables_1, d.before a0 Z = true) ∧ c.code = code ∧ c.maxLocals = 10 ∧ s.vm.findClass "com/example/rulr/rulr/SlotValuePinLaw" = some m.cls ∧ meth.sig.returnType = some .boolean ∧ meth.locks = false ∧ meth.name = "law"
set_option maxRecDepth 65536 in
set_option maxHeartbeats 4000000 in
theorem b_law_90 {p : Program} {l : Launch} {e : Env} {s : State} {m : MethodId} {args : Array Value} {below : List Frame} {meth : Method} {c : Code} {Z : State} {a0 : Array Value} {n0 : Nat} {hE : Heap} (cx : Cx_law p s m meth c Z a0) :
    ∀ {T : State} {locs : List Loc} {h : Heap} (X : Stand p l e room_1 s m args below meth c T locs 2 5) (eT : T.heap = h) (N : Fr n0 locs) (K : Keep hE h []) (z : n0 ≤ h.size) (b1 : Addr) (v2 : Int32) (v3 : Int32) (v4 : Int32) (v8 : Int32) (v9 : Int32) (bs_b1 : List Int32) (d0 : Slot) (d1 : Slot) (d5 : Slot) (d7 : Slot) (o_d0 : One d0) (o_d1 : One d1) (o_d5 : One d5) (o_d7 : One d7) (A_b1 : own_Ar Z h b1 .int (bs_b1.map Value.int)) (g_b1 : n0 ≤ b1) (nE_b1 : hE.size ≤ b1) (r : Int32), f_law_90 v2 v3 v4 v8 v9 bs_b1 = some r → own_Goes p e below s (Q_law Z hE n0 r) 2 5 (T.setTop (mkF m 90 #[d0, d1, .val (.int v2), .val (.int v3), .val (.int v4), d5, .val (.ref b1), d7, .val (.int v8), .val (.int v9)] [])) := by
  have cx' := cx
  obtain ⟨hx, hZ, hw, hby, hml, hown, hret, hlk, hnm⟩ := cx'
  intro T locs h X eT N K z b1 v2 v3 v4 v8 v9 bs_b1 d0 d1 d5 d7 o_d0 o_d1 o_d5 o_d7 A_b1 g_b1 nE_b1 r hF
  unfold f_law_90 at hF
  refine own_Goes.via (B := T.setTop (mkF m 94 #[d0, d1, .val (.int v2), .val (.int v3), .val (.int v4), d5, .val (.ref b1), d7, .val (.int v8), .val (.int v9)] [(.int v9), (.int v8)])) (fun t k => ?_) ?_
  · show Steps p.tables e below (T.setTop (mkF m 90 #[d0, d1, .val (.int v2), .val (.int v3), .val (.int v4), d5, .val (.ref b1), d7, .val (.int v8), .val (.int v9)] [])) t
    refine XS.iload X.here hx rfl (hb hby at_90) rfl ?_
    show Steps p.tables e below (T.setTop (mkF m 92 #[d0, d1, .val (.int v2), .val (.int v3), .val (.int v4), d5, .val (.ref b1), d7, .val (.int v8), .val (.int v9)] [(.int v8)])) t
    refine XS.iload X.here hx rfl (hb hby at_92) rfl ?_
    exact k
  by_cases hc94 : v8 = v9
  · rw [if_pos hc94] at hF
    refine own_Goes.via (B := T.setTop (mkF m 100 #[d0, d1, .val (.int v2), .val (.int v3), .val (.int v4), d5, .val (.ref b1), d7, .val (.int v8), .val (.int v9)] [(.int (0 : Int32)), (.ref b1)])) (fun t k => ?_) ?_
    · show Steps p.tables e below (T.setTop (mkF m 94 #[d0, d1, .val (.int v2), .val (.int v3), .val (.int v4), d5, .val (.ref b1), d7, .val (.int v8), .val (.int v9)] [(.int v9), (.int v8)])) t
      refine XS.icmpNo X.here hx rfl (hb hby at_94) rfl (teq hc94).2 ?_
      show Steps p.tables e below (T.setTop (mkF m 97 #[d0, d1, .val (.int v2), .val (.int v3), .val (.int v4), d5, .val (.ref b1), d7, .val (.int v8), .val (.int v9)] [])) t
      refine XS.aload X.here hx rfl (hb hby at_97) rfl rfl ?_
      show Steps p.tables e below (T.setTop (mkF m 99 #[d0, d1, .val (.int v2), .val (.int v3), .val (.int v4), d5, .val (.ref b1), d7, .val (.int v8), .val (.int v9)] [(.ref b1)])) t
      refine XS.iconst X.here hx rfl (hb hby at_99) ?_
      exact k
    obtain ⟨hi100, hF⟩ := own_ck_e hF
    refine own_Goes.via (B := T.setTop (mkF m 102 #[d0, d1, .val (.int v2), .val (.int v3), .val (.int v4), d5, .val (.ref b1), d7, .val (.int v8), .val (.int v9)] [(.int v2), (.int (own_rd bs_b1 (0 : Int32)))])) (fun t k => ?_) ?_
    · show Steps p.tables e below (T.setTop (mkF m 100 #[d0, d1, .val (.int v2), .val (.int v3), .val (.int v4), d5, .val (.ref b1), d7, .val (.int v8), .val (.int v9)] [(.int (0 : Int32)), (.ref b1)])) t
      refine own_ldI X hx hZ eT A_b1 hi100 rfl (g := (mkF m 100 #[d0, d1, .val (.int v2), .val (.int v3), .val (.int v4), d5, .val (.ref b1), d7, .val (.int v8), .val (.int v9)] [(.int (0 : Int32)), (.ref b1)])) rfl rfl (hb hby at_100) ?_
      show Steps p.tables e below (T.setTop (mkF m 101 #[d0, d1, .val (.int v2), .val (.int v3), .val (.int v4), d5, .val (.ref b1), d7, .val (.int v8), .val (.int v9)] [(.int (own_rd bs_b1 (0 : Int32)))])) t
      refine XS.iloadN X.here hx rfl (hb hby at_101) rfl ?_
      exact k
    by_cases hc102 : (own_rd bs_b1 (0 : Int32)) = v2
    · rw [if_pos hc102] at hF
      refine own_Goes.via (B := T.setTop (mkF m 108 #[d0, d1, .val (.int v2), .val (.int v3), .val (.int v4), d5, .val (.ref b1), d7, .val (.int v8), .val (.int v9)] [(.int (1 : Int32)), (.ref b1)])) (fun t k => ?_) ?_
      · show Steps p.tables e below (T.setTop (mkF m 102 #[d0, d1, .val (.int v2), .val (.int v3), .val (.int v4), d5, .val (.ref b1), d7, .val (.int v8), .val (.int v9)] [(.int v2), (.int (own_rd bs_b1 (0 : Int32)))])) t
        refine XS.icmpNo X.here hx rfl (hb hby at_102) rfl (teq hc102).2 ?_
        show Steps p.tables e below (T.setTop (mkF m 105 #[d0, d1, .val (.int v2), .val (.int v3), .val (.int v4), d5, .val (.ref b1), d7, .val (.int v8), .val (.int v9)] [])) t
        refine XS.aload X.here hx rfl (hb hby at_105) rfl rfl ?_
        show Steps p.tables e below (T.setTop (mkF m 107 #[d0, d1, .val (.int v2), .val (.int v3), .val (.int v4), d5, .val (.ref b1), d7, .val (.int v8), .val (.int v9)] [(.ref b1)])) t
        refine XS.iconst X.here hx rfl (hb hby at_107) ?_
        exact k
      obtain ⟨hi108, hF⟩ := own_ck_e hF
      refine own_Goes.via (B := T.setTop (mkF m 110 #[d0, d1, .val (.int v2), .val (.int v3), .val (.int v4), d5, .val (.ref b1), d7, .val (.int v8), .val (.int v9)] [(.int v3), (.int (own_rd bs_b1 (1 : Int32)))])) (fun t k => ?_) ?_
      · show Steps p.tables e below (T.setTop (mkF m 108 #[d0, d1, .val (.int v2), .val (.int v3), .val (.int v4), d5, .val (.ref b1), d7, .val (.int v8), .val (.int v9)] [(.int (1 : Int32)), (.ref b1)])) t
        refine own_ldI X hx hZ eT A_b1 hi108 rfl (g := (mkF m 108 #[d0, d1, .val (.int v2), .val (.int v3), .val (.int v4), d5, .val (.ref b1), d7, .val (.int v8), .val (.int v9)] [(.int (1 : Int32)), (.ref b1)])) rfl rfl (hb hby at_108) ?_
        show Steps p.tables e below (T.setTop (mkF m 109 #[d0, d1, .val (.int v2), .val (.int v3), .val (.int v4), d5, .val (.ref b1), d7, .val (.int v8), .val (.int v9)] [(.int (own_rd bs_b1 (1 : Int32)))])) t
        refine XS.iloadN X.here hx rfl (hb hby at_109) rfl ?_
        exact k
      by_cases hc110 : (own_rd bs_b1 (1 : Int32)) = v3
      · rw [if_pos hc110] at hF
        refine own_Goes.via (B := T.setTop (mkF m 116 #[d0, d1, .val (.int v2), .val (.int v3), .val (.int v4), d5, .val (.ref b1), d7, .val (.int v8), .val (.int v9)] [(.int (2 : Int32)), (.ref b1)])) (fun t k => ?_) ?_
        · show Steps p.tables e below (T.setTop (mkF m 110 #[d0, d1, .val (.int v2), .val (.int v3), .val (.int v4), d5, .val (.ref b1), d7, .val (.int v8), .val (.int v9)] [(.int v3), (.int (own_rd bs_b1 (1 : Int32)))])) t
          refine XS.icmpNo X.here hx rfl (hb hby at_110) rfl (teq hc110).2 ?_
          show Steps p.tables e below (T.setTop (mkF m 113 #[d0, d1, .val (.int v2), .val (.int v3), .val (.int v4), d5, .val (.ref b1), d7, .val (.int v8), .val (.int v9)] [])) t
          refine XS.aload X.here hx rfl (hb hby at_113) rfl rfl ?_
          show Steps p.tables e below (T.setTop (mkF m 115 #[d0, d1, .val (.int v2), .val (.int v3), .val (.int v4), d5, .val (.ref b1), d7, .val (.int v8), .val (.int v9)] [(.ref b1)])) t
          refine XS.iconst X.here hx rfl (hb hby at_115) ?_
          exact k
        obtain ⟨hi116, hF⟩ := own_ck_e hF
        refine own_Goes.via (B := T.setTop (mkF m 119 #[d0, d1, .val (.int v2), .val (.int v3), .val (.int v4), d5, .val (.ref b1), d7, .val (.int v8), .val (.int v9)] [(.int v4), (.int (own_rd bs_b1 (2 : Int32)))])) (fun t k => ?_) ?_
        · show Steps p.tables e below (T.setTop (mkF m 116 #[d0, d1, .val (.int v2), .val (.int v3), .val (.int v4), d5, .val (.ref b1), d7, .val (.int v8), .val (.int v9)] [(.int (2 : Int32)), (.ref b1)])) t
          refine own_ldI X hx hZ eT A_b1 hi116 rfl (g := (mkF m 116 #[d0, d1, .val (.int v2), .val (.int v3), .val (.int v4), d5, .val (.ref b1), d7, .val (.int v8), .val (.int v9)] [(.int (2 : Int32)), (.ref b1)])) rfl rfl (hb hby at_116) ?_
          show Steps p.tables e below (T.setTop (mkF m 117 #[d0, d1, .val (.int v2), .val (.int v3), .val (.int v4), d5, .val (.ref b1), d7, .val (.int v8), .val (.int v9)] [(.int (own_rd bs_b1 (2 : Int32)))])) t
          refine XS.iload X.here hx rfl (hb hby at_117) rfl ?_
          exact k
        by_cases hc119 : (own_rd bs_b1 (2 : Int32)) = v4
        · rw [if_pos hc119] at hF
          refine own_Goes.via (B := T.setTop (mkF m 127 #[d0, d1, .val (.int v2), .val (.int v3), .val (.int v4), d5, .val (.ref b1), d7, .val (.int v8), .val (.int v9)] [(.int (1 : Int32))])) (fun t k => ?_) ?_
          · show Steps p.tables e below (T.setTop (mkF m 119 #[d0, d1, .val (.int v2), .val (.int v3), .val (.int v4), d5, .val (.ref b1), d7, .val (.int v8), .val (.int v9)] [(.int v4), (.int (own_rd bs_b1 (2 : Int32)))])) t
            refine XS.icmpNo X.here hx rfl (hb hby at_119) rfl (teq hc119).2 ?_
            show Steps p.tables e below (T.setTop (mkF m 122 #[d0, d1, .val (.int v2), .val (.int v3), .val (.int v4), d5, .val (.ref b1), d7, .val (.int v8), .val (.int v9)] [])) t
            refine XS.iconst X.here hx rfl (hb hby at_122) ?_
            show Steps p.tables e below (T.setTop (mkF m 123 #[d0, d1, .val (.int v2), .val (.int v3), .val (.int v4), d5, .val (.ref b1), d7, .val (.int v8), .val (.int v9)] [(.int (1 : Int32))])) t
            refine XS.goto X.here hx rfl (pc0 := 123) (pc' := 127) rfl (hb hby at_123) (by decide) (by decide) ?_
            exact k
          obtain rfl : (1 : Int32) = r := Option.some.inj hF
          exact own_retN X hx (t := .boolean) hret hlk (by simp) (hb hby at_127) eT (v := (1 : Int32)) (by decide) ⟨rfl, N, K⟩ (by decide) (by decide)
        · rw [if_neg hc119] at hF
          refine own_Goes.via (B := T.setTop (mkF m 127 #[d0, d1, .val (.int v2), .val (.int v3), .val (.int v4), d5, .val (.ref b1), d7, .val (.int v8), .val (.int v9)] [(.int (0 : Int32))])) (fun t k => ?_) ?_
          · show Steps p.tables e below (T.setTop (mkF m 119 #[d0, d1, .val (.int v2), .val (.int v3), .val (.int v4), d5, .val (.ref b1), d7, .val (.int v8), .val (.int v9)] [(.int v4), (.int (own_rd bs_b1 (2 : Int32)))])) t
            refine XS.icmpYes X.here hx rfl (pc0 := 119) (pc' := 126) rfl (hb hby at_119) rfl (feq hc119).2 (by decide) (by decide) ?_
            show Steps p.tables e below (T.setTop (mkF m 126 #[d0, d1, .val (.int v2), .val (.int v3), .val (.int v4), d5, .val (.ref b1), d7, .val (.int v8), .val (.int v9)] [])) t
            refine XS.iconst X.here hx rfl (hb hby at_126) ?_
            exact k
          obtain rfl : (0 : Int32) = r := Option.some.inj hF
          exact own_retN X hx (t := .boolean) hret hlk (by simp) (hb hby at_127) eT (v := (0 : Int32)) (by decide) ⟨rfl, N, K⟩ (by decide) (by decide)
      · rw [if_neg hc110] at hF
        refine own_Goes.via (B := T.setTop (mkF m 127 #[d0, d1, .val (.int v2), .val (.int v3), .val (.int v4), d5, .val (.ref b1), d7, .val (.int v8), .val (.int v9)] [(.int (0 : Int32))])) (fun t k => ?_) ?_
        · show Steps p.tables e below (T.setTop (mkF m 110 #[d0, d1, .val (.int v2), .val (.int v3), .val (.int v4), d5, .val (.ref b1), d7, .val (.int v8), .val (.int v9)] [(.int v3), (.int (own_rd bs_b1 (1 : Int32)))])) t
          refine XS.icmpYes X.here hx rfl (pc0 := 110) (pc' := 126) rfl (hb hby at_110) rfl (feq hc110).2 (by decide) (by decide) ?_
          show Steps p.tables e below (T.setTop (mkF m 126 #[d0, d1, .val (.int v2), .val (.int v3), .val (.int v4), d5, .val (.ref b1), d7, .val (.int v8), .val (.int v9)] [])) t
          refine XS.iconst X.here hx rfl (hb hby at_126) ?_
          exact k
        obtain rfl : (0 : Int32) = r := Option.some.inj hF
        exact own_retN X hx (t := .boolean) hret hlk (by simp) (hb hby at_127) eT (v := (0 : Int32)) (by decide) ⟨rfl, N, K⟩ (by decide) (by decide)
    · rw [if_neg hc102] at hF
      refine own_Goes.via (B := T.setTop (mkF m 127 #[d0, d1, .val (.int v2), .val (.int v3), .val (.int v4), d5, .val (.ref b1), d7, .val (.int v8), .val (.int v9)] [(.int (0 : Int32))])) (fun t k => ?_) ?_
      · show Steps p.tables e below (T.setTop (mkF m 102 #[d0, d1, .val (.int v2), .val (.int v3), .val (.int v4), d5, .val (.ref b1), d7, .val (.int v8), .val (.int v9)] [(.int v2), (.int (own_rd bs_b1 (0 : Int32)))])) t
        refine XS.icmpYes X.here hx rfl (pc0 := 102) (pc' := 126) rfl (hb hby at_102) rfl (feq hc102).2 (by decide) (by decide) ?_
        show Steps p.tables e below (T.setTop (mkF m 126 #[d0, d1, .val (.int v2), .val (.int v3), .val (.int v4), d5, .val (.ref b1), d7, .val (.int v8), .val (.int v9)] [])) t
        refine XS.iconst X.here hx rfl (hb hby at_126) ?_
        exact k
      obtain rfl : (0 : Int32) = r := Option.some.inj hF
      exact own_retN X hx (t := .boolean) hret hlk (by simp) (hb hby at_127) eT (v := (0 : Int32)) (by decide) ⟨rfl, N, K⟩ (by decide) (by decide)
  · rw [if_neg hc94] at hF
    refine own_Goes.via (B := T.setTop (mkF m 127 #[d0, d1, .val (.int v2), .val (.int v3), .val (.int v4), d5, .val (.ref b1), d7, .val (.int v8), .val (.int v9)] [(.int (0 : Int32))])) (fun t k => ?_) ?_
    · show Steps p.tables e below (T.setTop (mkF m 94 #[d0, d1, .val (.int v2), .val (.int v3), .val (.int v4), d5, .val (.ref b1), d7, .val (.int v8), .val (.int v9)] [(.int v9), (.int v8)])) t
      refine XS.icmpYes X.here hx rfl (pc0 := 94) (pc' := 126) rfl (hb hby at_94) rfl (feq hc94).2 (by decide) (by decide) ?_
      show Steps p.tables e below (T.setTop (mkF m 126 #[d0, d1, .val (.int v2), .val (.int v3), .val (.int v4), d5, .val (.ref b1), d7, .val (.int v8), .val (.int v9)] [])) t
      refine XS.iconst X.here hx rfl (hb hby at_126) ?_
      exact k
    obtain rfl : (0 : Int32) = r := Option.some.inj hF
    exact own_retN X hx (t := .boolean) hret hlk (by simp) (hb hby at_127) eT (v := (0 : Int32)) (by decide) ⟨rfl, N, K⟩ (by decide) (by decide)
set_option maxRecDepth 65536 in
set_option maxHeartbeats 4000000 in
theorem b_law_11 {p : Program} {l : Launch} {e : Env} {s : State} {m : MethodId} {args : Array Value} {below : List Frame} {meth : Method} {c : Code} {Z : State} {a0 : Array Value} {n0 : Nat} {hE : Heap} (cx : Cx_law p s m meth c Z a0) :
    ∀ {T : State} {locs : List Loc} {h : Heap} (X : Stand p l e room_1 s m args below meth c T locs 0 0) (eT : T.heap = h) (N : Fr n0 locs) (K : Keep hE h []) (z : n0 ≤ h.size) (v1 : Int32) (v2 : Int32) (v3 : Int32) (v4 : Int32) (t0 : Int32) (d0 : Slot) (d5 : Slot) (d6 : Slot) (d7 : Slot) (d8 : Slot) (d9 : Slot) (o_d0 : One d0) (o_d5 : One d5) (o_d6 : One d6) (o_d7 : One d7) (o_d8 : One d8) (o_d9 : One d9) (r : Int32), f_law_11 v1 v2 v3 v4 t0 = some r → own_Goes p e below s (Q_law Z hE n0 r) 2 5 (T.setTop (mkF m 11 #[d0, .val (.int v1), .val (.int v2), .val (.int v3), .val (.int v4), d5, d6, d7, d8, d9] [(.int t0)])) := by
  have cx' := cx
  obtain ⟨hx, hZ, hw, hby, hml, hown, hret, hlk, hnm⟩ := cx'
  intro T locs h X eT N K z v1 v2 v3 v4 t0 d0 d5 d6 d7 d8 d9 o_d0 o_d5 o_d6 o_d7 o_d8 o_d9 r hF
  unfold f_law_11 at hF
  refine own_Goes.via (B := T.setTop (mkF m 14 #[d0, .val (.int v1), .val (.int v2), .val (.int v3), .val (.int v4), .val (.int t0), d6, d7, d8, d9] [(.int (3 : Int32))])) (fun t k => ?_) ?_
  · show Steps p.tables e below (T.setTop (mkF m 11 #[d0, .val (.int v1), .val (.int v2), .val (.int v3), .val (.int v4), d5, d6, d7, d8, d9] [(.int t0)])) t
    refine XS.istoreS X.here hx rfl (hb hby at_11) rfl rfl o_d5 ?_
    show Steps p.tables e below (T.setTop (mkF m 13 #[d0, .val (.int v1), .val (.int v2), .val (.int v3), .val (.int v4), .val (.int t0), d6, d7, d8, d9] [])) t
    refine XS.iconst X.here hx rfl (hb hby at_13) ?_
    exact k
  obtain ⟨T50, h50, k50, X50, e50, E50, A50, st50⟩ := newP X hx hZ (aty := .int) (w0 hw) eT (g := (mkF m 14 #[d0, .val (.int v1), .val (.int v2), .val (.int v3), .val (.int v4), .val (.int t0), d6, d7, d8, d9] [(.int (3 : Int32))])) rfl (hb hby at_14) rfl (by decide) (cap := 3) (by decide) (by decide) (by decide) (by decide)
  obtain ⟨c50, q50⟩ : ∃ z, z = h.size := ⟨_, rfl⟩
  rw [← q50] at A50 st50
  have A50_c50 : own_Ar Z h50 c50 .int (([(0 : Int32), (0 : Int32), (0 : Int32)] : List Int32).map Value.int) := own_newI A50 (by decide) rfl (kk := 3) (by decide)
  have g50_c50 : n0 ≤ c50 := Nat.le_trans z (Nat.le_of_eq q50.symm)
  have nE50_c50 : hE.size ≤ c50 := Nat.le_trans K.1 (Nat.le_of_eq q50.symm)
  have z50 := Nat.le_trans z E50.1
  have K50_ := K.ext E50
  refine own_Goes.via st50 ?_
  show own_Goes _ _ _ _ _ _ _ (T50.setTop (mkF m 16 #[d0, .val (.int v1), .val (.int v2), .val (.int v3), .val (.int v4), .val (.int t0), d6, d7, d8, d9] [(.ref c50)]))
  refine own_Goes.via (B := T50.setTop (mkF m 19 #[d0, .val (.int v1), .val (.int v2), .val (.int v3), .val (.int v4), .val (.int t0), d6, d7, d8, d9] [(.int v2), (.int (0 : Int32)), (.ref c50), (.ref c50)])) (fun t k => ?_) ?_
  · show Steps p.tables e below (T50.setTop (mkF m 16 #[d0, .val (.int v1), .val (.int v2), .val (.int v3), .val (.int v4), .val (.int t0), d6, d7, d8, d9] [(.ref c50)])) t
    refine XS.dup X50.here hx rfl (hb hby at_16) rfl rfl ?_
    show Steps p.tables e below (T50.setTop (mkF m 17 #[d0, .val (.int v1), .val (.int v2), .val (.int v3), .val (.int v4), .val (.int t0), d6, d7, d8, d9] [(.ref c50), (.ref c50)])) t
    refine XS.iconst X50.here hx rfl (hb hby at_17) ?_
    show Steps p.tables e below (T50.setTop (mkF m 18 #[d0, .val (.int v1), .val (.int v2), .val (.int v3), .val (.int v4), .val (.int t0), d6, d7, d8, d9] [(.int (0 : Int32)), (.ref c50), (.ref c50)])) t
    refine XS.iloadN X50.here hx rfl (hb hby at_18) rfl ?_
    exact k
  obtain ⟨T51, h51, X51, e51, W51, A51_c50, st51⟩ := own_stI X50 hx hZ e50 A50_c50 (own_inbk 0 3 (by decide) (by decide) rfl (by decide)) (g := (mkF m 19 #[d0, .val (.int v1), .val (.int v2), .val (.int v3), .val (.int v4), .val (.int t0), d6, d7, d8, d9] [(.int v2), (.int (0 : Int32)), (.ref c50), (.ref c50)])) rfl rfl (hb hby at_19)
  refine own_Goes.via st51 ?_
  have z51 := Nat.le_trans z50 (Keep.of_wr W51).1
  have K51_ := K50_.wr W51 (Or.inr nE50_c50)
  have N51 := Fr.snoc X51 N g50_c50
  rw [own_wrk 0 (by decide)] at A51_c50
  have A51_c50 : own_Ar Z h51 c50 .int (([v2, (0 : Int32), (0 : Int32)] : List Int32).map Value.int) := A51_c50
  show own_Goes _ _ _ _ _ _ _ (T51.setTop (mkF m 20 #[d0, .val (.int v1), .val (.int v2), .val (.int v3), .val (.int v4), .val (.int t0), d6, d7, d8, d9] [(.ref c50)]))
  refine own_Goes.via (B := T51.setTop (mkF m 23 #[d0, .val (.int v1), .val (.int v2), .val (.int v3), .val (.int v4), .val (.int t0), d6, d7, d8, d9] [(.int v3), (.int (1 : Int32)), (.ref c50), (.ref c50)])) (fun t k => ?_) ?_
  · show Steps p.tables e below (T51.setTop (mkF m 20 #[d0, .val (.int v1), .val (.int v2), .val (.int v3), .val (.int v4), .val (.int t0), d6, d7, d8, d9] [(.ref c50)])) t
    refine XS.dup X51.here hx rfl (hb hby at_20) rfl rfl ?_
    show Steps p.tables e below (T51.setTop (mkF m 21 #[d0, .val (.int v1), .val (.int v2), .val (.int v3), .val (.int v4), .val (.int t0), d6, d7, d8, d9] [(.ref c50), (.ref c50)])) t
    refine XS.iconst X51.here hx rfl (hb hby at_21) ?_
    show Steps p.tables e below (T51.setTop (mkF m 22 #[d0, .val (.int v1), .val (.int v2), .val (.int v3), .val (.int v4), .val (.int t0), d6, d7, d8, d9] [(.int (1 : Int32)), (.ref c50), (.ref c50)])) t
    refine XS.iloadN X51.here hx rfl (hb hby at_22) rfl ?_
    exact k
  obtain ⟨T52, h52, X52, e52, W52, A52_c50, st52⟩ := own_stI X51 hx hZ e51 A51_c50 (own_inbk 1 3 (by decide) (by decide) rfl (by decide)) (g := (mkF m 23 #[d0, .val (.int v1), .val (.int v2), .val (.int v3), .val (.int v4), .val (.int t0), d6, d7, d8, d9] [(.int v3), (.int (1 : Int32)), (.ref c50), (.ref c50)])) rfl rfl (hb hby at_23)
  refine own_Goes.via st52 ?_
  have z52 := Nat.le_trans z51 (Keep.of_wr W52).1
  have K52_ := K51_.wr W52 (Or.inr nE50_c50)
  have N52 := Fr.snoc X52 N51 g50_c50
  rw [own_wrk 1 (by decide)] at A52_c50
  have A52_c50 : own_Ar Z h52 c50 .int (([v2, v3, (0 : Int32)] : List Int32).map Value.int) := A52_c50
  show own_Goes _ _ _ _ _ _ _ (T52.setTop (mkF m 24 #[d0, .val (.int v1), .val (.int v2), .val (.int v3), .val (.int v4), .val (.int t0), d6, d7, d8, d9] [(.ref c50)]))
  refine own_Goes.via (B := T52.setTop (mkF m 28 #[d0, .val (.int v1), .val (.int v2), .val (.int v3), .val (.int v4), .val (.int t0), d6, d7, d8, d9] [(.int v4), (.int (2 : Int32)), (.ref c50), (.ref c50)])) (fun t k => ?_) ?_
  · show Steps p.tables e below (T52.setTop (mkF m 24 #[d0, .val (.int v1), .val (.int v2), .val (.int v3), .val (.int v4), .val (.int t0), d6, d7, d8, d9] [(.ref c50)])) t
    refine XS.dup X52.here hx rfl (hb hby at_24) rfl rfl ?_
    show Steps p.tables e below (T52.setTop (mkF m 25 #[d0, .val (.int v1), .val (.int v2), .val (.int v3), .val (.int v4), .val (.int t0), d6, d7, d8, d9] [(.ref c50), (.ref c50)])) t
    refine XS.iconst X52.here hx rfl (hb hby at_25) ?_
    show Steps p.tables e below (T52.setTop (mkF m 26 #[d0, .val (.int v1), .val (.int v2), .val (.int v3), .val (.int v4), .val (.int t0), d6, d7, d8, d9] [(.int (2 : Int32)), (.ref c50), (.ref c50)])) t
    refine XS.iload X52.here hx rfl (hb hby at_26) rfl ?_
    exact k
  obtain ⟨T53, h53, X53, e53, W53, A53_c50, st53⟩ := own_stI X52 hx hZ e52 A52_c50 (own_inbk 2 3 (by decide) (by decide) rfl (by decide)) (g := (mkF m 28 #[d0, .val (.int v1), .val (.int v2), .val (.int v3), .val (.int v4), .val (.int t0), d6, d7, d8, d9] [(.int v4), (.int (2 : Int32)), (.ref c50), (.ref c50)])) rfl rfl (hb hby at_28)
  refine own_Goes.via st53 ?_
  have z53 := Nat.le_trans z52 (Keep.of_wr W53).1
  have K53_ := K52_.wr W53 (Or.inr nE50_c50)
  have N53 := Fr.snoc X53 N52 g50_c50
  rw [own_wrk 2 (by decide)] at A53_c50
  have A53_c50 : own_Ar Z h53 c50 .int (([v2, v3, v4] : List Int32).map Value.int) := A53_c50
  show own_Goes _ _ _ _ _ _ _ (T53.setTop (mkF m 29 #[d0, .val (.int v1), .val (.int v2), .val (.int v3), .val (.int v4), .val (.int t0), d6, d7, d8, d9] [(.ref c50)]))
  refine own_Goes.via (B := T53.setTop (mkF m 31 #[d0, .val (.int v1), .val (.int v2), .val (.int v3), .val (.int v4), .val (.int t0), .val (.ref c50), d7, d8, d9] [])) (fun t k => ?_) ?_
  · show Steps p.tables e below (T53.setTop (mkF m 29 #[d0, .val (.int v1), .val (.int v2), .val (.int v3), .val (.int v4), .val (.int t0), d6, d7, d8, d9] [(.ref c50)])) t
    refine XS.astoreS X53.here hx rfl (hb hby at_29) rfl rfl rfl rfl o_d6 ?_
    exact k
  obtain ⟨T54, h54, X54, e54, E54, A54, D54, -, st54⟩ := newO X53 hx hZ hown (w1 hw) (w2 hw) (w3 hw) e53 (g := (mkF m 31 #[d0, .val (.int v1), .val (.int v2), .val (.int v3), .val (.int v4), .val (.int t0), .val (.ref c50), d7, d8, d9] [])) rfl (hb hby at_31) (by decide) (by decide)
  obtain ⟨c54, q54⟩ : ∃ z, z = h53.size := ⟨_, rfl⟩
  rw [← q54] at A54 D54 st54
  have F54_c54_variable : Fld Z h54 c54 "com/example/rulr/rulr/BodyMatcher$Slot" "variable" "I" (.int (0 : Int32)) := D54 (Or.inr (w16 hw)) (ty := .int) (by decide)
  have F54_c54_constant : Fld Z h54 c54 "com/example/rulr/rulr/BodyMatcher$Slot" "constant" "I" (.int (0 : Int32)) := D54 (Or.inr (w18 hw)) (ty := .int) (by decide)
  have g54_c54 : n0 ≤ c54 := Nat.le_trans z53 (Nat.le_of_eq q54.symm)
  have nE54_c54 : hE.size ≤ c54 := Nat.le_trans K53_.1 (Nat.le_of_eq q54.symm)
  have ne_c50_c54 : c50 ≠ c54 := Nat.ne_of_lt (Nat.lt_of_lt_of_le A53_c50.lt (Nat.le_of_eq q54.symm))
  have A54_c50 := A53_c50.ext E54
  have z54 := Nat.le_trans z53 E54.1
  have K54_ := K53_.ext E54
  refine own_Goes.via st54 ?_
  show own_Goes _ _ _ _ _ _ _ (T54.setTop (mkF m 34 #[d0, .val (.int v1), .val (.int v2), .val (.int v3), .val (.int v4), .val (.int t0), .val (.ref c50), d7, d8, d9] [(.ref c54)]))
  refine own_Goes.via (B := T54.setTop (mkF m 38 #[d0, .val (.int v1), .val (.int v2), .val (.int v3), .val (.int v4), .val (.int t0), .val (.ref c50), d7, d8, d9] [(.int v1), (.int t0), (.ref c54), (.ref c54)])) (fun t k => ?_) ?_
  · show Steps p.tables e below (T54.setTop (mkF m 34 #[d0, .val (.int v1), .val (.int v2), .val (.int v3), .val (.int v4), .val (.int t0), .val (.ref c50), d7, d8, d9] [(.ref c54)])) t
    refine XS.dup X54.here hx rfl (hb hby at_34) rfl rfl ?_
    show Steps p.tables e below (T54.setTop (mkF m 35 #[d0, .val (.int v1), .val (.int v2), .val (.int v3), .val (.int v4), .val (.int t0), .val (.ref c50), d7, d8, d9] [(.ref c54), (.ref c54)])) t
    refine XS.iload X54.here hx rfl (hb hby at_35) rfl ?_
    show Steps p.tables e below (T54.setTop (mkF m 37 #[d0, .val (.int v1), .val (.int v2), .val (.int v3), .val (.int v4), .val (.int t0), .val (.ref c50), d7, d8, d9] [(.int t0), (.ref c54), (.ref c54)])) t
    refine XS.iloadN X54.here hx rfl (hb hby at_37) rfl ?_
    exact k
  obtain ⟨r55, hr55, hF⟩ := own_bd_e hF
  obtain ⟨_, _, ⟨T55, L55, k55, n55⟩, -, X55, ⟨Lc55, hQ55, l55, y55, z55⟩, st55⟩ := X54.specialBack hx (y := (⟨"com/example/rulr/rulr/BodyMatcher$Slot", "<init>", "(II)V"⟩ : MethodName)) rfl hown (mvT hZ (w4 hw)) (mvT hZ (w5 hw)) (mvT hZ (w6 hw)) (by decide) (backOf (W := 1) (rm_Slot_mk l Z a0 hw [] h54 n0 z54 c54 t0 v1 (0 : Int32) (0 : Int32) A54 F54_c54_constant F54_c54_variable g54_c54 r55 hr55) hZ (w6 hw) (w3 hw) (by decide) (by decide)) (g := (mkF m 38 #[d0, .val (.int v1), .val (.int v2), .val (.int v3), .val (.int v4), .val (.int t0), .val (.ref c50), d7, d8, d9] [(.int v1), (.int t0), (.ref c54), (.ref c54)])) rfl (by rw [hml]; rfl) (Steps.refl _) (a := c54) (argsL := [(.int t0), (.int v1)]) (rest := [(.ref c54)]) (lenOf pd_1 rfl) rfl (by show 2 * 0 + _ ≤ _; exact Nat.le_of_eq rfl) (hb hby at_38) (fun _ _ => ⟨rfl, e54, (by decide : 2 + 0 ≤ _), (by decide : 5 + 0 ≤ _)⟩)
  dsimp only [Pt.U, Pt.locs, Pt.cells, Pt.slots] at X55 l55 y55 z55 st55 hQ55
  subst l55 y55 z55
  obtain ⟨rfl, N55q, K55, E55_c54, F55_c54_constant, F55_c54_variable⟩ := hQ55
  have N55 := Fr.app N53 N55q
  have A55_c50 := A54_c50.keep K55 (ninS ne_c50_c54 nin0)
  have K55_ := K54_.trans K55 (allS (Or.inr nE54_c54) all0)
  have z55_ := Nat.le_trans z54 K55.1
  refine own_Goes.tr st55 ?_
  show own_Goes _ _ _ _ _ _ _ (T55.setTop (mkF m 41 #[d0, .val (.int v1), .val (.int v2), .val (.int v3), .val (.int v4), .val (.int t0), .val (.ref c50), d7, d8, d9] [(.ref c54)]))
  refine own_Goes.via (B := T55.setTop (mkF m 47 #[d0, .val (.int v1), .val (.int v2), .val (.int v3), .val (.int v4), .val (.int t0), .val (.ref c50), .val (.ref c54), d8, d9] [(.ref c50), (.ref c54)])) (fun t k => ?_) ?_
  · show Steps p.tables e below (T55.setTop (mkF m 41 #[d0, .val (.int v1), .val (.int v2), .val (.int v3), .val (.int v4), .val (.int t0), .val (.ref c50), d7, d8, d9] [(.ref c54)])) t
    refine XS.astoreS X55.here hx rfl (hb hby at_41) rfl rfl rfl rfl o_d7 ?_
    show Steps p.tables e below (T55.setTop (mkF m 43 #[d0, .val (.int v1), .val (.int v2), .val (.int v3), .val (.int v4), .val (.int t0), .val (.ref c50), .val (.ref c54), d8, d9] [])) t
    refine XS.aload X55.here hx rfl (hb hby at_43) rfl rfl ?_
    show Steps p.tables e below (T55.setTop (mkF m 45 #[d0, .val (.int v1), .val (.int v2), .val (.int v3), .val (.int v4), .val (.int t0), .val (.ref c50), .val (.ref c54), d8, d9] [(.ref c54)])) t
    refine XS.aload X55.here hx rfl (hb hby at_45) rfl rfl ?_
    exact k
  obtain ⟨r56, hr56, hF⟩ := own_bd_e hF
  obtain ⟨cq56, kq56, q56a, q56b, q56c⟩ := isOf hZ rfl E55_c54
  obtain ⟨_, _, ⟨T56, L56, k56, n56⟩, -, X56, ⟨Lc56, hQ56, l56, y56, z56⟩, st56⟩ := X55.virtualBack hx (y := (⟨"com/example/rulr/rulr/BodyMatcher$Slot", "value", "([I)I"⟩ : MethodName)) (z := (⟨"com/example/rulr/rulr/BodyMatcher$Slot", "value", "([I)I"⟩ : MethodName)) hown (mvT hZ (w19 hw)) (mvT hZ (w20 hw)) (notFace_of_selects (args := #[]) (mvT hZ (w22 hw))) (mvT hZ (w22 hw)) (mvT hZ (w21 hw)) (by decide) (backOf (W := 0) (rm_Slot_value l Z a0 hw [] T55.heap n0 z55_ c54 c50 r55.1 r55.2 ([v2, v3, v4] : List Int32) E55_c54 F55_c54_constant F55_c54_variable g54_c54 A55_c50 g50_c50 (Ne.symm ne_c50_c54) r56 hr56) hZ (w23 hw) (w3 hw) (by decide) (by decide)) q56a q56c (g := (mkF m 47 #[d0, .val (.int v1), .val (.int v2), .val (.int v3), .val (.int v4), .val (.int t0), .val (.ref c50), .val (.ref c54), d8, d9] [(.ref c50), (.ref c54)])) rfl (by rw [hml]; rfl) (Steps.refl _) (argsL := [(.ref c50)]) (rest := []) (lenOf pd_2 rfl) rfl (by show 2 * 0 + _ ≤ _; exact Nat.le_of_eq rfl) (hb hby at_47) (fun _ _ => ⟨rfl, rfl, (by decide : 2 + 0 ≤ _), (by decide : 5 + 0 ≤ _)⟩)
  dsimp only [Pt.U, Pt.locs, Pt.cells, Pt.slots] at X56 l56 y56 z56 st56 hQ56
  subst l56 y56 z56
  obtain ⟨rfl, N56q, e56⟩ := hQ56
  have N56 := Fr.app N55 N56q
  refine own_Goes.tr st56 ?_
  show own_Goes _ _ _ _ _ _ _ (T56.setTop (mkF m 50 #[d0, .val (.int v1), .val (.int v2), .val (.int v3), .val (.int v4), .val (.int t0), .val (.ref c50), .val (.ref c54), d8, d9] [(.int r56)]))
  refine own_Goes.via (B := T56.setTop (mkF m 54 #[d0, .val (.int v1), .val (.int v2), .val (.int v3), .val (.int v4), .val (.int t0), .val (.ref c50), .val (.ref c54), .val (.int r56), d9] [(.int t0)])) (fun t k => ?_) ?_
  · show Steps p.tables e below (T56.setTop (mkF m 50 #[d0, .val (.int v1), .val (.int v2), .val (.int v3), .val (.int v4), .val (.int t0), .val (.ref c50), .val (.ref c54), d8, d9] [(.int r56)])) t
    refine XS.istoreS X56.here hx rfl (hb hby at_50) rfl rfl o_d8 ?_
    show Steps p.tables e below (T56.setTop (mkF m 52 #[d0, .val (.int v1), .val (.int v2), .val (.int v3), .val (.int v4), .val (.int t0), .val (.ref c50), .val (.ref c54), .val (.int r56), d9] [])) t
    refine XS.iload X56.here hx rfl (hb hby at_52) rfl ?_
    exact k
  by_cases hc54 : t0 < (0 : Int32)
  · rw [if_pos hc54] at hF
    refine own_Goes.via (B := T56.setTop (mkF m 90 #[d0, .val (.int v1), .val (.int v2), .val (.int v3), .val (.int v4), .val (.int t0), .val (.ref c50), .val (.ref c54), .val (.int r56), .val (.int v1)] [])) (fun t k => ?_) ?_
    · show Steps p.tables e below (T56.setTop (mkF m 54 #[d0, .val (.int v1), .val (.int v2), .val (.int v3), .val (.int v4), .val (.int t0), .val (.ref c50), .val (.ref c54), .val (.int r56), d9] [(.int t0)])) t
      refine XS.ifNo X56.here hx rfl (hb hby at_54) rfl ((if0 _ _).trans (tlt hc54).2.1) ?_
      show Steps p.tables e below (T56.setTop (mkF m 57 #[d0, .val (.int v1), .val (.int v2), .val (.int v3), .val (.int v4), .val (.int t0), .val (.ref c50), .val (.ref c54), .val (.int r56), d9] [])) t
      refine XS.iloadN X56.here hx rfl (hb hby at_57) rfl ?_
      show Steps p.tables e below (T56.setTop (mkF m 58 #[d0, .val (.int v1), .val (.int v2), .val (.int v3), .val (.int v4), .val (.int t0), .val (.ref c50), .val (.ref c54), .val (.int r56), d9] [(.int v1)])) t
      refine XS.istoreS X56.here hx rfl (hb hby at_58) rfl rfl o_d9 ?_
      show Steps p.tables e below (T56.setTop (mkF m 60 #[d0, .val (.int v1), .val (.int v2), .val (.int v3), .val (.int v4), .val (.int t0), .val (.ref c50), .val (.ref c54), .val (.int r56), .val (.int v1)] [])) t
      refine XS.goto X56.here hx rfl (pc0 := 60) (pc' := 90) rfl (hb hby at_60) (by decide) (by decide) ?_
      exact k
    exact b_law_90 cx X56 e56 N56 K55_ z55_ c50 v2 v3 v4 r56 v1 ([v2, v3, v4] : List Int32) d0 (.val (.int v1)) (.val (.int t0)) (.val (.ref c54)) o_d0 (One.val rfl) (One.val rfl) (One.val rfl) A55_c50 g50_c50 nE50_c50 _ hF
  · rw [if_neg hc54] at hF
    refine own_Goes.via (B := T56.setTop (mkF m 65 #[d0, .val (.int v1), .val (.int v2), .val (.int v3), .val (.int v4), .val (.int t0), .val (.ref c50), .val (.ref c54), .val (.int r56), d9] [(.int t0)])) (fun t k => ?_) ?_
    · show Steps p.tables e below (T56.setTop (mkF m 54 #[d0, .val (.int v1), .val (.int v2), .val (.int v3), .val (.int v4), .val (.int t0), .val (.ref c50), .val (.ref c54), .val (.int r56), d9] [(.int t0)])) t
      refine XS.ifYes X56.here hx rfl (pc0 := 54) (pc' := 63) rfl (hb hby at_54) rfl ((if0 _ _).trans (flt hc54).2.1) (by decide) (by decide) ?_
      show Steps p.tables e below (T56.setTop (mkF m 63 #[d0, .val (.int v1), .val (.int v2), .val (.int v3), .val (.int v4), .val (.int t0), .val (.ref c50), .val (.ref c54), .val (.int r56), d9] [])) t
      refine XS.iload X56.here hx rfl (hb hby at_63) rfl ?_
      exact k
    by_cases hc65 : t0 = (0 : Int32)
    · rw [if_pos hc65] at hF
      refine own_Goes.via (B := T56.setTop (mkF m 90 #[d0, .val (.int v1), .val (.int v2), .val (.int v3), .val (.int v4), .val (.int t0), .val (.ref c50), .val (.ref c54), .val (.int r56), .val (.int v2)] [])) (fun t k => ?_) ?_
      · show Steps p.tables e below (T56.setTop (mkF m 65 #[d0, .val (.int v1), .val (.int v2), .val (.int v3), .val (.int v4), .val (.int t0), .val (.ref c50), .val (.ref c54), .val (.int r56), d9] [(.int t0)])) t
        refine XS.ifNo X56.here hx rfl (hb hby at_65) rfl ((if0 _ _).trans (teq hc65).2) ?_
        show Steps p.tables e below (T56.setTop (mkF m 68 #[d0, .val (.int v1), .val (.int v2), .val (.int v3), .val (.int v4), .val (.int t0), .val (.ref c50), .val (.ref c54), .val (.int r56), d9] [])) t
        refine XS.iloadN X56.here hx rfl (hb hby at_68) rfl ?_
        show Steps p.tables e below (T56.setTop (mkF m 69 #[d0, .val (.int v1), .val (.int v2), .val (.int v3), .val (.int v4), .val (.int t0), .val (.ref c50), .val (.ref c54), .val (.int r56), d9] [(.int v2)])) t
        refine XS.istoreS X56.here hx rfl (hb hby at_69) rfl rfl o_d9 ?_
        show Steps p.tables e below (T56.setTop (mkF m 71 #[d0, .val (.int v1), .val (.int v2), .val (.int v3), .val (.int v4), .val (.int t0), .val (.ref c50), .val (.ref c54), .val (.int r56), .val (.int v2)] [])) t
        refine XS.goto X56.here hx rfl (pc0 := 71) (pc' := 90) rfl (hb hby at_71) (by decide) (by decide) ?_
        exact k
      exact b_law_90 cx X56 e56 N56 K55_ z55_ c50 v2 v3 v4 r56 v2 ([v2, v3, v4] : List Int32) d0 (.val (.int v1)) (.val (.int t0)) (.val (.ref c54)) o_d0 (One.val rfl) (One.val rfl) (One.val rfl) A55_c50 g50_c50 nE50_c50 _ hF
    · rw [if_neg hc65] at hF
      refine own_Goes.via (B := T56.setTop (mkF m 77 #[d0, .val (.int v1), .val (.int v2), .val (.int v3), .val (.int v4), .val (.int t0), .val (.ref c50), .val (.ref c54), .val (.int r56), d9] [(.int (1 : Int32)), (.int t0)])) (fun t k => ?_) ?_
      · show Steps p.tables e below (T56.setTop (mkF m 65 #[d0, .val (.int v1), .val (.int v2), .val (.int v3), .val (.int v4), .val (.int t0), .val (.ref c50), .val (.ref c54), .val (.int r56), d9] [(.int t0)])) t
        refine XS.ifYes X56.here hx rfl (pc0 := 65) (pc' := 74) rfl (hb hby at_65) rfl ((if0 _ _).trans (feq hc65).2) (by decide) (by decide) ?_
        show Steps p.tables e below (T56.setTop (mkF m 74 #[d0, .val (.int v1), .val (.int v2), .val (.int v3), .val (.int v4), .val (.int t0), .val (.ref c50), .val (.ref c54), .val (.int r56), d9] [])) t
        refine XS.iload X56.here hx rfl (hb hby at_74) rfl ?_
        show Steps p.tables e below (T56.setTop (mkF m 76 #[d0, .val (.int v1), .val (.int v2), .val (.int v3), .val (.int v4), .val (.int t0), .val (.ref c50), .val (.ref c54), .val (.int r56), d9] [(.int t0)])) t
        refine XS.iconst X56.here hx rfl (hb hby at_76) ?_
        exact k
      by_cases hc77 : t0 = (1 : Int32)
      · rw [if_pos hc77] at hF
        refine own_Goes.via (B := T56.setTop (mkF m 90 #[d0, .val (.int v1), .val (.int v2), .val (.int v3), .val (.int v4), .val (.int t0), .val (.ref c50), .val (.ref c54), .val (.int r56), .val (.int v3)] [])) (fun t k => ?_) ?_
        · show Steps p.tables e below (T56.setTop (mkF m 77 #[d0, .val (.int v1), .val (.int v2), .val (.int v3), .val (.int v4), .val (.int t0), .val (.ref c50), .val (.ref c54), .val (.int r56), d9] [(.int (1 : Int32)), (.int t0)])) t
          refine XS.icmpNo X56.here hx rfl (hb hby at_77) rfl (teq hc77).2 ?_
          show Steps p.tables e below (T56.setTop (mkF m 80 #[d0, .val (.int v1), .val (.int v2), .val (.int v3), .val (.int v4), .val (.int t0), .val (.ref c50), .val (.ref c54), .val (.int r56), d9] [])) t
          refine XS.iloadN X56.here hx rfl (hb hby at_80) rfl ?_
          show Steps p.tables e below (T56.setTop (mkF m 81 #[d0, .val (.int v1), .val (.int v2), .val (.int v3), .val (.int v4), .val (.int t0), .val (.ref c50), .val (.ref c54), .val (.int r56), d9] [(.int v3)])) t
          refine XS.istoreS X56.here hx rfl (hb hby at_81) rfl rfl o_d9 ?_
          show Steps p.tables e below (T56.setTop (mkF m 83 #[d0, .val (.int v1), .val (.int v2), .val (.int v3), .val (.int v4), .val (.int t0), .val (.ref c50), .val (.ref c54), .val (.int r56), .val (.int v3)] [])) t
          refine XS.goto X56.here hx rfl (pc0 := 83) (pc' := 90) rfl (hb hby at_83) (by decide) (by decide) ?_
          exact k
        exact b_law_90 cx X56 e56 N56 K55_ z55_ c50 v2 v3 v4 r56 v3 ([v2, v3, v4] : List Int32) d0 (.val (.int v1)) (.val (.int t0)) (.val (.ref c54)) o_d0 (One.val rfl) (One.val rfl) (One.val rfl) A55_c50 g50_c50 nE50_c50 _ hF
      · rw [if_neg hc77] at hF
        refine own_Goes.via (B := T56.setTop (mkF m 90 #[d0, .val (.int v1), .val (.int v2), .val (.int v3), .val (.int v4), .val (.int t0), .val (.ref c50), .val (.ref c54), .val (.int r56), .val (.int v4)] [])) (fun t k => ?_) ?_
        · show Steps p.tables e below (T56.setTop (mkF m 77 #[d0, .val (.int v1), .val (.int v2), .val (.int v3), .val (.int v4), .val (.int t0), .val (.ref c50), .val (.ref c54), .val (.int r56), d9] [(.int (1 : Int32)), (.int t0)])) t
          refine XS.icmpYes X56.here hx rfl (pc0 := 77) (pc' := 86) rfl (hb hby at_77) rfl (feq hc77).2 (by decide) (by decide) ?_
          show Steps p.tables e below (T56.setTop (mkF m 86 #[d0, .val (.int v1), .val (.int v2), .val (.int v3), .val (.int v4), .val (.int t0), .val (.ref c50), .val (.ref c54), .val (.int r56), d9] [])) t
          refine XS.iload X56.here hx rfl (hb hby at_86) rfl ?_
          show Steps p.tables e below (T56.setTop (mkF m 88 #[d0, .val (.int v1), .val (.int v2), .val (.int v3), .val (.int v4), .val (.int t0), .val (.ref c50), .val (.ref c54), .val (.int r56), d9] [(.int v4)])) t
          refine XS.istoreS X56.here hx rfl (hb hby at_88) rfl rfl o_d9 ?_
          exact k
        exact b_law_90 cx X56 e56 N56 K55_ z55_ c50 v2 v3 v4 r56 v4 ([v2, v3, v4] : List Int32) d0 (.val (.int v1)) (.val (.int t0)) (.val (.ref c54)) o_d0 (One.val rfl) (One.val rfl) (One.val rfl) A55_c50 g50_c50 nE50_c50 _ hF
set_option maxRecDepth 65536 in
set_option maxHeartbeats 4000000 in
theorem b_law {p : Program} {l : Launch} {e : Env} {s : State} {m : MethodId} {args : Array Value} {below : List Frame} {meth : Method} {c : Code} {Z : State} {a0 : Array Value} {n0 : Nat} {hE : Heap} (cx : Cx_law p s m meth c Z a0) :
    ∀ {T : State} {locs : List Loc} {h : Heap} (X : Stand p l e room_1 s m args below meth c T locs 0 0) (eT : T.heap = h) (N : Fr n0 locs) (K : Keep hE h []) (z : n0 ≤ h.size) (v0 : Int32) (v1 : Int32) (v2 : Int32) (v3 : Int32) (v4 : Int32) (r : Int32), f_law v0 v1 v2 v3 v4 = some r → own_Goes p e below s (Q_law Z hE n0 r) 2 5 (T.setTop (mkF m 0 #[.val (.int v0), .val (.int v1), .val (.int v2), .val (.int v3), .val (.int v4), .unset, .unset, .unset, .unset, .unset] [])) := by
  have cx' := cx
  obtain ⟨hx, hZ, hw, hby, hml, hown, hret, hlk, hnm⟩ := cx'
  intro T locs h X eT N K z v0 v1 v2 v3 v4 r hF
  unfold f_law at hF
  refine own_Goes.via (B := T.setTop (mkF m 1 #[.val (.int v0), .val (.int v1), .val (.int v2), .val (.int v3), .val (.int v4), .unset, .unset, .unset, .unset, .unset] [(.int v0)])) (fun t k => ?_) ?_
  · show Steps p.tables e below (T.setTop (mkF m 0 #[.val (.int v0), .val (.int v1), .val (.int v2), .val (.int v3), .val (.int v4), .unset, .unset, .unset, .unset, .unset] [])) t
    refine XS.iloadN X.here hx rfl (hb hby at_0) rfl ?_
    exact k
  by_cases hc1 : v0 < (0 : Int32)
  · rw [if_pos hc1] at hF
    refine own_Goes.via (B := T.setTop (mkF m 11 #[.val (.int v0), .val (.int v1), .val (.int v2), .val (.int v3), .val (.int v4), .unset, .unset, .unset, .unset, .unset] [(.int v0)])) (fun t k => ?_) ?_
    · show Steps p.tables e below (T.setTop (mkF m 1 #[.val (.int v0), .val (.int v1), .val (.int v2), .val (.int v3), .val (.int v4), .unset, .unset, .unset, .unset, .unset] [(.int v0)])) t
      refine XS.ifNo X.here hx rfl (hb hby at_1) rfl ((if0 _ _).trans (tlt hc1).2.1) ?_
      show Steps p.tables e below (T.setTop (mkF m 4 #[.val (.int v0), .val (.int v1), .val (.int v2), .val (.int v3), .val (.int v4), .unset, .unset, .unset, .unset, .unset] [])) t
      refine XS.iloadN X.here hx rfl (hb hby at_4) rfl ?_
      show Steps p.tables e below (T.setTop (mkF m 5 #[.val (.int v0), .val (.int v1), .val (.int v2), .val (.int v3), .val (.int v4), .unset, .unset, .unset, .unset, .unset] [(.int v0)])) t
      refine XS.goto X.here hx rfl (pc0 := 5) (pc' := 11) rfl (hb hby at_5) (by decide) (by decide) ?_
      exact k
    exact b_law_11 cx X eT N K z v1 v2 v3 v4 v0 (.val (.int v0)) (.unset) (.unset) (.unset) (.unset) (.unset) (One.val rfl) One.u One.u One.u One.u One.u _ hF
  · rw [if_neg hc1] at hF
    refine own_Goes.via (B := T.setTop (mkF m 11 #[.val (.int v0), .val (.int v1), .val (.int v2), .val (.int v3), .val (.int v4), .unset, .unset, .unset, .unset, .unset] [(.int (v0 % (3 : Int32)))])) (fun t k => ?_) ?_
    · show Steps p.tables e below (T.setTop (mkF m 1 #[.val (.int v0), .val (.int v1), .val (.int v2), .val (.int v3), .val (.int v4), .unset, .unset, .unset, .unset, .unset] [(.int v0)])) t
      refine XS.ifYes X.here hx rfl (pc0 := 1) (pc' := 8) rfl (hb hby at_1) rfl ((if0 _ _).trans (flt hc1).2.1) (by decide) (by decide) ?_
      show Steps p.tables e below (T.setTop (mkF m 8 #[.val (.int v0), .val (.int v1), .val (.int v2), .val (.int v3), .val (.int v4), .unset, .unset, .unset, .unset, .unset] [])) t
      refine XS.iloadN X.here hx rfl (hb hby at_8) rfl ?_
      show Steps p.tables e below (T.setTop (mkF m 9 #[.val (.int v0), .val (.int v1), .val (.int v2), .val (.int v3), .val (.int v4), .unset, .unset, .unset, .unset, .unset] [(.int v0)])) t
      refine XS.iconst X.here hx rfl (hb hby at_9) ?_
      show Steps p.tables e below (T.setTop (mkF m 10 #[.val (.int v0), .val (.int v1), .val (.int v2), .val (.int v3), .val (.int v4), .unset, .unset, .unset, .unset, .unset] [(.int (3 : Int32)), (.int v0)])) t
      refine own_irem X hx rfl (hb hby at_10) rfl (by decide) ?_
      exact k
    exact b_law_11 cx X eT N K z v1 v2 v3 v4 (v0 % (3 : Int32)) (.val (.int v0)) (.unset) (.unset) (.unset) (.unset) (.unset) (One.val rfl) One.u One.u One.u One.u One.u _ hF
theorem ef_law (m : MethodId) (x0 : Int32) (x1 : Int32) (x2 : Int32) (x3 : Int32) (x4 : Int32) : entryFrame m #[(.int x0), (.int x1), (.int x2), (.int x3), (.int x4)] maxLocals = mkF m 0 #[.val (.int x0), .val (.int x1), .val (.int x2), .val (.int x3), .val (.int x4), .unset, .unset, .unset, .unset, .unset] [] := by first | (simp [entryFrame, mkF, argsToLocals, Value.category, maxLocals]; done) | rfl
set_option maxRecDepth 65536 in
set_option maxHeartbeats 4000000 in
theorem rm_law (l : Launch) (Z : State) (a0 : Array Value) (hw : ∀ d ∈ tables_1, d.before a0 Z = true) (ws : List Jvm.Cond) (hE : Heap) (n0 : Nat) (z : n0 ≤ hE.size)  (v0 : Int32) (v1 : Int32) (v2 : Int32) (v3 : Int32) (v4 : Int32) (r : Int32) (hF : (f_law v0 v1 v2 v3 v4) = some r) :
    MetFree l x (head1 (Jvm.Cond.code x code maxLocals ret :: ws) room_1) (fun a U => a = #[(.int v0), (.int v1), (.int v2), (.int v3), (.int v4)] ∧ Z.Warmed39 U.vm ∧ U.heap = hE) (fun _ _ _ _ _ => True) (fun _ U o U' => ∃ v L, o = .returned v ∧ (Q_law Z hE n0 r) v U'.heap L ∧ FrameEnd U o U' L 2 5) := by
  refine MetFree.of_bodySF (plainFor_of_name pn_com_example_rulr_rulr_SlotValuePinLaw) hisR ?_
  intro p e s m args below meth c s₁ Bd hml0 hP hK
  obtain ⟨rfl, hZ, hh⟩ := hP
  have X0 : Stand p l e room_1 s m #[(.int v0), (.int v1), (.int v2), (.int v3), (.int v4)] below meth c s₁ [] 0 0 := Stand.of_body Bd
  have e0 : s₁.heap = hE := by rw [← hh, Bd.state]; rfl
  have cx : Cx_law p s m meth c Z a0 := ⟨Bd.exec, hZ, hw, Bd.bytes, hml0, findClass_of_methodNamed Bd.named, Bd.returns, Bd.notSynchronized, (name_of_methodNamed Bd.named Bd.method).1⟩
  show own_Goes p e below s (Q_law Z hE n0 r) 2 5 (s₁.setTop (entryFrame m #[(.int v0), (.int v1), (.int v2), (.int v3), (.int v4)] maxLocals))
  rw [ef_law]
  exact b_law cx X0 e0 (Fr.nil n0) (Keep.refl _ _) z v0 v1 v2 v3 v4 _ hF
/-! the words of the mirrors -/
theorem own_bs {α β : Type} (x : α) (f : α → Option β) : own_bd (some x) f = f x := by unfold own_bd; exact rfl
theorem own_ls {α β : Type} (x : α) (f : α → Option β) : own_lt x f = f x := by unfold own_lt; exact rfl
theorem own_bn {α : Type} (x : Option α) : own_bd x (fun y => some y) = x := by cases x <;> exact rfl
theorem own_ct {β : Type} {P : Prop} [Decidable P] (x : Option β) (h : P) : own_ck P x = x := by unfold own_ck; exact if_pos h
/-! numbers: ints and longs as integers -/
theorem own_i1 (x : Int32) : -2147483648 ≤ x.toInt := Int32.le_toInt x
theorem own_i2 (x : Int32) : x.toInt < 2147483648 := Int32.toInt_lt x
theorem own_j1 (x : Int64) : -9223372036854775808 ≤ x.toInt := Int64.le_toInt x
theorem own_j2 (x : Int64) : x.toInt < 9223372036854775808 := Int64.toInt_lt x
theorem own_iadd {a b : Int32} (h1 : -2147483648 ≤ a.toInt + b.toInt) (h2 : a.toInt + b.toInt < 2147483648) : (a + b).toInt = a.toInt + b.toInt := by
  rw [Int32.toInt_add]; exact Int.bmod_eq_of_le (by omega) (by omega)
theorem own_isub {a b : Int32} (h1 : -2147483648 ≤ a.toInt - b.toInt) (h2 : a.toInt - b.toInt < 2147483648) : (a - b).toInt = a.toInt - b.toInt := by
  rw [Int32.toInt_sub]; exact Int.bmod_eq_of_le (by omega) (by omega)
theorem own_imul {a b : Int32} (h1 : -2147483648 ≤ a.toInt * b.toInt) (h2 : a.toInt * b.toInt < 2147483648) : (a * b).toInt = a.toInt * b.toInt := by
  rw [Int32.toInt_mul]; exact Int.bmod_eq_of_le (by omega) (by omega)
theorem own_ladd {a b : Int64} (h1 : -9223372036854775808 ≤ a.toInt + b.toInt) (h2 : a.toInt + b.toInt < 9223372036854775808) : (a + b).toInt = a.toInt + b.toInt := by
  rw [Int64.toInt_add]; exact Int.bmod_eq_of_le (by omega) (by omega)
theorem own_lsub {a b : Int64} (h1 : -9223372036854775808 ≤ a.toInt - b.toInt) (h2 : a.toInt - b.toInt < 9223372036854775808) : (a - b).toInt = a.toInt - b.toInt := by
  rw [Int64.toInt_sub]; exact Int.bmod_eq_of_le (by omega) (by omega)
theorem own_lmul {a b : Int64} (h1 : -9223372036854775808 ≤ a.toInt * b.toInt) (h2 : a.toInt * b.toInt < 9223372036854775808) : (a * b).toInt = a.toInt * b.toInt := by
  rw [Int64.toInt_mul]; exact Int.bmod_eq_of_le (by omega) (by omega)
theorem own_imask {x m : Int32} (k : Nat) (hk : k ≤ 31) (hm : m.toBitVec.toNat = 2 ^ k - 1) : (x &&& m).toInt = x.toInt % 2 ^ k := by
  have h1 : (x &&& m).toBitVec.toNat = x.toBitVec.toNat % 2 ^ k := by rw [Int32.toBitVec_and, BitVec.toNat_and, hm, Nat.and_two_pow_sub_one_eq_mod]
  have h3 : x.toBitVec.toNat % 2 ^ k < 2 ^ k := Nat.mod_lt _ (Nat.pow_pos (by decide))
  have h4 : (2 : Nat) ^ k ≤ 2 ^ 31 := Nat.pow_le_pow_right (by decide) hk
  have h2 : (x &&& m).toInt = ((x.toBitVec.toNat % 2 ^ k : Nat) : Int) := by
    show (x &&& m).toBitVec.toInt = _
    rw [BitVec.toInt_eq_toNat_of_lt (by rw [h1]; omega), h1]
  rw [h2]
  have h5 : x.toInt = x.toBitVec.toInt := rfl
  have h6 : ((2 : Int) ^ k) ∣ 4294967296 := by
    have : (4294967296 : Int) = 2 ^ k * 2 ^ (32 - k) := by rw [← Int.pow_add, show k + (32 - k) = 32 by omega]; rfl
    exact ⟨_, this⟩
  rw [h5, BitVec.toInt_eq_toNat_cond]
  split
  · exact Int.natCast_emod _ _
  · rw [Int.natCast_emod, show (((2 ^ 32 : Nat) : Int)) = 4294967296 from rfl, Int.sub_emod, Int.emod_eq_zero_of_dvd h6]; simp
theorem own_lmask {x m : Int64} (k : Nat) (hk : k ≤ 63) (hm : m.toBitVec.toNat = 2 ^ k - 1) : (x &&& m).toInt = x.toInt % 2 ^ k := by
  have h1 : (x &&& m).toBitVec.toNat = x.toBitVec.toNat % 2 ^ k := by rw [Int64.toBitVec_and, BitVec.toNat_and, hm, Nat.and_two_pow_sub_one_eq_mod]
  have h3 : x.toBitVec.toNat % 2 ^ k < 2 ^ k := Nat.mod_lt _ (Nat.pow_pos (by decide))
  have h4 : (2 : Nat) ^ k ≤ 2 ^ 63 := Nat.pow_le_pow_right (by decide) hk
  have h2 : (x &&& m).toInt = ((x.toBitVec.toNat % 2 ^ k : Nat) : Int) := by
    show (x &&& m).toBitVec.toInt = _
    rw [BitVec.toInt_eq_toNat_of_lt (by rw [h1]; omega), h1]
  rw [h2]
  have h5 : x.toInt = x.toBitVec.toInt := rfl
  have h6 : ((2 : Int) ^ k) ∣ 18446744073709551616 := by
    have : (18446744073709551616 : Int) = 2 ^ k * 2 ^ (64 - k) := by rw [← Int.pow_add, show k + (64 - k) = 64 by omega]; rfl
    exact ⟨_, this⟩
  rw [h5, BitVec.toInt_eq_toNat_cond]
  split
  · exact Int.natCast_emod _ _
  · rw [Int.natCast_emod, show (((2 ^ 64 : Nat) : Int)) = 18446744073709551616 from rfl, Int.sub_emod, Int.emod_eq_zero_of_dvd h6]; simp
theorem own_three (v2 v3 v4 t r : Int32) (h0 : 0 ≤ t.toInt) (h3 : t.toInt < 3) (h : f_Slot_value r t [v2, v3, v4] = some r) : True := trivial
theorem own_tail (a b d g x : Int32) (h : g = x) : f_law_90 a b d g x [a, b, d] = some 1 := by
  subst h
  have i0 : own_inb [a, b, d] (0 : Int32) := ⟨by decide, by show (0 : Int32).toNatClampNeg < 3; decide⟩
  have i1 : own_inb [a, b, d] (1 : Int32) := ⟨by decide, by show (1 : Int32).toNatClampNeg < 3; decide⟩
  have i2 : own_inb [a, b, d] (2 : Int32) := ⟨by decide, by show (2 : Int32).toNatClampNeg < 3; decide⟩
  have r0 : own_rd [a, b, d] (0 : Int32) = a := by rw [own_rd, show (0 : Int32).toNatClampNeg = 0 by decide]; rfl
  have r1 : own_rd [a, b, d] (1 : Int32) = b := by rw [own_rd, show (1 : Int32).toNatClampNeg = 1 by decide]; rfl
  have r2 : own_rd [a, b, d] (2 : Int32) = d := by rw [own_rd, show (2 : Int32).toNatClampNeg = 2 by decide]; rfl
  unfold f_law_90 own_ck
  rw [if_pos rfl, if_pos i0, if_pos r0, if_pos i1, if_pos r1, if_pos i2, if_pos r2]
theorem own_body (c a b d t : Int32) (ht : t.toInt < 3) : f_law_11 c a b d t = some 1 := by
  have l0 : (0 : Int32).toInt = 0 := rfl
  have l1 : (1 : Int32).toInt = 1 := rfl
  have l2 : (2 : Int32).toInt = 2 := rfl
  unfold f_law_11 f_Slot_mk f_Record_mk own_bd f_Slot_value
  dsimp only [Option.bind]
  by_cases hn : t < 0
  · simp only [if_pos hn, Option.bind]
    exact own_tail a b d c c rfl
  · simp only [if_neg hn]
    have h0 : 0 ≤ t.toInt := by rw [Int32.lt_iff_toInt_lt] at hn; omega
    have ht' : t = 0 ∨ t = 1 ∨ t = 2 := by
      simp only [← Int32.toInt_inj, l0, l1, l2]; omega
    rcases ht' with rfl | rfl | rfl
    · have i : own_inb [a, b, d] (0 : Int32) := ⟨by decide, by show (0 : Int32).toNatClampNeg < 3; decide⟩
      have r : own_rd [a, b, d] (0 : Int32) = a := by rw [own_rd, show (0 : Int32).toNatClampNeg = 0 by decide]; rfl
      unfold own_ck
      rw [if_pos i, r]
      exact own_tail a b d a a rfl
    · have i : own_inb [a, b, d] (1 : Int32) := ⟨by decide, by show (1 : Int32).toNatClampNeg < 3; decide⟩
      have r : own_rd [a, b, d] (1 : Int32) = b := by rw [own_rd, show (1 : Int32).toNatClampNeg = 1 by decide]; rfl
      unfold own_ck
      rw [if_pos i, r]
      exact own_tail a b d b b rfl
    · have i : own_inb [a, b, d] (2 : Int32) := ⟨by decide, by show (2 : Int32).toNatClampNeg < 3; decide⟩
      have r : own_rd [a, b, d] (2 : Int32) = d := by rw [own_rd, show (2 : Int32).toNatClampNeg = 2 by decide]; rfl
      unfold own_ck
      rw [if_pos i, r]
      exact own_tail a b d d d rfl
theorem own_law (v c a b d : Int32) : f_law v c a b d = some 1 := by
  unfold f_law
  have l3 : (3 : Int32).toInt = 3 := rfl
  have l0 : (0 : Int32).toInt = 0 := rfl
  split
  · rename_i h
    rw [Int32.lt_iff_toInt_lt] at h
    exact own_body c a b d v (by omega)
  · rename_i h
    rw [Int32.lt_iff_toInt_lt] at h
    refine own_body c a b d _ ?_
    rw [Int32.toInt_mod, l3, Int.tmod_eq_emod_of_nonneg (by omega)]
    omega

set_option maxRecDepth 65536 in
set_option maxHeartbeats 4000000 in
theorem comes_1 {Post : Tables → Env → Array Value → State → Outcome → State → Prop} (hpost : ∀ tb e args s v u, (limb_1_1.after args s (.returned v) u = true ∧ limb_1_2.after args s (.returned v) u = true ∧ True) → FrameEnd s (.returned v) u (Jvm.fieldLocs frame_1_writes args s ++ Jvm.arrayLocs frame_1_arrays args s ++ Jvm.staticLocs frame_1_statics s) 16 128 → Post tb e args s (.returned v) u) :
    ArmFor flags0 classFile x code maxLocals ret World_1 tables_1 room_1 Calls_1 rest_1 Pre_1 Post := by
  intro l hfl _ _ p e ha hc hk s m args below hf hA hF happ hP
  obtain ⟨hcalls, hrest, hpre⟩ := hP
  obtain ⟨-, -, -, hnamed, -, -, -, hat⟩ := (Spec.applies_iff hf).mp happ
  obtain ⟨hg, hn⟩ := and_e (Cond.before_iff.mp (show (Jvm.Cond.and given_1 narrow_1).before args s = true from hpre))
  obtain ⟨gc, g0⟩ := and_e hg
  obtain ⟨ga0, g1⟩ := and_e g0
  obtain ⟨ga1, g2⟩ := and_e g1
  obtain ⟨ga2, g3⟩ := and_e g2
  obtain ⟨ga3, g4⟩ := and_e g3
  have ga4 := g4
  obtain ⟨w0, w1, w2, w3, w4, rfl⟩ : ∃ w0 w1 w2 w3 w4 : Value, args = #[w0, w1, w2, w3, w4] := by
    have hs : args.size = 5 := by simpa [Cond.value, given_1] using gc
    obtain ⟨L⟩ := args
    match L, hs with
    | [w0, w1, w2, w3, w4], _ => exact ⟨w0, w1, w2, w3, w4, rfl⟩
  have hw := fun d (hd : d ∈ tables_1) => atoms_spec (ws := Jvm.Cond.code x code maxLocals ret :: tables_1) hat d (List.mem_cons_of_mem _ hd)
  obtain ⟨i0, ei0⟩ := is_v ga0
  obtain rfl : w0 = (.int i0) := Option.some.inj ei0
  obtain ⟨i1, ei1⟩ := is_v ga1
  obtain rfl : w1 = (.int i1) := Option.some.inj ei1
  obtain ⟨i2, ei2⟩ := is_v ga2
  obtain rfl : w2 = (.int i2) := Option.some.inj ei2
  obtain ⟨i3, ei3⟩ := is_v ga3
  obtain rfl : w3 = (.int i3) := Option.some.inj ei3
  obtain ⟨i4, ei4⟩ := is_v ga4
  obtain rfl : w4 = (.int i4) := Option.some.inj ei4
  obtain ⟨n, o, h1, h2, h3, _, L, rfl, hQ, hq⟩ := rm_law l s _ hw tables_1 s.heap s.heap.size (Nat.le_refl _) i0 i1 i2 i3 i4 1 (own_law i0 i1 i2 i3 i4) p e ha hc hk s m _ below hf ((Spec.applies_iff_loose hf).mp happ).1 ⟨rfl, State.Warmed39.refl s, rfl⟩ trivial
  obtain ⟨rfl, N, -⟩ := hQ
  refine ⟨n, _, h1, h2, h3, hpost _ _ _ _ _ _ ⟨Cond.after_iff.mpr rfl, Cond.after_iff.mpr (eq_i res_at (Term.int_eval (1)) rfl), trivial⟩ ⟨hq.1, hq.2.1, (hq.2.2.sift fun y hy => Or.inr (N y hy)).mono (by decide) (by decide)⟩⟩
theorem main_1_1 : Claimed_1_1 := comes_1 fun _ _ _ _ _ _ h hF => ⟨h.1, hF⟩
theorem main_1_2 : Claimed_1_2 := comes_1 fun _ _ _ _ _ _ h hF => ⟨h.2.1, hF⟩
end Jvm.Pilot.@@N@@
namespace Jvm.Pilot.@@N@@
open Jvm Jvm.ClassFile Sem Op Lib Jvm.Free Jvm.Stand Jvm.Pilot.@@N@@.Jvm.D
/-! MADE BY PROGRAM (witnessworld.py) out of the Statement's table words and the real class files: 10 classes; the members and pool entries that the words name. The judged class is class 1, her method 1. -/
namespace start1
open Jvm.ClassFile
def u (s : String) : CpInfo := .utf8 (stringToUtf16 s)
/-- a pool by its gaps: so many unusable entries, then the entry; so many at the end -/
def gap : Nat → List CpInfo → List CpInfo
  | 0, r => r
  | n + 1, r => .unusable :: gap n r
def poolList (es : List (Nat × CpInfo)) (last : Nat) : List CpInfo := es.foldr (fun e r => gap e.1 (e.2 :: r)) (gap last [])
def pool (es : List (Nat × CpInfo)) (last : Nat) : Array CpInfo := ⟨poolList es last⟩
def fileOf (pool : Array CpInfo) (this : Nat) (attrs : Array Attribute := #[]) (ms : Array MethodInfo := #[]) (fl : Nat := 33) (sup : Nat := 0) (ifs : Array Nat := #[]) (fds : Array FieldInfo := #[]) : ClassFile where
  minorVersion := 0
  majorVersion := 65
  constantPool := pool
  accessFlags := fl
  thisClass := this
  superClass := sup
  interfaces := ifs
  fields := fds
  methods := ms
  attributes := attrs
def plain (name : String) (sup : Option ClassId) : Class where
  name := name
  kind := .ordinary
  loader := none
  accessFlags := 33
  super := sup
  interfaces := #[]
  cf := none
  fields := #[]
  methods := #[]
  instanceTypes := #[]
  staticTypes := #[]
  resolved := #[]
  callSites := []
  init := .initialized
  statics := none
  mirror := none

def pool0 : Array CpInfo := pool [(5, u "<init>"), (0, u "()V"), (1, .class_ 10), (1, u "java/lang/Object")] 113

def k0c0 : Code := { maxStack := 0, maxLocals := 1, code := object_method_1_code, exceptionTable := #[], attributes := #[] }
def k0m0 : Method := { name := "<init>", desc := "()V", sig := { parameters := [], returnType := none }, accessFlags := 1, code := some k0c0 }
/-- java/lang/Object -/
def k0 : Class := { plain "java/lang/Object" none with
  accessFlags := 33
  interfaces := #[]
  cf := some (fileOf pool0 8 #[] #[{ accessFlags := 1, nameIndex := 5, descriptorIndex := 6, attributes := #[] }] 33 0 #[] #[])
  fields := #[]
  methods := #[k0m0]
  instanceTypes := #[]
  staticTypes := #[]
  resolved := Array.replicate 124 none
  statics := none }

def pool1 : Array CpInfo := pool [(2, .class_ 4), (1, u "java/lang/Object"), (0, u "<init>"), (0, u "()V"), (0, .class_ 8), (0, u "com/example/rulr/rulr/BodyMatcher$Slot"), (0, .methodref 7 10), (0, .nameAndType 5 11), (0, u "(II)V"), (0, .methodref 7 13), (0, .nameAndType 14 15), (0, u "value"), (0, u "([I)I"), (0, .class_ 17), (0, u "com/example/rulr/rulr/SlotValuePinLaw"), (2, u "law"), (0, u "(IIIII)Z")] 9

def k1m0 : Method := { name := "<init>", desc := "()V", sig := { parameters := [], returnType := none }, accessFlags := 1, code := none }
def k1c1 : Code := { maxStack := 4, maxLocals := 10, code := code, exceptionTable := #[], attributes := #[] }
def k1m1 : Method := { name := "law", desc := "(IIIII)Z", sig := { parameters := [.int, .int, .int, .int, .int], returnType := some .boolean }, accessFlags := 9, code := some k1c1 }
/-- com/example/rulr/rulr/SlotValuePinLaw -/
def k1 : Class := { plain "com/example/rulr/rulr/SlotValuePinLaw" (some 0) with
  accessFlags := 49
  interfaces := #[]
  cf := some (fileOf pool1 16 #[] #[{ accessFlags := 1, nameIndex := 5, descriptorIndex := 6, attributes := #[] }, { accessFlags := 9, nameIndex := 20, descriptorIndex := 21, attributes := #[] }] 49 2 #[] #[])
  fields := #[]
  methods := #[k1m0, k1m1]
  instanceTypes := #[]
  staticTypes := #[]
  resolved := Array.replicate 31 none
  statics := none }

def pool2 : Array CpInfo := pool [(1, .methodref 2 3), (0, .class_ 4), (0, .nameAndType 5 6), (0, u "java/lang/Object"), (0, u "<init>"), (0, u "()V"), (0, .class_ 8), (0, u "java/lang/Record")] 13

def k2c0 : Code := { maxStack := 1, maxLocals := 1, code := jdk_30_method_1_code, exceptionTable := #[], attributes := #[] }
def k2m0 : Method := { name := "<init>", desc := "()V", sig := { parameters := [], returnType := none }, accessFlags := 4, code := some k2c0 }
/-- java/lang/Record -/
def k2 : Class := { plain "java/lang/Record" (some 0) with
  accessFlags := 1057
  interfaces := #[]
  cf := some (fileOf pool2 7 #[] #[{ accessFlags := 4, nameIndex := 5, descriptorIndex := 6, attributes := #[] }] 1057 2 #[] #[])
  fields := #[]
  methods := #[k2m0]
  instanceTypes := #[]
  staticTypes := #[]
  resolved := Array.replicate 22 none
  statics := none }

def pool3 : Array CpInfo := pool [(1, .methodref 2 3), (0, .class_ 4), (0, .nameAndType 5 6), (0, u "java/lang/Record"), (0, u "<init>"), (0, u "()V"), (0, .fieldref 8 9), (0, .class_ 10), (0, .nameAndType 11 12), (0, u "com/example/rulr/rulr/BodyMatcher$Slot"), (0, u "variable"), (0, u "I"), (0, .fieldref 8 14), (0, .nameAndType 15 12), (0, u "constant"), (2, u "(II)V"), (19, u "value"), (0, u "([I)I"), (6, .class_ 47), (0, u "com/example/rulr/rulr/BodyMatcher")] 20

def k3c0 : Code := { maxStack := 2, maxLocals := 3, code := prog_11_method_1_code, exceptionTable := #[], attributes := #[] }
def k3m0 : Method := { name := "<init>", desc := "(II)V", sig := { parameters := [.int, .int], returnType := none }, accessFlags := 0, code := some k3c0 }
def k3c1 : Code := { maxStack := 2, maxLocals := 2, code := prog_11_method_5_code, exceptionTable := #[], attributes := #[] }
def k3m1 : Method := { name := "value", desc := "([I)I", sig := { parameters := [(.array .int)], returnType := some .int }, accessFlags := 0, code := some k3c1 }
/-- com/example/rulr/rulr/BodyMatcher$Slot -/
def k3 : Class := { plain "com/example/rulr/rulr/BodyMatcher$Slot" (some 2) with
  accessFlags := 48
  interfaces := #[]
  cf := some (fileOf pool3 8 #[.nestHost 46] #[{ accessFlags := 0, nameIndex := 5, descriptorIndex := 18, attributes := #[] }, { accessFlags := 0, nameIndex := 38, descriptorIndex := 39, attributes := #[] }] 48 2 #[] #[{ accessFlags := 18, nameIndex := 11, descriptorIndex := 12, attributes := #[] }, { accessFlags := 18, nameIndex := 15, descriptorIndex := 12, attributes := #[] }])
  fields := #[{ name := "variable", type := .int, accessFlags := 18, slot := 0, constantValue := 0 }, { name := "constant", type := .int, accessFlags := 18, slot := 1, constantValue := 0 }]
  methods := #[k3m0, k3m1]
  instanceTypes := #[.int, .int]
  staticTypes := #[]
  resolved := Array.replicate 68 none
  statics := none }

def pool4 : Array CpInfo := pool [(1, u "java/lang/Cloneable"), (0, .class_ 1), (0, u "java/lang/Object"), (0, .class_ 3)] 3

/-- java/lang/Cloneable -/
def k4 : Class := { plain "java/lang/Cloneable" (some 0) with
  accessFlags := 1537
  interfaces := #[]
  cf := some (fileOf pool4 2 #[] #[] 1537 4 #[] #[])
  fields := #[]
  methods := #[]
  instanceTypes := #[]
  staticTypes := #[]
  resolved := Array.replicate 8 none
  statics := none }

def pool5 : Array CpInfo := pool [(1, u "java/io/Serializable"), (0, .class_ 1), (0, u "java/lang/Object"), (0, .class_ 3)] 3

/-- java/io/Serializable -/
def k5 : Class := { plain "java/io/Serializable" (some 0) with
  accessFlags := 1537
  interfaces := #[]
  cf := some (fileOf pool5 2 #[] #[] 1537 4 #[] #[])
  fields := #[]
  methods := #[]
  instanceTypes := #[]
  staticTypes := #[]
  resolved := Array.replicate 8 none
  statics := none }

/-- the primitive byte -/
def k6 : Class := { plain "byte" none with kind := .primitive 'B', accessFlags := 0x411 }
/-- [B -/
def k7 : Class := { plain "[B" (some 0) with kind := .array 6 .byte, interfaces := #[4, 5], accessFlags := 1041 }

/-- the primitive int -/
def k8 : Class := { plain "int" none with kind := .primitive 'I', accessFlags := 0x411 }
/-- [I -/
def k9 : Class := { plain "[I" (some 0) with kind := .array 8 .int, interfaces := #[4, 5], accessFlags := 1041 }

def heap : Heap := #[]
def classes : Array Class := #[k0, k1, k2, k3, k4, k5, k6, k7, k8, k9]
def interned : List (Array UInt16 × Addr) := []
def slotsUsed : Nat := 0
def theMethod : MethodId := ⟨1, 1⟩
def args0 : Array Value := #[.int 5, .int 5, .int 5, .int 5, .int 5]
def aboutOver (below : List Frame) : State where
  vm := { classes := classes, interned := interned.toArray }
  heap := heap
  slotsUsed := slotsUsed
  threads := #[{ frames := .invoking theMethod args0 :: below }]
def below0 : List Frame := [.native { method := ⟨0, 0⟩, args := #[] }]
def about1 : State := aboutOver below0
def p0 : Program := .bare "" "" ""
def e0 : Env := launch0.env 0 0 0
theorem w_frames : about1.frames = Frame.invoking theMethod args0 :: below0 := rfl
set_option maxRecDepth 65536 in
theorem w_args : argsFit about1.vm theMethod args0 = true := by decide +kernel
set_option maxRecDepth 65536 in
theorem w_heap : heapFits about1 = true := by decide +kernel
set_option maxRecDepth 65536 in
theorem w_runnable : about1.curStatus? = some .runnable := by decide +kernel
set_option maxRecDepth 65536 in
theorem w_alone : about1.alone = true := by decide +kernel
set_option maxRecDepth 65536 in
theorem w_named : about1.methodNamed? x = some theMethod := by decide +kernel
set_option maxRecDepth 65536 in
theorem w_hears : about1.hears theMethod below0 = true := by decide +kernel
set_option maxRecDepth 65536 in
theorem w_ripe : about1.ripe theMethod args0 below0 = true := by decide +kernel
theorem w_running : about1.status = .running := rfl
set_option maxRecDepth 65536 in
theorem w_room : about1.hasRoom e0.platform room_1 = true :=
  launch0.hasRoom_least _ room_1 (by decide +kernel) (by decide +kernel) (by decide +kernel) (by decide +kernel) (by decide +kernel) (by decide +kernel)
theorem allAtoms_all (ts : List Jvm.Cond) (a : Array Jvm.Value) (st : Jvm.State) : (allAtoms ts).before a st = ts.all (fun c => c.before a st) := by
  induction ts with
  | nil => rfl
  | cons c t ih =>
    show (Jvm.Cond.and c (allAtoms t)).before a st = _
    rw [Jvm.Cond.before_and, ih, List.all_cons]
def words1 : List Jvm.Cond := Jvm.Cond.code x code maxLocals ret :: tables_1
/-- a 'code' word, met by the world's own term for the bytes: nothing is compared byte by byte -/
theorem code_word {y : MethodName} {bytes : ByteArray} {mx : Nat} {rt : Option FieldType} {a : Array Value} {s : State} {m : MethodId} {meth : Method} {c : Code} (h1 : s.methodNamed? y = some m) (h2 : s.vm.method? m = some meth) (h3 : meth.code = some c) (h4 : c.code = bytes)
    (h5 : (c.maxLocals == mx && c.exceptionTable.isEmpty && decide (c.maxStack ≤ mostOperands) && decide (meth.sig.returnType = rt) && !meth.locks && decide (parseMethodDescriptor y.desc = some meth.sig)) = true) : (Jvm.Cond.code y bytes mx rt).before a s = true := by
  simp only [Bool.and_eq_true, beq_iff_eq, Bool.not_eq_true', decide_eq_true_eq] at h5
  obtain ⟨⟨⟨⟨⟨g1, g2⟩, g3⟩, g4⟩, g5⟩, g6⟩ := h5
  simp [Cond.before, Cond.holds, Cond.value, h1, h2, h3, h4, g1, g2, g3, g4, g5, g6]
def isCode : Jvm.Cond → Bool
  | .code _ _ _ _ => true
  | _ => false
theorem all_split {L : List Jvm.Cond} {P : Jvm.Cond → Bool} (h1 : L.all (fun c => isCode c || P c) = true) (h2 : ∀ c ∈ L.filter isCode, P c = true) : L.all P = true := by
  refine List.all_eq_true.mpr fun c hc => ?_
  have h := List.all_eq_true.mp h1 c hc
  rcases Bool.eq_false_or_eq_true (isCode c) with hi | hi
  · exact h2 c (List.mem_filter.mpr ⟨hc, hi⟩)
  · simpa [hi] using h
set_option maxRecDepth 65536 in
theorem w_c0 : (Jvm.Cond.code x code maxLocals ret).before args0 about1 = true := code_word (m := ⟨1, 1⟩) (meth := k1m1) (c := k1c1) (by decide +kernel) rfl rfl rfl (by decide +kernel)
set_option maxRecDepth 65536 in
theorem w_c1 : (Jvm.Cond.code ({ cls := "com/example/rulr/rulr/BodyMatcher$Slot", name := "<init>", desc := "(II)V" } : Jvm.MethodName) prog_11_method_1_code (3 : Nat) (Option.none : Option Jvm.ClassFile.FieldType)).before args0 about1 = true := code_word (m := ⟨3, 0⟩) (meth := k3m0) (c := k3c0) (by decide +kernel) rfl rfl rfl (by decide +kernel)
set_option maxRecDepth 65536 in
theorem w_c2 : (Jvm.Cond.code ({ cls := "java/lang/Record", name := "<init>", desc := "()V" } : Jvm.MethodName) jdk_30_method_1_code (1 : Nat) (Option.none : Option Jvm.ClassFile.FieldType)).before args0 about1 = true := code_word (m := ⟨2, 0⟩) (meth := k2m0) (c := k2c0) (by decide +kernel) rfl rfl rfl (by decide +kernel)
set_option maxRecDepth 65536 in
theorem w_c3 : (Jvm.Cond.code ({ cls := "java/lang/Object", name := "<init>", desc := "()V" } : Jvm.MethodName) object_method_1_code (1 : Nat) (Option.none : Option Jvm.ClassFile.FieldType)).before args0 about1 = true := code_word (m := ⟨0, 0⟩) (meth := k0m0) (c := k0c0) (by decide +kernel) rfl rfl rfl (by decide +kernel)
set_option maxRecDepth 65536 in
theorem w_c4 : (Jvm.Cond.code ({ cls := "com/example/rulr/rulr/BodyMatcher$Slot", name := "value", desc := "([I)I" } : Jvm.MethodName) prog_11_method_5_code (2 : Nat) (Option.some Jvm.ClassFile.FieldType.int)).before args0 about1 = true := code_word (m := ⟨3, 1⟩) (meth := k3m1) (c := k3c1) (by decide +kernel) rfl rfl rfl (by decide +kernel)
def codes1 : List Jvm.Cond := [Jvm.Cond.code x code maxLocals ret, Jvm.Cond.code ({ cls := "com/example/rulr/rulr/BodyMatcher$Slot", name := "<init>", desc := "(II)V" } : Jvm.MethodName) prog_11_method_1_code (3 : Nat) (Option.none : Option Jvm.ClassFile.FieldType), Jvm.Cond.code ({ cls := "java/lang/Record", name := "<init>", desc := "()V" } : Jvm.MethodName) jdk_30_method_1_code (1 : Nat) (Option.none : Option Jvm.ClassFile.FieldType), Jvm.Cond.code ({ cls := "java/lang/Object", name := "<init>", desc := "()V" } : Jvm.MethodName) object_method_1_code (1 : Nat) (Option.none : Option Jvm.ClassFile.FieldType), Jvm.Cond.code ({ cls := "com/example/rulr/rulr/BodyMatcher$Slot", name := "value", desc := "([I)I" } : Jvm.MethodName) prog_11_method_5_code (2 : Nat) (Option.some Jvm.ClassFile.FieldType.int)]
set_option maxRecDepth 65536 in
theorem codes_eq : words1.filter isCode = codes1 := rfl
theorem w_codes : ∀ c ∈ words1.filter isCode, c.before args0 about1 = true := by
  rw [codes_eq]
  intro c hc
  simp only [codes1, List.mem_cons, List.not_mem_nil, or_false] at hc
  rcases hc with rfl | rfl | rfl | rfl | rfl
  · exact w_c0
  · exact w_c1
  · exact w_c2
  · exact w_c3
  · exact w_c4
set_option maxRecDepth 65536 in
theorem w_t1 : (words1.take 24).all (fun c => isCode c || c.before args0 about1) = true := by decide +kernel
set_option maxRecDepth 65536 in
theorem w_t2 : (words1.drop 24).all (fun c => isCode c || c.before args0 about1) = true := by decide +kernel
theorem w_tables : (allAtoms (Jvm.Cond.code x code maxLocals ret :: tables_1)).before args0 about1 = true := by
  rw [allAtoms_all]
  show words1.all (fun c => c.before args0 about1) = true
  refine all_split ?_ w_codes
  rw [← List.take_append_drop 24 words1, List.all_append, w_t1, w_t2]
  rfl
set_option maxRecDepth 65536 in
theorem w_case : (Jvm.Cond.and given_1 narrow_1).before args0 about1 = true := by decide +kernel
theorem w_applies : (headSpec (Jvm.Cond.code x code maxLocals ret :: tables_1) room_1).applies x e0.platform about1 = true :=
  (Spec.applies_iff w_frames).mpr ⟨w_running, w_runnable, w_alone, w_named, w_hears, w_ripe, w_room, w_tables⟩
theorem atStart : AtStart classFile x code maxLocals ret World_1 tables_1 room_1 Calls_1 rest_1 Pre_1 launch0 p0 e0 about1 theMethod args0 below0 :=
  ⟨lists_1, trivial, launch0.admits_env _ _ _, launch0.least_env, fairChoices_fair.cas, fairChoices_fair.clock, w_frames, w_args, w_heap, w_applies, trivial, trivial, w_case⟩
end start1
theorem witness_1 : WitnessClaimed_1 := ⟨start1.p0, start1.e0, start1.about1, start1.theMethod, start1.args0, start1.below0, start1.atStart⟩
end Jvm.Pilot.@@N@@
