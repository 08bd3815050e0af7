import JvmDerived
import JvmDerived.Pilot.@@N@@Statement
import JvmDerived.Pilot.@@N@@Code
set_option linter.unusedVariables false
set_option linter.unusedSimpArgs false
namespace Jvm.Pilot.@@N@@
open Jvm Jvm.ClassFile Sem Op Lib Jvm.Free Jvm.Stand Jvm.LawKit Jvm.RoadKit Bundle Jvm.Pilot.@@N@@.Jvm.D
/-! 1. the words of the mirrors: a named value, a check, a call -/
def own_lt {α β : Type} (x : α) (f : α → Option β) : Option β := f x
def own_ck {β : Type} (P : Prop) [Decidable P] (x : Option β) : Option β := if P then x else none
def own_bd {α β : Type} (x : Option α) (f : α → Option β) : Option β := x.bind f
theorem own_lt_e {α β : Type} {x : α} {f : α → Option β} {r : β} (h : own_lt x f = some r) : ∃ v, v = x ∧ f v = some r := ⟨x, rfl, h⟩
theorem own_ck_e {β : Type} {P : Prop} [Decidable P] {x : Option β} {r : β} (h : own_ck P x = some r) : P ∧ x = some r := by
  unfold own_ck at h
  by_cases q : P
  · rw [if_pos q] at h; exact ⟨q, h⟩
  · rw [if_neg q] at h; cases h
theorem own_bd_e {α β : Type} {x : Option α} {f : α → Option β} {r : β} (h : own_bd x f = some r) : ∃ v, x = some v ∧ f v = some r := by
  unfold own_bd at h
  cases x with
  | none => cases h
  | some v => exact ⟨v, rfl, h⟩
abbrev own_inb {α : Type} (bs : List α) (j : Int32) : Prop := ¬ j < 0 ∧ j.toNatClampNeg < bs.length
def own_rd {α : Type} [OfNat α 0] (bs : List α) (j : Int32) : α := bs.getD j.toNatClampNeg 0
def own_wr {α : Type} (bs : List α) (j : Int32) (v : α) : List α := bs.set j.toNatClampNeg v
def own_sz {α : Type} (bs : List α) : Int32 := bs.length.toInt32
/-! 2. a run that comes to an end as Q says -/
def own_Goes (p : Program) (e : Env) (below : List Frame) (s : State) (Q : Option Value → Heap → List Loc → Prop) (ce sl : Nat) (A : State) : Prop :=
  ∃ s₂ o, Steps p.tables e below A s₂ ∧ s₂.status = .running ∧ Ended s₂ below o ∧ ∃ v L, o = .returned v ∧ Q v s₂.heap L ∧ FrameEnd s o s₂ L ce sl
section Own
variable {p : Program} {l : Launch} {e : Env} {R : Room} {s : State} {m : MethodId} {args : Array Value} {below : List Frame} {meth : Method} {c : Code} {T : State} {locs : List Loc} {cells slots : Nat} {Z : State} {h h' : Heap} {Q : Option Value → Heap → List Loc → Prop} {ce sl : Nat}
theorem own_Goes.via {A B : State} (q : ∀ t, Steps p.tables e below B t → Steps p.tables e below A t) (g : own_Goes p e below s Q ce sl B) : own_Goes p e below s Q ce sl A := by
  obtain ⟨s₂, o, h1, r⟩ := g
  exact ⟨s₂, o, q _ h1, r⟩
theorem own_Goes.tr {A B : State} (q : Steps p.tables e below A B) (g : own_Goes p e below s Q ce sl B) : own_Goes p e below s Q ce sl A := g.via fun _ k => q.trans k
theorem own_retV (X : Stand p l e R s m args below meth c T locs cells slots) (hx : p.tables.exec = Jvm.exec) {pc : Nat} {Ls : Array Slot} (hret : meth.sig.returnType = none) (hlk : meth.locks = false) (hd : decode c.code pc = .ok (.return_, 1)) (eT : T.heap = h) (hQ : Q none h locs) (hc : cells ≤ ce) (hs : slots ≤ sl) :
    own_Goes p e below s Q ce sl (T.setTop (mkF m pc Ls [])) := by
  obtain ⟨fs, hr, hrun, hended, hW, hsame⟩ := X.leave (v := none) (fun _ => rfl) hlk
  refine ⟨_, _, ?_, hrun, hended, _, _, rfl, ?_, ⟨_, rfl⟩, hW, hsame.mono hc hs⟩
  · exact X.returnOut hx hret hd hr
  · show Q none T.heap locs
    rw [eT]; exact hQ
theorem own_retI (X : Stand p l e R s m args below meth c T locs cells slots) (hx : p.tables.exec = Jvm.exec) {pc : Nat} {Ls : Array Slot} {z : Int32} {rest : List Value} (hret : meth.sig.returnType = some .int) (hlk : meth.locks = false) (hd : decode c.code pc = .ok (.ireturn, 1)) (eT : T.heap = h) (hQ : Q (some (.int z)) h locs) (hc : cells ≤ ce) (hs : slots ≤ sl) :
    own_Goes p e below s Q ce sl (T.setTop (mkF m pc Ls (.int z :: rest))) := by
  obtain ⟨fs, hr, hrun, hended, hW, hsame⟩ := X.leave (v := some (.int z)) (fun h => by rw [hret] at h; cases h) hlk
  refine ⟨_, _, ?_, hrun, hended, _, _, rfl, ?_, ⟨_, rfl⟩, hW, hsame.mono hc hs⟩
  · exact retOut X hx hret rfl (Or.inl ⟨rfl, Or.inl rfl, z, rfl⟩) hd hr
  · show Q _ T.heap locs
    rw [eT]; exact hQ
theorem own_retJ (X : Stand p l e R s m args below meth c T locs cells slots) (hx : p.tables.exec = Jvm.exec) {pc : Nat} {Ls : Array Slot} {z : Int64} {rest : List Value} (hret : meth.sig.returnType = some .long) (hlk : meth.locks = false) (hd : decode c.code pc = .ok (.lreturn, 1)) (eT : T.heap = h) (hQ : Q (some (.long z)) h locs) (hc : cells ≤ ce) (hs : slots ≤ sl) :
    own_Goes p e below s Q ce sl (T.setTop (mkF m pc Ls (.long z :: rest))) := by
  obtain ⟨fs, hr, hrun, hended, hW, hsame⟩ := X.leave (v := some (.long z)) (fun h => by rw [hret] at h; cases h) hlk
  refine ⟨_, _, ?_, hrun, hended, _, _, rfl, ?_, ⟨_, rfl⟩, hW, hsame.mono hc hs⟩
  · exact retOut X hx hret rfl (Or.inr (Or.inl ⟨rfl, rfl, z, rfl⟩)) hd hr
  · show Q _ T.heap locs
    rw [eT]; exact hQ
theorem own_retR (X : Stand p l e R s m args below meth c T locs cells slots) (hx : p.tables.exec = Jvm.exec) {pc : Nat} {Ls : Array Slot} {t : FieldType} {w : Value} {rest : List Value} (hret : meth.sig.returnType = some t) (hlk : meth.locks = false) (hd : decode c.code pc = .ok (.areturn, 1)) (ht : t.isReference = true) (eT : T.heap = h) (hw : w.isRef = true) (hQ : Q (some w) h locs) (hc : cells ≤ ce) (hs : slots ≤ sl) :
    own_Goes p e below s Q ce sl (T.setTop (mkF m pc Ls (w :: rest))) := by
  obtain ⟨fs, hr, hrun, hended, hW, hsame⟩ := X.leave (v := some w) (fun h => by rw [hret] at h; cases h) hlk
  refine ⟨_, _, ?_, hrun, hended, _, _, rfl, ?_, ⟨_, rfl⟩, hW, hsame.mono hc hs⟩
  · exact retOut X hx hret (by cases t <;> first | (cases ht; done) | rfl) (Or.inr (Or.inr (Or.inr (Or.inr ⟨rfl, ht, hw⟩)))) hd hr
  · show Q _ T.heap locs
    rw [eT]; exact hQ
theorem own_retN (X : Stand p l e R s m args below meth c T locs cells slots) (hx : p.tables.exec = Jvm.exec) {pc : Nat} {Ls : Array Slot} {z v : Int32} {t : FieldType} {rest : List Value} (hret : meth.sig.returnType = some t) (hlk : meth.locks = false) (ht : t = .boolean ∨ t = .byte ∨ t = .char ∨ t = .short) (hd : decode c.code pc = .ok (.ireturn, 1)) (eT : T.heap = h) (hv : nar t z = v) (hQ : Q (some (.int v)) h locs) (hc : cells ≤ ce) (hs : slots ≤ sl) :
    own_Goes p e below s Q ce sl (T.setTop (mkF m pc Ls (.int z :: rest))) := by
  subst hv
  obtain ⟨fs, hr, hrun, hended, hW, hsame⟩ := X.leave (v := some (.int (nar t z))) (fun h => by rw [hret] at h; cases h) hlk
  refine ⟨_, _, ?_, hrun, hended, _, _, rfl, ?_, ⟨_, rfl⟩, hW, hsame.mono hc hs⟩
  · exact retN X hx hret ht hd hr
  · show Q _ T.heap locs
    rw [eT]; exact hQ
/-! 3. single steps -/
theorem own_irem {g : JFrame} {target : State} (X : Stand p l e R s m args below meth c T locs cells slots) (hx : p.tables.exec = Jvm.exec) (hg : g.method = m) {x y : Int32} {rest : List Value} (hd : decode c.code g.pc = .ok (.irem, 1)) (hs : g.stack = .int y :: .int x :: rest) (hy : y ≠ 0)
    (hr : Steps p.tables e below (T.setTop { g with pc := g.pc + 1, stack := .int (x % y) :: rest }) target) : Steps p.tables e below (T.setTop g) target := iremM X hx hg hd hs hy hr
theorem own_lrem {g : JFrame} {target : State} (X : Stand p l e R s m args below meth c T locs cells slots) (hx : p.tables.exec = Jvm.exec) (hg : g.method = m) {x y : Int64} {rest : List Value} (hd : decode c.code g.pc = .ok (.lrem, 1)) (hs : g.stack = .long y :: .long x :: rest) (hy : y ≠ 0)
    (hr : Steps p.tables e below (T.setTop { g with pc := g.pc + 1, stack := .long (x % y) :: rest }) target) : Steps p.tables e below (T.setTop g) target :=
  XS.lrem X.here hx hg hd hs hy (by rw [lrem_mod]; exact hr)
theorem own_tltL {x y : Int64} (q : x < y) : ifCond.holds .lt (lcmpW x y) = true ∧ ifCond.holds .ge (lcmpW x y) = false := by
  rw [if0, if0]; exact ⟨(tlt ((lw_lt x y).mpr q)).1, (tlt ((lw_lt x y).mpr q)).2.1⟩
theorem own_fltL {x y : Int64} (q : ¬ x < y) : ifCond.holds .lt (lcmpW x y) = false ∧ ifCond.holds .ge (lcmpW x y) = true := by
  rw [if0, if0]; exact ⟨(flt fun z => q ((lw_lt x y).mp z)).1, (flt fun z => q ((lw_lt x y).mp z)).2.1⟩
theorem own_tgtL {x y : Int64} (q : y < x) : ifCond.holds .gt (lcmpW x y) = true ∧ ifCond.holds .le (lcmpW x y) = false := by
  rw [if0, if0]; exact ⟨(tlt ((lw_gt x y).mpr q)).2.2.1, (tlt ((lw_gt x y).mpr q)).2.2.2⟩
theorem own_fgtL {x y : Int64} (q : ¬ y < x) : ifCond.holds .gt (lcmpW x y) = false ∧ ifCond.holds .le (lcmpW x y) = true := by
  rw [if0, if0]; exact ⟨(flt fun z => q ((lw_gt x y).mp z)).2.2.1, (flt fun z => q ((lw_gt x y).mp z)).2.2.2⟩
theorem own_teqL {x y : Int64} (q : x = y) : ifCond.holds .eq (lcmpW x y) = true ∧ ifCond.holds .ne (lcmpW x y) = false := by
  rw [if0, if0]; exact ⟨(teq ((lw_eq x y).mpr q)).1, (teq ((lw_eq x y).mpr q)).2⟩
theorem own_feqL {x y : Int64} (q : ¬ x = y) : ifCond.holds .eq (lcmpW x y) = false ∧ ifCond.holds .ne (lcmpW x y) = true := by
  rw [if0, if0]; exact ⟨(feq fun z => q ((lw_eq x y).mp z)).1, (feq fun z => q ((lw_eq x y).mp z)).2⟩
theorem own_st1 {L : Array Slot} {i : Nat} {v : Value} {o : Slot} {L' : Array Slot} (hold : L[i]? = some o) (ho : One o) (hv : v.category = 1) (hL : L.setIfInBounds i (.val v) = L' := by rfl) : storeLocals L i v = some L' := hL ▸ XS.store1 hold ho hv
theorem own_privSel {s : State} {args : Array Value} {y : MethodName} {n : Nat} (wi : (Cond.instantiable y.cls n).before args s = true) (hp : s.PrivateAt y) (hinst : (Cond.instanceMethod y).before args s = true) (hy : y.cls ≠ "java/lang/invoke/MethodHandle" ∧ y.cls ≠ "java/lang/invoke/VarHandle") : (Cond.selects y.cls y y).before args s = true := by
  obtain ⟨c, k, h1, h2, -, h3, -⟩ := Cond.instantiable_spec wi
  exact selects_self_of_private h1 h2 (Bool.or_eq_false_iff.mp h3).1 hp hinst hy
theorem own_st2 {L L' : Array Slot} {i : Nat} {x : Int64} {o1 o2 : Slot} (h1 : L[i]? = some o1) (h2 : L[i + 1]? = some o2) (q1 : One o1) (q2 : One o2) (hL : (L.setIfInBounds i (.val (.long x))).setIfInBounds (i + 1) .second = L' := by rfl) : storeLocals L i (.long x) = some L' := by
  subst hL
  obtain ⟨b1, g1⟩ := Array.getElem?_eq_some_iff.mp h1
  obtain ⟨b2, g2⟩ := Array.getElem?_eq_some_iff.mp h2
  have hc : (Value.long x).category = 2 := rfl
  rcases q1 with rfl | ⟨w, rfl, hw⟩ <;> rcases q2 with rfl | ⟨w', rfl, hw'⟩ <;> simp [storeLocals, storeSelf, setAt, hc, *]
/-! 4. arrays: what lies in them, as a list -/
def own_Ar (Z : State) (h : Heap) (a : Addr) (ty : FieldType) (vs : List Value) : Prop := ∃ c : Cell, Arr Z h a c ty ∧ c.slots.toList = vs ∧ vs.length < 2 ^ 31 ∧ ∀ v ∈ vs, fits ty v = true
variable {a b : Addr} {ty : FieldType} {vs : List Value}
theorem own_Ar.lt (F : own_Ar Z h a ty vs) : a < h.size := by obtain ⟨c, A, -⟩ := F; exact A.lt
theorem own_Ar.ext (F : own_Ar Z h a ty vs) (E : Ext h h') : own_Ar Z h' a ty vs := by obtain ⟨c, A, r⟩ := F; exact ⟨c, A.ext E, r⟩
theorem own_Ar.other {k : Nat} {v : Value} (F : own_Ar Z h b ty vs) (W : Wr h h' a k v) (q : b ≠ a) : own_Ar Z h' b ty vs := by obtain ⟨c, A, r⟩ := F; exact ⟨c, A.other W q, r⟩
theorem own_Ar.keep {ws : List Addr} (F : own_Ar Z h a ty vs) (K : Keep h h' ws) (q : a ∉ ws) : own_Ar Z h' a ty vs := by obtain ⟨c, A, r⟩ := F; exact ⟨c, ⟨K.2.1 a c A.1 q, A.2⟩, r⟩
theorem own_Ar.size {c : Cell} (q : c.slots.toList = vs) : c.slots.size = vs.length := by rw [← q]; simp
theorem own_in {c : Cell} {j : Int32} (q : c.slots.toList = vs) (hj : own_inb vs j) : ¬ (j < 0 ∨ c.slots.size ≤ j.toNatClampNeg) := by
  rw [own_Ar.size q]
  rintro (r | r)
  · exact hj.1 r
  · exact absurd hj.2 (Nat.not_lt.mpr r)
theorem own_get {c : Cell} {i : Nat} (q : c.slots.toList = vs) (d : Value) (hi : i < vs.length) : c.slots[i]? = some (vs.getD i d) := by
  have e : c.slots = vs.toArray := by rw [← q]
  rw [e]
  simp [List.getD, hi]
theorem own_set {c : Cell} {i : Nat} {v : Value} (q : c.slots.toList = vs) : (c.setSlot i v).slots.toList = vs.set i v := by
  have e : c.slots = vs.toArray := by rw [← q]
  simp [Cell.setSlot, e]
theorem own_fits {i : Nat} {v : Value} (q : ∀ v ∈ vs, fits ty v = true) (hv : fits ty v = true) : ∀ u ∈ vs.set i v, fits ty u = true := fun u hu => by
  rcases List.mem_or_eq_of_mem_set hu with r | r
  · exact q u r
  · rw [r]; exact hv
theorem own_mapGet {bs : List Int32} {i : Nat} (hi : i < bs.length) : (bs.map Value.int).getD i (.int 0) = .int (bs.getD i 0) := by simp [List.getD, hi]
theorem own_mapGetJ {bs : List Int64} {i : Nat} (hi : i < bs.length) : (bs.map Value.long).getD i (.long 0) = .long (bs.getD i 0) := by simp [List.getD, hi]
theorem own_mapSet {bs : List Int32} {i : Nat} {v : Int32} : (bs.map Value.int).set i (.int v) = (bs.set i v).map Value.int := by simp
theorem own_mapSetJ {bs : List Int64} {i : Nat} {v : Int64} : (bs.map Value.long).set i (.long v) = (bs.set i v).map Value.long := by simp
theorem own_inbM {α : Type} {f : α → Value} {bs : List α} {j : Int32} (q : own_inb bs j) : own_inb (bs.map f) j := ⟨q.1, by rw [List.length_map]; exact q.2⟩
theorem own_wrk {α : Type} {bs : List α} {j : Int32} {v : α} (k : Nat) (hk : j.toNatClampNeg = k) : own_wr bs j v = bs.set k v := by rw [own_wr, hk]
theorem own_rdk {α : Type} [OfNat α 0] {bs : List α} {j : Int32} (k : Nat) (hk : j.toNatClampNeg = k) : own_rd bs j = bs.getD k 0 := by rw [own_rd, hk]
theorem own_inbk {α : Type} {bs : List α} {j : Int32} (k n : Nat) (h0 : ¬ j < 0) (hk : j.toNatClampNeg = k) (hl : bs.length = n) (hkn : k < n) : own_inb bs j := ⟨h0, by rw [hk, hl]; exact hkn⟩
theorem own_len {α : Type} {f : α → Value} {bs : List α} (X : Stand p l e R s m args below meth c T locs cells slots) (hx : p.tables.exec = Jvm.exec) (hZ : Z.Warmed39 s.vm) (eT : T.heap = h) (A : own_Ar Z h a ty (bs.map f)) {g : JFrame} (hg : g.method = m) {rest : List Value} (hs : g.stack = .ref a :: rest) (hd : decode c.code g.pc = .ok (.arraylength, 1)) {target : State}
    (hr : Steps p.tables e below (T.setTop { g with pc := g.pc + 1, stack := .int (own_sz bs) :: rest }) target) : Steps p.tables e below (T.setTop g) target := by
  obtain ⟨cl, A, q, -⟩ := A
  refine X.arraylength hx (by rw [eT]; exact A.1) (State.isArrayOf_alike hZ.alike A.2.1) hg hs hd _ ?_
  rw [own_Ar.size q, List.length_map]; exact hr
theorem own_ldI {bs : List Int32} {j v : Int32} (X : Stand p l e R s m args below meth c T locs cells slots) (hx : p.tables.exec = Jvm.exec) (hZ : Z.Warmed39 s.vm) (eT : T.heap = h) (A : own_Ar Z h a .int (bs.map Value.int)) (hj : own_inb bs j) (hv : own_rd bs j = v) {g : JFrame} (hg : g.method = m) {rest : List Value} (hs : g.stack = .int j :: .ref a :: rest) (hd : decode c.code g.pc = .ok (.iaload, 1)) {target : State}
    (hr : Steps p.tables e below (T.setTop { g with pc := g.pc + 1, stack := .int v :: rest }) target) : Steps p.tables e below (T.setTop g) target := by
  subst hv
  obtain ⟨cl, A, q, -⟩ := A
  exact X.iaload hx (by rw [eT]; exact A.1) (State.isArrayOf_alike hZ.alike A.2.1) A.2.2 (own_in q (own_inbM hj)) ((own_get q (.int 0) (own_inbM hj).2).trans (congrArg some (own_mapGet hj.2))) hg hs hd _ hr
theorem own_ldB {bs : List Int32} {j v : Int32} (X : Stand p l e R s m args below meth c T locs cells slots) (hx : p.tables.exec = Jvm.exec) (hZ : Z.Warmed39 s.vm) (eT : T.heap = h) (A : own_Ar Z h a .byte (bs.map Value.int)) (hj : own_inb bs j) (hv : own_rd bs j = v) {g : JFrame} (hg : g.method = m) {rest : List Value} (hs : g.stack = .int j :: .ref a :: rest) (hd : decode c.code g.pc = .ok (.baload, 1)) {target : State}
    (hr : Steps p.tables e below (T.setTop { g with pc := g.pc + 1, stack := .int v :: rest }) target) : Steps p.tables e below (T.setTop g) target := by
  subst hv
  obtain ⟨cl, A, q, -⟩ := A
  exact X.baloadBytes hx (by rw [eT]; exact A.1) (State.isArrayOf_alike hZ.alike A.2.1) A.2.2 (own_in q (own_inbM hj)) ((own_get q (.int 0) (own_inbM hj).2).trans (congrArg some (own_mapGet hj.2))) hg hs hd _ hr
theorem own_ldZ {bs : List Int32} {j v : Int32} (X : Stand p l e R s m args below meth c T locs cells slots) (hx : p.tables.exec = Jvm.exec) (hZ : Z.Warmed39 s.vm) (eT : T.heap = h) (A : own_Ar Z h a .boolean (bs.map Value.int)) (hj : own_inb bs j) (hv : own_rd bs j = v) {g : JFrame} (hg : g.method = m) {rest : List Value} (hs : g.stack = .int j :: .ref a :: rest) (hd : decode c.code g.pc = .ok (.baload, 1)) {target : State}
    (hr : Steps p.tables e below (T.setTop { g with pc := g.pc + 1, stack := .int v :: rest }) target) : Steps p.tables e below (T.setTop g) target := by
  subst hv
  obtain ⟨cl, A, q, -⟩ := A
  exact X.baloadBooleans hx (by rw [eT]; exact A.1) (State.isArrayOf_alike hZ.alike A.2.1) A.2.2 (own_in q (own_inbM hj)) ((own_get q (.int 0) (own_inbM hj).2).trans (congrArg some (own_mapGet hj.2))) hg hs hd _ hr
theorem own_ldJ {bs : List Int64} {j : Int32} {v : Int64} (X : Stand p l e R s m args below meth c T locs cells slots) (hx : p.tables.exec = Jvm.exec) (hZ : Z.Warmed39 s.vm) (eT : T.heap = h) (A : own_Ar Z h a .long (bs.map Value.long)) (hj : own_inb bs j) (hv : own_rd bs j = v) {g : JFrame} (hg : g.method = m) {rest : List Value} (hs : g.stack = .int j :: .ref a :: rest) (hd : decode c.code g.pc = .ok (.laload, 1)) {target : State}
    (hr : Steps p.tables e below (T.setTop { g with pc := g.pc + 1, stack := .long v :: rest }) target) : Steps p.tables e below (T.setTop g) target := by
  subst hv
  obtain ⟨cl, A, q, -⟩ := A
  exact X.laload hx (by rw [eT]; exact A.1) (State.isArrayOf_alike hZ.alike A.2.1) A.2.2 (own_in q (own_inbM hj)) ((own_get q (.long 0) (own_inbM hj).2).trans (congrArg some (own_mapGetJ hj.2))) hg hs hd _ hr
theorem own_stI {bs : List Int32} {j x : Int32} (X : Stand p l e R s m args below meth c T locs cells slots) (hx : p.tables.exec = Jvm.exec) (hZ : Z.Warmed39 s.vm) (eT : T.heap = h) (A : own_Ar Z h a .int (bs.map Value.int)) (hj : own_inb bs j) {g : JFrame} (hg : g.method = m) {rest : List Value} (hs : g.stack = .int x :: .int j :: .ref a :: rest) (hd : decode c.code g.pc = .ok (.iastore, 1)) :
    ∃ T' h', Stand p l e R s m args below meth c T' (locs ++ [⟨a, j.toNatClampNeg⟩]) cells slots ∧ T'.heap = h' ∧ Wr h h' a j.toNatClampNeg (.int x) ∧ own_Ar Z h' a .int ((own_wr bs j x).map Value.int) ∧ ∀ target, Steps p.tables e below (T'.setTop { g with pc := g.pc + 1, stack := rest }) target → Steps p.tables e below (T.setTop g) target := by
  obtain ⟨cl, A, q, r, ft⟩ := A
  obtain ⟨T', h', X', e', W, st⟩ := stI X hx hZ eT A (own_in q (own_inbM hj)) hg hs hd
  exact ⟨T', h', X', e', W, ⟨_, A.same W, (own_set q).trans own_mapSet, by simpa [own_wr] using r, own_mapSet ▸ own_fits ft rfl⟩, st⟩
theorem own_stB {bs : List Int32} {j x : Int32} (X : Stand p l e R s m args below meth c T locs cells slots) (hx : p.tables.exec = Jvm.exec) (hZ : Z.Warmed39 s.vm) (eT : T.heap = h) (A : own_Ar Z h a .byte (bs.map Value.int)) (hj : own_inb bs j) {g : JFrame} (hg : g.method = m) {rest : List Value} (hs : g.stack = .int x :: .int j :: .ref a :: rest) (hd : decode c.code g.pc = .ok (.bastore, 1)) :
    ∃ T' h', Stand p l e R s m args below meth c T' (locs ++ [⟨a, j.toNatClampNeg⟩]) cells slots ∧ T'.heap = h' ∧ Wr h h' a j.toNatClampNeg (.int x.toInt8.toInt32) ∧ own_Ar Z h' a .byte ((own_wr bs j x.toInt8.toInt32).map Value.int) ∧ ∀ target, Steps p.tables e below (T'.setTop { g with pc := g.pc + 1, stack := rest }) target → Steps p.tables e below (T.setTop g) target := by
  obtain ⟨cl, A, q, r, ft⟩ := A
  obtain ⟨T', h', X', e', W, st⟩ := stB X hx hZ eT A (own_in q (own_inbM hj)) hg hs hd
  exact ⟨T', h', X', e', W, ⟨_, A.same W, (own_set q).trans own_mapSet, by simpa [own_wr] using r, own_mapSet ▸ own_fits ft (fits_nar_byte _)⟩, st⟩
theorem own_stZ {bs : List Int32} {j x : Int32} (X : Stand p l e R s m args below meth c T locs cells slots) (hx : p.tables.exec = Jvm.exec) (hZ : Z.Warmed39 s.vm) (eT : T.heap = h) (A : own_Ar Z h a .boolean (bs.map Value.int)) (hj : own_inb bs j) {g : JFrame} (hg : g.method = m) {rest : List Value} (hs : g.stack = .int x :: .int j :: .ref a :: rest) (hd : decode c.code g.pc = .ok (.bastore, 1)) :
    ∃ T' h', Stand p l e R s m args below meth c T' (locs ++ [⟨a, j.toNatClampNeg⟩]) cells slots ∧ T'.heap = h' ∧ Wr h h' a j.toNatClampNeg (.int (x &&& 1)) ∧ own_Ar Z h' a .boolean ((own_wr bs j (x &&& 1)).map Value.int) ∧ ∀ target, Steps p.tables e below (T'.setTop { g with pc := g.pc + 1, stack := rest }) target → Steps p.tables e below (T.setTop g) target := by
  obtain ⟨cl, A, q, r, ft⟩ := A
  obtain ⟨T', h', X', e', W, st⟩ := stZ X hx hZ eT A (own_in q (own_inbM hj)) hg hs hd
  exact ⟨T', h', X', e', W, ⟨_, A.same W, (own_set q).trans own_mapSet, by simpa [own_wr] using r, own_mapSet ▸ own_fits ft (fits_nar_bool _)⟩, st⟩
theorem own_stJ {bs : List Int64} {j : Int32} {x : Int64} (X : Stand p l e R s m args below meth c T locs cells slots) (hx : p.tables.exec = Jvm.exec) (hZ : Z.Warmed39 s.vm) (eT : T.heap = h) (A : own_Ar Z h a .long (bs.map Value.long)) (hj : own_inb bs j) {g : JFrame} (hg : g.method = m) {rest : List Value} (hs : g.stack = .long x :: .int j :: .ref a :: rest) (hd : decode c.code g.pc = .ok (.lastore, 1)) :
    ∃ T' h', Stand p l e R s m args below meth c T' (locs ++ [⟨a, j.toNatClampNeg⟩]) cells slots ∧ T'.heap = h' ∧ Wr h h' a j.toNatClampNeg (.long x) ∧ own_Ar Z h' a .long ((own_wr bs j x).map Value.long) ∧ ∀ target, Steps p.tables e below (T'.setTop { g with pc := g.pc + 1, stack := rest }) target → Steps p.tables e below (T.setTop g) target := by
  obtain ⟨cl, A, q, r, ft⟩ := A
  obtain ⟨T', h', X', e', W, st⟩ := stJ X hx hZ eT A (own_in q (own_inbM hj)) hg hs hd
  exact ⟨T', h', X', e', W, ⟨_, A.same W, (own_set q).trans own_mapSetJ, by simpa [own_wr] using r, own_mapSetJ ▸ own_fits ft rfl⟩, st⟩
theorem own_newI {k : ClassId} {n : Int32} {kk : Nat} (A : Arr Z h a (newA k ty n) ty) (q : ¬ n < 0) (hd : defaultValue ty = .int 0) (hk : n.toNatClampNeg = kk) : own_Ar Z h a ty ((List.replicate kk (0 : Int32)).map Value.int) := hk ▸
  ⟨_, A, by simp [newA, hd], by rw [List.length_map, List.length_replicate]; exact (back32 q).2, fun v hv => by
    rw [List.map_replicate] at hv
    rw [(List.mem_replicate.mp hv).2, ← hd]; cases ty <;> rfl⟩
theorem own_newJ {k : ClassId} {n : Int32} {kk : Nat} (A : Arr Z h a (newA k ty n) ty) (q : ¬ n < 0) (hd : defaultValue ty = .long 0) (hk : n.toNatClampNeg = kk) : own_Ar Z h a ty ((List.replicate kk (0 : Int64)).map Value.long) := hk ▸
  ⟨_, A, by simp [newA, hd], by rw [List.length_map, List.length_replicate]; exact (back32 q).2, fun v hv => by
    rw [List.map_replicate] at hv
    rw [(List.mem_replicate.mp hv).2, ← hd]; cases ty <;> rfl⟩
end Own
theorem w0 {a0 : Array Value} {Z : State} (hw : ∀ d ∈ tables_1, d.before a0 Z = true) : ((Jvm.Cond.constant "com/example/rulr/rulr/TermScannerIsNameStartPinLaw" (8 : Nat) (1048575 : Int32))).before a0 Z = true := hw _ (List.mem_of_getElem? (i := 0) rfl)
theorem w1 {a0 : Array Value} {Z : State} (hw : ∀ d ∈ tables_1, d.before a0 Z = true) : ((Jvm.Cond.methodLink "com/example/rulr/rulr/TermScannerIsNameStartPinLaw" (9 : Nat) ({ cls := "com/example/rulr/rulr/TermScanner", name := "isNameStart", desc := "(I)Z" } : Jvm.MethodName))).before a0 Z = true := hw _ (List.mem_of_getElem? (i := 1) rfl)
theorem w2 {a0 : Array Value} {Z : State} (hw : ∀ d ∈ tables_1, d.before a0 Z = true) : ((Jvm.Cond.static ({ cls := "com/example/rulr/rulr/TermScanner", name := "isNameStart", desc := "(I)Z" } : Jvm.MethodName))).before a0 Z = true := hw _ (List.mem_of_getElem? (i := 2) rfl)
theorem w3 {a0 : Array Value} {Z : State} (hw : ∀ d ∈ tables_1, d.before a0 Z = true) : ((Jvm.Cond.initialized "com/example/rulr/rulr/TermScanner")).before a0 Z = true := hw _ (List.mem_of_getElem? (i := 3) rfl)
theorem w4 {a0 : Array Value} {Z : State} (hw : ∀ d ∈ tables_1, d.before a0 Z = true) : ((Jvm.Cond.code ({ cls := "com/example/rulr/rulr/TermScanner", name := "isNameStart", desc := "(I)Z" } : Jvm.MethodName) prog_93_method_18_code (1 : Nat) (Option.some Jvm.ClassFile.FieldType.boolean))).before a0 Z = true := hw _ (List.mem_of_getElem? (i := 4) rfl)
theorem w5 {a0 : Array Value} {Z : State} (hw : ∀ d ∈ tables_1, d.before a0 Z = true) : ((Jvm.Cond.methodLink "com/example/rulr/rulr/TermScanner" (159 : Nat) ({ cls := "com/example/rulr/rulr/TermScanner", name := "isAsciiLetter", desc := "(I)Z" } : Jvm.MethodName))).before a0 Z = true := hw _ (List.mem_of_getElem? (i := 5) rfl)
theorem w6 {a0 : Array Value} {Z : State} (hw : ∀ d ∈ tables_1, d.before a0 Z = true) : ((Jvm.Cond.static ({ cls := "com/example/rulr/rulr/TermScanner", name := "isAsciiLetter", desc := "(I)Z" } : Jvm.MethodName))).before a0 Z = true := hw _ (List.mem_of_getElem? (i := 6) rfl)
theorem w7 {a0 : Array Value} {Z : State} (hw : ∀ d ∈ tables_1, d.before a0 Z = true) : ((Jvm.Cond.code ({ cls := "com/example/rulr/rulr/TermScanner", name := "isAsciiLetter", desc := "(I)Z" } : Jvm.MethodName) prog_93_method_20_code (1 : Nat) (Option.some Jvm.ClassFile.FieldType.boolean))).before a0 Z = true := hw _ (List.mem_of_getElem? (i := 7) rfl)
theorem w8 {a0 : Array Value} {Z : State} (hw : ∀ d ∈ tables_1, d.before a0 Z = true) : ((Jvm.Cond.methodLink "com/example/rulr/rulr/TermScanner" (164 : Nat) ({ cls := "com/example/rulr/rulr/TermScanner", name := "isAsciiDigit", desc := "(I)Z" } : Jvm.MethodName))).before a0 Z = true := hw _ (List.mem_of_getElem? (i := 8) rfl)
theorem w9 {a0 : Array Value} {Z : State} (hw : ∀ d ∈ tables_1, d.before a0 Z = true) : ((Jvm.Cond.static ({ cls := "com/example/rulr/rulr/TermScanner", name := "isAsciiDigit", desc := "(I)Z" } : Jvm.MethodName))).before a0 Z = true := hw _ (List.mem_of_getElem? (i := 9) rfl)
theorem w10 {a0 : Array Value} {Z : State} (hw : ∀ d ∈ tables_1, d.before a0 Z = true) : ((Jvm.Cond.code ({ cls := "com/example/rulr/rulr/TermScanner", name := "isAsciiDigit", desc := "(I)Z" } : Jvm.MethodName) prog_93_method_21_code (1 : Nat) (Option.some Jvm.ClassFile.FieldType.boolean))).before a0 Z = true := hw _ (List.mem_of_getElem? (i := 10) rfl)
theorem w11 {a0 : Array Value} {Z : State} (hw : ∀ d ∈ tables_1, d.before a0 Z = true) : ((Jvm.Cond.constant "com/example/rulr/rulr/TermScanner" (194 : Nat) (63744 : Int32))).before a0 Z = true := hw _ (List.mem_of_getElem? (i := 11) rfl)
theorem w12 {a0 : Array Value} {Z : State} (hw : ∀ d ∈ tables_1, d.before a0 Z = true) : ((Jvm.Cond.constant "com/example/rulr/rulr/TermScanner" (196 : Nat) (65008 : Int32))).before a0 Z = true := hw _ (List.mem_of_getElem? (i := 12) rfl)
theorem w13 {a0 : Array Value} {Z : State} (hw : ∀ d ∈ tables_1, d.before a0 Z = true) : ((Jvm.Cond.constant "com/example/rulr/rulr/TermScanner" (198 : Nat) (65536 : Int32))).before a0 Z = true := hw _ (List.mem_of_getElem? (i := 13) rfl)
theorem w14 {a0 : Array Value} {Z : State} (hw : ∀ d ∈ tables_1, d.before a0 Z = true) : ((Jvm.Cond.methodLink "com/example/rulr/rulr/TermScannerIsNameStartPinLaw" (15 : Nat) ({ cls := "com/example/rulr/rulr/TermScannerIsNameStartPinLaw", name := "expected", desc := "(I)Z" } : Jvm.MethodName))).before a0 Z = true := hw _ (List.mem_of_getElem? (i := 14) rfl)
theorem w15 {a0 : Array Value} {Z : State} (hw : ∀ d ∈ tables_1, d.before a0 Z = true) : ((Jvm.Cond.static ({ cls := "com/example/rulr/rulr/TermScannerIsNameStartPinLaw", name := "expected", desc := "(I)Z" } : Jvm.MethodName))).before a0 Z = true := hw _ (List.mem_of_getElem? (i := 15) rfl)
theorem w16 {a0 : Array Value} {Z : State} (hw : ∀ d ∈ tables_1, d.before a0 Z = true) : ((Jvm.Cond.initialized "com/example/rulr/rulr/TermScannerIsNameStartPinLaw")).before a0 Z = true := hw _ (List.mem_of_getElem? (i := 16) rfl)
theorem w17 {a0 : Array Value} {Z : State} (hw : ∀ d ∈ tables_1, d.before a0 Z = true) : ((Jvm.Cond.code ({ cls := "com/example/rulr/rulr/TermScannerIsNameStartPinLaw", name := "expected", desc := "(I)Z" } : Jvm.MethodName) method_3_code (1 : Nat) (Option.some Jvm.ClassFile.FieldType.boolean))).before a0 Z = true := hw _ (List.mem_of_getElem? (i := 17) rfl)
theorem w18 {a0 : Array Value} {Z : State} (hw : ∀ d ∈ tables_1, d.before a0 Z = true) : ((Jvm.Cond.constant "com/example/rulr/rulr/TermScannerIsNameStartPinLaw" (20 : Nat) (983039 : Int32))).before a0 Z = true := hw _ (List.mem_of_getElem? (i := 18) rfl)
theorem w19 {a0 : Array Value} {Z : State} (hw : ∀ d ∈ tables_1, d.before a0 Z = true) : ((Jvm.Cond.constant "com/example/rulr/rulr/TermScannerIsNameStartPinLaw" (21 : Nat) (55296 : Int32))).before a0 Z = true := hw _ (List.mem_of_getElem? (i := 19) rfl)
theorem w20 {a0 : Array Value} {Z : State} (hw : ∀ d ∈ tables_1, d.before a0 Z = true) : ((Jvm.Cond.constant "com/example/rulr/rulr/TermScannerIsNameStartPinLaw" (23 : Nat) (64976 : Int32))).before a0 Z = true := hw _ (List.mem_of_getElem? (i := 20) rfl)
theorem w21 {a0 : Array Value} {Z : State} (hw : ∀ d ∈ tables_1, d.before a0 Z = true) : ((Jvm.Cond.constant "com/example/rulr/rulr/TermScannerIsNameStartPinLaw" (25 : Nat) (65534 : Int32))).before a0 Z = true := hw _ (List.mem_of_getElem? (i := 21) rfl)
theorem w22 {a0 : Array Value} {Z : State} (hw : ∀ d ∈ tables_1, d.before a0 Z = true) : ((Jvm.Cond.constant "com/example/rulr/rulr/TermScannerIsNameStartPinLaw" (7 : Nat) (65535 : Int32))).before a0 Z = true := hw _ (List.mem_of_getElem? (i := 22) rfl)
theorem w23 {a0 : Array Value} {Z : State} (hw : ∀ d ∈ tables_1, d.before a0 Z = true) : ((Jvm.Cond.constant "com/example/rulr/rulr/TermScanner" (193 : Nat) (55295 : Int32))).before a0 Z = true := hw _ (List.mem_of_getElem? (i := 23) rfl)
theorem w24 {a0 : Array Value} {Z : State} (hw : ∀ d ∈ tables_1, d.before a0 Z = true) : ((Jvm.Cond.constant "com/example/rulr/rulr/TermScanner" (195 : Nat) (64975 : Int32))).before a0 Z = true := hw _ (List.mem_of_getElem? (i := 24) rfl)
theorem w25 {a0 : Array Value} {Z : State} (hw : ∀ d ∈ tables_1, d.before a0 Z = true) : ((Jvm.Cond.constant "com/example/rulr/rulr/TermScanner" (197 : Nat) (65533 : Int32))).before a0 Z = true := hw _ (List.mem_of_getElem? (i := 25) rfl)
theorem w26 {a0 : Array Value} {Z : State} (hw : ∀ d ∈ tables_1, d.before a0 Z = true) : ((Jvm.Cond.constant "com/example/rulr/rulr/TermScanner" (199 : Nat) (983039 : Int32))).before a0 Z = true := hw _ (List.mem_of_getElem? (i := 26) rfl)
theorem w27 {a0 : Array Value} {Z : State} (hw : ∀ d ∈ tables_1, d.before a0 Z = true) : ((Jvm.Cond.constant "com/example/rulr/rulr/TermScannerIsNameStartPinLaw" (22 : Nat) (63743 : Int32))).before a0 Z = true := hw _ (List.mem_of_getElem? (i := 27) rfl)
theorem w28 {a0 : Array Value} {Z : State} (hw : ∀ d ∈ tables_1, d.before a0 Z = true) : ((Jvm.Cond.constant "com/example/rulr/rulr/TermScannerIsNameStartPinLaw" (24 : Nat) (65007 : Int32))).before a0 Z = true := hw _ (List.mem_of_getElem? (i := 28) rfl)
theorem pn_com_example_rulr_rulr_TermScanner : plainName "com/example/rulr/rulr/TermScanner" = true := by first | (simp [plainName, overriddenIn]; done) | decide +kernel
theorem pn_com_example_rulr_rulr_TermScannerIsNameStartPinLaw : plainName "com/example/rulr/rulr/TermScannerIsNameStartPinLaw" = true := by first | (simp [plainName, overriddenIn]; done) | decide +kernel
theorem pd_0 : parseMethodDescriptor "(I)Z" = some ⟨[.int], some .boolean⟩ := by decide +kernel
theorem dTermScanner_isNameStart_0 : decode prog_93_method_18_code 0 = .ok (.iload_n 0, 1) := by decide +kernel
theorem dTermScanner_isNameStart_1 : decode prog_93_method_18_code 1 = .ok (.invokestatic 159, 3) := by decide +kernel
theorem dTermScanner_isNameStart_4 : decode prog_93_method_18_code 4 = .ok (.ifCond .ne 177, 3) := by decide +kernel
theorem dTermScanner_isNameStart_7 : decode prog_93_method_18_code 7 = .ok (.iload_n 0, 1) := by decide +kernel
theorem dTermScanner_isNameStart_8 : decode prog_93_method_18_code 8 = .ok (.invokestatic 164, 3) := by decide +kernel
theorem dTermScanner_isNameStart_11 : decode prog_93_method_18_code 11 = .ok (.ifCond .ne 170, 3) := by decide +kernel
theorem dTermScanner_isNameStart_14 : decode prog_93_method_18_code 14 = .ok (.iload_n 0, 1) := by decide +kernel
theorem dTermScanner_isNameStart_15 : decode prog_93_method_18_code 15 = .ok (.bipush 95, 2) := by decide +kernel
theorem dTermScanner_isNameStart_17 : decode prog_93_method_18_code 17 = .ok (.if_icmp .eq 164, 3) := by decide +kernel
theorem dTermScanner_isNameStart_20 : decode prog_93_method_18_code 20 = .ok (.iload_n 0, 1) := by decide +kernel
theorem dTermScanner_isNameStart_21 : decode prog_93_method_18_code 21 = .ok (.sipush 192, 3) := by decide +kernel
theorem dTermScanner_isNameStart_24 : decode prog_93_method_18_code 24 = .ok (.if_icmp .lt 10, 3) := by decide +kernel
theorem dTermScanner_isNameStart_27 : decode prog_93_method_18_code 27 = .ok (.iload_n 0, 1) := by decide +kernel
theorem dTermScanner_isNameStart_28 : decode prog_93_method_18_code 28 = .ok (.sipush 214, 3) := by decide +kernel
theorem dTermScanner_isNameStart_31 : decode prog_93_method_18_code 31 = .ok (.if_icmp .le 150, 3) := by decide +kernel
theorem dTermScanner_isNameStart_34 : decode prog_93_method_18_code 34 = .ok (.iload_n 0, 1) := by decide +kernel
theorem dTermScanner_isNameStart_35 : decode prog_93_method_18_code 35 = .ok (.sipush 216, 3) := by decide +kernel
theorem dTermScanner_isNameStart_38 : decode prog_93_method_18_code 38 = .ok (.if_icmp .lt 10, 3) := by decide +kernel
theorem dTermScanner_isNameStart_41 : decode prog_93_method_18_code 41 = .ok (.iload_n 0, 1) := by decide +kernel
theorem dTermScanner_isNameStart_42 : decode prog_93_method_18_code 42 = .ok (.sipush 246, 3) := by decide +kernel
theorem dTermScanner_isNameStart_45 : decode prog_93_method_18_code 45 = .ok (.if_icmp .le 136, 3) := by decide +kernel
theorem dTermScanner_isNameStart_48 : decode prog_93_method_18_code 48 = .ok (.iload_n 0, 1) := by decide +kernel
theorem dTermScanner_isNameStart_49 : decode prog_93_method_18_code 49 = .ok (.sipush 248, 3) := by decide +kernel
theorem dTermScanner_isNameStart_52 : decode prog_93_method_18_code 52 = .ok (.if_icmp .lt 10, 3) := by decide +kernel
theorem dTermScanner_isNameStart_55 : decode prog_93_method_18_code 55 = .ok (.iload_n 0, 1) := by decide +kernel
theorem dTermScanner_isNameStart_56 : decode prog_93_method_18_code 56 = .ok (.sipush 767, 3) := by decide +kernel
theorem dTermScanner_isNameStart_59 : decode prog_93_method_18_code 59 = .ok (.if_icmp .le 122, 3) := by decide +kernel
theorem dTermScanner_isNameStart_62 : decode prog_93_method_18_code 62 = .ok (.iload_n 0, 1) := by decide +kernel
theorem dTermScanner_isNameStart_63 : decode prog_93_method_18_code 63 = .ok (.sipush 880, 3) := by decide +kernel
theorem dTermScanner_isNameStart_66 : decode prog_93_method_18_code 66 = .ok (.if_icmp .lt 10, 3) := by decide +kernel
theorem dTermScanner_isNameStart_69 : decode prog_93_method_18_code 69 = .ok (.iload_n 0, 1) := by decide +kernel
theorem dTermScanner_isNameStart_70 : decode prog_93_method_18_code 70 = .ok (.sipush 893, 3) := by decide +kernel
theorem dTermScanner_isNameStart_73 : decode prog_93_method_18_code 73 = .ok (.if_icmp .le 108, 3) := by decide +kernel
theorem dTermScanner_isNameStart_76 : decode prog_93_method_18_code 76 = .ok (.iload_n 0, 1) := by decide +kernel
theorem dTermScanner_isNameStart_77 : decode prog_93_method_18_code 77 = .ok (.sipush 895, 3) := by decide +kernel
theorem dTermScanner_isNameStart_80 : decode prog_93_method_18_code 80 = .ok (.if_icmp .lt 10, 3) := by decide +kernel
theorem dTermScanner_isNameStart_83 : decode prog_93_method_18_code 83 = .ok (.iload_n 0, 1) := by decide +kernel
theorem dTermScanner_isNameStart_84 : decode prog_93_method_18_code 84 = .ok (.sipush 8191, 3) := by decide +kernel
theorem dTermScanner_isNameStart_87 : decode prog_93_method_18_code 87 = .ok (.if_icmp .le 94, 3) := by decide +kernel
theorem dTermScanner_isNameStart_90 : decode prog_93_method_18_code 90 = .ok (.iload_n 0, 1) := by decide +kernel
theorem dTermScanner_isNameStart_91 : decode prog_93_method_18_code 91 = .ok (.sipush 8204, 3) := by decide +kernel
theorem dTermScanner_isNameStart_94 : decode prog_93_method_18_code 94 = .ok (.if_icmp .lt 10, 3) := by decide +kernel
theorem dTermScanner_isNameStart_97 : decode prog_93_method_18_code 97 = .ok (.iload_n 0, 1) := by decide +kernel
theorem dTermScanner_isNameStart_98 : decode prog_93_method_18_code 98 = .ok (.sipush 8205, 3) := by decide +kernel
theorem dTermScanner_isNameStart_101 : decode prog_93_method_18_code 101 = .ok (.if_icmp .le 80, 3) := by decide +kernel
theorem dTermScanner_isNameStart_104 : decode prog_93_method_18_code 104 = .ok (.iload_n 0, 1) := by decide +kernel
theorem dTermScanner_isNameStart_105 : decode prog_93_method_18_code 105 = .ok (.sipush 8304, 3) := by decide +kernel
theorem dTermScanner_isNameStart_108 : decode prog_93_method_18_code 108 = .ok (.if_icmp .lt 10, 3) := by decide +kernel
theorem dTermScanner_isNameStart_111 : decode prog_93_method_18_code 111 = .ok (.iload_n 0, 1) := by decide +kernel
theorem dTermScanner_isNameStart_112 : decode prog_93_method_18_code 112 = .ok (.sipush 8591, 3) := by decide +kernel
theorem dTermScanner_isNameStart_115 : decode prog_93_method_18_code 115 = .ok (.if_icmp .le 66, 3) := by decide +kernel
theorem dTermScanner_isNameStart_118 : decode prog_93_method_18_code 118 = .ok (.iload_n 0, 1) := by decide +kernel
theorem dTermScanner_isNameStart_119 : decode prog_93_method_18_code 119 = .ok (.sipush 11264, 3) := by decide +kernel
theorem dTermScanner_isNameStart_122 : decode prog_93_method_18_code 122 = .ok (.if_icmp .lt 10, 3) := by decide +kernel
theorem dTermScanner_isNameStart_125 : decode prog_93_method_18_code 125 = .ok (.iload_n 0, 1) := by decide +kernel
theorem dTermScanner_isNameStart_126 : decode prog_93_method_18_code 126 = .ok (.sipush 12271, 3) := by decide +kernel
theorem dTermScanner_isNameStart_129 : decode prog_93_method_18_code 129 = .ok (.if_icmp .le 52, 3) := by decide +kernel
theorem dTermScanner_isNameStart_132 : decode prog_93_method_18_code 132 = .ok (.iload_n 0, 1) := by decide +kernel
theorem dTermScanner_isNameStart_133 : decode prog_93_method_18_code 133 = .ok (.sipush 12289, 3) := by decide +kernel
theorem dTermScanner_isNameStart_136 : decode prog_93_method_18_code 136 = .ok (.if_icmp .lt 9, 3) := by decide +kernel
theorem dTermScanner_isNameStart_139 : decode prog_93_method_18_code 139 = .ok (.iload_n 0, 1) := by decide +kernel
theorem dTermScanner_isNameStart_140 : decode prog_93_method_18_code 140 = .ok (.ldc 193, 2) := by decide +kernel
theorem dTermScanner_isNameStart_142 : decode prog_93_method_18_code 142 = .ok (.if_icmp .le 39, 3) := by decide +kernel
theorem dTermScanner_isNameStart_145 : decode prog_93_method_18_code 145 = .ok (.iload_n 0, 1) := by decide +kernel
theorem dTermScanner_isNameStart_146 : decode prog_93_method_18_code 146 = .ok (.ldc 194, 2) := by decide +kernel
theorem dTermScanner_isNameStart_148 : decode prog_93_method_18_code 148 = .ok (.if_icmp .lt 9, 3) := by decide +kernel
theorem dTermScanner_isNameStart_151 : decode prog_93_method_18_code 151 = .ok (.iload_n 0, 1) := by decide +kernel
theorem dTermScanner_isNameStart_152 : decode prog_93_method_18_code 152 = .ok (.ldc 195, 2) := by decide +kernel
theorem dTermScanner_isNameStart_154 : decode prog_93_method_18_code 154 = .ok (.if_icmp .le 27, 3) := by decide +kernel
theorem dTermScanner_isNameStart_157 : decode prog_93_method_18_code 157 = .ok (.iload_n 0, 1) := by decide +kernel
theorem dTermScanner_isNameStart_158 : decode prog_93_method_18_code 158 = .ok (.ldc 196, 2) := by decide +kernel
theorem dTermScanner_isNameStart_160 : decode prog_93_method_18_code 160 = .ok (.if_icmp .lt 9, 3) := by decide +kernel
theorem dTermScanner_isNameStart_163 : decode prog_93_method_18_code 163 = .ok (.iload_n 0, 1) := by decide +kernel
theorem dTermScanner_isNameStart_164 : decode prog_93_method_18_code 164 = .ok (.ldc 197, 2) := by decide +kernel
theorem dTermScanner_isNameStart_166 : decode prog_93_method_18_code 166 = .ok (.if_icmp .le 15, 3) := by decide +kernel
theorem dTermScanner_isNameStart_169 : decode prog_93_method_18_code 169 = .ok (.iload_n 0, 1) := by decide +kernel
theorem dTermScanner_isNameStart_170 : decode prog_93_method_18_code 170 = .ok (.ldc 198, 2) := by decide +kernel
theorem dTermScanner_isNameStart_172 : decode prog_93_method_18_code 172 = .ok (.if_icmp .lt 13, 3) := by decide +kernel
theorem dTermScanner_isNameStart_175 : decode prog_93_method_18_code 175 = .ok (.iload_n 0, 1) := by decide +kernel
theorem dTermScanner_isNameStart_176 : decode prog_93_method_18_code 176 = .ok (.ldc 199, 2) := by decide +kernel
theorem dTermScanner_isNameStart_178 : decode prog_93_method_18_code 178 = .ok (.if_icmp .gt 7, 3) := by decide +kernel
theorem dTermScanner_isNameStart_181 : decode prog_93_method_18_code 181 = .ok (.iconst 1, 1) := by decide +kernel
theorem dTermScanner_isNameStart_182 : decode prog_93_method_18_code 182 = .ok (.goto 4, 3) := by decide +kernel
theorem dTermScanner_isNameStart_185 : decode prog_93_method_18_code 185 = .ok (.iconst 0, 1) := by decide +kernel
theorem dTermScanner_isNameStart_186 : decode prog_93_method_18_code 186 = .ok (.ireturn, 1) := by decide +kernel
theorem dTermScanner_isAsciiLetter_0 : decode prog_93_method_20_code 0 = .ok (.iload_n 0, 1) := by decide +kernel
theorem dTermScanner_isAsciiLetter_1 : decode prog_93_method_20_code 1 = .ok (.bipush 97, 2) := by decide +kernel
theorem dTermScanner_isAsciiLetter_3 : decode prog_93_method_20_code 3 = .ok (.if_icmp .lt 9, 3) := by decide +kernel
theorem dTermScanner_isAsciiLetter_6 : decode prog_93_method_20_code 6 = .ok (.iload_n 0, 1) := by decide +kernel
theorem dTermScanner_isAsciiLetter_7 : decode prog_93_method_20_code 7 = .ok (.bipush 122, 2) := by decide +kernel
theorem dTermScanner_isAsciiLetter_9 : decode prog_93_method_20_code 9 = .ok (.if_icmp .le 15, 3) := by decide +kernel
theorem dTermScanner_isAsciiLetter_12 : decode prog_93_method_20_code 12 = .ok (.iload_n 0, 1) := by decide +kernel
theorem dTermScanner_isAsciiLetter_13 : decode prog_93_method_20_code 13 = .ok (.bipush 65, 2) := by decide +kernel
theorem dTermScanner_isAsciiLetter_15 : decode prog_93_method_20_code 15 = .ok (.if_icmp .lt 13, 3) := by decide +kernel
theorem dTermScanner_isAsciiLetter_18 : decode prog_93_method_20_code 18 = .ok (.iload_n 0, 1) := by decide +kernel
theorem dTermScanner_isAsciiLetter_19 : decode prog_93_method_20_code 19 = .ok (.bipush 90, 2) := by decide +kernel
theorem dTermScanner_isAsciiLetter_21 : decode prog_93_method_20_code 21 = .ok (.if_icmp .gt 7, 3) := by decide +kernel
theorem dTermScanner_isAsciiLetter_24 : decode prog_93_method_20_code 24 = .ok (.iconst 1, 1) := by decide +kernel
theorem dTermScanner_isAsciiLetter_25 : decode prog_93_method_20_code 25 = .ok (.goto 4, 3) := by decide +kernel
theorem dTermScanner_isAsciiLetter_28 : decode prog_93_method_20_code 28 = .ok (.iconst 0, 1) := by decide +kernel
theorem dTermScanner_isAsciiLetter_29 : decode prog_93_method_20_code 29 = .ok (.ireturn, 1) := by decide +kernel
theorem dTermScanner_isAsciiDigit_0 : decode prog_93_method_21_code 0 = .ok (.iload_n 0, 1) := by decide +kernel
theorem dTermScanner_isAsciiDigit_1 : decode prog_93_method_21_code 1 = .ok (.bipush 48, 2) := by decide +kernel
theorem dTermScanner_isAsciiDigit_3 : decode prog_93_method_21_code 3 = .ok (.if_icmp .lt 13, 3) := by decide +kernel
theorem dTermScanner_isAsciiDigit_6 : decode prog_93_method_21_code 6 = .ok (.iload_n 0, 1) := by decide +kernel
theorem dTermScanner_isAsciiDigit_7 : decode prog_93_method_21_code 7 = .ok (.bipush 57, 2) := by decide +kernel
theorem dTermScanner_isAsciiDigit_9 : decode prog_93_method_21_code 9 = .ok (.if_icmp .gt 7, 3) := by decide +kernel
theorem dTermScanner_isAsciiDigit_12 : decode prog_93_method_21_code 12 = .ok (.iconst 1, 1) := by decide +kernel
theorem dTermScanner_isAsciiDigit_13 : decode prog_93_method_21_code 13 = .ok (.goto 4, 3) := by decide +kernel
theorem dTermScanner_isAsciiDigit_16 : decode prog_93_method_21_code 16 = .ok (.iconst 0, 1) := by decide +kernel
theorem dTermScanner_isAsciiDigit_17 : decode prog_93_method_21_code 17 = .ok (.ireturn, 1) := by decide +kernel
theorem dTermScannerIsNameStartPinLaw_expected_0 : decode method_3_code 0 = .ok (.iload_n 0, 1) := by decide +kernel
theorem dTermScannerIsNameStartPinLaw_expected_1 : decode method_3_code 1 = .ok (.ifCond .lt 9, 3) := by decide +kernel
theorem dTermScannerIsNameStartPinLaw_expected_4 : decode method_3_code 4 = .ok (.iload_n 0, 1) := by decide +kernel
theorem dTermScannerIsNameStartPinLaw_expected_5 : decode method_3_code 5 = .ok (.ldc 20, 2) := by decide +kernel
theorem dTermScannerIsNameStartPinLaw_expected_7 : decode method_3_code 7 = .ok (.if_icmp .le 5, 3) := by decide +kernel
theorem dTermScannerIsNameStartPinLaw_expected_10 : decode method_3_code 10 = .ok (.iconst 0, 1) := by decide +kernel
theorem dTermScannerIsNameStartPinLaw_expected_11 : decode method_3_code 11 = .ok (.ireturn, 1) := by decide +kernel
theorem dTermScannerIsNameStartPinLaw_expected_12 : decode method_3_code 12 = .ok (.iload_n 0, 1) := by decide +kernel
theorem dTermScannerIsNameStartPinLaw_expected_13 : decode method_3_code 13 = .ok (.bipush 47, 2) := by decide +kernel
theorem dTermScannerIsNameStartPinLaw_expected_15 : decode method_3_code 15 = .ok (.if_icmp .gt 5, 3) := by decide +kernel
theorem dTermScannerIsNameStartPinLaw_expected_18 : decode method_3_code 18 = .ok (.iconst 0, 1) := by decide +kernel
theorem dTermScannerIsNameStartPinLaw_expected_19 : decode method_3_code 19 = .ok (.ireturn, 1) := by decide +kernel
theorem dTermScannerIsNameStartPinLaw_expected_20 : decode method_3_code 20 = .ok (.iload_n 0, 1) := by decide +kernel
theorem dTermScannerIsNameStartPinLaw_expected_21 : decode method_3_code 21 = .ok (.bipush 58, 2) := by decide +kernel
theorem dTermScannerIsNameStartPinLaw_expected_23 : decode method_3_code 23 = .ok (.if_icmp .lt 11, 3) := by decide +kernel
theorem dTermScannerIsNameStartPinLaw_expected_26 : decode method_3_code 26 = .ok (.iload_n 0, 1) := by decide +kernel
theorem dTermScannerIsNameStartPinLaw_expected_27 : decode method_3_code 27 = .ok (.bipush 64, 2) := by decide +kernel
theorem dTermScannerIsNameStartPinLaw_expected_29 : decode method_3_code 29 = .ok (.if_icmp .gt 5, 3) := by decide +kernel
theorem dTermScannerIsNameStartPinLaw_expected_32 : decode method_3_code 32 = .ok (.iconst 0, 1) := by decide +kernel
theorem dTermScannerIsNameStartPinLaw_expected_33 : decode method_3_code 33 = .ok (.ireturn, 1) := by decide +kernel
theorem dTermScannerIsNameStartPinLaw_expected_34 : decode method_3_code 34 = .ok (.iload_n 0, 1) := by decide +kernel
theorem dTermScannerIsNameStartPinLaw_expected_35 : decode method_3_code 35 = .ok (.bipush 91, 2) := by decide +kernel
theorem dTermScannerIsNameStartPinLaw_expected_37 : decode method_3_code 37 = .ok (.if_icmp .lt 11, 3) := by decide +kernel
theorem dTermScannerIsNameStartPinLaw_expected_40 : decode method_3_code 40 = .ok (.iload_n 0, 1) := by decide +kernel
theorem dTermScannerIsNameStartPinLaw_expected_41 : decode method_3_code 41 = .ok (.bipush 94, 2) := by decide +kernel
theorem dTermScannerIsNameStartPinLaw_expected_43 : decode method_3_code 43 = .ok (.if_icmp .gt 5, 3) := by decide +kernel
theorem dTermScannerIsNameStartPinLaw_expected_46 : decode method_3_code 46 = .ok (.iconst 0, 1) := by decide +kernel
theorem dTermScannerIsNameStartPinLaw_expected_47 : decode method_3_code 47 = .ok (.ireturn, 1) := by decide +kernel
theorem dTermScannerIsNameStartPinLaw_expected_48 : decode method_3_code 48 = .ok (.iload_n 0, 1) := by decide +kernel
theorem dTermScannerIsNameStartPinLaw_expected_49 : decode method_3_code 49 = .ok (.bipush 96, 2) := by decide +kernel
theorem dTermScannerIsNameStartPinLaw_expected_51 : decode method_3_code 51 = .ok (.if_icmp .ne 5, 3) := by decide +kernel
theorem dTermScannerIsNameStartPinLaw_expected_54 : decode method_3_code 54 = .ok (.iconst 0, 1) := by decide +kernel
theorem dTermScannerIsNameStartPinLaw_expected_55 : decode method_3_code 55 = .ok (.ireturn, 1) := by decide +kernel
theorem dTermScannerIsNameStartPinLaw_expected_56 : decode method_3_code 56 = .ok (.iload_n 0, 1) := by decide +kernel
theorem dTermScannerIsNameStartPinLaw_expected_57 : decode method_3_code 57 = .ok (.bipush 123, 2) := by decide +kernel
theorem dTermScannerIsNameStartPinLaw_expected_59 : decode method_3_code 59 = .ok (.if_icmp .lt 12, 3) := by decide +kernel
theorem dTermScannerIsNameStartPinLaw_expected_62 : decode method_3_code 62 = .ok (.iload_n 0, 1) := by decide +kernel
theorem dTermScannerIsNameStartPinLaw_expected_63 : decode method_3_code 63 = .ok (.sipush 191, 3) := by decide +kernel
theorem dTermScannerIsNameStartPinLaw_expected_66 : decode method_3_code 66 = .ok (.if_icmp .gt 5, 3) := by decide +kernel
theorem dTermScannerIsNameStartPinLaw_expected_69 : decode method_3_code 69 = .ok (.iconst 0, 1) := by decide +kernel
theorem dTermScannerIsNameStartPinLaw_expected_70 : decode method_3_code 70 = .ok (.ireturn, 1) := by decide +kernel
theorem dTermScannerIsNameStartPinLaw_expected_71 : decode method_3_code 71 = .ok (.iload_n 0, 1) := by decide +kernel
theorem dTermScannerIsNameStartPinLaw_expected_72 : decode method_3_code 72 = .ok (.sipush 215, 3) := by decide +kernel
theorem dTermScannerIsNameStartPinLaw_expected_75 : decode method_3_code 75 = .ok (.if_icmp .eq 10, 3) := by decide +kernel
theorem dTermScannerIsNameStartPinLaw_expected_78 : decode method_3_code 78 = .ok (.iload_n 0, 1) := by decide +kernel
theorem dTermScannerIsNameStartPinLaw_expected_79 : decode method_3_code 79 = .ok (.sipush 247, 3) := by decide +kernel
theorem dTermScannerIsNameStartPinLaw_expected_82 : decode method_3_code 82 = .ok (.if_icmp .ne 5, 3) := by decide +kernel
theorem dTermScannerIsNameStartPinLaw_expected_85 : decode method_3_code 85 = .ok (.iconst 0, 1) := by decide +kernel
theorem dTermScannerIsNameStartPinLaw_expected_86 : decode method_3_code 86 = .ok (.ireturn, 1) := by decide +kernel
theorem dTermScannerIsNameStartPinLaw_expected_87 : decode method_3_code 87 = .ok (.iload_n 0, 1) := by decide +kernel
theorem dTermScannerIsNameStartPinLaw_expected_88 : decode method_3_code 88 = .ok (.sipush 768, 3) := by decide +kernel
theorem dTermScannerIsNameStartPinLaw_expected_91 : decode method_3_code 91 = .ok (.if_icmp .lt 12, 3) := by decide +kernel
theorem dTermScannerIsNameStartPinLaw_expected_94 : decode method_3_code 94 = .ok (.iload_n 0, 1) := by decide +kernel
theorem dTermScannerIsNameStartPinLaw_expected_95 : decode method_3_code 95 = .ok (.sipush 879, 3) := by decide +kernel
theorem dTermScannerIsNameStartPinLaw_expected_98 : decode method_3_code 98 = .ok (.if_icmp .gt 5, 3) := by decide +kernel
theorem dTermScannerIsNameStartPinLaw_expected_101 : decode method_3_code 101 = .ok (.iconst 0, 1) := by decide +kernel
theorem dTermScannerIsNameStartPinLaw_expected_102 : decode method_3_code 102 = .ok (.ireturn, 1) := by decide +kernel
theorem dTermScannerIsNameStartPinLaw_expected_103 : decode method_3_code 103 = .ok (.iload_n 0, 1) := by decide +kernel
theorem dTermScannerIsNameStartPinLaw_expected_104 : decode method_3_code 104 = .ok (.sipush 894, 3) := by decide +kernel
theorem dTermScannerIsNameStartPinLaw_expected_107 : decode method_3_code 107 = .ok (.if_icmp .ne 5, 3) := by decide +kernel
theorem dTermScannerIsNameStartPinLaw_expected_110 : decode method_3_code 110 = .ok (.iconst 0, 1) := by decide +kernel
theorem dTermScannerIsNameStartPinLaw_expected_111 : decode method_3_code 111 = .ok (.ireturn, 1) := by decide +kernel
theorem dTermScannerIsNameStartPinLaw_expected_112 : decode method_3_code 112 = .ok (.iload_n 0, 1) := by decide +kernel
theorem dTermScannerIsNameStartPinLaw_expected_113 : decode method_3_code 113 = .ok (.sipush 8192, 3) := by decide +kernel
theorem dTermScannerIsNameStartPinLaw_expected_116 : decode method_3_code 116 = .ok (.if_icmp .lt 12, 3) := by decide +kernel
theorem dTermScannerIsNameStartPinLaw_expected_119 : decode method_3_code 119 = .ok (.iload_n 0, 1) := by decide +kernel
theorem dTermScannerIsNameStartPinLaw_expected_120 : decode method_3_code 120 = .ok (.sipush 8203, 3) := by decide +kernel
theorem dTermScannerIsNameStartPinLaw_expected_123 : decode method_3_code 123 = .ok (.if_icmp .gt 5, 3) := by decide +kernel
theorem dTermScannerIsNameStartPinLaw_expected_126 : decode method_3_code 126 = .ok (.iconst 0, 1) := by decide +kernel
theorem dTermScannerIsNameStartPinLaw_expected_127 : decode method_3_code 127 = .ok (.ireturn, 1) := by decide +kernel
theorem dTermScannerIsNameStartPinLaw_expected_128 : decode method_3_code 128 = .ok (.iload_n 0, 1) := by decide +kernel
theorem dTermScannerIsNameStartPinLaw_expected_129 : decode method_3_code 129 = .ok (.sipush 8206, 3) := by decide +kernel
theorem dTermScannerIsNameStartPinLaw_expected_132 : decode method_3_code 132 = .ok (.if_icmp .lt 12, 3) := by decide +kernel
theorem dTermScannerIsNameStartPinLaw_expected_135 : decode method_3_code 135 = .ok (.iload_n 0, 1) := by decide +kernel
theorem dTermScannerIsNameStartPinLaw_expected_136 : decode method_3_code 136 = .ok (.sipush 8303, 3) := by decide +kernel
theorem dTermScannerIsNameStartPinLaw_expected_139 : decode method_3_code 139 = .ok (.if_icmp .gt 5, 3) := by decide +kernel
theorem dTermScannerIsNameStartPinLaw_expected_142 : decode method_3_code 142 = .ok (.iconst 0, 1) := by decide +kernel
theorem dTermScannerIsNameStartPinLaw_expected_143 : decode method_3_code 143 = .ok (.ireturn, 1) := by decide +kernel
theorem dTermScannerIsNameStartPinLaw_expected_144 : decode method_3_code 144 = .ok (.iload_n 0, 1) := by decide +kernel
theorem dTermScannerIsNameStartPinLaw_expected_145 : decode method_3_code 145 = .ok (.sipush 8592, 3) := by decide +kernel
theorem dTermScannerIsNameStartPinLaw_expected_148 : decode method_3_code 148 = .ok (.if_icmp .lt 12, 3) := by decide +kernel
theorem dTermScannerIsNameStartPinLaw_expected_151 : decode method_3_code 151 = .ok (.iload_n 0, 1) := by decide +kernel
theorem dTermScannerIsNameStartPinLaw_expected_152 : decode method_3_code 152 = .ok (.sipush 11263, 3) := by decide +kernel
theorem dTermScannerIsNameStartPinLaw_expected_155 : decode method_3_code 155 = .ok (.if_icmp .gt 5, 3) := by decide +kernel
theorem dTermScannerIsNameStartPinLaw_expected_158 : decode method_3_code 158 = .ok (.iconst 0, 1) := by decide +kernel
theorem dTermScannerIsNameStartPinLaw_expected_159 : decode method_3_code 159 = .ok (.ireturn, 1) := by decide +kernel
theorem dTermScannerIsNameStartPinLaw_expected_160 : decode method_3_code 160 = .ok (.iload_n 0, 1) := by decide +kernel
theorem dTermScannerIsNameStartPinLaw_expected_161 : decode method_3_code 161 = .ok (.sipush 12272, 3) := by decide +kernel
theorem dTermScannerIsNameStartPinLaw_expected_164 : decode method_3_code 164 = .ok (.if_icmp .lt 12, 3) := by decide +kernel
theorem dTermScannerIsNameStartPinLaw_expected_167 : decode method_3_code 167 = .ok (.iload_n 0, 1) := by decide +kernel
theorem dTermScannerIsNameStartPinLaw_expected_168 : decode method_3_code 168 = .ok (.sipush 12288, 3) := by decide +kernel
theorem dTermScannerIsNameStartPinLaw_expected_171 : decode method_3_code 171 = .ok (.if_icmp .gt 5, 3) := by decide +kernel
theorem dTermScannerIsNameStartPinLaw_expected_174 : decode method_3_code 174 = .ok (.iconst 0, 1) := by decide +kernel
theorem dTermScannerIsNameStartPinLaw_expected_175 : decode method_3_code 175 = .ok (.ireturn, 1) := by decide +kernel
theorem dTermScannerIsNameStartPinLaw_expected_176 : decode method_3_code 176 = .ok (.iload_n 0, 1) := by decide +kernel
theorem dTermScannerIsNameStartPinLaw_expected_177 : decode method_3_code 177 = .ok (.ldc 21, 2) := by decide +kernel
theorem dTermScannerIsNameStartPinLaw_expected_179 : decode method_3_code 179 = .ok (.if_icmp .lt 11, 3) := by decide +kernel
theorem dTermScannerIsNameStartPinLaw_expected_182 : decode method_3_code 182 = .ok (.iload_n 0, 1) := by decide +kernel
theorem dTermScannerIsNameStartPinLaw_expected_183 : decode method_3_code 183 = .ok (.ldc 22, 2) := by decide +kernel
theorem dTermScannerIsNameStartPinLaw_expected_185 : decode method_3_code 185 = .ok (.if_icmp .gt 5, 3) := by decide +kernel
theorem dTermScannerIsNameStartPinLaw_expected_188 : decode method_3_code 188 = .ok (.iconst 0, 1) := by decide +kernel
theorem dTermScannerIsNameStartPinLaw_expected_189 : decode method_3_code 189 = .ok (.ireturn, 1) := by decide +kernel
theorem dTermScannerIsNameStartPinLaw_expected_190 : decode method_3_code 190 = .ok (.iload_n 0, 1) := by decide +kernel
theorem dTermScannerIsNameStartPinLaw_expected_191 : decode method_3_code 191 = .ok (.ldc 23, 2) := by decide +kernel
theorem dTermScannerIsNameStartPinLaw_expected_193 : decode method_3_code 193 = .ok (.if_icmp .lt 11, 3) := by decide +kernel
theorem dTermScannerIsNameStartPinLaw_expected_196 : decode method_3_code 196 = .ok (.iload_n 0, 1) := by decide +kernel
theorem dTermScannerIsNameStartPinLaw_expected_197 : decode method_3_code 197 = .ok (.ldc 24, 2) := by decide +kernel
theorem dTermScannerIsNameStartPinLaw_expected_199 : decode method_3_code 199 = .ok (.if_icmp .gt 5, 3) := by decide +kernel
theorem dTermScannerIsNameStartPinLaw_expected_202 : decode method_3_code 202 = .ok (.iconst 0, 1) := by decide +kernel
theorem dTermScannerIsNameStartPinLaw_expected_203 : decode method_3_code 203 = .ok (.ireturn, 1) := by decide +kernel
theorem dTermScannerIsNameStartPinLaw_expected_204 : decode method_3_code 204 = .ok (.iload_n 0, 1) := by decide +kernel
theorem dTermScannerIsNameStartPinLaw_expected_205 : decode method_3_code 205 = .ok (.ldc 25, 2) := by decide +kernel
theorem dTermScannerIsNameStartPinLaw_expected_207 : decode method_3_code 207 = .ok (.if_icmp .eq 9, 3) := by decide +kernel
theorem dTermScannerIsNameStartPinLaw_expected_210 : decode method_3_code 210 = .ok (.iload_n 0, 1) := by decide +kernel
theorem dTermScannerIsNameStartPinLaw_expected_211 : decode method_3_code 211 = .ok (.ldc 7, 2) := by decide +kernel
theorem dTermScannerIsNameStartPinLaw_expected_213 : decode method_3_code 213 = .ok (.if_icmp .ne 5, 3) := by decide +kernel
theorem dTermScannerIsNameStartPinLaw_expected_216 : decode method_3_code 216 = .ok (.iconst 0, 1) := by decide +kernel
theorem dTermScannerIsNameStartPinLaw_expected_217 : decode method_3_code 217 = .ok (.ireturn, 1) := by decide +kernel
theorem dTermScannerIsNameStartPinLaw_expected_218 : decode method_3_code 218 = .ok (.iconst 1, 1) := by decide +kernel
theorem dTermScannerIsNameStartPinLaw_expected_219 : decode method_3_code 219 = .ok (.ireturn, 1) := by decide +kernel
/-! com/example/rulr/rulr/TermScanner.isAsciiLetter:(I)Z -/
def f_TermScanner_isAsciiLetter (v0 : Int32) : Option (Int32) :=
  if v0 < (97 : Int32) then
    if v0 < (65 : Int32) then
      some (0 : Int32)
    else
      if (90 : Int32) < v0 then
        some (0 : Int32)
      else
        some (1 : Int32)
  else
    if (122 : Int32) < v0 then
      if v0 < (65 : Int32) then
        some (0 : Int32)
      else
        if (90 : Int32) < v0 then
          some (0 : Int32)
        else
          some (1 : Int32)
    else
      some (1 : Int32)
def Q_TermScanner_isAsciiLetter (Z : State) (hE : Heap) (n0 : Nat)  (r : Int32) (v : Option Value) (h : Heap) (L : List Loc) : Prop := v = some (.int r) ∧ Fr n0 L ∧ h = hE
def Cx_TermScanner_isAsciiLetter (p : Program) (s : State) (m : MethodId) (meth : Method) (c : Code) (Z : State) (a0 : Array Value) : Prop := p.tables.exec = Jvm.exec ∧ Z.Warmed39 s.vm ∧ (∀ d ∈ tables_1, d.before a0 Z = true) ∧ c.code = prog_93_method_20_code ∧ c.maxLocals = 1 ∧ s.vm.findClass "com/example/rulr/rulr/TermScanner" = some m.cls ∧ meth.sig.returnType = some .boolean ∧ meth.locks = false ∧ meth.name = "isAsciiLetter"
set_option maxRecDepth 65536 in
set_option maxHeartbeats 4000000 in
theorem b_TermScanner_isAsciiLetter {p : Program} {l : Launch} {e : Env} {s : State} {m : MethodId} {args : Array Value} {below : List Frame} {meth : Method} {c : Code} {Z : State} {a0 : Array Value} {n0 : Nat} {hE : Heap} (cx : Cx_TermScanner_isAsciiLetter p s m meth c Z a0) :
    ∀ {T : State} {locs : List Loc} (X : Stand p l e ({ frames := 0, cells := 0, slots := 0, locals := 0 } : Room) s m args below meth c T locs 0 0) (eT : T.heap = hE) (N : Fr n0 locs) (z : n0 ≤ hE.size) (v0 : Int32) (r : Int32), f_TermScanner_isAsciiLetter v0 = some r → own_Goes p e below s (Q_TermScanner_isAsciiLetter Z hE n0 r) 0 0 (T.setTop (mkF m 0 #[.val (.int v0)] [])) := by
  have cx' := cx
  obtain ⟨hx, hZ, hw, hby, hml, hown, hret, hlk, hnm⟩ := cx'
  intro T locs X eT N z v0 r hF
  unfold f_TermScanner_isAsciiLetter at hF
  refine own_Goes.via (B := T.setTop (mkF m 3 #[.val (.int v0)] [(.int (97 : Int32)), (.int v0)])) (fun t k => ?_) ?_
  · show Steps p.tables e below (T.setTop (mkF m 0 #[.val (.int v0)] [])) t
    refine XS.iloadN X.here hx rfl (hb hby dTermScanner_isAsciiLetter_0) rfl ?_
    show Steps p.tables e below (T.setTop (mkF m 1 #[.val (.int v0)] [(.int v0)])) t
    refine XS.bipush X.here hx rfl (hb hby dTermScanner_isAsciiLetter_1) ?_
    exact k
  by_cases hc3 : v0 < (97 : Int32)
  · rw [if_pos hc3] at hF
    refine own_Goes.via (B := T.setTop (mkF m 15 #[.val (.int v0)] [(.int (65 : Int32)), (.int v0)])) (fun t k => ?_) ?_
    · show Steps p.tables e below (T.setTop (mkF m 3 #[.val (.int v0)] [(.int (97 : Int32)), (.int v0)])) t
      refine XS.icmpYes X.here hx rfl (pc0 := 3) (pc' := 12) rfl (hb hby dTermScanner_isAsciiLetter_3) rfl (tlt hc3).1 (by decide) (by decide) ?_
      show Steps p.tables e below (T.setTop (mkF m 12 #[.val (.int v0)] [])) t
      refine XS.iloadN X.here hx rfl (hb hby dTermScanner_isAsciiLetter_12) rfl ?_
      show Steps p.tables e below (T.setTop (mkF m 13 #[.val (.int v0)] [(.int v0)])) t
      refine XS.bipush X.here hx rfl (hb hby dTermScanner_isAsciiLetter_13) ?_
      exact k
    by_cases hc15 : v0 < (65 : Int32)
    · rw [if_pos hc15] at hF
      refine own_Goes.via (B := T.setTop (mkF m 29 #[.val (.int v0)] [(.int (0 : Int32))])) (fun t k => ?_) ?_
      · show Steps p.tables e below (T.setTop (mkF m 15 #[.val (.int v0)] [(.int (65 : Int32)), (.int v0)])) t
        refine XS.icmpYes X.here hx rfl (pc0 := 15) (pc' := 28) rfl (hb hby dTermScanner_isAsciiLetter_15) rfl (tlt hc15).1 (by decide) (by decide) ?_
        show Steps p.tables e below (T.setTop (mkF m 28 #[.val (.int v0)] [])) t
        refine XS.iconst X.here hx rfl (hb hby dTermScanner_isAsciiLetter_28) ?_
        exact k
      obtain rfl : (0 : Int32) = r := Option.some.inj hF
      exact own_retN X hx (t := .boolean) hret hlk (by simp) (hb hby dTermScanner_isAsciiLetter_29) eT (v := (0 : Int32)) (by decide) ⟨rfl, N, rfl⟩ (by decide) (by decide)
    · rw [if_neg hc15] at hF
      refine own_Goes.via (B := T.setTop (mkF m 21 #[.val (.int v0)] [(.int (90 : Int32)), (.int v0)])) (fun t k => ?_) ?_
      · show Steps p.tables e below (T.setTop (mkF m 15 #[.val (.int v0)] [(.int (65 : Int32)), (.int v0)])) t
        refine XS.icmpNo X.here hx rfl (hb hby dTermScanner_isAsciiLetter_15) rfl (flt hc15).1 ?_
        show Steps p.tables e below (T.setTop (mkF m 18 #[.val (.int v0)] [])) t
        refine XS.iloadN X.here hx rfl (hb hby dTermScanner_isAsciiLetter_18) rfl ?_
        show Steps p.tables e below (T.setTop (mkF m 19 #[.val (.int v0)] [(.int v0)])) t
        refine XS.bipush X.here hx rfl (hb hby dTermScanner_isAsciiLetter_19) ?_
        exact k
      by_cases hc21 : (90 : Int32) < v0
      · rw [if_pos hc21] at hF
        refine own_Goes.via (B := T.setTop (mkF m 29 #[.val (.int v0)] [(.int (0 : Int32))])) (fun t k => ?_) ?_
        · show Steps p.tables e below (T.setTop (mkF m 21 #[.val (.int v0)] [(.int (90 : Int32)), (.int v0)])) t
          refine XS.icmpYes X.here hx rfl (pc0 := 21) (pc' := 28) rfl (hb hby dTermScanner_isAsciiLetter_21) rfl (tlt hc21).2.2.1 (by decide) (by decide) ?_
          show Steps p.tables e below (T.setTop (mkF m 28 #[.val (.int v0)] [])) t
          refine XS.iconst X.here hx rfl (hb hby dTermScanner_isAsciiLetter_28) ?_
          exact k
        obtain rfl : (0 : Int32) = r := Option.some.inj hF
        exact own_retN X hx (t := .boolean) hret hlk (by simp) (hb hby dTermScanner_isAsciiLetter_29) eT (v := (0 : Int32)) (by decide) ⟨rfl, N, rfl⟩ (by decide) (by decide)
      · rw [if_neg hc21] at hF
        refine own_Goes.via (B := T.setTop (mkF m 29 #[.val (.int v0)] [(.int (1 : Int32))])) (fun t k => ?_) ?_
        · show Steps p.tables e below (T.setTop (mkF m 21 #[.val (.int v0)] [(.int (90 : Int32)), (.int v0)])) t
          refine XS.icmpNo X.here hx rfl (hb hby dTermScanner_isAsciiLetter_21) rfl (flt hc21).2.2.1 ?_
          show Steps p.tables e below (T.setTop (mkF m 24 #[.val (.int v0)] [])) t
          refine XS.iconst X.here hx rfl (hb hby dTermScanner_isAsciiLetter_24) ?_
          show Steps p.tables e below (T.setTop (mkF m 25 #[.val (.int v0)] [(.int (1 : Int32))])) t
          refine XS.goto X.here hx rfl (pc0 := 25) (pc' := 29) rfl (hb hby dTermScanner_isAsciiLetter_25) (by decide) (by decide) ?_
          exact k
        obtain rfl : (1 : Int32) = r := Option.some.inj hF
        exact own_retN X hx (t := .boolean) hret hlk (by simp) (hb hby dTermScanner_isAsciiLetter_29) eT (v := (1 : Int32)) (by decide) ⟨rfl, N, rfl⟩ (by decide) (by decide)
  · rw [if_neg hc3] at hF
    refine own_Goes.via (B := T.setTop (mkF m 9 #[.val (.int v0)] [(.int (122 : Int32)), (.int v0)])) (fun t k => ?_) ?_
    · show Steps p.tables e below (T.setTop (mkF m 3 #[.val (.int v0)] [(.int (97 : Int32)), (.int v0)])) t
      refine XS.icmpNo X.here hx rfl (hb hby dTermScanner_isAsciiLetter_3) rfl (flt hc3).1 ?_
      show Steps p.tables e below (T.setTop (mkF m 6 #[.val (.int v0)] [])) t
      refine XS.iloadN X.here hx rfl (hb hby dTermScanner_isAsciiLetter_6) rfl ?_
      show Steps p.tables e below (T.setTop (mkF m 7 #[.val (.int v0)] [(.int v0)])) t
      refine XS.bipush X.here hx rfl (hb hby dTermScanner_isAsciiLetter_7) ?_
      exact k
    by_cases hc9 : (122 : Int32) < v0
    · rw [if_pos hc9] at hF
      refine own_Goes.via (B := T.setTop (mkF m 15 #[.val (.int v0)] [(.int (65 : Int32)), (.int v0)])) (fun t k => ?_) ?_
      · show Steps p.tables e below (T.setTop (mkF m 9 #[.val (.int v0)] [(.int (122 : Int32)), (.int v0)])) t
        refine XS.icmpNo X.here hx rfl (hb hby dTermScanner_isAsciiLetter_9) rfl (tlt hc9).2.2.2 ?_
        show Steps p.tables e below (T.setTop (mkF m 12 #[.val (.int v0)] [])) t
        refine XS.iloadN X.here hx rfl (hb hby dTermScanner_isAsciiLetter_12) rfl ?_
        show Steps p.tables e below (T.setTop (mkF m 13 #[.val (.int v0)] [(.int v0)])) t
        refine XS.bipush X.here hx rfl (hb hby dTermScanner_isAsciiLetter_13) ?_
        exact k
      by_cases hc15 : v0 < (65 : Int32)
      · rw [if_pos hc15] at hF
        refine own_Goes.via (B := T.setTop (mkF m 29 #[.val (.int v0)] [(.int (0 : Int32))])) (fun t k => ?_) ?_
        · show Steps p.tables e below (T.setTop (mkF m 15 #[.val (.int v0)] [(.int (65 : Int32)), (.int v0)])) t
          refine XS.icmpYes X.here hx rfl (pc0 := 15) (pc' := 28) rfl (hb hby dTermScanner_isAsciiLetter_15) rfl (tlt hc15).1 (by decide) (by decide) ?_
          show Steps p.tables e below (T.setTop (mkF m 28 #[.val (.int v0)] [])) t
          refine XS.iconst X.here hx rfl (hb hby dTermScanner_isAsciiLetter_28) ?_
          exact k
        obtain rfl : (0 : Int32) = r := Option.some.inj hF
        exact own_retN X hx (t := .boolean) hret hlk (by simp) (hb hby dTermScanner_isAsciiLetter_29) eT (v := (0 : Int32)) (by decide) ⟨rfl, N, rfl⟩ (by decide) (by decide)
      · rw [if_neg hc15] at hF
        refine own_Goes.via (B := T.setTop (mkF m 21 #[.val (.int v0)] [(.int (90 : Int32)), (.int v0)])) (fun t k => ?_) ?_
        · show Steps p.tables e below (T.setTop (mkF m 15 #[.val (.int v0)] [(.int (65 : Int32)), (.int v0)])) t
          refine XS.icmpNo X.here hx rfl (hb hby dTermScanner_isAsciiLetter_15) rfl (flt hc15).1 ?_
          show Steps p.tables e below (T.setTop (mkF m 18 #[.val (.int v0)] [])) t
          refine XS.iloadN X.here hx rfl (hb hby dTermScanner_isAsciiLetter_18) rfl ?_
          show Steps p.tables e below (T.setTop (mkF m 19 #[.val (.int v0)] [(.int v0)])) t
          refine XS.bipush X.here hx rfl (hb hby dTermScanner_isAsciiLetter_19) ?_
          exact k
        by_cases hc21 : (90 : Int32) < v0
        · rw [if_pos hc21] at hF
          refine own_Goes.via (B := T.setTop (mkF m 29 #[.val (.int v0)] [(.int (0 : Int32))])) (fun t k => ?_) ?_
          · show Steps p.tables e below (T.setTop (mkF m 21 #[.val (.int v0)] [(.int (90 : Int32)), (.int v0)])) t
            refine XS.icmpYes X.here hx rfl (pc0 := 21) (pc' := 28) rfl (hb hby dTermScanner_isAsciiLetter_21) rfl (tlt hc21).2.2.1 (by decide) (by decide) ?_
            show Steps p.tables e below (T.setTop (mkF m 28 #[.val (.int v0)] [])) t
            refine XS.iconst X.here hx rfl (hb hby dTermScanner_isAsciiLetter_28) ?_
            exact k
          obtain rfl : (0 : Int32) = r := Option.some.inj hF
          exact own_retN X hx (t := .boolean) hret hlk (by simp) (hb hby dTermScanner_isAsciiLetter_29) eT (v := (0 : Int32)) (by decide) ⟨rfl, N, rfl⟩ (by decide) (by decide)
        · rw [if_neg hc21] at hF
          refine own_Goes.via (B := T.setTop (mkF m 29 #[.val (.int v0)] [(.int (1 : Int32))])) (fun t k => ?_) ?_
          · show Steps p.tables e below (T.setTop (mkF m 21 #[.val (.int v0)] [(.int (90 : Int32)), (.int v0)])) t
            refine XS.icmpNo X.here hx rfl (hb hby dTermScanner_isAsciiLetter_21) rfl (flt hc21).2.2.1 ?_
            show Steps p.tables e below (T.setTop (mkF m 24 #[.val (.int v0)] [])) t
            refine XS.iconst X.here hx rfl (hb hby dTermScanner_isAsciiLetter_24) ?_
            show Steps p.tables e below (T.setTop (mkF m 25 #[.val (.int v0)] [(.int (1 : Int32))])) t
            refine XS.goto X.here hx rfl (pc0 := 25) (pc' := 29) rfl (hb hby dTermScanner_isAsciiLetter_25) (by decide) (by decide) ?_
            exact k
          obtain rfl : (1 : Int32) = r := Option.some.inj hF
          exact own_retN X hx (t := .boolean) hret hlk (by simp) (hb hby dTermScanner_isAsciiLetter_29) eT (v := (1 : Int32)) (by decide) ⟨rfl, N, rfl⟩ (by decide) (by decide)
    · rw [if_neg hc9] at hF
      refine own_Goes.via (B := T.setTop (mkF m 29 #[.val (.int v0)] [(.int (1 : Int32))])) (fun t k => ?_) ?_
      · show Steps p.tables e below (T.setTop (mkF m 9 #[.val (.int v0)] [(.int (122 : Int32)), (.int v0)])) t
        refine XS.icmpYes X.here hx rfl (pc0 := 9) (pc' := 24) rfl (hb hby dTermScanner_isAsciiLetter_9) rfl (flt hc9).2.2.2 (by decide) (by decide) ?_
        show Steps p.tables e below (T.setTop (mkF m 24 #[.val (.int v0)] [])) t
        refine XS.iconst X.here hx rfl (hb hby dTermScanner_isAsciiLetter_24) ?_
        show Steps p.tables e below (T.setTop (mkF m 25 #[.val (.int v0)] [(.int (1 : Int32))])) t
        refine XS.goto X.here hx rfl (pc0 := 25) (pc' := 29) rfl (hb hby dTermScanner_isAsciiLetter_25) (by decide) (by decide) ?_
        exact k
      obtain rfl : (1 : Int32) = r := Option.some.inj hF
      exact own_retN X hx (t := .boolean) hret hlk (by simp) (hb hby dTermScanner_isAsciiLetter_29) eT (v := (1 : Int32)) (by decide) ⟨rfl, N, rfl⟩ (by decide) (by decide)
theorem ef_TermScanner_isAsciiLetter (m : MethodId) (x0 : Int32) : entryFrame m #[(.int x0)] 1 = mkF m 0 #[.val (.int x0)] [] := by first | (simp [entryFrame, mkF, argsToLocals, Value.category]; done) | rfl
set_option maxRecDepth 65536 in
set_option maxHeartbeats 4000000 in
theorem rm_TermScanner_isAsciiLetter (l : Launch) (Z : State) (a0 : Array Value) (hw : ∀ d ∈ tables_1, d.before a0 Z = true) (ws : List Jvm.Cond) (hE : Heap) (n0 : Nat) (z : n0 ≤ hE.size)  (v0 : Int32) (r : Int32) (hF : (f_TermScanner_isAsciiLetter v0) = some r) :
    MetFree l (⟨"com/example/rulr/rulr/TermScanner", "isAsciiLetter", "(I)Z"⟩ : MethodName) (head1 (Jvm.Cond.code (⟨"com/example/rulr/rulr/TermScanner", "isAsciiLetter", "(I)Z"⟩ : MethodName) prog_93_method_20_code 1 (some .boolean) :: ws) ({ frames := 0, cells := 0, slots := 0, locals := 0 } : Room)) (fun a U => a = #[(.int v0)] ∧ Z.Warmed39 U.vm ∧ U.heap = hE) (fun _ _ _ _ _ => True) (fun _ U o U' => ∃ v L, o = .returned v ∧ (Q_TermScanner_isAsciiLetter Z hE n0 r) v U'.heap L ∧ FrameEnd U o U' L ({ frames := 0, cells := 0, slots := 0, locals := 0 } : Room).cells ({ frames := 0, cells := 0, slots := 0, locals := 0 } : Room).slots) := by
  refine MetFree.of_bodySF (plainFor_of_name pn_com_example_rulr_rulr_TermScanner) hisR ?_
  intro p e s m args below meth c s₁ Bd hml0 hP hK
  obtain ⟨rfl, hZ, hh⟩ := hP
  have X0 : Stand p l e ({ frames := 0, cells := 0, slots := 0, locals := 0 } : Room) s m #[(.int v0)] below meth c s₁ [] 0 0 := Stand.of_body Bd
  have e0 : s₁.heap = hE := by rw [← hh, Bd.state]; rfl
  have cx : Cx_TermScanner_isAsciiLetter p s m meth c Z a0 := ⟨Bd.exec, hZ, hw, Bd.bytes, hml0, findClass_of_methodNamed Bd.named, Bd.returns, Bd.notSynchronized, (name_of_methodNamed Bd.named Bd.method).1⟩
  show own_Goes p e below s (Q_TermScanner_isAsciiLetter Z hE n0 r) ({ frames := 0, cells := 0, slots := 0, locals := 0 } : Room).cells ({ frames := 0, cells := 0, slots := 0, locals := 0 } : Room).slots (s₁.setTop (entryFrame m #[(.int v0)] 1))
  rw [ef_TermScanner_isAsciiLetter]
  exact b_TermScanner_isAsciiLetter cx X0 e0 (Fr.nil n0) z v0 _ hF
/-! com/example/rulr/rulr/TermScanner.isAsciiDigit:(I)Z -/
def f_TermScanner_isAsciiDigit (v0 : Int32) : Option (Int32) :=
  if v0 < (48 : Int32) then
    some (0 : Int32)
  else
    if (57 : Int32) < v0 then
      some (0 : Int32)
    else
      some (1 : Int32)
def Q_TermScanner_isAsciiDigit (Z : State) (hE : Heap) (n0 : Nat)  (r : Int32) (v : Option Value) (h : Heap) (L : List Loc) : Prop := v = some (.int r) ∧ Fr n0 L ∧ h = hE
def Cx_TermScanner_isAsciiDigit (p : Program) (s : State) (m : MethodId) (meth : Method) (c : Code) (Z : State) (a0 : Array Value) : Prop := p.tables.exec = Jvm.exec ∧ Z.Warmed39 s.vm ∧ (∀ d ∈ tables_1, d.before a0 Z = true) ∧ c.code = prog_93_method_21_code ∧ c.maxLocals = 1 ∧ s.vm.findClass "com/example/rulr/rulr/TermScanner" = some m.cls ∧ meth.sig.returnType = some .boolean ∧ meth.locks = false ∧ meth.name = "isAsciiDigit"
set_option maxRecDepth 65536 in
set_option maxHeartbeats 4000000 in
theorem b_TermScanner_isAsciiDigit {p : Program} {l : Launch} {e : Env} {s : State} {m : MethodId} {args : Array Value} {below : List Frame} {meth : Method} {c : Code} {Z : State} {a0 : Array Value} {n0 : Nat} {hE : Heap} (cx : Cx_TermScanner_isAsciiDigit p s m meth c Z a0) :
    ∀ {T : State} {locs : List Loc} (X : Stand p l e ({ frames := 0, cells := 0, slots := 0, locals := 0 } : Room) s m args below meth c T locs 0 0) (eT : T.heap = hE) (N : Fr n0 locs) (z : n0 ≤ hE.size) (v0 : Int32) (r : Int32), f_TermScanner_isAsciiDigit v0 = some r → own_Goes p e below s (Q_TermScanner_isAsciiDigit Z hE n0 r) 0 0 (T.setTop (mkF m 0 #[.val (.int v0)] [])) := by
  have cx' := cx
  obtain ⟨hx, hZ, hw, hby, hml, hown, hret, hlk, hnm⟩ := cx'
  intro T locs X eT N z v0 r hF
  unfold f_TermScanner_isAsciiDigit at hF
  refine own_Goes.via (B := T.setTop (mkF m 3 #[.val (.int v0)] [(.int (48 : Int32)), (.int v0)])) (fun t k => ?_) ?_
  · show Steps p.tables e below (T.setTop (mkF m 0 #[.val (.int v0)] [])) t
    refine XS.iloadN X.here hx rfl (hb hby dTermScanner_isAsciiDigit_0) rfl ?_
    show Steps p.tables e below (T.setTop (mkF m 1 #[.val (.int v0)] [(.int v0)])) t
    refine XS.bipush X.here hx rfl (hb hby dTermScanner_isAsciiDigit_1) ?_
    exact k
  by_cases hc3 : v0 < (48 : Int32)
  · rw [if_pos hc3] at hF
    refine own_Goes.via (B := T.setTop (mkF m 17 #[.val (.int v0)] [(.int (0 : Int32))])) (fun t k => ?_) ?_
    · show Steps p.tables e below (T.setTop (mkF m 3 #[.val (.int v0)] [(.int (48 : Int32)), (.int v0)])) t
      refine XS.icmpYes X.here hx rfl (pc0 := 3) (pc' := 16) rfl (hb hby dTermScanner_isAsciiDigit_3) rfl (tlt hc3).1 (by decide) (by decide) ?_
      show Steps p.tables e below (T.setTop (mkF m 16 #[.val (.int v0)] [])) t
      refine XS.iconst X.here hx rfl (hb hby dTermScanner_isAsciiDigit_16) ?_
      exact k
    obtain rfl : (0 : Int32) = r := Option.some.inj hF
    exact own_retN X hx (t := .boolean) hret hlk (by simp) (hb hby dTermScanner_isAsciiDigit_17) eT (v := (0 : Int32)) (by decide) ⟨rfl, N, rfl⟩ (by decide) (by decide)
  · rw [if_neg hc3] at hF
    refine own_Goes.via (B := T.setTop (mkF m 9 #[.val (.int v0)] [(.int (57 : Int32)), (.int v0)])) (fun t k => ?_) ?_
    · show Steps p.tables e below (T.setTop (mkF m 3 #[.val (.int v0)] [(.int (48 : Int32)), (.int v0)])) t
      refine XS.icmpNo X.here hx rfl (hb hby dTermScanner_isAsciiDigit_3) rfl (flt hc3).1 ?_
      show Steps p.tables e below (T.setTop (mkF m 6 #[.val (.int v0)] [])) t
      refine XS.iloadN X.here hx rfl (hb hby dTermScanner_isAsciiDigit_6) rfl ?_
      show Steps p.tables e below (T.setTop (mkF m 7 #[.val (.int v0)] [(.int v0)])) t
      refine XS.bipush X.here hx rfl (hb hby dTermScanner_isAsciiDigit_7) ?_
      exact k
    by_cases hc9 : (57 : Int32) < v0
    · rw [if_pos hc9] at hF
      refine own_Goes.via (B := T.setTop (mkF m 17 #[.val (.int v0)] [(.int (0 : Int32))])) (fun t k => ?_) ?_
      · show Steps p.tables e below (T.setTop (mkF m 9 #[.val (.int v0)] [(.int (57 : Int32)), (.int v0)])) t
        refine XS.icmpYes X.here hx rfl (pc0 := 9) (pc' := 16) rfl (hb hby dTermScanner_isAsciiDigit_9) rfl (tlt hc9).2.2.1 (by decide) (by decide) ?_
        show Steps p.tables e below (T.setTop (mkF m 16 #[.val (.int v0)] [])) t
        refine XS.iconst X.here hx rfl (hb hby dTermScanner_isAsciiDigit_16) ?_
        exact k
      obtain rfl : (0 : Int32) = r := Option.some.inj hF
      exact own_retN X hx (t := .boolean) hret hlk (by simp) (hb hby dTermScanner_isAsciiDigit_17) eT (v := (0 : Int32)) (by decide) ⟨rfl, N, rfl⟩ (by decide) (by decide)
    · rw [if_neg hc9] at hF
      refine own_Goes.via (B := T.setTop (mkF m 17 #[.val (.int v0)] [(.int (1 : Int32))])) (fun t k => ?_) ?_
      · show Steps p.tables e below (T.setTop (mkF m 9 #[.val (.int v0)] [(.int (57 : Int32)), (.int v0)])) t
        refine XS.icmpNo X.here hx rfl (hb hby dTermScanner_isAsciiDigit_9) rfl (flt hc9).2.2.1 ?_
        show Steps p.tables e below (T.setTop (mkF m 12 #[.val (.int v0)] [])) t
        refine XS.iconst X.here hx rfl (hb hby dTermScanner_isAsciiDigit_12) ?_
        show Steps p.tables e below (T.setTop (mkF m 13 #[.val (.int v0)] [(.int (1 : Int32))])) t
        refine XS.goto X.here hx rfl (pc0 := 13) (pc' := 17) rfl (hb hby dTermScanner_isAsciiDigit_13) (by decide) (by decide) ?_
        exact k
      obtain rfl : (1 : Int32) = r := Option.some.inj hF
      exact own_retN X hx (t := .boolean) hret hlk (by simp) (hb hby dTermScanner_isAsciiDigit_17) eT (v := (1 : Int32)) (by decide) ⟨rfl, N, rfl⟩ (by decide) (by decide)
theorem ef_TermScanner_isAsciiDigit (m : MethodId) (x0 : Int32) : entryFrame m #[(.int x0)] 1 = mkF m 0 #[.val (.int x0)] [] := by first | (simp [entryFrame, mkF, argsToLocals, Value.category]; done) | rfl
set_option maxRecDepth 65536 in
set_option maxHeartbeats 4000000 in
theorem rm_TermScanner_isAsciiDigit (l : Launch) (Z : State) (a0 : Array Value) (hw : ∀ d ∈ tables_1, d.before a0 Z = true) (ws : List Jvm.Cond) (hE : Heap) (n0 : Nat) (z : n0 ≤ hE.size)  (v0 : Int32) (r : Int32) (hF : (f_TermScanner_isAsciiDigit v0) = some r) :
    MetFree l (⟨"com/example/rulr/rulr/TermScanner", "isAsciiDigit", "(I)Z"⟩ : MethodName) (head1 (Jvm.Cond.code (⟨"com/example/rulr/rulr/TermScanner", "isAsciiDigit", "(I)Z"⟩ : MethodName) prog_93_method_21_code 1 (some .boolean) :: ws) ({ frames := 0, cells := 0, slots := 0, locals := 0 } : Room)) (fun a U => a = #[(.int v0)] ∧ Z.Warmed39 U.vm ∧ U.heap = hE) (fun _ _ _ _ _ => True) (fun _ U o U' => ∃ v L, o = .returned v ∧ (Q_TermScanner_isAsciiDigit Z hE n0 r) v U'.heap L ∧ FrameEnd U o U' L ({ frames := 0, cells := 0, slots := 0, locals := 0 } : Room).cells ({ frames := 0, cells := 0, slots := 0, locals := 0 } : Room).slots) := by
  refine MetFree.of_bodySF (plainFor_of_name pn_com_example_rulr_rulr_TermScanner) hisR ?_
  intro p e s m args below meth c s₁ Bd hml0 hP hK
  obtain ⟨rfl, hZ, hh⟩ := hP
  have X0 : Stand p l e ({ frames := 0, cells := 0, slots := 0, locals := 0 } : Room) s m #[(.int v0)] below meth c s₁ [] 0 0 := Stand.of_body Bd
  have e0 : s₁.heap = hE := by rw [← hh, Bd.state]; rfl
  have cx : Cx_TermScanner_isAsciiDigit p s m meth c Z a0 := ⟨Bd.exec, hZ, hw, Bd.bytes, hml0, findClass_of_methodNamed Bd.named, Bd.returns, Bd.notSynchronized, (name_of_methodNamed Bd.named Bd.method).1⟩
  show own_Goes p e below s (Q_TermScanner_isAsciiDigit Z hE n0 r) ({ frames := 0, cells := 0, slots := 0, locals := 0 } : Room).cells ({ frames := 0, cells := 0, slots := 0, locals := 0 } : Room).slots (s₁.setTop (entryFrame m #[(.int v0)] 1))
  rw [ef_TermScanner_isAsciiDigit]
  exact b_TermScanner_isAsciiDigit cx X0 e0 (Fr.nil n0) z v0 _ hF
/-! com/example/rulr/rulr/TermScanner.isNameStart:(I)Z -/
def f_TermScanner_isNameStart_157 (v0 : Int32) : Option (Int32) :=
  if v0 < (65008 : Int32) then
    if v0 < (65536 : Int32) then
      some (0 : Int32)
    else
      if (983039 : Int32) < v0 then
        some (0 : Int32)
      else
        some (1 : Int32)
  else
    if (65533 : Int32) < v0 then
      if v0 < (65536 : Int32) then
        some (0 : Int32)
      else
        if (983039 : Int32) < v0 then
          some (0 : Int32)
        else
          some (1 : Int32)
    else
      some (1 : Int32)
def f_TermScanner_isNameStart_132 (v0 : Int32) : Option (Int32) :=
  if v0 < (12289 : Int32) then
    if v0 < (63744 : Int32) then
      (f_TermScanner_isNameStart_157 v0)
    else
      if (64975 : Int32) < v0 then
        (f_TermScanner_isNameStart_157 v0)
      else
        some (1 : Int32)
  else
    if (55295 : Int32) < v0 then
      if v0 < (63744 : Int32) then
        (f_TermScanner_isNameStart_157 v0)
      else
        if (64975 : Int32) < v0 then
          (f_TermScanner_isNameStart_157 v0)
        else
          some (1 : Int32)
    else
      some (1 : Int32)
def f_TermScanner_isNameStart_104 (v0 : Int32) : Option (Int32) :=
  if v0 < (8304 : Int32) then
    if v0 < (11264 : Int32) then
      (f_TermScanner_isNameStart_132 v0)
    else
      if (12271 : Int32) < v0 then
        (f_TermScanner_isNameStart_132 v0)
      else
        some (1 : Int32)
  else
    if (8591 : Int32) < v0 then
      if v0 < (11264 : Int32) then
        (f_TermScanner_isNameStart_132 v0)
      else
        if (12271 : Int32) < v0 then
          (f_TermScanner_isNameStart_132 v0)
        else
          some (1 : Int32)
    else
      some (1 : Int32)
def f_TermScanner_isNameStart_76 (v0 : Int32) : Option (Int32) :=
  if v0 < (895 : Int32) then
    if v0 < (8204 : Int32) then
      (f_TermScanner_isNameStart_104 v0)
    else
      if (8205 : Int32) < v0 then
        (f_TermScanner_isNameStart_104 v0)
      else
        some (1 : Int32)
  else
    if (8191 : Int32) < v0 then
      if v0 < (8204 : Int32) then
        (f_TermScanner_isNameStart_104 v0)
      else
        if (8205 : Int32) < v0 then
          (f_TermScanner_isNameStart_104 v0)
        else
          some (1 : Int32)
    else
      some (1 : Int32)
def f_TermScanner_isNameStart_48 (v0 : Int32) : Option (Int32) :=
  if v0 < (248 : Int32) then
    if v0 < (880 : Int32) then
      (f_TermScanner_isNameStart_76 v0)
    else
      if (893 : Int32) < v0 then
        (f_TermScanner_isNameStart_76 v0)
      else
        some (1 : Int32)
  else
    if (767 : Int32) < v0 then
      if v0 < (880 : Int32) then
        (f_TermScanner_isNameStart_76 v0)
      else
        if (893 : Int32) < v0 then
          (f_TermScanner_isNameStart_76 v0)
        else
          some (1 : Int32)
    else
      some (1 : Int32)
def f_TermScanner_isNameStart (v0 : Int32) : Option (Int32) :=
  own_bd (f_TermScanner_isAsciiLetter v0) fun r9 =>
  if r9 = (0 : Int32) then
    own_bd (f_TermScanner_isAsciiDigit v0) fun r10 =>
    if r10 = (0 : Int32) then
      if v0 = (95 : Int32) then
        some (1 : Int32)
      else
        if v0 < (192 : Int32) then
          if v0 < (216 : Int32) then
            (f_TermScanner_isNameStart_48 v0)
          else
            if (246 : Int32) < v0 then
              (f_TermScanner_isNameStart_48 v0)
            else
              some (1 : Int32)
        else
          if (214 : Int32) < v0 then
            if v0 < (216 : Int32) then
              (f_TermScanner_isNameStart_48 v0)
            else
              if (246 : Int32) < v0 then
                (f_TermScanner_isNameStart_48 v0)
              else
                some (1 : Int32)
          else
            some (1 : Int32)
    else
      some (1 : Int32)
  else
    some (1 : Int32)
def Q_TermScanner_isNameStart (Z : State) (hE : Heap) (n0 : Nat)  (r : Int32) (v : Option Value) (h : Heap) (L : List Loc) : Prop := v = some (.int r) ∧ Fr n0 L ∧ h = hE
def Cx_TermScanner_isNameStart (p : Program) (s : State) (m : MethodId) (meth : Method) (c : Code) (Z : State) (a0 : Array Value) : Prop := p.tables.exec = Jvm.exec ∧ Z.Warmed39 s.vm ∧ (∀ d ∈ tables_1, d.before a0 Z = true) ∧ c.code = prog_93_method_18_code ∧ c.maxLocals = 1 ∧ s.vm.findClass "com/example/rulr/rulr/TermScanner" = some m.cls ∧ meth.sig.returnType = some .boolean ∧ meth.locks = false ∧ meth.name = "isNameStart"
set_option maxRecDepth 65536 in
set_option maxHeartbeats 4000000 in
theorem b_TermScanner_isNameStart_157 {p : Program} {l : Launch} {e : Env} {s : State} {m : MethodId} {args : Array Value} {below : List Frame} {meth : Method} {c : Code} {Z : State} {a0 : Array Value} {n0 : Nat} {hE : Heap} (cx : Cx_TermScanner_isNameStart p s m meth c Z a0) :
    ∀ {T : State} {locs : List Loc} (X : Stand p l e ({ frames := 1, cells := 0, slots := 0, locals := 12 } : Room) s m args below meth c T locs 0 0) (eT : T.heap = hE) (N : Fr n0 locs) (z : n0 ≤ hE.size) (v0 : Int32) (r : Int32), f_TermScanner_isNameStart_157 v0 = some r → own_Goes p e below s (Q_TermScanner_isNameStart Z hE n0 r) 0 0 (T.setTop (mkF m 157 #[.val (.int v0)] [])) := by
  have cx' := cx
  obtain ⟨hx, hZ, hw, hby, hml, hown, hret, hlk, hnm⟩ := cx'
  intro T locs X eT N z v0 r hF
  unfold f_TermScanner_isNameStart_157 at hF
  refine own_Goes.via (B := T.setTop (mkF m 160 #[.val (.int v0)] [(.int (65008 : Int32)), (.int v0)])) (fun t k => ?_) ?_
  · show Steps p.tables e below (T.setTop (mkF m 157 #[.val (.int v0)] [])) t
    refine XS.iloadN X.here hx rfl (hb hby dTermScanner_isNameStart_157) rfl ?_
    show Steps p.tables e below (T.setTop (mkF m 158 #[.val (.int v0)] [(.int v0)])) t
    refine X.ldcInt hx hown (mvT hZ (w12 hw)) (g := (mkF m 158 #[.val (.int v0)] [(.int v0)])) rfl (hb hby dTermScanner_isNameStart_158) _ ?_
    exact k
  by_cases hc160 : v0 < (65008 : Int32)
  · rw [if_pos hc160] at hF
    refine own_Goes.via (B := T.setTop (mkF m 172 #[.val (.int v0)] [(.int (65536 : Int32)), (.int v0)])) (fun t k => ?_) ?_
    · show Steps p.tables e below (T.setTop (mkF m 160 #[.val (.int v0)] [(.int (65008 : Int32)), (.int v0)])) t
      refine XS.icmpYes X.here hx rfl (pc0 := 160) (pc' := 169) rfl (hb hby dTermScanner_isNameStart_160) rfl (tlt hc160).1 (by decide) (by decide) ?_
      show Steps p.tables e below (T.setTop (mkF m 169 #[.val (.int v0)] [])) t
      refine XS.iloadN X.here hx rfl (hb hby dTermScanner_isNameStart_169) rfl ?_
      show Steps p.tables e below (T.setTop (mkF m 170 #[.val (.int v0)] [(.int v0)])) t
      refine X.ldcInt hx hown (mvT hZ (w13 hw)) (g := (mkF m 170 #[.val (.int v0)] [(.int v0)])) rfl (hb hby dTermScanner_isNameStart_170) _ ?_
      exact k
    by_cases hc172 : v0 < (65536 : Int32)
    · rw [if_pos hc172] at hF
      refine own_Goes.via (B := T.setTop (mkF m 186 #[.val (.int v0)] [(.int (0 : Int32))])) (fun t k => ?_) ?_
      · show Steps p.tables e below (T.setTop (mkF m 172 #[.val (.int v0)] [(.int (65536 : Int32)), (.int v0)])) t
        refine XS.icmpYes X.here hx rfl (pc0 := 172) (pc' := 185) rfl (hb hby dTermScanner_isNameStart_172) rfl (tlt hc172).1 (by decide) (by decide) ?_
        show Steps p.tables e below (T.setTop (mkF m 185 #[.val (.int v0)] [])) t
        refine XS.iconst X.here hx rfl (hb hby dTermScanner_isNameStart_185) ?_
        exact k
      obtain rfl : (0 : Int32) = r := Option.some.inj hF
      exact own_retN X hx (t := .boolean) hret hlk (by simp) (hb hby dTermScanner_isNameStart_186) eT (v := (0 : Int32)) (by decide) ⟨rfl, N, rfl⟩ (by decide) (by decide)
    · rw [if_neg hc172] at hF
      refine own_Goes.via (B := T.setTop (mkF m 178 #[.val (.int v0)] [(.int (983039 : Int32)), (.int v0)])) (fun t k => ?_) ?_
      · show Steps p.tables e below (T.setTop (mkF m 172 #[.val (.int v0)] [(.int (65536 : Int32)), (.int v0)])) t
        refine XS.icmpNo X.here hx rfl (hb hby dTermScanner_isNameStart_172) rfl (flt hc172).1 ?_
        show Steps p.tables e below (T.setTop (mkF m 175 #[.val (.int v0)] [])) t
        refine XS.iloadN X.here hx rfl (hb hby dTermScanner_isNameStart_175) rfl ?_
        show Steps p.tables e below (T.setTop (mkF m 176 #[.val (.int v0)] [(.int v0)])) t
        refine X.ldcInt hx hown (mvT hZ (w26 hw)) (g := (mkF m 176 #[.val (.int v0)] [(.int v0)])) rfl (hb hby dTermScanner_isNameStart_176) _ ?_
        exact k
      by_cases hc178 : (983039 : Int32) < v0
      · rw [if_pos hc178] at hF
        refine own_Goes.via (B := T.setTop (mkF m 186 #[.val (.int v0)] [(.int (0 : Int32))])) (fun t k => ?_) ?_
        · show Steps p.tables e below (T.setTop (mkF m 178 #[.val (.int v0)] [(.int (983039 : Int32)), (.int v0)])) t
          refine XS.icmpYes X.here hx rfl (pc0 := 178) (pc' := 185) rfl (hb hby dTermScanner_isNameStart_178) rfl (tlt hc178).2.2.1 (by decide) (by decide) ?_
          show Steps p.tables e below (T.setTop (mkF m 185 #[.val (.int v0)] [])) t
          refine XS.iconst X.here hx rfl (hb hby dTermScanner_isNameStart_185) ?_
          exact k
        obtain rfl : (0 : Int32) = r := Option.some.inj hF
        exact own_retN X hx (t := .boolean) hret hlk (by simp) (hb hby dTermScanner_isNameStart_186) eT (v := (0 : Int32)) (by decide) ⟨rfl, N, rfl⟩ (by decide) (by decide)
      · rw [if_neg hc178] at hF
        refine own_Goes.via (B := T.setTop (mkF m 186 #[.val (.int v0)] [(.int (1 : Int32))])) (fun t k => ?_) ?_
        · show Steps p.tables e below (T.setTop (mkF m 178 #[.val (.int v0)] [(.int (983039 : Int32)), (.int v0)])) t
          refine XS.icmpNo X.here hx rfl (hb hby dTermScanner_isNameStart_178) rfl (flt hc178).2.2.1 ?_
          show Steps p.tables e below (T.setTop (mkF m 181 #[.val (.int v0)] [])) t
          refine XS.iconst X.here hx rfl (hb hby dTermScanner_isNameStart_181) ?_
          show Steps p.tables e below (T.setTop (mkF m 182 #[.val (.int v0)] [(.int (1 : Int32))])) t
          refine XS.goto X.here hx rfl (pc0 := 182) (pc' := 186) rfl (hb hby dTermScanner_isNameStart_182) (by decide) (by decide) ?_
          exact k
        obtain rfl : (1 : Int32) = r := Option.some.inj hF
        exact own_retN X hx (t := .boolean) hret hlk (by simp) (hb hby dTermScanner_isNameStart_186) eT (v := (1 : Int32)) (by decide) ⟨rfl, N, rfl⟩ (by decide) (by decide)
  · rw [if_neg hc160] at hF
    refine own_Goes.via (B := T.setTop (mkF m 166 #[.val (.int v0)] [(.int (65533 : Int32)), (.int v0)])) (fun t k => ?_) ?_
    · show Steps p.tables e below (T.setTop (mkF m 160 #[.val (.int v0)] [(.int (65008 : Int32)), (.int v0)])) t
      refine XS.icmpNo X.here hx rfl (hb hby dTermScanner_isNameStart_160) rfl (flt hc160).1 ?_
      show Steps p.tables e below (T.setTop (mkF m 163 #[.val (.int v0)] [])) t
      refine XS.iloadN X.here hx rfl (hb hby dTermScanner_isNameStart_163) rfl ?_
      show Steps p.tables e below (T.setTop (mkF m 164 #[.val (.int v0)] [(.int v0)])) t
      refine X.ldcInt hx hown (mvT hZ (w25 hw)) (g := (mkF m 164 #[.val (.int v0)] [(.int v0)])) rfl (hb hby dTermScanner_isNameStart_164) _ ?_
      exact k
    by_cases hc166 : (65533 : Int32) < v0
    · rw [if_pos hc166] at hF
      refine own_Goes.via (B := T.setTop (mkF m 172 #[.val (.int v0)] [(.int (65536 : Int32)), (.int v0)])) (fun t k => ?_) ?_
      · show Steps p.tables e below (T.setTop (mkF m 166 #[.val (.int v0)] [(.int (65533 : Int32)), (.int v0)])) t
        refine XS.icmpNo X.here hx rfl (hb hby dTermScanner_isNameStart_166) rfl (tlt hc166).2.2.2 ?_
        show Steps p.tables e below (T.setTop (mkF m 169 #[.val (.int v0)] [])) t
        refine XS.iloadN X.here hx rfl (hb hby dTermScanner_isNameStart_169) rfl ?_
        show Steps p.tables e below (T.setTop (mkF m 170 #[.val (.int v0)] [(.int v0)])) t
        refine X.ldcInt hx hown (mvT hZ (w13 hw)) (g := (mkF m 170 #[.val (.int v0)] [(.int v0)])) rfl (hb hby dTermScanner_isNameStart_170) _ ?_
        exact k
      by_cases hc172 : v0 < (65536 : Int32)
      · rw [if_pos hc172] at hF
        refine own_Goes.via (B := T.setTop (mkF m 186 #[.val (.int v0)] [(.int (0 : Int32))])) (fun t k => ?_) ?_
        · show Steps p.tables e below (T.setTop (mkF m 172 #[.val (.int v0)] [(.int (65536 : Int32)), (.int v0)])) t
          refine XS.icmpYes X.here hx rfl (pc0 := 172) (pc' := 185) rfl (hb hby dTermScanner_isNameStart_172) rfl (tlt hc172).1 (by decide) (by decide) ?_
          show Steps p.tables e below (T.setTop (mkF m 185 #[.val (.int v0)] [])) t
          refine XS.iconst X.here hx rfl (hb hby dTermScanner_isNameStart_185) ?_
          exact k
        obtain rfl : (0 : Int32) = r := Option.some.inj hF
        exact own_retN X hx (t := .boolean) hret hlk (by simp) (hb hby dTermScanner_isNameStart_186) eT (v := (0 : Int32)) (by decide) ⟨rfl, N, rfl⟩ (by decide) (by decide)
      · rw [if_neg hc172] at hF
        refine own_Goes.via (B := T.setTop (mkF m 178 #[.val (.int v0)] [(.int (983039 : Int32)), (.int v0)])) (fun t k => ?_) ?_
        · show Steps p.tables e below (T.setTop (mkF m 172 #[.val (.int v0)] [(.int (65536 : Int32)), (.int v0)])) t
          refine XS.icmpNo X.here hx rfl (hb hby dTermScanner_isNameStart_172) rfl (flt hc172).1 ?_
          show Steps p.tables e below (T.setTop (mkF m 175 #[.val (.int v0)] [])) t
          refine XS.iloadN X.here hx rfl (hb hby dTermScanner_isNameStart_175) rfl ?_
          show Steps p.tables e below (T.setTop (mkF m 176 #[.val (.int v0)] [(.int v0)])) t
          refine X.ldcInt hx hown (mvT hZ (w26 hw)) (g := (mkF m 176 #[.val (.int v0)] [(.int v0)])) rfl (hb hby dTermScanner_isNameStart_176) _ ?_
          exact k
        by_cases hc178 : (983039 : Int32) < v0
        · rw [if_pos hc178] at hF
          refine own_Goes.via (B := T.setTop (mkF m 186 #[.val (.int v0)] [(.int (0 : Int32))])) (fun t k => ?_) ?_
          · show Steps p.tables e below (T.setTop (mkF m 178 #[.val (.int v0)] [(.int (983039 : Int32)), (.int v0)])) t
            refine XS.icmpYes X.here hx rfl (pc0 := 178) (pc' := 185) rfl (hb hby dTermScanner_isNameStart_178) rfl (tlt hc178).2.2.1 (by decide) (by decide) ?_
            show Steps p.tables e below (T.setTop (mkF m 185 #[.val (.int v0)] [])) t
            refine XS.iconst X.here hx rfl (hb hby dTermScanner_isNameStart_185) ?_
            exact k
          obtain rfl : (0 : Int32) = r := Option.some.inj hF
          exact own_retN X hx (t := .boolean) hret hlk (by simp) (hb hby dTermScanner_isNameStart_186) eT (v := (0 : Int32)) (by decide) ⟨rfl, N, rfl⟩ (by decide) (by decide)
        · rw [if_neg hc178] at hF
          refine own_Goes.via (B := T.setTop (mkF m 186 #[.val (.int v0)] [(.int (1 : Int32))])) (fun t k => ?_) ?_
          · show Steps p.tables e below (T.setTop (mkF m 178 #[.val (.int v0)] [(.int (983039 : Int32)), (.int v0)])) t
            refine XS.icmpNo X.here hx rfl (hb hby dTermScanner_isNameStart_178) rfl (flt hc178).2.2.1 ?_
            show Steps p.tables e below (T.setTop (mkF m 181 #[.val (.int v0)] [])) t
            refine XS.iconst X.here hx rfl (hb hby dTermScanner_isNameStart_181) ?_
            show Steps p.tables e below (T.setTop (mkF m 182 #[.val (.int v0)] [(.int (1 : Int32))])) t
            refine XS.goto X.here hx rfl (pc0 := 182) (pc' := 186) rfl (hb hby dTermScanner_isNameStart_182) (by decide) (by decide) ?_
            exact k
          obtain rfl : (1 : Int32) = r := Option.some.inj hF
          exact own_retN X hx (t := .boolean) hret hlk (by simp) (hb hby dTermScanner_isNameStart_186) eT (v := (1 : Int32)) (by decide) ⟨rfl, N, rfl⟩ (by decide) (by decide)
    · rw [if_neg hc166] at hF
      refine own_Goes.via (B := T.setTop (mkF m 186 #[.val (.int v0)] [(.int (1 : Int32))])) (fun t k => ?_) ?_
      · show Steps p.tables e below (T.setTop (mkF m 166 #[.val (.int v0)] [(.int (65533 : Int32)), (.int v0)])) t
        refine XS.icmpYes X.here hx rfl (pc0 := 166) (pc' := 181) rfl (hb hby dTermScanner_isNameStart_166) rfl (flt hc166).2.2.2 (by decide) (by decide) ?_
        show Steps p.tables e below (T.setTop (mkF m 181 #[.val (.int v0)] [])) t
        refine XS.iconst X.here hx rfl (hb hby dTermScanner_isNameStart_181) ?_
        show Steps p.tables e below (T.setTop (mkF m 182 #[.val (.int v0)] [(.int (1 : Int32))])) t
        refine XS.goto X.here hx rfl (pc0 := 182) (pc' := 186) rfl (hb hby dTermScanner_isNameStart_182) (by decide) (by decide) ?_
        exact k
      obtain rfl : (1 : Int32) = r := Option.some.inj hF
      exact own_retN X hx (t := .boolean) hret hlk (by simp) (hb hby dTermScanner_isNameStart_186) eT (v := (1 : Int32)) (by decide) ⟨rfl, N, rfl⟩ (by decide) (by decide)
set_option maxRecDepth 65536 in
set_option maxHeartbeats 4000000 in
theorem b_TermScanner_isNameStart_132 {p : Program} {l : Launch} {e : Env} {s : State} {m : MethodId} {args : Array Value} {below : List Frame} {meth : Method} {c : Code} {Z : State} {a0 : Array Value} {n0 : Nat} {hE : Heap} (cx : Cx_TermScanner_isNameStart p s m meth c Z a0) :
    ∀ {T : State} {locs : List Loc} (X : Stand p l e ({ frames := 1, cells := 0, slots := 0, locals := 12 } : Room) s m args below meth c T locs 0 0) (eT : T.heap = hE) (N : Fr n0 locs) (z : n0 ≤ hE.size) (v0 : Int32) (r : Int32), f_TermScanner_isNameStart_132 v0 = some r → own_Goes p e below s (Q_TermScanner_isNameStart Z hE n0 r) 0 0 (T.setTop (mkF m 132 #[.val (.int v0)] [])) := by
  have cx' := cx
  obtain ⟨hx, hZ, hw, hby, hml, hown, hret, hlk, hnm⟩ := cx'
  intro T locs X eT N z v0 r hF
  unfold f_TermScanner_isNameStart_132 at hF
  refine own_Goes.via (B := T.setTop (mkF m 136 #[.val (.int v0)] [(.int (12289 : Int32)), (.int v0)])) (fun t k => ?_) ?_
  · show Steps p.tables e below (T.setTop (mkF m 132 #[.val (.int v0)] [])) t
    refine XS.iloadN X.here hx rfl (hb hby dTermScanner_isNameStart_132) rfl ?_
    show Steps p.tables e below (T.setTop (mkF m 133 #[.val (.int v0)] [(.int v0)])) t
    refine XS.sipush X.here hx rfl (hb hby dTermScanner_isNameStart_133) ?_
    exact k
  by_cases hc136 : v0 < (12289 : Int32)
  · rw [if_pos hc136] at hF
    refine own_Goes.via (B := T.setTop (mkF m 148 #[.val (.int v0)] [(.int (63744 : Int32)), (.int v0)])) (fun t k => ?_) ?_
    · show Steps p.tables e below (T.setTop (mkF m 136 #[.val (.int v0)] [(.int (12289 : Int32)), (.int v0)])) t
      refine XS.icmpYes X.here hx rfl (pc0 := 136) (pc' := 145) rfl (hb hby dTermScanner_isNameStart_136) rfl (tlt hc136).1 (by decide) (by decide) ?_
      show Steps p.tables e below (T.setTop (mkF m 145 #[.val (.int v0)] [])) t
      refine XS.iloadN X.here hx rfl (hb hby dTermScanner_isNameStart_145) rfl ?_
      show Steps p.tables e below (T.setTop (mkF m 146 #[.val (.int v0)] [(.int v0)])) t
      refine X.ldcInt hx hown (mvT hZ (w11 hw)) (g := (mkF m 146 #[.val (.int v0)] [(.int v0)])) rfl (hb hby dTermScanner_isNameStart_146) _ ?_
      exact k
    by_cases hc148 : v0 < (63744 : Int32)
    · rw [if_pos hc148] at hF
      refine own_Goes.via (B := T.setTop (mkF m 157 #[.val (.int v0)] [])) (fun t k => ?_) ?_
      · show Steps p.tables e below (T.setTop (mkF m 148 #[.val (.int v0)] [(.int (63744 : Int32)), (.int v0)])) t
        refine XS.icmpYes X.here hx rfl (pc0 := 148) (pc' := 157) rfl (hb hby dTermScanner_isNameStart_148) rfl (tlt hc148).1 (by decide) (by decide) ?_
        exact k
      exact b_TermScanner_isNameStart_157 cx X eT N z v0 _ hF
    · rw [if_neg hc148] at hF
      refine own_Goes.via (B := T.setTop (mkF m 154 #[.val (.int v0)] [(.int (64975 : Int32)), (.int v0)])) (fun t k => ?_) ?_
      · show Steps p.tables e below (T.setTop (mkF m 148 #[.val (.int v0)] [(.int (63744 : Int32)), (.int v0)])) t
        refine XS.icmpNo X.here hx rfl (hb hby dTermScanner_isNameStart_148) rfl (flt hc148).1 ?_
        show Steps p.tables e below (T.setTop (mkF m 151 #[.val (.int v0)] [])) t
        refine XS.iloadN X.here hx rfl (hb hby dTermScanner_isNameStart_151) rfl ?_
        show Steps p.tables e below (T.setTop (mkF m 152 #[.val (.int v0)] [(.int v0)])) t
        refine X.ldcInt hx hown (mvT hZ (w24 hw)) (g := (mkF m 152 #[.val (.int v0)] [(.int v0)])) rfl (hb hby dTermScanner_isNameStart_152) _ ?_
        exact k
      by_cases hc154 : (64975 : Int32) < v0
      · rw [if_pos hc154] at hF
        refine own_Goes.via (B := T.setTop (mkF m 157 #[.val (.int v0)] [])) (fun t k => ?_) ?_
        · show Steps p.tables e below (T.setTop (mkF m 154 #[.val (.int v0)] [(.int (64975 : Int32)), (.int v0)])) t
          refine XS.icmpNo X.here hx rfl (hb hby dTermScanner_isNameStart_154) rfl (tlt hc154).2.2.2 ?_
          exact k
        exact b_TermScanner_isNameStart_157 cx X eT N z v0 _ hF
      · rw [if_neg hc154] at hF
        refine own_Goes.via (B := T.setTop (mkF m 186 #[.val (.int v0)] [(.int (1 : Int32))])) (fun t k => ?_) ?_
        · show Steps p.tables e below (T.setTop (mkF m 154 #[.val (.int v0)] [(.int (64975 : Int32)), (.int v0)])) t
          refine XS.icmpYes X.here hx rfl (pc0 := 154) (pc' := 181) rfl (hb hby dTermScanner_isNameStart_154) rfl (flt hc154).2.2.2 (by decide) (by decide) ?_
          show Steps p.tables e below (T.setTop (mkF m 181 #[.val (.int v0)] [])) t
          refine XS.iconst X.here hx rfl (hb hby dTermScanner_isNameStart_181) ?_
          show Steps p.tables e below (T.setTop (mkF m 182 #[.val (.int v0)] [(.int (1 : Int32))])) t
          refine XS.goto X.here hx rfl (pc0 := 182) (pc' := 186) rfl (hb hby dTermScanner_isNameStart_182) (by decide) (by decide) ?_
          exact k
        obtain rfl : (1 : Int32) = r := Option.some.inj hF
        exact own_retN X hx (t := .boolean) hret hlk (by simp) (hb hby dTermScanner_isNameStart_186) eT (v := (1 : Int32)) (by decide) ⟨rfl, N, rfl⟩ (by decide) (by decide)
  · rw [if_neg hc136] at hF
    refine own_Goes.via (B := T.setTop (mkF m 142 #[.val (.int v0)] [(.int (55295 : Int32)), (.int v0)])) (fun t k => ?_) ?_
    · show Steps p.tables e below (T.setTop (mkF m 136 #[.val (.int v0)] [(.int (12289 : Int32)), (.int v0)])) t
      refine XS.icmpNo X.here hx rfl (hb hby dTermScanner_isNameStart_136) rfl (flt hc136).1 ?_
      show Steps p.tables e below (T.setTop (mkF m 139 #[.val (.int v0)] [])) t
      refine XS.iloadN X.here hx rfl (hb hby dTermScanner_isNameStart_139) rfl ?_
      show Steps p.tables e below (T.setTop (mkF m 140 #[.val (.int v0)] [(.int v0)])) t
      refine X.ldcInt hx hown (mvT hZ (w23 hw)) (g := (mkF m 140 #[.val (.int v0)] [(.int v0)])) rfl (hb hby dTermScanner_isNameStart_140) _ ?_
      exact k
    by_cases hc142 : (55295 : Int32) < v0
    · rw [if_pos hc142] at hF
      refine own_Goes.via (B := T.setTop (mkF m 148 #[.val (.int v0)] [(.int (63744 : Int32)), (.int v0)])) (fun t k => ?_) ?_
      · show Steps p.tables e below (T.setTop (mkF m 142 #[.val (.int v0)] [(.int (55295 : Int32)), (.int v0)])) t
        refine XS.icmpNo X.here hx rfl (hb hby dTermScanner_isNameStart_142) rfl (tlt hc142).2.2.2 ?_
        show Steps p.tables e below (T.setTop (mkF m 145 #[.val (.int v0)] [])) t
        refine XS.iloadN X.here hx rfl (hb hby dTermScanner_isNameStart_145) rfl ?_
        show Steps p.tables e below (T.setTop (mkF m 146 #[.val (.int v0)] [(.int v0)])) t
        refine X.ldcInt hx hown (mvT hZ (w11 hw)) (g := (mkF m 146 #[.val (.int v0)] [(.int v0)])) rfl (hb hby dTermScanner_isNameStart_146) _ ?_
        exact k
      by_cases hc148 : v0 < (63744 : Int32)
      · rw [if_pos hc148] at hF
        refine own_Goes.via (B := T.setTop (mkF m 157 #[.val (.int v0)] [])) (fun t k => ?_) ?_
        · show Steps p.tables e below (T.setTop (mkF m 148 #[.val (.int v0)] [(.int (63744 : Int32)), (.int v0)])) t
          refine XS.icmpYes X.here hx rfl (pc0 := 148) (pc' := 157) rfl (hb hby dTermScanner_isNameStart_148) rfl (tlt hc148).1 (by decide) (by decide) ?_
          exact k
        exact b_TermScanner_isNameStart_157 cx X eT N z v0 _ hF
      · rw [if_neg hc148] at hF
        refine own_Goes.via (B := T.setTop (mkF m 154 #[.val (.int v0)] [(.int (64975 : Int32)), (.int v0)])) (fun t k => ?_) ?_
        · show Steps p.tables e below (T.setTop (mkF m 148 #[.val (.int v0)] [(.int (63744 : Int32)), (.int v0)])) t
          refine XS.icmpNo X.here hx rfl (hb hby dTermScanner_isNameStart_148) rfl (flt hc148).1 ?_
          show Steps p.tables e below (T.setTop (mkF m 151 #[.val (.int v0)] [])) t
          refine XS.iloadN X.here hx rfl (hb hby dTermScanner_isNameStart_151) rfl ?_
          show Steps p.tables e below (T.setTop (mkF m 152 #[.val (.int v0)] [(.int v0)])) t
          refine X.ldcInt hx hown (mvT hZ (w24 hw)) (g := (mkF m 152 #[.val (.int v0)] [(.int v0)])) rfl (hb hby dTermScanner_isNameStart_152) _ ?_
          exact k
        by_cases hc154 : (64975 : Int32) < v0
        · rw [if_pos hc154] at hF
          refine own_Goes.via (B := T.setTop (mkF m 157 #[.val (.int v0)] [])) (fun t k => ?_) ?_
          · show Steps p.tables e below (T.setTop (mkF m 154 #[.val (.int v0)] [(.int (64975 : Int32)), (.int v0)])) t
            refine XS.icmpNo X.here hx rfl (hb hby dTermScanner_isNameStart_154) rfl (tlt hc154).2.2.2 ?_
            exact k
          exact b_TermScanner_isNameStart_157 cx X eT N z v0 _ hF
        · rw [if_neg hc154] at hF
          refine own_Goes.via (B := T.setTop (mkF m 186 #[.val (.int v0)] [(.int (1 : Int32))])) (fun t k => ?_) ?_
          · show Steps p.tables e below (T.setTop (mkF m 154 #[.val (.int v0)] [(.int (64975 : Int32)), (.int v0)])) t
            refine XS.icmpYes X.here hx rfl (pc0 := 154) (pc' := 181) rfl (hb hby dTermScanner_isNameStart_154) rfl (flt hc154).2.2.2 (by decide) (by decide) ?_
            show Steps p.tables e below (T.setTop (mkF m 181 #[.val (.int v0)] [])) t
            refine XS.iconst X.here hx rfl (hb hby dTermScanner_isNameStart_181) ?_
            show Steps p.tables e below (T.setTop (mkF m 182 #[.val (.int v0)] [(.int (1 : Int32))])) t
            refine XS.goto X.here hx rfl (pc0 := 182) (pc' := 186) rfl (hb hby dTermScanner_isNameStart_182) (by decide) (by decide) ?_
            exact k
          obtain rfl : (1 : Int32) = r := Option.some.inj hF
          exact own_retN X hx (t := .boolean) hret hlk (by simp) (hb hby dTermScanner_isNameStart_186) eT (v := (1 : Int32)) (by decide) ⟨rfl, N, rfl⟩ (by decide) (by decide)
    · rw [if_neg hc142] at hF
      refine own_Goes.via (B := T.setTop (mkF m 186 #[.val (.int v0)] [(.int (1 : Int32))])) (fun t k => ?_) ?_
      · show Steps p.tables e below (T.setTop (mkF m 142 #[.val (.int v0)] [(.int (55295 : Int32)), (.int v0)])) t
        refine XS.icmpYes X.here hx rfl (pc0 := 142) (pc' := 181) rfl (hb hby dTermScanner_isNameStart_142) rfl (flt hc142).2.2.2 (by decide) (by decide) ?_
        show Steps p.tables e below (T.setTop (mkF m 181 #[.val (.int v0)] [])) t
        refine XS.iconst X.here hx rfl (hb hby dTermScanner_isNameStart_181) ?_
        show Steps p.tables e below (T.setTop (mkF m 182 #[.val (.int v0)] [(.int (1 : Int32))])) t
        refine XS.goto X.here hx rfl (pc0 := 182) (pc' := 186) rfl (hb hby dTermScanner_isNameStart_182) (by decide) (by decide) ?_
        exact k
      obtain rfl : (1 : Int32) = r := Option.some.inj hF
      exact own_retN X hx (t := .boolean) hret hlk (by simp) (hb hby dTermScanner_isNameStart_186) eT (v := (1 : Int32)) (by decide) ⟨rfl, N, rfl⟩ (by decide) (by decide)
set_option maxRecDepth 65536 in
set_option maxHeartbeats 4000000 in
theorem b_TermScanner_isNameStart_104 {p : Program} {l : Launch} {e : Env} {s : State} {m : MethodId} {args : Array Value} {below : List Frame} {meth : Method} {c : Code} {Z : State} {a0 : Array Value} {n0 : Nat} {hE : Heap} (cx : Cx_TermScanner_isNameStart p s m meth c Z a0) :
    ∀ {T : State} {locs : List Loc} (X : Stand p l e ({ frames := 1, cells := 0, slots := 0, locals := 12 } : Room) s m args below meth c T locs 0 0) (eT : T.heap = hE) (N : Fr n0 locs) (z : n0 ≤ hE.size) (v0 : Int32) (r : Int32), f_TermScanner_isNameStart_104 v0 = some r → own_Goes p e below s (Q_TermScanner_isNameStart Z hE n0 r) 0 0 (T.setTop (mkF m 104 #[.val (.int v0)] [])) := by
  have cx' := cx
  obtain ⟨hx, hZ, hw, hby, hml, hown, hret, hlk, hnm⟩ := cx'
  intro T locs X eT N z v0 r hF
  unfold f_TermScanner_isNameStart_104 at hF
  refine own_Goes.via (B := T.setTop (mkF m 108 #[.val (.int v0)] [(.int (8304 : Int32)), (.int v0)])) (fun t k => ?_) ?_
  · show Steps p.tables e below (T.setTop (mkF m 104 #[.val (.int v0)] [])) t
    refine XS.iloadN X.here hx rfl (hb hby dTermScanner_isNameStart_104) rfl ?_
    show Steps p.tables e below (T.setTop (mkF m 105 #[.val (.int v0)] [(.int v0)])) t
    refine XS.sipush X.here hx rfl (hb hby dTermScanner_isNameStart_105) ?_
    exact k
  by_cases hc108 : v0 < (8304 : Int32)
  · rw [if_pos hc108] at hF
    refine own_Goes.via (B := T.setTop (mkF m 122 #[.val (.int v0)] [(.int (11264 : Int32)), (.int v0)])) (fun t k => ?_) ?_
    · show Steps p.tables e below (T.setTop (mkF m 108 #[.val (.int v0)] [(.int (8304 : Int32)), (.int v0)])) t
      refine XS.icmpYes X.here hx rfl (pc0 := 108) (pc' := 118) rfl (hb hby dTermScanner_isNameStart_108) rfl (tlt hc108).1 (by decide) (by decide) ?_
      show Steps p.tables e below (T.setTop (mkF m 118 #[.val (.int v0)] [])) t
      refine XS.iloadN X.here hx rfl (hb hby dTermScanner_isNameStart_118) rfl ?_
      show Steps p.tables e below (T.setTop (mkF m 119 #[.val (.int v0)] [(.int v0)])) t
      refine XS.sipush X.here hx rfl (hb hby dTermScanner_isNameStart_119) ?_
      exact k
    by_cases hc122 : v0 < (11264 : Int32)
    · rw [if_pos hc122] at hF
      refine own_Goes.via (B := T.setTop (mkF m 132 #[.val (.int v0)] [])) (fun t k => ?_) ?_
      · show Steps p.tables e below (T.setTop (mkF m 122 #[.val (.int v0)] [(.int (11264 : Int32)), (.int v0)])) t
        refine XS.icmpYes X.here hx rfl (pc0 := 122) (pc' := 132) rfl (hb hby dTermScanner_isNameStart_122) rfl (tlt hc122).1 (by decide) (by decide) ?_
        exact k
      exact b_TermScanner_isNameStart_132 cx X eT N z v0 _ hF
    · rw [if_neg hc122] at hF
      refine own_Goes.via (B := T.setTop (mkF m 129 #[.val (.int v0)] [(.int (12271 : Int32)), (.int v0)])) (fun t k => ?_) ?_
      · show Steps p.tables e below (T.setTop (mkF m 122 #[.val (.int v0)] [(.int (11264 : Int32)), (.int v0)])) t
        refine XS.icmpNo X.here hx rfl (hb hby dTermScanner_isNameStart_122) rfl (flt hc122).1 ?_
        show Steps p.tables e below (T.setTop (mkF m 125 #[.val (.int v0)] [])) t
        refine XS.iloadN X.here hx rfl (hb hby dTermScanner_isNameStart_125) rfl ?_
        show Steps p.tables e below (T.setTop (mkF m 126 #[.val (.int v0)] [(.int v0)])) t
        refine XS.sipush X.here hx rfl (hb hby dTermScanner_isNameStart_126) ?_
        exact k
      by_cases hc129 : (12271 : Int32) < v0
      · rw [if_pos hc129] at hF
        refine own_Goes.via (B := T.setTop (mkF m 132 #[.val (.int v0)] [])) (fun t k => ?_) ?_
        · show Steps p.tables e below (T.setTop (mkF m 129 #[.val (.int v0)] [(.int (12271 : Int32)), (.int v0)])) t
          refine XS.icmpNo X.here hx rfl (hb hby dTermScanner_isNameStart_129) rfl (tlt hc129).2.2.2 ?_
          exact k
        exact b_TermScanner_isNameStart_132 cx X eT N z v0 _ hF
      · rw [if_neg hc129] at hF
        refine own_Goes.via (B := T.setTop (mkF m 186 #[.val (.int v0)] [(.int (1 : Int32))])) (fun t k => ?_) ?_
        · show Steps p.tables e below (T.setTop (mkF m 129 #[.val (.int v0)] [(.int (12271 : Int32)), (.int v0)])) t
          refine XS.icmpYes X.here hx rfl (pc0 := 129) (pc' := 181) rfl (hb hby dTermScanner_isNameStart_129) rfl (flt hc129).2.2.2 (by decide) (by decide) ?_
          show Steps p.tables e below (T.setTop (mkF m 181 #[.val (.int v0)] [])) t
          refine XS.iconst X.here hx rfl (hb hby dTermScanner_isNameStart_181) ?_
          show Steps p.tables e below (T.setTop (mkF m 182 #[.val (.int v0)] [(.int (1 : Int32))])) t
          refine XS.goto X.here hx rfl (pc0 := 182) (pc' := 186) rfl (hb hby dTermScanner_isNameStart_182) (by decide) (by decide) ?_
          exact k
        obtain rfl : (1 : Int32) = r := Option.some.inj hF
        exact own_retN X hx (t := .boolean) hret hlk (by simp) (hb hby dTermScanner_isNameStart_186) eT (v := (1 : Int32)) (by decide) ⟨rfl, N, rfl⟩ (by decide) (by decide)
  · rw [if_neg hc108] at hF
    refine own_Goes.via (B := T.setTop (mkF m 115 #[.val (.int v0)] [(.int (8591 : Int32)), (.int v0)])) (fun t k => ?_) ?_
    · show Steps p.tables e below (T.setTop (mkF m 108 #[.val (.int v0)] [(.int (8304 : Int32)), (.int v0)])) t
      refine XS.icmpNo X.here hx rfl (hb hby dTermScanner_isNameStart_108) rfl (flt hc108).1 ?_
      show Steps p.tables e below (T.setTop (mkF m 111 #[.val (.int v0)] [])) t
      refine XS.iloadN X.here hx rfl (hb hby dTermScanner_isNameStart_111) rfl ?_
      show Steps p.tables e below (T.setTop (mkF m 112 #[.val (.int v0)] [(.int v0)])) t
      refine XS.sipush X.here hx rfl (hb hby dTermScanner_isNameStart_112) ?_
      exact k
    by_cases hc115 : (8591 : Int32) < v0
    · rw [if_pos hc115] at hF
      refine own_Goes.via (B := T.setTop (mkF m 122 #[.val (.int v0)] [(.int (11264 : Int32)), (.int v0)])) (fun t k => ?_) ?_
      · show Steps p.tables e below (T.setTop (mkF m 115 #[.val (.int v0)] [(.int (8591 : Int32)), (.int v0)])) t
        refine XS.icmpNo X.here hx rfl (hb hby dTermScanner_isNameStart_115) rfl (tlt hc115).2.2.2 ?_
        show Steps p.tables e below (T.setTop (mkF m 118 #[.val (.int v0)] [])) t
        refine XS.iloadN X.here hx rfl (hb hby dTermScanner_isNameStart_118) rfl ?_
        show Steps p.tables e below (T.setTop (mkF m 119 #[.val (.int v0)] [(.int v0)])) t
        refine XS.sipush X.here hx rfl (hb hby dTermScanner_isNameStart_119) ?_
        exact k
      by_cases hc122 : v0 < (11264 : Int32)
      · rw [if_pos hc122] at hF
        refine own_Goes.via (B := T.setTop (mkF m 132 #[.val (.int v0)] [])) (fun t k => ?_) ?_
        · show Steps p.tables e below (T.setTop (mkF m 122 #[.val (.int v0)] [(.int (11264 : Int32)), (.int v0)])) t
          refine XS.icmpYes X.here hx rfl (pc0 := 122) (pc' := 132) rfl (hb hby dTermScanner_isNameStart_122) rfl (tlt hc122).1 (by decide) (by decide) ?_
          exact k
        exact b_TermScanner_isNameStart_132 cx X eT N z v0 _ hF
      · rw [if_neg hc122] at hF
        refine own_Goes.via (B := T.setTop (mkF m 129 #[.val (.int v0)] [(.int (12271 : Int32)), (.int v0)])) (fun t k => ?_) ?_
        · show Steps p.tables e below (T.setTop (mkF m 122 #[.val (.int v0)] [(.int (11264 : Int32)), (.int v0)])) t
          refine XS.icmpNo X.here hx rfl (hb hby dTermScanner_isNameStart_122) rfl (flt hc122).1 ?_
          show Steps p.tables e below (T.setTop (mkF m 125 #[.val (.int v0)] [])) t
          refine XS.iloadN X.here hx rfl (hb hby dTermScanner_isNameStart_125) rfl ?_
          show Steps p.tables e below (T.setTop (mkF m 126 #[.val (.int v0)] [(.int v0)])) t
          refine XS.sipush X.here hx rfl (hb hby dTermScanner_isNameStart_126) ?_
          exact k
        by_cases hc129 : (12271 : Int32) < v0
        · rw [if_pos hc129] at hF
          refine own_Goes.via (B := T.setTop (mkF m 132 #[.val (.int v0)] [])) (fun t k => ?_) ?_
          · show Steps p.tables e below (T.setTop (mkF m 129 #[.val (.int v0)] [(.int (12271 : Int32)), (.int v0)])) t
            refine XS.icmpNo X.here hx rfl (hb hby dTermScanner_isNameStart_129) rfl (tlt hc129).2.2.2 ?_
            exact k
          exact b_TermScanner_isNameStart_132 cx X eT N z v0 _ hF
        · rw [if_neg hc129] at hF
          refine own_Goes.via (B := T.setTop (mkF m 186 #[.val (.int v0)] [(.int (1 : Int32))])) (fun t k => ?_) ?_
          · show Steps p.tables e below (T.setTop (mkF m 129 #[.val (.int v0)] [(.int (12271 : Int32)), (.int v0)])) t
            refine XS.icmpYes X.here hx rfl (pc0 := 129) (pc' := 181) rfl (hb hby dTermScanner_isNameStart_129) rfl (flt hc129).2.2.2 (by decide) (by decide) ?_
            show Steps p.tables e below (T.setTop (mkF m 181 #[.val (.int v0)] [])) t
            refine XS.iconst X.here hx rfl (hb hby dTermScanner_isNameStart_181) ?_
            show Steps p.tables e below (T.setTop (mkF m 182 #[.val (.int v0)] [(.int (1 : Int32))])) t
            refine XS.goto X.here hx rfl (pc0 := 182) (pc' := 186) rfl (hb hby dTermScanner_isNameStart_182) (by decide) (by decide) ?_
            exact k
          obtain rfl : (1 : Int32) = r := Option.some.inj hF
          exact own_retN X hx (t := .boolean) hret hlk (by simp) (hb hby dTermScanner_isNameStart_186) eT (v := (1 : Int32)) (by decide) ⟨rfl, N, rfl⟩ (by decide) (by decide)
    · rw [if_neg hc115] at hF
      refine own_Goes.via (B := T.setTop (mkF m 186 #[.val (.int v0)] [(.int (1 : Int32))])) (fun t k => ?_) ?_
      · show Steps p.tables e below (T.setTop (mkF m 115 #[.val (.int v0)] [(.int (8591 : Int32)), (.int v0)])) t
        refine XS.icmpYes X.here hx rfl (pc0 := 115) (pc' := 181) rfl (hb hby dTermScanner_isNameStart_115) rfl (flt hc115).2.2.2 (by decide) (by decide) ?_
        show Steps p.tables e below (T.setTop (mkF m 181 #[.val (.int v0)] [])) t
        refine XS.iconst X.here hx rfl (hb hby dTermScanner_isNameStart_181) ?_
        show Steps p.tables e below (T.setTop (mkF m 182 #[.val (.int v0)] [(.int (1 : Int32))])) t
        refine XS.goto X.here hx rfl (pc0 := 182) (pc' := 186) rfl (hb hby dTermScanner_isNameStart_182) (by decide) (by decide) ?_
        exact k
      obtain rfl : (1 : Int32) = r := Option.some.inj hF
      exact own_retN X hx (t := .boolean) hret hlk (by simp) (hb hby dTermScanner_isNameStart_186) eT (v := (1 : Int32)) (by decide) ⟨rfl, N, rfl⟩ (by decide) (by decide)
set_option maxRecDepth 65536 in
set_option maxHeartbeats 4000000 in
theorem b_TermScanner_isNameStart_76 {p : Program} {l : Launch} {e : Env} {s : State} {m : MethodId} {args : Array Value} {below : List Frame} {meth : Method} {c : Code} {Z : State} {a0 : Array Value} {n0 : Nat} {hE : Heap} (cx : Cx_TermScanner_isNameStart p s m meth c Z a0) :
    ∀ {T : State} {locs : List Loc} (X : Stand p l e ({ frames := 1, cells := 0, slots := 0, locals := 12 } : Room) s m args below meth c T locs 0 0) (eT : T.heap = hE) (N : Fr n0 locs) (z : n0 ≤ hE.size) (v0 : Int32) (r : Int32), f_TermScanner_isNameStart_76 v0 = some r → own_Goes p e below s (Q_TermScanner_isNameStart Z hE n0 r) 0 0 (T.setTop (mkF m 76 #[.val (.int v0)] [])) := by
  have cx' := cx
  obtain ⟨hx, hZ, hw, hby, hml, hown, hret, hlk, hnm⟩ := cx'
  intro T locs X eT N z v0 r hF
  unfold f_TermScanner_isNameStart_76 at hF
  refine own_Goes.via (B := T.setTop (mkF m 80 #[.val (.int v0)] [(.int (895 : Int32)), (.int v0)])) (fun t k => ?_) ?_
  · show Steps p.tables e below (T.setTop (mkF m 76 #[.val (.int v0)] [])) t
    refine XS.iloadN X.here hx rfl (hb hby dTermScanner_isNameStart_76) rfl ?_
    show Steps p.tables e below (T.setTop (mkF m 77 #[.val (.int v0)] [(.int v0)])) t
    refine XS.sipush X.here hx rfl (hb hby dTermScanner_isNameStart_77) ?_
    exact k
  by_cases hc80 : v0 < (895 : Int32)
  · rw [if_pos hc80] at hF
    refine own_Goes.via (B := T.setTop (mkF m 94 #[.val (.int v0)] [(.int (8204 : Int32)), (.int v0)])) (fun t k => ?_) ?_
    · show Steps p.tables e below (T.setTop (mkF m 80 #[.val (.int v0)] [(.int (895 : Int32)), (.int v0)])) t
      refine XS.icmpYes X.here hx rfl (pc0 := 80) (pc' := 90) rfl (hb hby dTermScanner_isNameStart_80) rfl (tlt hc80).1 (by decide) (by decide) ?_
      show Steps p.tables e below (T.setTop (mkF m 90 #[.val (.int v0)] [])) t
      refine XS.iloadN X.here hx rfl (hb hby dTermScanner_isNameStart_90) rfl ?_
      show Steps p.tables e below (T.setTop (mkF m 91 #[.val (.int v0)] [(.int v0)])) t
      refine XS.sipush X.here hx rfl (hb hby dTermScanner_isNameStart_91) ?_
      exact k
    by_cases hc94 : v0 < (8204 : Int32)
    · rw [if_pos hc94] at hF
      refine own_Goes.via (B := T.setTop (mkF m 104 #[.val (.int v0)] [])) (fun t k => ?_) ?_
      · show Steps p.tables e below (T.setTop (mkF m 94 #[.val (.int v0)] [(.int (8204 : Int32)), (.int v0)])) t
        refine XS.icmpYes X.here hx rfl (pc0 := 94) (pc' := 104) rfl (hb hby dTermScanner_isNameStart_94) rfl (tlt hc94).1 (by decide) (by decide) ?_
        exact k
      exact b_TermScanner_isNameStart_104 cx X eT N z v0 _ hF
    · rw [if_neg hc94] at hF
      refine own_Goes.via (B := T.setTop (mkF m 101 #[.val (.int v0)] [(.int (8205 : Int32)), (.int v0)])) (fun t k => ?_) ?_
      · show Steps p.tables e below (T.setTop (mkF m 94 #[.val (.int v0)] [(.int (8204 : Int32)), (.int v0)])) t
        refine XS.icmpNo X.here hx rfl (hb hby dTermScanner_isNameStart_94) rfl (flt hc94).1 ?_
        show Steps p.tables e below (T.setTop (mkF m 97 #[.val (.int v0)] [])) t
        refine XS.iloadN X.here hx rfl (hb hby dTermScanner_isNameStart_97) rfl ?_
        show Steps p.tables e below (T.setTop (mkF m 98 #[.val (.int v0)] [(.int v0)])) t
        refine XS.sipush X.here hx rfl (hb hby dTermScanner_isNameStart_98) ?_
        exact k
      by_cases hc101 : (8205 : Int32) < v0
      · rw [if_pos hc101] at hF
        refine own_Goes.via (B := T.setTop (mkF m 104 #[.val (.int v0)] [])) (fun t k => ?_) ?_
        · show Steps p.tables e below (T.setTop (mkF m 101 #[.val (.int v0)] [(.int (8205 : Int32)), (.int v0)])) t
          refine XS.icmpNo X.here hx rfl (hb hby dTermScanner_isNameStart_101) rfl (tlt hc101).2.2.2 ?_
          exact k
        exact b_TermScanner_isNameStart_104 cx X eT N z v0 _ hF
      · rw [if_neg hc101] at hF
        refine own_Goes.via (B := T.setTop (mkF m 186 #[.val (.int v0)] [(.int (1 : Int32))])) (fun t k => ?_) ?_
        · show Steps p.tables e below (T.setTop (mkF m 101 #[.val (.int v0)] [(.int (8205 : Int32)), (.int v0)])) t
          refine XS.icmpYes X.here hx rfl (pc0 := 101) (pc' := 181) rfl (hb hby dTermScanner_isNameStart_101) rfl (flt hc101).2.2.2 (by decide) (by decide) ?_
          show Steps p.tables e below (T.setTop (mkF m 181 #[.val (.int v0)] [])) t
          refine XS.iconst X.here hx rfl (hb hby dTermScanner_isNameStart_181) ?_
          show Steps p.tables e below (T.setTop (mkF m 182 #[.val (.int v0)] [(.int (1 : Int32))])) t
          refine XS.goto X.here hx rfl (pc0 := 182) (pc' := 186) rfl (hb hby dTermScanner_isNameStart_182) (by decide) (by decide) ?_
          exact k
        obtain rfl : (1 : Int32) = r := Option.some.inj hF
        exact own_retN X hx (t := .boolean) hret hlk (by simp) (hb hby dTermScanner_isNameStart_186) eT (v := (1 : Int32)) (by decide) ⟨rfl, N, rfl⟩ (by decide) (by decide)
  · rw [if_neg hc80] at hF
    refine own_Goes.via (B := T.setTop (mkF m 87 #[.val (.int v0)] [(.int (8191 : Int32)), (.int v0)])) (fun t k => ?_) ?_
    · show Steps p.tables e below (T.setTop (mkF m 80 #[.val (.int v0)] [(.int (895 : Int32)), (.int v0)])) t
      refine XS.icmpNo X.here hx rfl (hb hby dTermScanner_isNameStart_80) rfl (flt hc80).1 ?_
      show Steps p.tables e below (T.setTop (mkF m 83 #[.val (.int v0)] [])) t
      refine XS.iloadN X.here hx rfl (hb hby dTermScanner_isNameStart_83) rfl ?_
      show Steps p.tables e below (T.setTop (mkF m 84 #[.val (.int v0)] [(.int v0)])) t
      refine XS.sipush X.here hx rfl (hb hby dTermScanner_isNameStart_84) ?_
      exact k
    by_cases hc87 : (8191 : Int32) < v0
    · rw [if_pos hc87] at hF
      refine own_Goes.via (B := T.setTop (mkF m 94 #[.val (.int v0)] [(.int (8204 : Int32)), (.int v0)])) (fun t k => ?_) ?_
      · show Steps p.tables e below (T.setTop (mkF m 87 #[.val (.int v0)] [(.int (8191 : Int32)), (.int v0)])) t
        refine XS.icmpNo X.here hx rfl (hb hby dTermScanner_isNameStart_87) rfl (tlt hc87).2.2.2 ?_
        show Steps p.tables e below (T.setTop (mkF m 90 #[.val (.int v0)] [])) t
        refine XS.iloadN X.here hx rfl (hb hby dTermScanner_isNameStart_90) rfl ?_
        show Steps p.tables e below (T.setTop (mkF m 91 #[.val (.int v0)] [(.int v0)])) t
        refine XS.sipush X.here hx rfl (hb hby dTermScanner_isNameStart_91) ?_
        exact k
      by_cases hc94 : v0 < (8204 : Int32)
      · rw [if_pos hc94] at hF
        refine own_Goes.via (B := T.setTop (mkF m 104 #[.val (.int v0)] [])) (fun t k => ?_) ?_
        · show Steps p.tables e below (T.setTop (mkF m 94 #[.val (.int v0)] [(.int (8204 : Int32)), (.int v0)])) t
          refine XS.icmpYes X.here hx rfl (pc0 := 94) (pc' := 104) rfl (hb hby dTermScanner_isNameStart_94) rfl (tlt hc94).1 (by decide) (by decide) ?_
          exact k
        exact b_TermScanner_isNameStart_104 cx X eT N z v0 _ hF
      · rw [if_neg hc94] at hF
        refine own_Goes.via (B := T.setTop (mkF m 101 #[.val (.int v0)] [(.int (8205 : Int32)), (.int v0)])) (fun t k => ?_) ?_
        · show Steps p.tables e below (T.setTop (mkF m 94 #[.val (.int v0)] [(.int (8204 : Int32)), (.int v0)])) t
          refine XS.icmpNo X.here hx rfl (hb hby dTermScanner_isNameStart_94) rfl (flt hc94).1 ?_
          show Steps p.tables e below (T.setTop (mkF m 97 #[.val (.int v0)] [])) t
          refine XS.iloadN X.here hx rfl (hb hby dTermScanner_isNameStart_97) rfl ?_
          show Steps p.tables e below (T.setTop (mkF m 98 #[.val (.int v0)] [(.int v0)])) t
          refine XS.sipush X.here hx rfl (hb hby dTermScanner_isNameStart_98) ?_
          exact k
        by_cases hc101 : (8205 : Int32) < v0
        · rw [if_pos hc101] at hF
          refine own_Goes.via (B := T.setTop (mkF m 104 #[.val (.int v0)] [])) (fun t k => ?_) ?_
          · show Steps p.tables e below (T.setTop (mkF m 101 #[.val (.int v0)] [(.int (8205 : Int32)), (.int v0)])) t
            refine XS.icmpNo X.here hx rfl (hb hby dTermScanner_isNameStart_101) rfl (tlt hc101).2.2.2 ?_
            exact k
          exact b_TermScanner_isNameStart_104 cx X eT N z v0 _ hF
        · rw [if_neg hc101] at hF
          refine own_Goes.via (B := T.setTop (mkF m 186 #[.val (.int v0)] [(.int (1 : Int32))])) (fun t k => ?_) ?_
          · show Steps p.tables e below (T.setTop (mkF m 101 #[.val (.int v0)] [(.int (8205 : Int32)), (.int v0)])) t
            refine XS.icmpYes X.here hx rfl (pc0 := 101) (pc' := 181) rfl (hb hby dTermScanner_isNameStart_101) rfl (flt hc101).2.2.2 (by decide) (by decide) ?_
            show Steps p.tables e below (T.setTop (mkF m 181 #[.val (.int v0)] [])) t
            refine XS.iconst X.here hx rfl (hb hby dTermScanner_isNameStart_181) ?_
            show Steps p.tables e below (T.setTop (mkF m 182 #[.val (.int v0)] [(.int (1 : Int32))])) t
            refine XS.goto X.here hx rfl (pc0 := 182) (pc' := 186) rfl (hb hby dTermScanner_isNameStart_182) (by decide) (by decide) ?_
            exact k
          obtain rfl : (1 : Int32) = r := Option.some.inj hF
          exact own_retN X hx (t := .boolean) hret hlk (by simp) (hb hby dTermScanner_isNameStart_186) eT (v := (1 : Int32)) (by decide) ⟨rfl, N, rfl⟩ (by decide) (by decide)
    · rw [if_neg hc87] at hF
      refine own_Goes.via (B := T.setTop (mkF m 186 #[.val (.int v0)] [(.int (1 : Int32))])) (fun t k => ?_) ?_
      · show Steps p.tables e below (T.setTop (mkF m 87 #[.val (.int v0)] [(.int (8191 : Int32)), (.int v0)])) t
        refine XS.icmpYes X.here hx rfl (pc0 := 87) (pc' := 181) rfl (hb hby dTermScanner_isNameStart_87) rfl (flt hc87).2.2.2 (by decide) (by decide) ?_
        show Steps p.tables e below (T.setTop (mkF m 181 #[.val (.int v0)] [])) t
        refine XS.iconst X.here hx rfl (hb hby dTermScanner_isNameStart_181) ?_
        show Steps p.tables e below (T.setTop (mkF m 182 #[.val (.int v0)] [(.int (1 : Int32))])) t
        refine XS.goto X.here hx rfl (pc0 := 182) (pc' := 186) rfl (hb hby dTermScanner_isNameStart_182) (by decide) (by decide) ?_
        exact k
      obtain rfl : (1 : Int32) = r := Option.some.inj hF
      exact own_retN X hx (t := .boolean) hret hlk (by simp) (hb hby dTermScanner_isNameStart_186) eT (v := (1 : Int32)) (by decide) ⟨rfl, N, rfl⟩ (by decide) (by decide)
set_option maxRecDepth 65536 in
set_option maxHeartbeats 4000000 in
theorem b_TermScanner_isNameStart_48 {p : Program} {l : Launch} {e : Env} {s : State} {m : MethodId} {args : Array Value} {below : List Frame} {meth : Method} {c : Code} {Z : State} {a0 : Array Value} {n0 : Nat} {hE : Heap} (cx : Cx_TermScanner_isNameStart p s m meth c Z a0) :
    ∀ {T : State} {locs : List Loc} (X : Stand p l e ({ frames := 1, cells := 0, slots := 0, locals := 12 } : Room) s m args below meth c T locs 0 0) (eT : T.heap = hE) (N : Fr n0 locs) (z : n0 ≤ hE.size) (v0 : Int32) (r : Int32), f_TermScanner_isNameStart_48 v0 = some r → own_Goes p e below s (Q_TermScanner_isNameStart Z hE n0 r) 0 0 (T.setTop (mkF m 48 #[.val (.int v0)] [])) := by
  have cx' := cx
  obtain ⟨hx, hZ, hw, hby, hml, hown, hret, hlk, hnm⟩ := cx'
  intro T locs X eT N z v0 r hF
  unfold f_TermScanner_isNameStart_48 at hF
  refine own_Goes.via (B := T.setTop (mkF m 52 #[.val (.int v0)] [(.int (248 : Int32)), (.int v0)])) (fun t k => ?_) ?_
  · show Steps p.tables e below (T.setTop (mkF m 48 #[.val (.int v0)] [])) t
    refine XS.iloadN X.here hx rfl (hb hby dTermScanner_isNameStart_48) rfl ?_
    show Steps p.tables e below (T.setTop (mkF m 49 #[.val (.int v0)] [(.int v0)])) t
    refine XS.sipush X.here hx rfl (hb hby dTermScanner_isNameStart_49) ?_
    exact k
  by_cases hc52 : v0 < (248 : Int32)
  · rw [if_pos hc52] at hF
    refine own_Goes.via (B := T.setTop (mkF m 66 #[.val (.int v0)] [(.int (880 : Int32)), (.int v0)])) (fun t k => ?_) ?_
    · show Steps p.tables e below (T.setTop (mkF m 52 #[.val (.int v0)] [(.int (248 : Int32)), (.int v0)])) t
      refine XS.icmpYes X.here hx rfl (pc0 := 52) (pc' := 62) rfl (hb hby dTermScanner_isNameStart_52) rfl (tlt hc52).1 (by decide) (by decide) ?_
      show Steps p.tables e below (T.setTop (mkF m 62 #[.val (.int v0)] [])) t
      refine XS.iloadN X.here hx rfl (hb hby dTermScanner_isNameStart_62) rfl ?_
      show Steps p.tables e below (T.setTop (mkF m 63 #[.val (.int v0)] [(.int v0)])) t
      refine XS.sipush X.here hx rfl (hb hby dTermScanner_isNameStart_63) ?_
      exact k
    by_cases hc66 : v0 < (880 : Int32)
    · rw [if_pos hc66] at hF
      refine own_Goes.via (B := T.setTop (mkF m 76 #[.val (.int v0)] [])) (fun t k => ?_) ?_
      · show Steps p.tables e below (T.setTop (mkF m 66 #[.val (.int v0)] [(.int (880 : Int32)), (.int v0)])) t
        refine XS.icmpYes X.here hx rfl (pc0 := 66) (pc' := 76) rfl (hb hby dTermScanner_isNameStart_66) rfl (tlt hc66).1 (by decide) (by decide) ?_
        exact k
      exact b_TermScanner_isNameStart_76 cx X eT N z v0 _ hF
    · rw [if_neg hc66] at hF
      refine own_Goes.via (B := T.setTop (mkF m 73 #[.val (.int v0)] [(.int (893 : Int32)), (.int v0)])) (fun t k => ?_) ?_
      · show Steps p.tables e below (T.setTop (mkF m 66 #[.val (.int v0)] [(.int (880 : Int32)), (.int v0)])) t
        refine XS.icmpNo X.here hx rfl (hb hby dTermScanner_isNameStart_66) rfl (flt hc66).1 ?_
        show Steps p.tables e below (T.setTop (mkF m 69 #[.val (.int v0)] [])) t
        refine XS.iloadN X.here hx rfl (hb hby dTermScanner_isNameStart_69) rfl ?_
        show Steps p.tables e below (T.setTop (mkF m 70 #[.val (.int v0)] [(.int v0)])) t
        refine XS.sipush X.here hx rfl (hb hby dTermScanner_isNameStart_70) ?_
        exact k
      by_cases hc73 : (893 : Int32) < v0
      · rw [if_pos hc73] at hF
        refine own_Goes.via (B := T.setTop (mkF m 76 #[.val (.int v0)] [])) (fun t k => ?_) ?_
        · show Steps p.tables e below (T.setTop (mkF m 73 #[.val (.int v0)] [(.int (893 : Int32)), (.int v0)])) t
          refine XS.icmpNo X.here hx rfl (hb hby dTermScanner_isNameStart_73) rfl (tlt hc73).2.2.2 ?_
          exact k
        exact b_TermScanner_isNameStart_76 cx X eT N z v0 _ hF
      · rw [if_neg hc73] at hF
        refine own_Goes.via (B := T.setTop (mkF m 186 #[.val (.int v0)] [(.int (1 : Int32))])) (fun t k => ?_) ?_
        · show Steps p.tables e below (T.setTop (mkF m 73 #[.val (.int v0)] [(.int (893 : Int32)), (.int v0)])) t
          refine XS.icmpYes X.here hx rfl (pc0 := 73) (pc' := 181) rfl (hb hby dTermScanner_isNameStart_73) rfl (flt hc73).2.2.2 (by decide) (by decide) ?_
          show Steps p.tables e below (T.setTop (mkF m 181 #[.val (.int v0)] [])) t
          refine XS.iconst X.here hx rfl (hb hby dTermScanner_isNameStart_181) ?_
          show Steps p.tables e below (T.setTop (mkF m 182 #[.val (.int v0)] [(.int (1 : Int32))])) t
          refine XS.goto X.here hx rfl (pc0 := 182) (pc' := 186) rfl (hb hby dTermScanner_isNameStart_182) (by decide) (by decide) ?_
          exact k
        obtain rfl : (1 : Int32) = r := Option.some.inj hF
        exact own_retN X hx (t := .boolean) hret hlk (by simp) (hb hby dTermScanner_isNameStart_186) eT (v := (1 : Int32)) (by decide) ⟨rfl, N, rfl⟩ (by decide) (by decide)
  · rw [if_neg hc52] at hF
    refine own_Goes.via (B := T.setTop (mkF m 59 #[.val (.int v0)] [(.int (767 : Int32)), (.int v0)])) (fun t k => ?_) ?_
    · show Steps p.tables e below (T.setTop (mkF m 52 #[.val (.int v0)] [(.int (248 : Int32)), (.int v0)])) t
      refine XS.icmpNo X.here hx rfl (hb hby dTermScanner_isNameStart_52) rfl (flt hc52).1 ?_
      show Steps p.tables e below (T.setTop (mkF m 55 #[.val (.int v0)] [])) t
      refine XS.iloadN X.here hx rfl (hb hby dTermScanner_isNameStart_55) rfl ?_
      show Steps p.tables e below (T.setTop (mkF m 56 #[.val (.int v0)] [(.int v0)])) t
      refine XS.sipush X.here hx rfl (hb hby dTermScanner_isNameStart_56) ?_
      exact k
    by_cases hc59 : (767 : Int32) < v0
    · rw [if_pos hc59] at hF
      refine own_Goes.via (B := T.setTop (mkF m 66 #[.val (.int v0)] [(.int (880 : Int32)), (.int v0)])) (fun t k => ?_) ?_
      · show Steps p.tables e below (T.setTop (mkF m 59 #[.val (.int v0)] [(.int (767 : Int32)), (.int v0)])) t
        refine XS.icmpNo X.here hx rfl (hb hby dTermScanner_isNameStart_59) rfl (tlt hc59).2.2.2 ?_
        show Steps p.tables e below (T.setTop (mkF m 62 #[.val (.int v0)] [])) t
        refine XS.iloadN X.here hx rfl (hb hby dTermScanner_isNameStart_62) rfl ?_
        show Steps p.tables e below (T.setTop (mkF m 63 #[.val (.int v0)] [(.int v0)])) t
        refine XS.sipush X.here hx rfl (hb hby dTermScanner_isNameStart_63) ?_
        exact k
      by_cases hc66 : v0 < (880 : Int32)
      · rw [if_pos hc66] at hF
        refine own_Goes.via (B := T.setTop (mkF m 76 #[.val (.int v0)] [])) (fun t k => ?_) ?_
        · show Steps p.tables e below (T.setTop (mkF m 66 #[.val (.int v0)] [(.int (880 : Int32)), (.int v0)])) t
          refine XS.icmpYes X.here hx rfl (pc0 := 66) (pc' := 76) rfl (hb hby dTermScanner_isNameStart_66) rfl (tlt hc66).1 (by decide) (by decide) ?_
          exact k
        exact b_TermScanner_isNameStart_76 cx X eT N z v0 _ hF
      · rw [if_neg hc66] at hF
        refine own_Goes.via (B := T.setTop (mkF m 73 #[.val (.int v0)] [(.int (893 : Int32)), (.int v0)])) (fun t k => ?_) ?_
        · show Steps p.tables e below (T.setTop (mkF m 66 #[.val (.int v0)] [(.int (880 : Int32)), (.int v0)])) t
          refine XS.icmpNo X.here hx rfl (hb hby dTermScanner_isNameStart_66) rfl (flt hc66).1 ?_
          show Steps p.tables e below (T.setTop (mkF m 69 #[.val (.int v0)] [])) t
          refine XS.iloadN X.here hx rfl (hb hby dTermScanner_isNameStart_69) rfl ?_
          show Steps p.tables e below (T.setTop (mkF m 70 #[.val (.int v0)] [(.int v0)])) t
          refine XS.sipush X.here hx rfl (hb hby dTermScanner_isNameStart_70) ?_
          exact k
        by_cases hc73 : (893 : Int32) < v0
        · rw [if_pos hc73] at hF
          refine own_Goes.via (B := T.setTop (mkF m 76 #[.val (.int v0)] [])) (fun t k => ?_) ?_
          · show Steps p.tables e below (T.setTop (mkF m 73 #[.val (.int v0)] [(.int (893 : Int32)), (.int v0)])) t
            refine XS.icmpNo X.here hx rfl (hb hby dTermScanner_isNameStart_73) rfl (tlt hc73).2.2.2 ?_
            exact k
          exact b_TermScanner_isNameStart_76 cx X eT N z v0 _ hF
        · rw [if_neg hc73] at hF
          refine own_Goes.via (B := T.setTop (mkF m 186 #[.val (.int v0)] [(.int (1 : Int32))])) (fun t k => ?_) ?_
          · show Steps p.tables e below (T.setTop (mkF m 73 #[.val (.int v0)] [(.int (893 : Int32)), (.int v0)])) t
            refine XS.icmpYes X.here hx rfl (pc0 := 73) (pc' := 181) rfl (hb hby dTermScanner_isNameStart_73) rfl (flt hc73).2.2.2 (by decide) (by decide) ?_
            show Steps p.tables e below (T.setTop (mkF m 181 #[.val (.int v0)] [])) t
            refine XS.iconst X.here hx rfl (hb hby dTermScanner_isNameStart_181) ?_
            show Steps p.tables e below (T.setTop (mkF m 182 #[.val (.int v0)] [(.int (1 : Int32))])) t
            refine XS.goto X.here hx rfl (pc0 := 182) (pc' := 186) rfl (hb hby dTermScanner_isNameStart_182) (by decide) (by decide) ?_
            exact k
          obtain rfl : (1 : Int32) = r := Option.some.inj hF
          exact own_retN X hx (t := .boolean) hret hlk (by simp) (hb hby dTermScanner_isNameStart_186) eT (v := (1 : Int32)) (by decide) ⟨rfl, N, rfl⟩ (by decide) (by decide)
    · rw [if_neg hc59] at hF
      refine own_Goes.via (B := T.setTop (mkF m 186 #[.val (.int v0)] [(.int (1 : Int32))])) (fun t k => ?_) ?_
      · show Steps p.tables e below (T.setTop (mkF m 59 #[.val (.int v0)] [(.int (767 : Int32)), (.int v0)])) t
        refine XS.icmpYes X.here hx rfl (pc0 := 59) (pc' := 181) rfl (hb hby dTermScanner_isNameStart_59) rfl (flt hc59).2.2.2 (by decide) (by decide) ?_
        show Steps p.tables e below (T.setTop (mkF m 181 #[.val (.int v0)] [])) t
        refine XS.iconst X.here hx rfl (hb hby dTermScanner_isNameStart_181) ?_
        show Steps p.tables e below (T.setTop (mkF m 182 #[.val (.int v0)] [(.int (1 : Int32))])) t
        refine XS.goto X.here hx rfl (pc0 := 182) (pc' := 186) rfl (hb hby dTermScanner_isNameStart_182) (by decide) (by decide) ?_
        exact k
      obtain rfl : (1 : Int32) = r := Option.some.inj hF
      exact own_retN X hx (t := .boolean) hret hlk (by simp) (hb hby dTermScanner_isNameStart_186) eT (v := (1 : Int32)) (by decide) ⟨rfl, N, rfl⟩ (by decide) (by decide)
set_option maxRecDepth 65536 in
set_option maxHeartbeats 4000000 in
theorem b_TermScanner_isNameStart {p : Program} {l : Launch} {e : Env} {s : State} {m : MethodId} {args : Array Value} {below : List Frame} {meth : Method} {c : Code} {Z : State} {a0 : Array Value} {n0 : Nat} {hE : Heap} (cx : Cx_TermScanner_isNameStart p s m meth c Z a0) :
    ∀ {T : State} {locs : List Loc} (X : Stand p l e ({ frames := 1, cells := 0, slots := 0, locals := 12 } : Room) s m args below meth c T locs 0 0) (eT : T.heap = hE) (N : Fr n0 locs) (z : n0 ≤ hE.size) (v0 : Int32) (r : Int32), f_TermScanner_isNameStart v0 = some r → own_Goes p e below s (Q_TermScanner_isNameStart Z hE n0 r) 0 0 (T.setTop (mkF m 0 #[.val (.int v0)] [])) := by
  have cx' := cx
  obtain ⟨hx, hZ, hw, hby, hml, hown, hret, hlk, hnm⟩ := cx'
  intro T locs X eT N z v0 r hF
  unfold f_TermScanner_isNameStart at hF
  refine own_Goes.via (B := T.setTop (mkF m 1 #[.val (.int v0)] [(.int v0)])) (fun t k => ?_) ?_
  · show Steps p.tables e below (T.setTop (mkF m 0 #[.val (.int v0)] [])) t
    refine XS.iloadN X.here hx rfl (hb hby dTermScanner_isNameStart_0) rfl ?_
    exact k
  obtain ⟨r9, hr9, hF⟩ := own_bd_e hF
  obtain ⟨_, _, ⟨T9, L9, k9, n9⟩, -, X9, ⟨Lc9, hQ9, l9, y9, z9⟩, st9⟩ := Jvm.LawKit.callS X hx (y := (⟨"com/example/rulr/rulr/TermScanner", "isAsciiLetter", "(I)Z"⟩ : MethodName)) hown (mvT hZ (w5 hw)) (mvT hZ (w6 hw)) (mvT hZ (w3 hw)) (mvT hZ (w7 hw)) (by decide) (backOf (W := 0) (rm_TermScanner_isAsciiLetter l Z a0 hw [] hE n0 z v0 r9 hr9) hZ (w7 hw) (w3 hw) (by decide) (by decide)) (g := (mkF m 1 #[.val (.int v0)] [(.int v0)])) rfl (by rw [hml]; rfl) (argsL := [(.int v0)]) (rest := []) (lenOf pd_0 rfl) rfl (by show 2 * 0 + _ ≤ _; exact Nat.le_of_eq rfl) (hb hby dTermScanner_isNameStart_1) (fun _ _ => ⟨rfl, eT, (by decide : 0 + 0 ≤ _), (by decide : 0 + 0 ≤ _)⟩)
  dsimp only [Pt.U, Pt.locs, Pt.cells, Pt.slots] at X9 l9 y9 z9 st9 hQ9
  subst l9 y9 z9
  obtain ⟨rfl, N9q, e9⟩ := hQ9
  have N9 := Fr.app N N9q
  refine own_Goes.via st9 ?_
  show own_Goes _ _ _ _ _ _ _ (T9.setTop (mkF m 4 #[.val (.int v0)] [(.int r9)]))
  by_cases hc4 : r9 = (0 : Int32)
  · rw [if_pos hc4] at hF
    refine own_Goes.via (B := T9.setTop (mkF m 8 #[.val (.int v0)] [(.int v0)])) (fun t k => ?_) ?_
    · show Steps p.tables e below (T9.setTop (mkF m 4 #[.val (.int v0)] [(.int r9)])) t
      refine XS.ifNo X9.here hx rfl (hb hby dTermScanner_isNameStart_4) rfl ((if0 _ _).trans (teq hc4).2) ?_
      show Steps p.tables e below (T9.setTop (mkF m 7 #[.val (.int v0)] [])) t
      refine XS.iloadN X9.here hx rfl (hb hby dTermScanner_isNameStart_7) rfl ?_
      exact k
    obtain ⟨r10, hr10, hF⟩ := own_bd_e hF
    obtain ⟨_, _, ⟨T10, L10, k10, n10⟩, -, X10, ⟨Lc10, hQ10, l10, y10, z10⟩, st10⟩ := Jvm.LawKit.callS X9 hx (y := (⟨"com/example/rulr/rulr/TermScanner", "isAsciiDigit", "(I)Z"⟩ : MethodName)) hown (mvT hZ (w8 hw)) (mvT hZ (w9 hw)) (mvT hZ (w3 hw)) (mvT hZ (w10 hw)) (by decide) (backOf (W := 0) (rm_TermScanner_isAsciiDigit l Z a0 hw [] hE n0 z v0 r10 hr10) hZ (w10 hw) (w3 hw) (by decide) (by decide)) (g := (mkF m 8 #[.val (.int v0)] [(.int v0)])) rfl (by rw [hml]; rfl) (argsL := [(.int v0)]) (rest := []) (lenOf pd_0 rfl) rfl (by show 2 * 0 + _ ≤ _; exact Nat.le_of_eq rfl) (hb hby dTermScanner_isNameStart_8) (fun _ _ => ⟨rfl, e9, (by decide : 0 + 0 ≤ _), (by decide : 0 + 0 ≤ _)⟩)
    dsimp only [Pt.U, Pt.locs, Pt.cells, Pt.slots] at X10 l10 y10 z10 st10 hQ10
    subst l10 y10 z10
    obtain ⟨rfl, N10q, e10⟩ := hQ10
    have N10 := Fr.app N9 N10q
    refine own_Goes.via st10 ?_
    show own_Goes _ _ _ _ _ _ _ (T10.setTop (mkF m 11 #[.val (.int v0)] [(.int r10)]))
    by_cases hc11 : r10 = (0 : Int32)
    · rw [if_pos hc11] at hF
      refine own_Goes.via (B := T10.setTop (mkF m 17 #[.val (.int v0)] [(.int (95 : Int32)), (.int v0)])) (fun t k => ?_) ?_
      · show Steps p.tables e below (T10.setTop (mkF m 11 #[.val (.int v0)] [(.int r10)])) t
        refine XS.ifNo X10.here hx rfl (hb hby dTermScanner_isNameStart_11) rfl ((if0 _ _).trans (teq hc11).2) ?_
        show Steps p.tables e below (T10.setTop (mkF m 14 #[.val (.int v0)] [])) t
        refine XS.iloadN X10.here hx rfl (hb hby dTermScanner_isNameStart_14) rfl ?_
        show Steps p.tables e below (T10.setTop (mkF m 15 #[.val (.int v0)] [(.int v0)])) t
        refine XS.bipush X10.here hx rfl (hb hby dTermScanner_isNameStart_15) ?_
        exact k
      by_cases hc17 : v0 = (95 : Int32)
      · rw [if_pos hc17] at hF
        refine own_Goes.via (B := T10.setTop (mkF m 186 #[.val (.int v0)] [(.int (1 : Int32))])) (fun t k => ?_) ?_
        · show Steps p.tables e below (T10.setTop (mkF m 17 #[.val (.int v0)] [(.int (95 : Int32)), (.int v0)])) t
          refine XS.icmpYes X10.here hx rfl (pc0 := 17) (pc' := 181) rfl (hb hby dTermScanner_isNameStart_17) rfl (teq hc17).1 (by decide) (by decide) ?_
          show Steps p.tables e below (T10.setTop (mkF m 181 #[.val (.int v0)] [])) t
          refine XS.iconst X10.here hx rfl (hb hby dTermScanner_isNameStart_181) ?_
          show Steps p.tables e below (T10.setTop (mkF m 182 #[.val (.int v0)] [(.int (1 : Int32))])) t
          refine XS.goto X10.here hx rfl (pc0 := 182) (pc' := 186) rfl (hb hby dTermScanner_isNameStart_182) (by decide) (by decide) ?_
          exact k
        obtain rfl : (1 : Int32) = r := Option.some.inj hF
        exact own_retN X10 hx (t := .boolean) hret hlk (by simp) (hb hby dTermScanner_isNameStart_186) e10 (v := (1 : Int32)) (by decide) ⟨rfl, N10, rfl⟩ (by decide) (by decide)
      · rw [if_neg hc17] at hF
        refine own_Goes.via (B := T10.setTop (mkF m 24 #[.val (.int v0)] [(.int (192 : Int32)), (.int v0)])) (fun t k => ?_) ?_
        · show Steps p.tables e below (T10.setTop (mkF m 17 #[.val (.int v0)] [(.int (95 : Int32)), (.int v0)])) t
          refine XS.icmpNo X10.here hx rfl (hb hby dTermScanner_isNameStart_17) rfl (feq hc17).1 ?_
          show Steps p.tables e below (T10.setTop (mkF m 20 #[.val (.int v0)] [])) t
          refine XS.iloadN X10.here hx rfl (hb hby dTermScanner_isNameStart_20) rfl ?_
          show Steps p.tables e below (T10.setTop (mkF m 21 #[.val (.int v0)] [(.int v0)])) t
          refine XS.sipush X10.here hx rfl (hb hby dTermScanner_isNameStart_21) ?_
          exact k
        by_cases hc24 : v0 < (192 : Int32)
        · rw [if_pos hc24] at hF
          refine own_Goes.via (B := T10.setTop (mkF m 38 #[.val (.int v0)] [(.int (216 : Int32)), (.int v0)])) (fun t k => ?_) ?_
          · show Steps p.tables e below (T10.setTop (mkF m 24 #[.val (.int v0)] [(.int (192 : Int32)), (.int v0)])) t
            refine XS.icmpYes X10.here hx rfl (pc0 := 24) (pc' := 34) rfl (hb hby dTermScanner_isNameStart_24) rfl (tlt hc24).1 (by decide) (by decide) ?_
            show Steps p.tables e below (T10.setTop (mkF m 34 #[.val (.int v0)] [])) t
            refine XS.iloadN X10.here hx rfl (hb hby dTermScanner_isNameStart_34) rfl ?_
            show Steps p.tables e below (T10.setTop (mkF m 35 #[.val (.int v0)] [(.int v0)])) t
            refine XS.sipush X10.here hx rfl (hb hby dTermScanner_isNameStart_35) ?_
            exact k
          by_cases hc38 : v0 < (216 : Int32)
          · rw [if_pos hc38] at hF
            refine own_Goes.via (B := T10.setTop (mkF m 48 #[.val (.int v0)] [])) (fun t k => ?_) ?_
            · show Steps p.tables e below (T10.setTop (mkF m 38 #[.val (.int v0)] [(.int (216 : Int32)), (.int v0)])) t
              refine XS.icmpYes X10.here hx rfl (pc0 := 38) (pc' := 48) rfl (hb hby dTermScanner_isNameStart_38) rfl (tlt hc38).1 (by decide) (by decide) ?_
              exact k
            exact b_TermScanner_isNameStart_48 cx X10 e10 N10 z v0 _ hF
          · rw [if_neg hc38] at hF
            refine own_Goes.via (B := T10.setTop (mkF m 45 #[.val (.int v0)] [(.int (246 : Int32)), (.int v0)])) (fun t k => ?_) ?_
            · show Steps p.tables e below (T10.setTop (mkF m 38 #[.val (.int v0)] [(.int (216 : Int32)), (.int v0)])) t
              refine XS.icmpNo X10.here hx rfl (hb hby dTermScanner_isNameStart_38) rfl (flt hc38).1 ?_
              show Steps p.tables e below (T10.setTop (mkF m 41 #[.val (.int v0)] [])) t
              refine XS.iloadN X10.here hx rfl (hb hby dTermScanner_isNameStart_41) rfl ?_
              show Steps p.tables e below (T10.setTop (mkF m 42 #[.val (.int v0)] [(.int v0)])) t
              refine XS.sipush X10.here hx rfl (hb hby dTermScanner_isNameStart_42) ?_
              exact k
            by_cases hc45 : (246 : Int32) < v0
            · rw [if_pos hc45] at hF
              refine own_Goes.via (B := T10.setTop (mkF m 48 #[.val (.int v0)] [])) (fun t k => ?_) ?_
              · show Steps p.tables e below (T10.setTop (mkF m 45 #[.val (.int v0)] [(.int (246 : Int32)), (.int v0)])) t
                refine XS.icmpNo X10.here hx rfl (hb hby dTermScanner_isNameStart_45) rfl (tlt hc45).2.2.2 ?_
                exact k
              exact b_TermScanner_isNameStart_48 cx X10 e10 N10 z v0 _ hF
            · rw [if_neg hc45] at hF
              refine own_Goes.via (B := T10.setTop (mkF m 186 #[.val (.int v0)] [(.int (1 : Int32))])) (fun t k => ?_) ?_
              · show Steps p.tables e below (T10.setTop (mkF m 45 #[.val (.int v0)] [(.int (246 : Int32)), (.int v0)])) t
                refine XS.icmpYes X10.here hx rfl (pc0 := 45) (pc' := 181) rfl (hb hby dTermScanner_isNameStart_45) rfl (flt hc45).2.2.2 (by decide) (by decide) ?_
                show Steps p.tables e below (T10.setTop (mkF m 181 #[.val (.int v0)] [])) t
                refine XS.iconst X10.here hx rfl (hb hby dTermScanner_isNameStart_181) ?_
                show Steps p.tables e below (T10.setTop (mkF m 182 #[.val (.int v0)] [(.int (1 : Int32))])) t
                refine XS.goto X10.here hx rfl (pc0 := 182) (pc' := 186) rfl (hb hby dTermScanner_isNameStart_182) (by decide) (by decide) ?_
                exact k
              obtain rfl : (1 : Int32) = r := Option.some.inj hF
              exact own_retN X10 hx (t := .boolean) hret hlk (by simp) (hb hby dTermScanner_isNameStart_186) e10 (v := (1 : Int32)) (by decide) ⟨rfl, N10, rfl⟩ (by decide) (by decide)
        · rw [if_neg hc24] at hF
          refine own_Goes.via (B := T10.setTop (mkF m 31 #[.val (.int v0)] [(.int (214 : Int32)), (.int v0)])) (fun t k => ?_) ?_
          · show Steps p.tables e below (T10.setTop (mkF m 24 #[.val (.int v0)] [(.int (192 : Int32)), (.int v0)])) t
            refine XS.icmpNo X10.here hx rfl (hb hby dTermScanner_isNameStart_24) rfl (flt hc24).1 ?_
            show Steps p.tables e below (T10.setTop (mkF m 27 #[.val (.int v0)] [])) t
            refine XS.iloadN X10.here hx rfl (hb hby dTermScanner_isNameStart_27) rfl ?_
            show Steps p.tables e below (T10.setTop (mkF m 28 #[.val (.int v0)] [(.int v0)])) t
            refine XS.sipush X10.here hx rfl (hb hby dTermScanner_isNameStart_28) ?_
            exact k
          by_cases hc31 : (214 : Int32) < v0
          · rw [if_pos hc31] at hF
            refine own_Goes.via (B := T10.setTop (mkF m 38 #[.val (.int v0)] [(.int (216 : Int32)), (.int v0)])) (fun t k => ?_) ?_
            · show Steps p.tables e below (T10.setTop (mkF m 31 #[.val (.int v0)] [(.int (214 : Int32)), (.int v0)])) t
              refine XS.icmpNo X10.here hx rfl (hb hby dTermScanner_isNameStart_31) rfl (tlt hc31).2.2.2 ?_
              show Steps p.tables e below (T10.setTop (mkF m 34 #[.val (.int v0)] [])) t
              refine XS.iloadN X10.here hx rfl (hb hby dTermScanner_isNameStart_34) rfl ?_
              show Steps p.tables e below (T10.setTop (mkF m 35 #[.val (.int v0)] [(.int v0)])) t
              refine XS.sipush X10.here hx rfl (hb hby dTermScanner_isNameStart_35) ?_
              exact k
            by_cases hc38 : v0 < (216 : Int32)
            · rw [if_pos hc38] at hF
              refine own_Goes.via (B := T10.setTop (mkF m 48 #[.val (.int v0)] [])) (fun t k => ?_) ?_
              · show Steps p.tables e below (T10.setTop (mkF m 38 #[.val (.int v0)] [(.int (216 : Int32)), (.int v0)])) t
                refine XS.icmpYes X10.here hx rfl (pc0 := 38) (pc' := 48) rfl (hb hby dTermScanner_isNameStart_38) rfl (tlt hc38).1 (by decide) (by decide) ?_
                exact k
              exact b_TermScanner_isNameStart_48 cx X10 e10 N10 z v0 _ hF
            · rw [if_neg hc38] at hF
              refine own_Goes.via (B := T10.setTop (mkF m 45 #[.val (.int v0)] [(.int (246 : Int32)), (.int v0)])) (fun t k => ?_) ?_
              · show Steps p.tables e below (T10.setTop (mkF m 38 #[.val (.int v0)] [(.int (216 : Int32)), (.int v0)])) t
                refine XS.icmpNo X10.here hx rfl (hb hby dTermScanner_isNameStart_38) rfl (flt hc38).1 ?_
                show Steps p.tables e below (T10.setTop (mkF m 41 #[.val (.int v0)] [])) t
                refine XS.iloadN X10.here hx rfl (hb hby dTermScanner_isNameStart_41) rfl ?_
                show Steps p.tables e below (T10.setTop (mkF m 42 #[.val (.int v0)] [(.int v0)])) t
                refine XS.sipush X10.here hx rfl (hb hby dTermScanner_isNameStart_42) ?_
                exact k
              by_cases hc45 : (246 : Int32) < v0
              · rw [if_pos hc45] at hF
                refine own_Goes.via (B := T10.setTop (mkF m 48 #[.val (.int v0)] [])) (fun t k => ?_) ?_
                · show Steps p.tables e below (T10.setTop (mkF m 45 #[.val (.int v0)] [(.int (246 : Int32)), (.int v0)])) t
                  refine XS.icmpNo X10.here hx rfl (hb hby dTermScanner_isNameStart_45) rfl (tlt hc45).2.2.2 ?_
                  exact k
                exact b_TermScanner_isNameStart_48 cx X10 e10 N10 z v0 _ hF
              · rw [if_neg hc45] at hF
                refine own_Goes.via (B := T10.setTop (mkF m 186 #[.val (.int v0)] [(.int (1 : Int32))])) (fun t k => ?_) ?_
                · show Steps p.tables e below (T10.setTop (mkF m 45 #[.val (.int v0)] [(.int (246 : Int32)), (.int v0)])) t
                  refine XS.icmpYes X10.here hx rfl (pc0 := 45) (pc' := 181) rfl (hb hby dTermScanner_isNameStart_45) rfl (flt hc45).2.2.2 (by decide) (by decide) ?_
                  show Steps p.tables e below (T10.setTop (mkF m 181 #[.val (.int v0)] [])) t
                  refine XS.iconst X10.here hx rfl (hb hby dTermScanner_isNameStart_181) ?_
                  show Steps p.tables e below (T10.setTop (mkF m 182 #[.val (.int v0)] [(.int (1 : Int32))])) t
                  refine XS.goto X10.here hx rfl (pc0 := 182) (pc' := 186) rfl (hb hby dTermScanner_isNameStart_182) (by decide) (by decide) ?_
                  exact k
                obtain rfl : (1 : Int32) = r := Option.some.inj hF
                exact own_retN X10 hx (t := .boolean) hret hlk (by simp) (hb hby dTermScanner_isNameStart_186) e10 (v := (1 : Int32)) (by decide) ⟨rfl, N10, rfl⟩ (by decide) (by decide)
          · rw [if_neg hc31] at hF
            refine own_Goes.via (B := T10.setTop (mkF m 186 #[.val (.int v0)] [(.int (1 : Int32))])) (fun t k => ?_) ?_
            · show Steps p.tables e below (T10.setTop (mkF m 31 #[.val (.int v0)] [(.int (214 : Int32)), (.int v0)])) t
              refine XS.icmpYes X10.here hx rfl (pc0 := 31) (pc' := 181) rfl (hb hby dTermScanner_isNameStart_31) rfl (flt hc31).2.2.2 (by decide) (by decide) ?_
              show Steps p.tables e below (T10.setTop (mkF m 181 #[.val (.int v0)] [])) t
              refine XS.iconst X10.here hx rfl (hb hby dTermScanner_isNameStart_181) ?_
              show Steps p.tables e below (T10.setTop (mkF m 182 #[.val (.int v0)] [(.int (1 : Int32))])) t
              refine XS.goto X10.here hx rfl (pc0 := 182) (pc' := 186) rfl (hb hby dTermScanner_isNameStart_182) (by decide) (by decide) ?_
              exact k
            obtain rfl : (1 : Int32) = r := Option.some.inj hF
            exact own_retN X10 hx (t := .boolean) hret hlk (by simp) (hb hby dTermScanner_isNameStart_186) e10 (v := (1 : Int32)) (by decide) ⟨rfl, N10, rfl⟩ (by decide) (by decide)
    · rw [if_neg hc11] at hF
      refine own_Goes.via (B := T10.setTop (mkF m 186 #[.val (.int v0)] [(.int (1 : Int32))])) (fun t k => ?_) ?_
      · show Steps p.tables e below (T10.setTop (mkF m 11 #[.val (.int v0)] [(.int r10)])) t
        refine XS.ifYes X10.here hx rfl (pc0 := 11) (pc' := 181) rfl (hb hby dTermScanner_isNameStart_11) rfl ((if0 _ _).trans (feq hc11).2) (by decide) (by decide) ?_
        show Steps p.tables e below (T10.setTop (mkF m 181 #[.val (.int v0)] [])) t
        refine XS.iconst X10.here hx rfl (hb hby dTermScanner_isNameStart_181) ?_
        show Steps p.tables e below (T10.setTop (mkF m 182 #[.val (.int v0)] [(.int (1 : Int32))])) t
        refine XS.goto X10.here hx rfl (pc0 := 182) (pc' := 186) rfl (hb hby dTermScanner_isNameStart_182) (by decide) (by decide) ?_
        exact k
      obtain rfl : (1 : Int32) = r := Option.some.inj hF
      exact own_retN X10 hx (t := .boolean) hret hlk (by simp) (hb hby dTermScanner_isNameStart_186) e10 (v := (1 : Int32)) (by decide) ⟨rfl, N10, rfl⟩ (by decide) (by decide)
  · rw [if_neg hc4] at hF
    refine own_Goes.via (B := T9.setTop (mkF m 186 #[.val (.int v0)] [(.int (1 : Int32))])) (fun t k => ?_) ?_
    · show Steps p.tables e below (T9.setTop (mkF m 4 #[.val (.int v0)] [(.int r9)])) t
      refine XS.ifYes X9.here hx rfl (pc0 := 4) (pc' := 181) rfl (hb hby dTermScanner_isNameStart_4) rfl ((if0 _ _).trans (feq hc4).2) (by decide) (by decide) ?_
      show Steps p.tables e below (T9.setTop (mkF m 181 #[.val (.int v0)] [])) t
      refine XS.iconst X9.here hx rfl (hb hby dTermScanner_isNameStart_181) ?_
      show Steps p.tables e below (T9.setTop (mkF m 182 #[.val (.int v0)] [(.int (1 : Int32))])) t
      refine XS.goto X9.here hx rfl (pc0 := 182) (pc' := 186) rfl (hb hby dTermScanner_isNameStart_182) (by decide) (by decide) ?_
      exact k
    obtain rfl : (1 : Int32) = r := Option.some.inj hF
    exact own_retN X9 hx (t := .boolean) hret hlk (by simp) (hb hby dTermScanner_isNameStart_186) e9 (v := (1 : Int32)) (by decide) ⟨rfl, N9, rfl⟩ (by decide) (by decide)
theorem ef_TermScanner_isNameStart (m : MethodId) (x0 : Int32) : entryFrame m #[(.int x0)] 1 = mkF m 0 #[.val (.int x0)] [] := by first | (simp [entryFrame, mkF, argsToLocals, Value.category]; done) | rfl
set_option maxRecDepth 65536 in
set_option maxHeartbeats 4000000 in
theorem rm_TermScanner_isNameStart (l : Launch) (Z : State) (a0 : Array Value) (hw : ∀ d ∈ tables_1, d.before a0 Z = true) (ws : List Jvm.Cond) (hE : Heap) (n0 : Nat) (z : n0 ≤ hE.size)  (v0 : Int32) (r : Int32) (hF : (f_TermScanner_isNameStart v0) = some r) :
    MetFree l (⟨"com/example/rulr/rulr/TermScanner", "isNameStart", "(I)Z"⟩ : MethodName) (head1 (Jvm.Cond.code (⟨"com/example/rulr/rulr/TermScanner", "isNameStart", "(I)Z"⟩ : MethodName) prog_93_method_18_code 1 (some .boolean) :: ws) ({ frames := 1, cells := 0, slots := 0, locals := 12 } : Room)) (fun a U => a = #[(.int v0)] ∧ Z.Warmed39 U.vm ∧ U.heap = hE) (fun _ _ _ _ _ => True) (fun _ U o U' => ∃ v L, o = .returned v ∧ (Q_TermScanner_isNameStart Z hE n0 r) v U'.heap L ∧ FrameEnd U o U' L ({ frames := 1, cells := 0, slots := 0, locals := 12 } : Room).cells ({ frames := 1, cells := 0, slots := 0, locals := 12 } : Room).slots) := by
  refine MetFree.of_bodySF (plainFor_of_name pn_com_example_rulr_rulr_TermScanner) hisR ?_
  intro p e s m args below meth c s₁ Bd hml0 hP hK
  obtain ⟨rfl, hZ, hh⟩ := hP
  have X0 : Stand p l e ({ frames := 1, cells := 0, slots := 0, locals := 12 } : Room) s m #[(.int v0)] below meth c s₁ [] 0 0 := Stand.of_body Bd
  have e0 : s₁.heap = hE := by rw [← hh, Bd.state]; rfl
  have cx : Cx_TermScanner_isNameStart p s m meth c Z a0 := ⟨Bd.exec, hZ, hw, Bd.bytes, hml0, findClass_of_methodNamed Bd.named, Bd.returns, Bd.notSynchronized, (name_of_methodNamed Bd.named Bd.method).1⟩
  show own_Goes p e below s (Q_TermScanner_isNameStart Z hE n0 r) ({ frames := 1, cells := 0, slots := 0, locals := 12 } : Room).cells ({ frames := 1, cells := 0, slots := 0, locals := 12 } : Room).slots (s₁.setTop (entryFrame m #[(.int v0)] 1))
  rw [ef_TermScanner_isNameStart]
  exact b_TermScanner_isNameStart cx X0 e0 (Fr.nil n0) z v0 _ hF
/-! com/example/rulr/rulr/TermScannerIsNameStartPinLaw.expected:(I)Z -/
def f_TermScannerIsNameStartPinLaw_expected_190 (v0 : Int32) : Option (Int32) :=
  if v0 < (64976 : Int32) then
    if v0 = (65534 : Int32) then
      some (0 : Int32)
    else
      if v0 = (65535 : Int32) then
        some (0 : Int32)
      else
        some (1 : Int32)
  else
    if (65007 : Int32) < v0 then
      if v0 = (65534 : Int32) then
        some (0 : Int32)
      else
        if v0 = (65535 : Int32) then
          some (0 : Int32)
        else
          some (1 : Int32)
    else
      some (0 : Int32)
def f_TermScannerIsNameStartPinLaw_expected_160 (v0 : Int32) : Option (Int32) :=
  if v0 < (12272 : Int32) then
    if v0 < (55296 : Int32) then
      (f_TermScannerIsNameStartPinLaw_expected_190 v0)
    else
      if (63743 : Int32) < v0 then
        (f_TermScannerIsNameStartPinLaw_expected_190 v0)
      else
        some (0 : Int32)
  else
    if (12288 : Int32) < v0 then
      if v0 < (55296 : Int32) then
        (f_TermScannerIsNameStartPinLaw_expected_190 v0)
      else
        if (63743 : Int32) < v0 then
          (f_TermScannerIsNameStartPinLaw_expected_190 v0)
        else
          some (0 : Int32)
    else
      some (0 : Int32)
def f_TermScannerIsNameStartPinLaw_expected_128 (v0 : Int32) : Option (Int32) :=
  if v0 < (8206 : Int32) then
    if v0 < (8592 : Int32) then
      (f_TermScannerIsNameStartPinLaw_expected_160 v0)
    else
      if (11263 : Int32) < v0 then
        (f_TermScannerIsNameStartPinLaw_expected_160 v0)
      else
        some (0 : Int32)
  else
    if (8303 : Int32) < v0 then
      if v0 < (8592 : Int32) then
        (f_TermScannerIsNameStartPinLaw_expected_160 v0)
      else
        if (11263 : Int32) < v0 then
          (f_TermScannerIsNameStartPinLaw_expected_160 v0)
        else
          some (0 : Int32)
    else
      some (0 : Int32)
def f_TermScannerIsNameStartPinLaw_expected_103 (v0 : Int32) : Option (Int32) :=
  if v0 = (894 : Int32) then
    some (0 : Int32)
  else
    if v0 < (8192 : Int32) then
      (f_TermScannerIsNameStartPinLaw_expected_128 v0)
    else
      if (8203 : Int32) < v0 then
        (f_TermScannerIsNameStartPinLaw_expected_128 v0)
      else
        some (0 : Int32)
def f_TermScannerIsNameStartPinLaw_expected_71 (v0 : Int32) : Option (Int32) :=
  if v0 = (215 : Int32) then
    some (0 : Int32)
  else
    if v0 = (247 : Int32) then
      some (0 : Int32)
    else
      if v0 < (768 : Int32) then
        (f_TermScannerIsNameStartPinLaw_expected_103 v0)
      else
        if (879 : Int32) < v0 then
          (f_TermScannerIsNameStartPinLaw_expected_103 v0)
        else
          some (0 : Int32)
def f_TermScannerIsNameStartPinLaw_expected_48 (v0 : Int32) : Option (Int32) :=
  if v0 = (96 : Int32) then
    some (0 : Int32)
  else
    if v0 < (123 : Int32) then
      (f_TermScannerIsNameStartPinLaw_expected_71 v0)
    else
      if (191 : Int32) < v0 then
        (f_TermScannerIsNameStartPinLaw_expected_71 v0)
      else
        some (0 : Int32)
def f_TermScannerIsNameStartPinLaw_expected (v0 : Int32) : Option (Int32) :=
  if v0 < (0 : Int32) then
    some (0 : Int32)
  else
    if (983039 : Int32) < v0 then
      some (0 : Int32)
    else
      if (47 : Int32) < v0 then
        if v0 < (58 : Int32) then
          if v0 < (91 : Int32) then
            (f_TermScannerIsNameStartPinLaw_expected_48 v0)
          else
            if (94 : Int32) < v0 then
              (f_TermScannerIsNameStartPinLaw_expected_48 v0)
            else
              some (0 : Int32)
        else
          if (64 : Int32) < v0 then
            if v0 < (91 : Int32) then
              (f_TermScannerIsNameStartPinLaw_expected_48 v0)
            else
              if (94 : Int32) < v0 then
                (f_TermScannerIsNameStartPinLaw_expected_48 v0)
              else
                some (0 : Int32)
          else
            some (0 : Int32)
      else
        some (0 : Int32)
def Q_TermScannerIsNameStartPinLaw_expected (Z : State) (hE : Heap) (n0 : Nat)  (r : Int32) (v : Option Value) (h : Heap) (L : List Loc) : Prop := v = some (.int r) ∧ Fr n0 L ∧ h = hE
def Cx_TermScannerIsNameStartPinLaw_expected (p : Program) (s : State) (m : MethodId) (meth : Method) (c : Code) (Z : State) (a0 : Array Value) : Prop := p.tables.exec = Jvm.exec ∧ Z.Warmed39 s.vm ∧ (∀ d ∈ tables_1, d.before a0 Z = true) ∧ c.code = method_3_code ∧ c.maxLocals = 1 ∧ s.vm.findClass "com/example/rulr/rulr/TermScannerIsNameStartPinLaw" = some m.cls ∧ meth.sig.returnType = some .boolean ∧ meth.locks = false ∧ meth.name = "expected"
set_option maxRecDepth 65536 in
set_option maxHeartbeats 4000000 in
theorem b_TermScannerIsNameStartPinLaw_expected_190 {p : Program} {l : Launch} {e : Env} {s : State} {m : MethodId} {args : Array Value} {below : List Frame} {meth : Method} {c : Code} {Z : State} {a0 : Array Value} {n0 : Nat} {hE : Heap} (cx : Cx_TermScannerIsNameStartPinLaw_expected p s m meth c Z a0) :
    ∀ {T : State} {locs : List Loc} (X : Stand p l e ({ frames := 0, cells := 0, slots := 0, locals := 0 } : Room) s m args below meth c T locs 0 0) (eT : T.heap = hE) (N : Fr n0 locs) (z : n0 ≤ hE.size) (v0 : Int32) (r : Int32), f_TermScannerIsNameStartPinLaw_expected_190 v0 = some r → own_Goes p e below s (Q_TermScannerIsNameStartPinLaw_expected Z hE n0 r) 0 0 (T.setTop (mkF m 190 #[.val (.int v0)] [])) := by
  have cx' := cx
  obtain ⟨hx, hZ, hw, hby, hml, hown, hret, hlk, hnm⟩ := cx'
  intro T locs X eT N z v0 r hF
  unfold f_TermScannerIsNameStartPinLaw_expected_190 at hF
  refine own_Goes.via (B := T.setTop (mkF m 193 #[.val (.int v0)] [(.int (64976 : Int32)), (.int v0)])) (fun t k => ?_) ?_
  · show Steps p.tables e below (T.setTop (mkF m 190 #[.val (.int v0)] [])) t
    refine XS.iloadN X.here hx rfl (hb hby dTermScannerIsNameStartPinLaw_expected_190) rfl ?_
    show Steps p.tables e below (T.setTop (mkF m 191 #[.val (.int v0)] [(.int v0)])) t
    refine X.ldcInt hx hown (mvT hZ (w20 hw)) (g := (mkF m 191 #[.val (.int v0)] [(.int v0)])) rfl (hb hby dTermScannerIsNameStartPinLaw_expected_191) _ ?_
    exact k
  by_cases hc193 : v0 < (64976 : Int32)
  · rw [if_pos hc193] at hF
    refine own_Goes.via (B := T.setTop (mkF m 207 #[.val (.int v0)] [(.int (65534 : Int32)), (.int v0)])) (fun t k => ?_) ?_
    · show Steps p.tables e below (T.setTop (mkF m 193 #[.val (.int v0)] [(.int (64976 : Int32)), (.int v0)])) t
      refine XS.icmpYes X.here hx rfl (pc0 := 193) (pc' := 204) rfl (hb hby dTermScannerIsNameStartPinLaw_expected_193) rfl (tlt hc193).1 (by decide) (by decide) ?_
      show Steps p.tables e below (T.setTop (mkF m 204 #[.val (.int v0)] [])) t
      refine XS.iloadN X.here hx rfl (hb hby dTermScannerIsNameStartPinLaw_expected_204) rfl ?_
      show Steps p.tables e below (T.setTop (mkF m 205 #[.val (.int v0)] [(.int v0)])) t
      refine X.ldcInt hx hown (mvT hZ (w21 hw)) (g := (mkF m 205 #[.val (.int v0)] [(.int v0)])) rfl (hb hby dTermScannerIsNameStartPinLaw_expected_205) _ ?_
      exact k
    by_cases hc207 : v0 = (65534 : Int32)
    · rw [if_pos hc207] at hF
      refine own_Goes.via (B := T.setTop (mkF m 217 #[.val (.int v0)] [(.int (0 : Int32))])) (fun t k => ?_) ?_
      · show Steps p.tables e below (T.setTop (mkF m 207 #[.val (.int v0)] [(.int (65534 : Int32)), (.int v0)])) t
        refine XS.icmpYes X.here hx rfl (pc0 := 207) (pc' := 216) rfl (hb hby dTermScannerIsNameStartPinLaw_expected_207) rfl (teq hc207).1 (by decide) (by decide) ?_
        show Steps p.tables e below (T.setTop (mkF m 216 #[.val (.int v0)] [])) t
        refine XS.iconst X.here hx rfl (hb hby dTermScannerIsNameStartPinLaw_expected_216) ?_
        exact k
      obtain rfl : (0 : Int32) = r := Option.some.inj hF
      exact own_retN X hx (t := .boolean) hret hlk (by simp) (hb hby dTermScannerIsNameStartPinLaw_expected_217) eT (v := (0 : Int32)) (by decide) ⟨rfl, N, rfl⟩ (by decide) (by decide)
    · rw [if_neg hc207] at hF
      refine own_Goes.via (B := T.setTop (mkF m 213 #[.val (.int v0)] [(.int (65535 : Int32)), (.int v0)])) (fun t k => ?_) ?_
      · show Steps p.tables e below (T.setTop (mkF m 207 #[.val (.int v0)] [(.int (65534 : Int32)), (.int v0)])) t
        refine XS.icmpNo X.here hx rfl (hb hby dTermScannerIsNameStartPinLaw_expected_207) rfl (feq hc207).1 ?_
        show Steps p.tables e below (T.setTop (mkF m 210 #[.val (.int v0)] [])) t
        refine XS.iloadN X.here hx rfl (hb hby dTermScannerIsNameStartPinLaw_expected_210) rfl ?_
        show Steps p.tables e below (T.setTop (mkF m 211 #[.val (.int v0)] [(.int v0)])) t
        refine X.ldcInt hx hown (mvT hZ (w22 hw)) (g := (mkF m 211 #[.val (.int v0)] [(.int v0)])) rfl (hb hby dTermScannerIsNameStartPinLaw_expected_211) _ ?_
        exact k
      by_cases hc213 : v0 = (65535 : Int32)
      · rw [if_pos hc213] at hF
        refine own_Goes.via (B := T.setTop (mkF m 217 #[.val (.int v0)] [(.int (0 : Int32))])) (fun t k => ?_) ?_
        · show Steps p.tables e below (T.setTop (mkF m 213 #[.val (.int v0)] [(.int (65535 : Int32)), (.int v0)])) t
          refine XS.icmpNo X.here hx rfl (hb hby dTermScannerIsNameStartPinLaw_expected_213) rfl (teq hc213).2 ?_
          show Steps p.tables e below (T.setTop (mkF m 216 #[.val (.int v0)] [])) t
          refine XS.iconst X.here hx rfl (hb hby dTermScannerIsNameStartPinLaw_expected_216) ?_
          exact k
        obtain rfl : (0 : Int32) = r := Option.some.inj hF
        exact own_retN X hx (t := .boolean) hret hlk (by simp) (hb hby dTermScannerIsNameStartPinLaw_expected_217) eT (v := (0 : Int32)) (by decide) ⟨rfl, N, rfl⟩ (by decide) (by decide)
      · rw [if_neg hc213] at hF
        refine own_Goes.via (B := T.setTop (mkF m 219 #[.val (.int v0)] [(.int (1 : Int32))])) (fun t k => ?_) ?_
        · show Steps p.tables e below (T.setTop (mkF m 213 #[.val (.int v0)] [(.int (65535 : Int32)), (.int v0)])) t
          refine XS.icmpYes X.here hx rfl (pc0 := 213) (pc' := 218) rfl (hb hby dTermScannerIsNameStartPinLaw_expected_213) rfl (feq hc213).2 (by decide) (by decide) ?_
          show Steps p.tables e below (T.setTop (mkF m 218 #[.val (.int v0)] [])) t
          refine XS.iconst X.here hx rfl (hb hby dTermScannerIsNameStartPinLaw_expected_218) ?_
          exact k
        obtain rfl : (1 : Int32) = r := Option.some.inj hF
        exact own_retN X hx (t := .boolean) hret hlk (by simp) (hb hby dTermScannerIsNameStartPinLaw_expected_219) eT (v := (1 : Int32)) (by decide) ⟨rfl, N, rfl⟩ (by decide) (by decide)
  · rw [if_neg hc193] at hF
    refine own_Goes.via (B := T.setTop (mkF m 199 #[.val (.int v0)] [(.int (65007 : Int32)), (.int v0)])) (fun t k => ?_) ?_
    · show Steps p.tables e below (T.setTop (mkF m 193 #[.val (.int v0)] [(.int (64976 : Int32)), (.int v0)])) t
      refine XS.icmpNo X.here hx rfl (hb hby dTermScannerIsNameStartPinLaw_expected_193) rfl (flt hc193).1 ?_
      show Steps p.tables e below (T.setTop (mkF m 196 #[.val (.int v0)] [])) t
      refine XS.iloadN X.here hx rfl (hb hby dTermScannerIsNameStartPinLaw_expected_196) rfl ?_
      show Steps p.tables e below (T.setTop (mkF m 197 #[.val (.int v0)] [(.int v0)])) t
      refine X.ldcInt hx hown (mvT hZ (w28 hw)) (g := (mkF m 197 #[.val (.int v0)] [(.int v0)])) rfl (hb hby dTermScannerIsNameStartPinLaw_expected_197) _ ?_
      exact k
    by_cases hc199 : (65007 : Int32) < v0
    · rw [if_pos hc199] at hF
      refine own_Goes.via (B := T.setTop (mkF m 207 #[.val (.int v0)] [(.int (65534 : Int32)), (.int v0)])) (fun t k => ?_) ?_
      · show Steps p.tables e below (T.setTop (mkF m 199 #[.val (.int v0)] [(.int (65007 : Int32)), (.int v0)])) t
        refine XS.icmpYes X.here hx rfl (pc0 := 199) (pc' := 204) rfl (hb hby dTermScannerIsNameStartPinLaw_expected_199) rfl (tlt hc199).2.2.1 (by decide) (by decide) ?_
        show Steps p.tables e below (T.setTop (mkF m 204 #[.val (.int v0)] [])) t
        refine XS.iloadN X.here hx rfl (hb hby dTermScannerIsNameStartPinLaw_expected_204) rfl ?_
        show Steps p.tables e below (T.setTop (mkF m 205 #[.val (.int v0)] [(.int v0)])) t
        refine X.ldcInt hx hown (mvT hZ (w21 hw)) (g := (mkF m 205 #[.val (.int v0)] [(.int v0)])) rfl (hb hby dTermScannerIsNameStartPinLaw_expected_205) _ ?_
        exact k
      by_cases hc207 : v0 = (65534 : Int32)
      · rw [if_pos hc207] at hF
        refine own_Goes.via (B := T.setTop (mkF m 217 #[.val (.int v0)] [(.int (0 : Int32))])) (fun t k => ?_) ?_
        · show Steps p.tables e below (T.setTop (mkF m 207 #[.val (.int v0)] [(.int (65534 : Int32)), (.int v0)])) t
          refine XS.icmpYes X.here hx rfl (pc0 := 207) (pc' := 216) rfl (hb hby dTermScannerIsNameStartPinLaw_expected_207) rfl (teq hc207).1 (by decide) (by decide) ?_
          show Steps p.tables e below (T.setTop (mkF m 216 #[.val (.int v0)] [])) t
          refine XS.iconst X.here hx rfl (hb hby dTermScannerIsNameStartPinLaw_expected_216) ?_
          exact k
        obtain rfl : (0 : Int32) = r := Option.some.inj hF
        exact own_retN X hx (t := .boolean) hret hlk (by simp) (hb hby dTermScannerIsNameStartPinLaw_expected_217) eT (v := (0 : Int32)) (by decide) ⟨rfl, N, rfl⟩ (by decide) (by decide)
      · rw [if_neg hc207] at hF
        refine own_Goes.via (B := T.setTop (mkF m 213 #[.val (.int v0)] [(.int (65535 : Int32)), (.int v0)])) (fun t k => ?_) ?_
        · show Steps p.tables e below (T.setTop (mkF m 207 #[.val (.int v0)] [(.int (65534 : Int32)), (.int v0)])) t
          refine XS.icmpNo X.here hx rfl (hb hby dTermScannerIsNameStartPinLaw_expected_207) rfl (feq hc207).1 ?_
          show Steps p.tables e below (T.setTop (mkF m 210 #[.val (.int v0)] [])) t
          refine XS.iloadN X.here hx rfl (hb hby dTermScannerIsNameStartPinLaw_expected_210) rfl ?_
          show Steps p.tables e below (T.setTop (mkF m 211 #[.val (.int v0)] [(.int v0)])) t
          refine X.ldcInt hx hown (mvT hZ (w22 hw)) (g := (mkF m 211 #[.val (.int v0)] [(.int v0)])) rfl (hb hby dTermScannerIsNameStartPinLaw_expected_211) _ ?_
          exact k
        by_cases hc213 : v0 = (65535 : Int32)
        · rw [if_pos hc213] at hF
          refine own_Goes.via (B := T.setTop (mkF m 217 #[.val (.int v0)] [(.int (0 : Int32))])) (fun t k => ?_) ?_
          · show Steps p.tables e below (T.setTop (mkF m 213 #[.val (.int v0)] [(.int (65535 : Int32)), (.int v0)])) t
            refine XS.icmpNo X.here hx rfl (hb hby dTermScannerIsNameStartPinLaw_expected_213) rfl (teq hc213).2 ?_
            show Steps p.tables e below (T.setTop (mkF m 216 #[.val (.int v0)] [])) t
            refine XS.iconst X.here hx rfl (hb hby dTermScannerIsNameStartPinLaw_expected_216) ?_
            exact k
          obtain rfl : (0 : Int32) = r := Option.some.inj hF
          exact own_retN X hx (t := .boolean) hret hlk (by simp) (hb hby dTermScannerIsNameStartPinLaw_expected_217) eT (v := (0 : Int32)) (by decide) ⟨rfl, N, rfl⟩ (by decide) (by decide)
        · rw [if_neg hc213] at hF
          refine own_Goes.via (B := T.setTop (mkF m 219 #[.val (.int v0)] [(.int (1 : Int32))])) (fun t k => ?_) ?_
          · show Steps p.tables e below (T.setTop (mkF m 213 #[.val (.int v0)] [(.int (65535 : Int32)), (.int v0)])) t
            refine XS.icmpYes X.here hx rfl (pc0 := 213) (pc' := 218) rfl (hb hby dTermScannerIsNameStartPinLaw_expected_213) rfl (feq hc213).2 (by decide) (by decide) ?_
            show Steps p.tables e below (T.setTop (mkF m 218 #[.val (.int v0)] [])) t
            refine XS.iconst X.here hx rfl (hb hby dTermScannerIsNameStartPinLaw_expected_218) ?_
            exact k
          obtain rfl : (1 : Int32) = r := Option.some.inj hF
          exact own_retN X hx (t := .boolean) hret hlk (by simp) (hb hby dTermScannerIsNameStartPinLaw_expected_219) eT (v := (1 : Int32)) (by decide) ⟨rfl, N, rfl⟩ (by decide) (by decide)
    · rw [if_neg hc199] at hF
      refine own_Goes.via (B := T.setTop (mkF m 203 #[.val (.int v0)] [(.int (0 : Int32))])) (fun t k => ?_) ?_
      · show Steps p.tables e below (T.setTop (mkF m 199 #[.val (.int v0)] [(.int (65007 : Int32)), (.int v0)])) t
        refine XS.icmpNo X.here hx rfl (hb hby dTermScannerIsNameStartPinLaw_expected_199) rfl (flt hc199).2.2.1 ?_
        show Steps p.tables e below (T.setTop (mkF m 202 #[.val (.int v0)] [])) t
        refine XS.iconst X.here hx rfl (hb hby dTermScannerIsNameStartPinLaw_expected_202) ?_
        exact k
      obtain rfl : (0 : Int32) = r := Option.some.inj hF
      exact own_retN X hx (t := .boolean) hret hlk (by simp) (hb hby dTermScannerIsNameStartPinLaw_expected_203) eT (v := (0 : Int32)) (by decide) ⟨rfl, N, rfl⟩ (by decide) (by decide)
set_option maxRecDepth 65536 in
set_option maxHeartbeats 4000000 in
theorem b_TermScannerIsNameStartPinLaw_expected_160 {p : Program} {l : Launch} {e : Env} {s : State} {m : MethodId} {args : Array Value} {below : List Frame} {meth : Method} {c : Code} {Z : State} {a0 : Array Value} {n0 : Nat} {hE : Heap} (cx : Cx_TermScannerIsNameStartPinLaw_expected p s m meth c Z a0) :
    ∀ {T : State} {locs : List Loc} (X : Stand p l e ({ frames := 0, cells := 0, slots := 0, locals := 0 } : Room) s m args below meth c T locs 0 0) (eT : T.heap = hE) (N : Fr n0 locs) (z : n0 ≤ hE.size) (v0 : Int32) (r : Int32), f_TermScannerIsNameStartPinLaw_expected_160 v0 = some r → own_Goes p e below s (Q_TermScannerIsNameStartPinLaw_expected Z hE n0 r) 0 0 (T.setTop (mkF m 160 #[.val (.int v0)] [])) := by
  have cx' := cx
  obtain ⟨hx, hZ, hw, hby, hml, hown, hret, hlk, hnm⟩ := cx'
  intro T locs X eT N z v0 r hF
  unfold f_TermScannerIsNameStartPinLaw_expected_160 at hF
  refine own_Goes.via (B := T.setTop (mkF m 164 #[.val (.int v0)] [(.int (12272 : Int32)), (.int v0)])) (fun t k => ?_) ?_
  · show Steps p.tables e below (T.setTop (mkF m 160 #[.val (.int v0)] [])) t
    refine XS.iloadN X.here hx rfl (hb hby dTermScannerIsNameStartPinLaw_expected_160) rfl ?_
    show Steps p.tables e below (T.setTop (mkF m 161 #[.val (.int v0)] [(.int v0)])) t
    refine XS.sipush X.here hx rfl (hb hby dTermScannerIsNameStartPinLaw_expected_161) ?_
    exact k
  by_cases hc164 : v0 < (12272 : Int32)
  · rw [if_pos hc164] at hF
    refine own_Goes.via (B := T.setTop (mkF m 179 #[.val (.int v0)] [(.int (55296 : Int32)), (.int v0)])) (fun t k => ?_) ?_
    · show Steps p.tables e below (T.setTop (mkF m 164 #[.val (.int v0)] [(.int (12272 : Int32)), (.int v0)])) t
      refine XS.icmpYes X.here hx rfl (pc0 := 164) (pc' := 176) rfl (hb hby dTermScannerIsNameStartPinLaw_expected_164) rfl (tlt hc164).1 (by decide) (by decide) ?_
      show Steps p.tables e below (T.setTop (mkF m 176 #[.val (.int v0)] [])) t
      refine XS.iloadN X.here hx rfl (hb hby dTermScannerIsNameStartPinLaw_expected_176) rfl ?_
      show Steps p.tables e below (T.setTop (mkF m 177 #[.val (.int v0)] [(.int v0)])) t
      refine X.ldcInt hx hown (mvT hZ (w19 hw)) (g := (mkF m 177 #[.val (.int v0)] [(.int v0)])) rfl (hb hby dTermScannerIsNameStartPinLaw_expected_177) _ ?_
      exact k
    by_cases hc179 : v0 < (55296 : Int32)
    · rw [if_pos hc179] at hF
      refine own_Goes.via (B := T.setTop (mkF m 190 #[.val (.int v0)] [])) (fun t k => ?_) ?_
      · show Steps p.tables e below (T.setTop (mkF m 179 #[.val (.int v0)] [(.int (55296 : Int32)), (.int v0)])) t
        refine XS.icmpYes X.here hx rfl (pc0 := 179) (pc' := 190) rfl (hb hby dTermScannerIsNameStartPinLaw_expected_179) rfl (tlt hc179).1 (by decide) (by decide) ?_
        exact k
      exact b_TermScannerIsNameStartPinLaw_expected_190 cx X eT N z v0 _ hF
    · rw [if_neg hc179] at hF
      refine own_Goes.via (B := T.setTop (mkF m 185 #[.val (.int v0)] [(.int (63743 : Int32)), (.int v0)])) (fun t k => ?_) ?_
      · show Steps p.tables e below (T.setTop (mkF m 179 #[.val (.int v0)] [(.int (55296 : Int32)), (.int v0)])) t
        refine XS.icmpNo X.here hx rfl (hb hby dTermScannerIsNameStartPinLaw_expected_179) rfl (flt hc179).1 ?_
        show Steps p.tables e below (T.setTop (mkF m 182 #[.val (.int v0)] [])) t
        refine XS.iloadN X.here hx rfl (hb hby dTermScannerIsNameStartPinLaw_expected_182) rfl ?_
        show Steps p.tables e below (T.setTop (mkF m 183 #[.val (.int v0)] [(.int v0)])) t
        refine X.ldcInt hx hown (mvT hZ (w27 hw)) (g := (mkF m 183 #[.val (.int v0)] [(.int v0)])) rfl (hb hby dTermScannerIsNameStartPinLaw_expected_183) _ ?_
        exact k
      by_cases hc185 : (63743 : Int32) < v0
      · rw [if_pos hc185] at hF
        refine own_Goes.via (B := T.setTop (mkF m 190 #[.val (.int v0)] [])) (fun t k => ?_) ?_
        · show Steps p.tables e below (T.setTop (mkF m 185 #[.val (.int v0)] [(.int (63743 : Int32)), (.int v0)])) t
          refine XS.icmpYes X.here hx rfl (pc0 := 185) (pc' := 190) rfl (hb hby dTermScannerIsNameStartPinLaw_expected_185) rfl (tlt hc185).2.2.1 (by decide) (by decide) ?_
          exact k
        exact b_TermScannerIsNameStartPinLaw_expected_190 cx X eT N z v0 _ hF
      · rw [if_neg hc185] at hF
        refine own_Goes.via (B := T.setTop (mkF m 189 #[.val (.int v0)] [(.int (0 : Int32))])) (fun t k => ?_) ?_
        · show Steps p.tables e below (T.setTop (mkF m 185 #[.val (.int v0)] [(.int (63743 : Int32)), (.int v0)])) t
          refine XS.icmpNo X.here hx rfl (hb hby dTermScannerIsNameStartPinLaw_expected_185) rfl (flt hc185).2.2.1 ?_
          show Steps p.tables e below (T.setTop (mkF m 188 #[.val (.int v0)] [])) t
          refine XS.iconst X.here hx rfl (hb hby dTermScannerIsNameStartPinLaw_expected_188) ?_
          exact k
        obtain rfl : (0 : Int32) = r := Option.some.inj hF
        exact own_retN X hx (t := .boolean) hret hlk (by simp) (hb hby dTermScannerIsNameStartPinLaw_expected_189) eT (v := (0 : Int32)) (by decide) ⟨rfl, N, rfl⟩ (by decide) (by decide)
  · rw [if_neg hc164] at hF
    refine own_Goes.via (B := T.setTop (mkF m 171 #[.val (.int v0)] [(.int (12288 : Int32)), (.int v0)])) (fun t k => ?_) ?_
    · show Steps p.tables e below (T.setTop (mkF m 164 #[.val (.int v0)] [(.int (12272 : Int32)), (.int v0)])) t
      refine XS.icmpNo X.here hx rfl (hb hby dTermScannerIsNameStartPinLaw_expected_164) rfl (flt hc164).1 ?_
      show Steps p.tables e below (T.setTop (mkF m 167 #[.val (.int v0)] [])) t
      refine XS.iloadN X.here hx rfl (hb hby dTermScannerIsNameStartPinLaw_expected_167) rfl ?_
      show Steps p.tables e below (T.setTop (mkF m 168 #[.val (.int v0)] [(.int v0)])) t
      refine XS.sipush X.here hx rfl (hb hby dTermScannerIsNameStartPinLaw_expected_168) ?_
      exact k
    by_cases hc171 : (12288 : Int32) < v0
    · rw [if_pos hc171] at hF
      refine own_Goes.via (B := T.setTop (mkF m 179 #[.val (.int v0)] [(.int (55296 : Int32)), (.int v0)])) (fun t k => ?_) ?_
      · show Steps p.tables e below (T.setTop (mkF m 171 #[.val (.int v0)] [(.int (12288 : Int32)), (.int v0)])) t
        refine XS.icmpYes X.here hx rfl (pc0 := 171) (pc' := 176) rfl (hb hby dTermScannerIsNameStartPinLaw_expected_171) rfl (tlt hc171).2.2.1 (by decide) (by decide) ?_
        show Steps p.tables e below (T.setTop (mkF m 176 #[.val (.int v0)] [])) t
        refine XS.iloadN X.here hx rfl (hb hby dTermScannerIsNameStartPinLaw_expected_176) rfl ?_
        show Steps p.tables e below (T.setTop (mkF m 177 #[.val (.int v0)] [(.int v0)])) t
        refine X.ldcInt hx hown (mvT hZ (w19 hw)) (g := (mkF m 177 #[.val (.int v0)] [(.int v0)])) rfl (hb hby dTermScannerIsNameStartPinLaw_expected_177) _ ?_
        exact k
      by_cases hc179 : v0 < (55296 : Int32)
      · rw [if_pos hc179] at hF
        refine own_Goes.via (B := T.setTop (mkF m 190 #[.val (.int v0)] [])) (fun t k => ?_) ?_
        · show Steps p.tables e below (T.setTop (mkF m 179 #[.val (.int v0)] [(.int (55296 : Int32)), (.int v0)])) t
          refine XS.icmpYes X.here hx rfl (pc0 := 179) (pc' := 190) rfl (hb hby dTermScannerIsNameStartPinLaw_expected_179) rfl (tlt hc179).1 (by decide) (by decide) ?_
          exact k
        exact b_TermScannerIsNameStartPinLaw_expected_190 cx X eT N z v0 _ hF
      · rw [if_neg hc179] at hF
        refine own_Goes.via (B := T.setTop (mkF m 185 #[.val (.int v0)] [(.int (63743 : Int32)), (.int v0)])) (fun t k => ?_) ?_
        · show Steps p.tables e below (T.setTop (mkF m 179 #[.val (.int v0)] [(.int (55296 : Int32)), (.int v0)])) t
          refine XS.icmpNo X.here hx rfl (hb hby dTermScannerIsNameStartPinLaw_expected_179) rfl (flt hc179).1 ?_
          show Steps p.tables e below (T.setTop (mkF m 182 #[.val (.int v0)] [])) t
          refine XS.iloadN X.here hx rfl (hb hby dTermScannerIsNameStartPinLaw_expected_182) rfl ?_
          show Steps p.tables e below (T.setTop (mkF m 183 #[.val (.int v0)] [(.int v0)])) t
          refine X.ldcInt hx hown (mvT hZ (w27 hw)) (g := (mkF m 183 #[.val (.int v0)] [(.int v0)])) rfl (hb hby dTermScannerIsNameStartPinLaw_expected_183) _ ?_
          exact k
        by_cases hc185 : (63743 : Int32) < v0
        · rw [if_pos hc185] at hF
          refine own_Goes.via (B := T.setTop (mkF m 190 #[.val (.int v0)] [])) (fun t k => ?_) ?_
          · show Steps p.tables e below (T.setTop (mkF m 185 #[.val (.int v0)] [(.int (63743 : Int32)), (.int v0)])) t
            refine XS.icmpYes X.here hx rfl (pc0 := 185) (pc' := 190) rfl (hb hby dTermScannerIsNameStartPinLaw_expected_185) rfl (tlt hc185).2.2.1 (by decide) (by decide) ?_
            exact k
          exact b_TermScannerIsNameStartPinLaw_expected_190 cx X eT N z v0 _ hF
        · rw [if_neg hc185] at hF
          refine own_Goes.via (B := T.setTop (mkF m 189 #[.val (.int v0)] [(.int (0 : Int32))])) (fun t k => ?_) ?_
          · show Steps p.tables e below (T.setTop (mkF m 185 #[.val (.int v0)] [(.int (63743 : Int32)), (.int v0)])) t
            refine XS.icmpNo X.here hx rfl (hb hby dTermScannerIsNameStartPinLaw_expected_185) rfl (flt hc185).2.2.1 ?_
            show Steps p.tables e below (T.setTop (mkF m 188 #[.val (.int v0)] [])) t
            refine XS.iconst X.here hx rfl (hb hby dTermScannerIsNameStartPinLaw_expected_188) ?_
            exact k
          obtain rfl : (0 : Int32) = r := Option.some.inj hF
          exact own_retN X hx (t := .boolean) hret hlk (by simp) (hb hby dTermScannerIsNameStartPinLaw_expected_189) eT (v := (0 : Int32)) (by decide) ⟨rfl, N, rfl⟩ (by decide) (by decide)
    · rw [if_neg hc171] at hF
      refine own_Goes.via (B := T.setTop (mkF m 175 #[.val (.int v0)] [(.int (0 : Int32))])) (fun t k => ?_) ?_
      · show Steps p.tables e below (T.setTop (mkF m 171 #[.val (.int v0)] [(.int (12288 : Int32)), (.int v0)])) t
        refine XS.icmpNo X.here hx rfl (hb hby dTermScannerIsNameStartPinLaw_expected_171) rfl (flt hc171).2.2.1 ?_
        show Steps p.tables e below (T.setTop (mkF m 174 #[.val (.int v0)] [])) t
        refine XS.iconst X.here hx rfl (hb hby dTermScannerIsNameStartPinLaw_expected_174) ?_
        exact k
      obtain rfl : (0 : Int32) = r := Option.some.inj hF
      exact own_retN X hx (t := .boolean) hret hlk (by simp) (hb hby dTermScannerIsNameStartPinLaw_expected_175) eT (v := (0 : Int32)) (by decide) ⟨rfl, N, rfl⟩ (by decide) (by decide)
set_option maxRecDepth 65536 in
set_option maxHeartbeats 4000000 in
theorem b_TermScannerIsNameStartPinLaw_expected_128 {p : Program} {l : Launch} {e : Env} {s : State} {m : MethodId} {args : Array Value} {below : List Frame} {meth : Method} {c : Code} {Z : State} {a0 : Array Value} {n0 : Nat} {hE : Heap} (cx : Cx_TermScannerIsNameStartPinLaw_expected p s m meth c Z a0) :
    ∀ {T : State} {locs : List Loc} (X : Stand p l e ({ frames := 0, cells := 0, slots := 0, locals := 0 } : Room) s m args below meth c T locs 0 0) (eT : T.heap = hE) (N : Fr n0 locs) (z : n0 ≤ hE.size) (v0 : Int32) (r : Int32), f_TermScannerIsNameStartPinLaw_expected_128 v0 = some r → own_Goes p e below s (Q_TermScannerIsNameStartPinLaw_expected Z hE n0 r) 0 0 (T.setTop (mkF m 128 #[.val (.int v0)] [])) := by
  have cx' := cx
  obtain ⟨hx, hZ, hw, hby, hml, hown, hret, hlk, hnm⟩ := cx'
  intro T locs X eT N z v0 r hF
  unfold f_TermScannerIsNameStartPinLaw_expected_128 at hF
  refine own_Goes.via (B := T.setTop (mkF m 132 #[.val (.int v0)] [(.int (8206 : Int32)), (.int v0)])) (fun t k => ?_) ?_
  · show Steps p.tables e below (T.setTop (mkF m 128 #[.val (.int v0)] [])) t
    refine XS.iloadN X.here hx rfl (hb hby dTermScannerIsNameStartPinLaw_expected_128) rfl ?_
    show Steps p.tables e below (T.setTop (mkF m 129 #[.val (.int v0)] [(.int v0)])) t
    refine XS.sipush X.here hx rfl (hb hby dTermScannerIsNameStartPinLaw_expected_129) ?_
    exact k
  by_cases hc132 : v0 < (8206 : Int32)
  · rw [if_pos hc132] at hF
    refine own_Goes.via (B := T.setTop (mkF m 148 #[.val (.int v0)] [(.int (8592 : Int32)), (.int v0)])) (fun t k => ?_) ?_
    · show Steps p.tables e below (T.setTop (mkF m 132 #[.val (.int v0)] [(.int (8206 : Int32)), (.int v0)])) t
      refine XS.icmpYes X.here hx rfl (pc0 := 132) (pc' := 144) rfl (hb hby dTermScannerIsNameStartPinLaw_expected_132) rfl (tlt hc132).1 (by decide) (by decide) ?_
      show Steps p.tables e below (T.setTop (mkF m 144 #[.val (.int v0)] [])) t
      refine XS.iloadN X.here hx rfl (hb hby dTermScannerIsNameStartPinLaw_expected_144) rfl ?_
      show Steps p.tables e below (T.setTop (mkF m 145 #[.val (.int v0)] [(.int v0)])) t
      refine XS.sipush X.here hx rfl (hb hby dTermScannerIsNameStartPinLaw_expected_145) ?_
      exact k
    by_cases hc148 : v0 < (8592 : Int32)
    · rw [if_pos hc148] at hF
      refine own_Goes.via (B := T.setTop (mkF m 160 #[.val (.int v0)] [])) (fun t k => ?_) ?_
      · show Steps p.tables e below (T.setTop (mkF m 148 #[.val (.int v0)] [(.int (8592 : Int32)), (.int v0)])) t
        refine XS.icmpYes X.here hx rfl (pc0 := 148) (pc' := 160) rfl (hb hby dTermScannerIsNameStartPinLaw_expected_148) rfl (tlt hc148).1 (by decide) (by decide) ?_
        exact k
      exact b_TermScannerIsNameStartPinLaw_expected_160 cx X eT N z v0 _ hF
    · rw [if_neg hc148] at hF
      refine own_Goes.via (B := T.setTop (mkF m 155 #[.val (.int v0)] [(.int (11263 : Int32)), (.int v0)])) (fun t k => ?_) ?_
      · show Steps p.tables e below (T.setTop (mkF m 148 #[.val (.int v0)] [(.int (8592 : Int32)), (.int v0)])) t
        refine XS.icmpNo X.here hx rfl (hb hby dTermScannerIsNameStartPinLaw_expected_148) rfl (flt hc148).1 ?_
        show Steps p.tables e below (T.setTop (mkF m 151 #[.val (.int v0)] [])) t
        refine XS.iloadN X.here hx rfl (hb hby dTermScannerIsNameStartPinLaw_expected_151) rfl ?_
        show Steps p.tables e below (T.setTop (mkF m 152 #[.val (.int v0)] [(.int v0)])) t
        refine XS.sipush X.here hx rfl (hb hby dTermScannerIsNameStartPinLaw_expected_152) ?_
        exact k
      by_cases hc155 : (11263 : Int32) < v0
      · rw [if_pos hc155] at hF
        refine own_Goes.via (B := T.setTop (mkF m 160 #[.val (.int v0)] [])) (fun t k => ?_) ?_
        · show Steps p.tables e below (T.setTop (mkF m 155 #[.val (.int v0)] [(.int (11263 : Int32)), (.int v0)])) t
          refine XS.icmpYes X.here hx rfl (pc0 := 155) (pc' := 160) rfl (hb hby dTermScannerIsNameStartPinLaw_expected_155) rfl (tlt hc155).2.2.1 (by decide) (by decide) ?_
          exact k
        exact b_TermScannerIsNameStartPinLaw_expected_160 cx X eT N z v0 _ hF
      · rw [if_neg hc155] at hF
        refine own_Goes.via (B := T.setTop (mkF m 159 #[.val (.int v0)] [(.int (0 : Int32))])) (fun t k => ?_) ?_
        · show Steps p.tables e below (T.setTop (mkF m 155 #[.val (.int v0)] [(.int (11263 : Int32)), (.int v0)])) t
          refine XS.icmpNo X.here hx rfl (hb hby dTermScannerIsNameStartPinLaw_expected_155) rfl (flt hc155).2.2.1 ?_
          show Steps p.tables e below (T.setTop (mkF m 158 #[.val (.int v0)] [])) t
          refine XS.iconst X.here hx rfl (hb hby dTermScannerIsNameStartPinLaw_expected_158) ?_
          exact k
        obtain rfl : (0 : Int32) = r := Option.some.inj hF
        exact own_retN X hx (t := .boolean) hret hlk (by simp) (hb hby dTermScannerIsNameStartPinLaw_expected_159) eT (v := (0 : Int32)) (by decide) ⟨rfl, N, rfl⟩ (by decide) (by decide)
  · rw [if_neg hc132] at hF
    refine own_Goes.via (B := T.setTop (mkF m 139 #[.val (.int v0)] [(.int (8303 : Int32)), (.int v0)])) (fun t k => ?_) ?_
    · show Steps p.tables e below (T.setTop (mkF m 132 #[.val (.int v0)] [(.int (8206 : Int32)), (.int v0)])) t
      refine XS.icmpNo X.here hx rfl (hb hby dTermScannerIsNameStartPinLaw_expected_132) rfl (flt hc132).1 ?_
      show Steps p.tables e below (T.setTop (mkF m 135 #[.val (.int v0)] [])) t
      refine XS.iloadN X.here hx rfl (hb hby dTermScannerIsNameStartPinLaw_expected_135) rfl ?_
      show Steps p.tables e below (T.setTop (mkF m 136 #[.val (.int v0)] [(.int v0)])) t
      refine XS.sipush X.here hx rfl (hb hby dTermScannerIsNameStartPinLaw_expected_136) ?_
      exact k
    by_cases hc139 : (8303 : Int32) < v0
    · rw [if_pos hc139] at hF
      refine own_Goes.via (B := T.setTop (mkF m 148 #[.val (.int v0)] [(.int (8592 : Int32)), (.int v0)])) (fun t k => ?_) ?_
      · show Steps p.tables e below (T.setTop (mkF m 139 #[.val (.int v0)] [(.int (8303 : Int32)), (.int v0)])) t
        refine XS.icmpYes X.here hx rfl (pc0 := 139) (pc' := 144) rfl (hb hby dTermScannerIsNameStartPinLaw_expected_139) rfl (tlt hc139).2.2.1 (by decide) (by decide) ?_
        show Steps p.tables e below (T.setTop (mkF m 144 #[.val (.int v0)] [])) t
        refine XS.iloadN X.here hx rfl (hb hby dTermScannerIsNameStartPinLaw_expected_144) rfl ?_
        show Steps p.tables e below (T.setTop (mkF m 145 #[.val (.int v0)] [(.int v0)])) t
        refine XS.sipush X.here hx rfl (hb hby dTermScannerIsNameStartPinLaw_expected_145) ?_
        exact k
      by_cases hc148 : v0 < (8592 : Int32)
      · rw [if_pos hc148] at hF
        refine own_Goes.via (B := T.setTop (mkF m 160 #[.val (.int v0)] [])) (fun t k => ?_) ?_
        · show Steps p.tables e below (T.setTop (mkF m 148 #[.val (.int v0)] [(.int (8592 : Int32)), (.int v0)])) t
          refine XS.icmpYes X.here hx rfl (pc0 := 148) (pc' := 160) rfl (hb hby dTermScannerIsNameStartPinLaw_expected_148) rfl (tlt hc148).1 (by decide) (by decide) ?_
          exact k
        exact b_TermScannerIsNameStartPinLaw_expected_160 cx X eT N z v0 _ hF
      · rw [if_neg hc148] at hF
        refine own_Goes.via (B := T.setTop (mkF m 155 #[.val (.int v0)] [(.int (11263 : Int32)), (.int v0)])) (fun t k => ?_) ?_
        · show Steps p.tables e below (T.setTop (mkF m 148 #[.val (.int v0)] [(.int (8592 : Int32)), (.int v0)])) t
          refine XS.icmpNo X.here hx rfl (hb hby dTermScannerIsNameStartPinLaw_expected_148) rfl (flt hc148).1 ?_
          show Steps p.tables e below (T.setTop (mkF m 151 #[.val (.int v0)] [])) t
          refine XS.iloadN X.here hx rfl (hb hby dTermScannerIsNameStartPinLaw_expected_151) rfl ?_
          show Steps p.tables e below (T.setTop (mkF m 152 #[.val (.int v0)] [(.int v0)])) t
          refine XS.sipush X.here hx rfl (hb hby dTermScannerIsNameStartPinLaw_expected_152) ?_
          exact k
        by_cases hc155 : (11263 : Int32) < v0
        · rw [if_pos hc155] at hF
          refine own_Goes.via (B := T.setTop (mkF m 160 #[.val (.int v0)] [])) (fun t k => ?_) ?_
          · show Steps p.tables e below (T.setTop (mkF m 155 #[.val (.int v0)] [(.int (11263 : Int32)), (.int v0)])) t
            refine XS.icmpYes X.here hx rfl (pc0 := 155) (pc' := 160) rfl (hb hby dTermScannerIsNameStartPinLaw_expected_155) rfl (tlt hc155).2.2.1 (by decide) (by decide) ?_
            exact k
          exact b_TermScannerIsNameStartPinLaw_expected_160 cx X eT N z v0 _ hF
        · rw [if_neg hc155] at hF
          refine own_Goes.via (B := T.setTop (mkF m 159 #[.val (.int v0)] [(.int (0 : Int32))])) (fun t k => ?_) ?_
          · show Steps p.tables e below (T.setTop (mkF m 155 #[.val (.int v0)] [(.int (11263 : Int32)), (.int v0)])) t
            refine XS.icmpNo X.here hx rfl (hb hby dTermScannerIsNameStartPinLaw_expected_155) rfl (flt hc155).2.2.1 ?_
            show Steps p.tables e below (T.setTop (mkF m 158 #[.val (.int v0)] [])) t
            refine XS.iconst X.here hx rfl (hb hby dTermScannerIsNameStartPinLaw_expected_158) ?_
            exact k
          obtain rfl : (0 : Int32) = r := Option.some.inj hF
          exact own_retN X hx (t := .boolean) hret hlk (by simp) (hb hby dTermScannerIsNameStartPinLaw_expected_159) eT (v := (0 : Int32)) (by decide) ⟨rfl, N, rfl⟩ (by decide) (by decide)
    · rw [if_neg hc139] at hF
      refine own_Goes.via (B := T.setTop (mkF m 143 #[.val (.int v0)] [(.int (0 : Int32))])) (fun t k => ?_) ?_
      · show Steps p.tables e below (T.setTop (mkF m 139 #[.val (.int v0)] [(.int (8303 : Int32)), (.int v0)])) t
        refine XS.icmpNo X.here hx rfl (hb hby dTermScannerIsNameStartPinLaw_expected_139) rfl (flt hc139).2.2.1 ?_
        show Steps p.tables e below (T.setTop (mkF m 142 #[.val (.int v0)] [])) t
        refine XS.iconst X.here hx rfl (hb hby dTermScannerIsNameStartPinLaw_expected_142) ?_
        exact k
      obtain rfl : (0 : Int32) = r := Option.some.inj hF
      exact own_retN X hx (t := .boolean) hret hlk (by simp) (hb hby dTermScannerIsNameStartPinLaw_expected_143) eT (v := (0 : Int32)) (by decide) ⟨rfl, N, rfl⟩ (by decide) (by decide)
set_option maxRecDepth 65536 in
set_option maxHeartbeats 4000000 in
theorem b_TermScannerIsNameStartPinLaw_expected_103 {p : Program} {l : Launch} {e : Env} {s : State} {m : MethodId} {args : Array Value} {below : List Frame} {meth : Method} {c : Code} {Z : State} {a0 : Array Value} {n0 : Nat} {hE : Heap} (cx : Cx_TermScannerIsNameStartPinLaw_expected p s m meth c Z a0) :
    ∀ {T : State} {locs : List Loc} (X : Stand p l e ({ frames := 0, cells := 0, slots := 0, locals := 0 } : Room) s m args below meth c T locs 0 0) (eT : T.heap = hE) (N : Fr n0 locs) (z : n0 ≤ hE.size) (v0 : Int32) (r : Int32), f_TermScannerIsNameStartPinLaw_expected_103 v0 = some r → own_Goes p e below s (Q_TermScannerIsNameStartPinLaw_expected Z hE n0 r) 0 0 (T.setTop (mkF m 103 #[.val (.int v0)] [])) := by
  have cx' := cx
  obtain ⟨hx, hZ, hw, hby, hml, hown, hret, hlk, hnm⟩ := cx'
  intro T locs X eT N z v0 r hF
  unfold f_TermScannerIsNameStartPinLaw_expected_103 at hF
  refine own_Goes.via (B := T.setTop (mkF m 107 #[.val (.int v0)] [(.int (894 : Int32)), (.int v0)])) (fun t k => ?_) ?_
  · show Steps p.tables e below (T.setTop (mkF m 103 #[.val (.int v0)] [])) t
    refine XS.iloadN X.here hx rfl (hb hby dTermScannerIsNameStartPinLaw_expected_103) rfl ?_
    show Steps p.tables e below (T.setTop (mkF m 104 #[.val (.int v0)] [(.int v0)])) t
    refine XS.sipush X.here hx rfl (hb hby dTermScannerIsNameStartPinLaw_expected_104) ?_
    exact k
  by_cases hc107 : v0 = (894 : Int32)
  · rw [if_pos hc107] at hF
    refine own_Goes.via (B := T.setTop (mkF m 111 #[.val (.int v0)] [(.int (0 : Int32))])) (fun t k => ?_) ?_
    · show Steps p.tables e below (T.setTop (mkF m 107 #[.val (.int v0)] [(.int (894 : Int32)), (.int v0)])) t
      refine XS.icmpNo X.here hx rfl (hb hby dTermScannerIsNameStartPinLaw_expected_107) rfl (teq hc107).2 ?_
      show Steps p.tables e below (T.setTop (mkF m 110 #[.val (.int v0)] [])) t
      refine XS.iconst X.here hx rfl (hb hby dTermScannerIsNameStartPinLaw_expected_110) ?_
      exact k
    obtain rfl : (0 : Int32) = r := Option.some.inj hF
    exact own_retN X hx (t := .boolean) hret hlk (by simp) (hb hby dTermScannerIsNameStartPinLaw_expected_111) eT (v := (0 : Int32)) (by decide) ⟨rfl, N, rfl⟩ (by decide) (by decide)
  · rw [if_neg hc107] at hF
    refine own_Goes.via (B := T.setTop (mkF m 116 #[.val (.int v0)] [(.int (8192 : Int32)), (.int v0)])) (fun t k => ?_) ?_
    · show Steps p.tables e below (T.setTop (mkF m 107 #[.val (.int v0)] [(.int (894 : Int32)), (.int v0)])) t
      refine XS.icmpYes X.here hx rfl (pc0 := 107) (pc' := 112) rfl (hb hby dTermScannerIsNameStartPinLaw_expected_107) rfl (feq hc107).2 (by decide) (by decide) ?_
      show Steps p.tables e below (T.setTop (mkF m 112 #[.val (.int v0)] [])) t
      refine XS.iloadN X.here hx rfl (hb hby dTermScannerIsNameStartPinLaw_expected_112) rfl ?_
      show Steps p.tables e below (T.setTop (mkF m 113 #[.val (.int v0)] [(.int v0)])) t
      refine XS.sipush X.here hx rfl (hb hby dTermScannerIsNameStartPinLaw_expected_113) ?_
      exact k
    by_cases hc116 : v0 < (8192 : Int32)
    · rw [if_pos hc116] at hF
      refine own_Goes.via (B := T.setTop (mkF m 128 #[.val (.int v0)] [])) (fun t k => ?_) ?_
      · show Steps p.tables e below (T.setTop (mkF m 116 #[.val (.int v0)] [(.int (8192 : Int32)), (.int v0)])) t
        refine XS.icmpYes X.here hx rfl (pc0 := 116) (pc' := 128) rfl (hb hby dTermScannerIsNameStartPinLaw_expected_116) rfl (tlt hc116).1 (by decide) (by decide) ?_
        exact k
      exact b_TermScannerIsNameStartPinLaw_expected_128 cx X eT N z v0 _ hF
    · rw [if_neg hc116] at hF
      refine own_Goes.via (B := T.setTop (mkF m 123 #[.val (.int v0)] [(.int (8203 : Int32)), (.int v0)])) (fun t k => ?_) ?_
      · show Steps p.tables e below (T.setTop (mkF m 116 #[.val (.int v0)] [(.int (8192 : Int32)), (.int v0)])) t
        refine XS.icmpNo X.here hx rfl (hb hby dTermScannerIsNameStartPinLaw_expected_116) rfl (flt hc116).1 ?_
        show Steps p.tables e below (T.setTop (mkF m 119 #[.val (.int v0)] [])) t
        refine XS.iloadN X.here hx rfl (hb hby dTermScannerIsNameStartPinLaw_expected_119) rfl ?_
        show Steps p.tables e below (T.setTop (mkF m 120 #[.val (.int v0)] [(.int v0)])) t
        refine XS.sipush X.here hx rfl (hb hby dTermScannerIsNameStartPinLaw_expected_120) ?_
        exact k
      by_cases hc123 : (8203 : Int32) < v0
      · rw [if_pos hc123] at hF
        refine own_Goes.via (B := T.setTop (mkF m 128 #[.val (.int v0)] [])) (fun t k => ?_) ?_
        · show Steps p.tables e below (T.setTop (mkF m 123 #[.val (.int v0)] [(.int (8203 : Int32)), (.int v0)])) t
          refine XS.icmpYes X.here hx rfl (pc0 := 123) (pc' := 128) rfl (hb hby dTermScannerIsNameStartPinLaw_expected_123) rfl (tlt hc123).2.2.1 (by decide) (by decide) ?_
          exact k
        exact b_TermScannerIsNameStartPinLaw_expected_128 cx X eT N z v0 _ hF
      · rw [if_neg hc123] at hF
        refine own_Goes.via (B := T.setTop (mkF m 127 #[.val (.int v0)] [(.int (0 : Int32))])) (fun t k => ?_) ?_
        · show Steps p.tables e below (T.setTop (mkF m 123 #[.val (.int v0)] [(.int (8203 : Int32)), (.int v0)])) t
          refine XS.icmpNo X.here hx rfl (hb hby dTermScannerIsNameStartPinLaw_expected_123) rfl (flt hc123).2.2.1 ?_
          show Steps p.tables e below (T.setTop (mkF m 126 #[.val (.int v0)] [])) t
          refine XS.iconst X.here hx rfl (hb hby dTermScannerIsNameStartPinLaw_expected_126) ?_
          exact k
        obtain rfl : (0 : Int32) = r := Option.some.inj hF
        exact own_retN X hx (t := .boolean) hret hlk (by simp) (hb hby dTermScannerIsNameStartPinLaw_expected_127) eT (v := (0 : Int32)) (by decide) ⟨rfl, N, rfl⟩ (by decide) (by decide)
set_option maxRecDepth 65536 in
set_option maxHeartbeats 4000000 in
theorem b_TermScannerIsNameStartPinLaw_expected_71 {p : Program} {l : Launch} {e : Env} {s : State} {m : MethodId} {args : Array Value} {below : List Frame} {meth : Method} {c : Code} {Z : State} {a0 : Array Value} {n0 : Nat} {hE : Heap} (cx : Cx_TermScannerIsNameStartPinLaw_expected p s m meth c Z a0) :
    ∀ {T : State} {locs : List Loc} (X : Stand p l e ({ frames := 0, cells := 0, slots := 0, locals := 0 } : Room) s m args below meth c T locs 0 0) (eT : T.heap = hE) (N : Fr n0 locs) (z : n0 ≤ hE.size) (v0 : Int32) (r : Int32), f_TermScannerIsNameStartPinLaw_expected_71 v0 = some r → own_Goes p e below s (Q_TermScannerIsNameStartPinLaw_expected Z hE n0 r) 0 0 (T.setTop (mkF m 71 #[.val (.int v0)] [])) := by
  have cx' := cx
  obtain ⟨hx, hZ, hw, hby, hml, hown, hret, hlk, hnm⟩ := cx'
  intro T locs X eT N z v0 r hF
  unfold f_TermScannerIsNameStartPinLaw_expected_71 at hF
  refine own_Goes.via (B := T.setTop (mkF m 75 #[.val (.int v0)] [(.int (215 : Int32)), (.int v0)])) (fun t k => ?_) ?_
  · show Steps p.tables e below (T.setTop (mkF m 71 #[.val (.int v0)] [])) t
    refine XS.iloadN X.here hx rfl (hb hby dTermScannerIsNameStartPinLaw_expected_71) rfl ?_
    show Steps p.tables e below (T.setTop (mkF m 72 #[.val (.int v0)] [(.int v0)])) t
    refine XS.sipush X.here hx rfl (hb hby dTermScannerIsNameStartPinLaw_expected_72) ?_
    exact k
  by_cases hc75 : v0 = (215 : Int32)
  · rw [if_pos hc75] at hF
    refine own_Goes.via (B := T.setTop (mkF m 86 #[.val (.int v0)] [(.int (0 : Int32))])) (fun t k => ?_) ?_
    · show Steps p.tables e below (T.setTop (mkF m 75 #[.val (.int v0)] [(.int (215 : Int32)), (.int v0)])) t
      refine XS.icmpYes X.here hx rfl (pc0 := 75) (pc' := 85) rfl (hb hby dTermScannerIsNameStartPinLaw_expected_75) rfl (teq hc75).1 (by decide) (by decide) ?_
      show Steps p.tables e below (T.setTop (mkF m 85 #[.val (.int v0)] [])) t
      refine XS.iconst X.here hx rfl (hb hby dTermScannerIsNameStartPinLaw_expected_85) ?_
      exact k
    obtain rfl : (0 : Int32) = r := Option.some.inj hF
    exact own_retN X hx (t := .boolean) hret hlk (by simp) (hb hby dTermScannerIsNameStartPinLaw_expected_86) eT (v := (0 : Int32)) (by decide) ⟨rfl, N, rfl⟩ (by decide) (by decide)
  · rw [if_neg hc75] at hF
    refine own_Goes.via (B := T.setTop (mkF m 82 #[.val (.int v0)] [(.int (247 : Int32)), (.int v0)])) (fun t k => ?_) ?_
    · show Steps p.tables e below (T.setTop (mkF m 75 #[.val (.int v0)] [(.int (215 : Int32)), (.int v0)])) t
      refine XS.icmpNo X.here hx rfl (hb hby dTermScannerIsNameStartPinLaw_expected_75) rfl (feq hc75).1 ?_
      show Steps p.tables e below (T.setTop (mkF m 78 #[.val (.int v0)] [])) t
      refine XS.iloadN X.here hx rfl (hb hby dTermScannerIsNameStartPinLaw_expected_78) rfl ?_
      show Steps p.tables e below (T.setTop (mkF m 79 #[.val (.int v0)] [(.int v0)])) t
      refine XS.sipush X.here hx rfl (hb hby dTermScannerIsNameStartPinLaw_expected_79) ?_
      exact k
    by_cases hc82 : v0 = (247 : Int32)
    · rw [if_pos hc82] at hF
      refine own_Goes.via (B := T.setTop (mkF m 86 #[.val (.int v0)] [(.int (0 : Int32))])) (fun t k => ?_) ?_
      · show Steps p.tables e below (T.setTop (mkF m 82 #[.val (.int v0)] [(.int (247 : Int32)), (.int v0)])) t
        refine XS.icmpNo X.here hx rfl (hb hby dTermScannerIsNameStartPinLaw_expected_82) rfl (teq hc82).2 ?_
        show Steps p.tables e below (T.setTop (mkF m 85 #[.val (.int v0)] [])) t
        refine XS.iconst X.here hx rfl (hb hby dTermScannerIsNameStartPinLaw_expected_85) ?_
        exact k
      obtain rfl : (0 : Int32) = r := Option.some.inj hF
      exact own_retN X hx (t := .boolean) hret hlk (by simp) (hb hby dTermScannerIsNameStartPinLaw_expected_86) eT (v := (0 : Int32)) (by decide) ⟨rfl, N, rfl⟩ (by decide) (by decide)
    · rw [if_neg hc82] at hF
      refine own_Goes.via (B := T.setTop (mkF m 91 #[.val (.int v0)] [(.int (768 : Int32)), (.int v0)])) (fun t k => ?_) ?_
      · show Steps p.tables e below (T.setTop (mkF m 82 #[.val (.int v0)] [(.int (247 : Int32)), (.int v0)])) t
        refine XS.icmpYes X.here hx rfl (pc0 := 82) (pc' := 87) rfl (hb hby dTermScannerIsNameStartPinLaw_expected_82) rfl (feq hc82).2 (by decide) (by decide) ?_
        show Steps p.tables e below (T.setTop (mkF m 87 #[.val (.int v0)] [])) t
        refine XS.iloadN X.here hx rfl (hb hby dTermScannerIsNameStartPinLaw_expected_87) rfl ?_
        show Steps p.tables e below (T.setTop (mkF m 88 #[.val (.int v0)] [(.int v0)])) t
        refine XS.sipush X.here hx rfl (hb hby dTermScannerIsNameStartPinLaw_expected_88) ?_
        exact k
      by_cases hc91 : v0 < (768 : Int32)
      · rw [if_pos hc91] at hF
        refine own_Goes.via (B := T.setTop (mkF m 103 #[.val (.int v0)] [])) (fun t k => ?_) ?_
        · show Steps p.tables e below (T.setTop (mkF m 91 #[.val (.int v0)] [(.int (768 : Int32)), (.int v0)])) t
          refine XS.icmpYes X.here hx rfl (pc0 := 91) (pc' := 103) rfl (hb hby dTermScannerIsNameStartPinLaw_expected_91) rfl (tlt hc91).1 (by decide) (by decide) ?_
          exact k
        exact b_TermScannerIsNameStartPinLaw_expected_103 cx X eT N z v0 _ hF
      · rw [if_neg hc91] at hF
        refine own_Goes.via (B := T.setTop (mkF m 98 #[.val (.int v0)] [(.int (879 : Int32)), (.int v0)])) (fun t k => ?_) ?_
        · show Steps p.tables e below (T.setTop (mkF m 91 #[.val (.int v0)] [(.int (768 : Int32)), (.int v0)])) t
          refine XS.icmpNo X.here hx rfl (hb hby dTermScannerIsNameStartPinLaw_expected_91) rfl (flt hc91).1 ?_
          show Steps p.tables e below (T.setTop (mkF m 94 #[.val (.int v0)] [])) t
          refine XS.iloadN X.here hx rfl (hb hby dTermScannerIsNameStartPinLaw_expected_94) rfl ?_
          show Steps p.tables e below (T.setTop (mkF m 95 #[.val (.int v0)] [(.int v0)])) t
          refine XS.sipush X.here hx rfl (hb hby dTermScannerIsNameStartPinLaw_expected_95) ?_
          exact k
        by_cases hc98 : (879 : Int32) < v0
        · rw [if_pos hc98] at hF
          refine own_Goes.via (B := T.setTop (mkF m 103 #[.val (.int v0)] [])) (fun t k => ?_) ?_
          · show Steps p.tables e below (T.setTop (mkF m 98 #[.val (.int v0)] [(.int (879 : Int32)), (.int v0)])) t
            refine XS.icmpYes X.here hx rfl (pc0 := 98) (pc' := 103) rfl (hb hby dTermScannerIsNameStartPinLaw_expected_98) rfl (tlt hc98).2.2.1 (by decide) (by decide) ?_
            exact k
          exact b_TermScannerIsNameStartPinLaw_expected_103 cx X eT N z v0 _ hF
        · rw [if_neg hc98] at hF
          refine own_Goes.via (B := T.setTop (mkF m 102 #[.val (.int v0)] [(.int (0 : Int32))])) (fun t k => ?_) ?_
          · show Steps p.tables e below (T.setTop (mkF m 98 #[.val (.int v0)] [(.int (879 : Int32)), (.int v0)])) t
            refine XS.icmpNo X.here hx rfl (hb hby dTermScannerIsNameStartPinLaw_expected_98) rfl (flt hc98).2.2.1 ?_
            show Steps p.tables e below (T.setTop (mkF m 101 #[.val (.int v0)] [])) t
            refine XS.iconst X.here hx rfl (hb hby dTermScannerIsNameStartPinLaw_expected_101) ?_
            exact k
          obtain rfl : (0 : Int32) = r := Option.some.inj hF
          exact own_retN X hx (t := .boolean) hret hlk (by simp) (hb hby dTermScannerIsNameStartPinLaw_expected_102) eT (v := (0 : Int32)) (by decide) ⟨rfl, N, rfl⟩ (by decide) (by decide)
set_option maxRecDepth 65536 in
set_option maxHeartbeats 4000000 in
theorem b_TermScannerIsNameStartPinLaw_expected_48 {p : Program} {l : Launch} {e : Env} {s : State} {m : MethodId} {args : Array Value} {below : List Frame} {meth : Method} {c : Code} {Z : State} {a0 : Array Value} {n0 : Nat} {hE : Heap} (cx : Cx_TermScannerIsNameStartPinLaw_expected p s m meth c Z a0) :
    ∀ {T : State} {locs : List Loc} (X : Stand p l e ({ frames := 0, cells := 0, slots := 0, locals := 0 } : Room) s m args below meth c T locs 0 0) (eT : T.heap = hE) (N : Fr n0 locs) (z : n0 ≤ hE.size) (v0 : Int32) (r : Int32), f_TermScannerIsNameStartPinLaw_expected_48 v0 = some r → own_Goes p e below s (Q_TermScannerIsNameStartPinLaw_expected Z hE n0 r) 0 0 (T.setTop (mkF m 48 #[.val (.int v0)] [])) := by
  have cx' := cx
  obtain ⟨hx, hZ, hw, hby, hml, hown, hret, hlk, hnm⟩ := cx'
  intro T locs X eT N z v0 r hF
  unfold f_TermScannerIsNameStartPinLaw_expected_48 at hF
  refine own_Goes.via (B := T.setTop (mkF m 51 #[.val (.int v0)] [(.int (96 : Int32)), (.int v0)])) (fun t k => ?_) ?_
  · show Steps p.tables e below (T.setTop (mkF m 48 #[.val (.int v0)] [])) t
    refine XS.iloadN X.here hx rfl (hb hby dTermScannerIsNameStartPinLaw_expected_48) rfl ?_
    show Steps p.tables e below (T.setTop (mkF m 49 #[.val (.int v0)] [(.int v0)])) t
    refine XS.bipush X.here hx rfl (hb hby dTermScannerIsNameStartPinLaw_expected_49) ?_
    exact k
  by_cases hc51 : v0 = (96 : Int32)
  · rw [if_pos hc51] at hF
    refine own_Goes.via (B := T.setTop (mkF m 55 #[.val (.int v0)] [(.int (0 : Int32))])) (fun t k => ?_) ?_
    · show Steps p.tables e below (T.setTop (mkF m 51 #[.val (.int v0)] [(.int (96 : Int32)), (.int v0)])) t
      refine XS.icmpNo X.here hx rfl (hb hby dTermScannerIsNameStartPinLaw_expected_51) rfl (teq hc51).2 ?_
      show Steps p.tables e below (T.setTop (mkF m 54 #[.val (.int v0)] [])) t
      refine XS.iconst X.here hx rfl (hb hby dTermScannerIsNameStartPinLaw_expected_54) ?_
      exact k
    obtain rfl : (0 : Int32) = r := Option.some.inj hF
    exact own_retN X hx (t := .boolean) hret hlk (by simp) (hb hby dTermScannerIsNameStartPinLaw_expected_55) eT (v := (0 : Int32)) (by decide) ⟨rfl, N, rfl⟩ (by decide) (by decide)
  · rw [if_neg hc51] at hF
    refine own_Goes.via (B := T.setTop (mkF m 59 #[.val (.int v0)] [(.int (123 : Int32)), (.int v0)])) (fun t k => ?_) ?_
    · show Steps p.tables e below (T.setTop (mkF m 51 #[.val (.int v0)] [(.int (96 : Int32)), (.int v0)])) t
      refine XS.icmpYes X.here hx rfl (pc0 := 51) (pc' := 56) rfl (hb hby dTermScannerIsNameStartPinLaw_expected_51) rfl (feq hc51).2 (by decide) (by decide) ?_
      show Steps p.tables e below (T.setTop (mkF m 56 #[.val (.int v0)] [])) t
      refine XS.iloadN X.here hx rfl (hb hby dTermScannerIsNameStartPinLaw_expected_56) rfl ?_
      show Steps p.tables e below (T.setTop (mkF m 57 #[.val (.int v0)] [(.int v0)])) t
      refine XS.bipush X.here hx rfl (hb hby dTermScannerIsNameStartPinLaw_expected_57) ?_
      exact k
    by_cases hc59 : v0 < (123 : Int32)
    · rw [if_pos hc59] at hF
      refine own_Goes.via (B := T.setTop (mkF m 71 #[.val (.int v0)] [])) (fun t k => ?_) ?_
      · show Steps p.tables e below (T.setTop (mkF m 59 #[.val (.int v0)] [(.int (123 : Int32)), (.int v0)])) t
        refine XS.icmpYes X.here hx rfl (pc0 := 59) (pc' := 71) rfl (hb hby dTermScannerIsNameStartPinLaw_expected_59) rfl (tlt hc59).1 (by decide) (by decide) ?_
        exact k
      exact b_TermScannerIsNameStartPinLaw_expected_71 cx X eT N z v0 _ hF
    · rw [if_neg hc59] at hF
      refine own_Goes.via (B := T.setTop (mkF m 66 #[.val (.int v0)] [(.int (191 : Int32)), (.int v0)])) (fun t k => ?_) ?_
      · show Steps p.tables e below (T.setTop (mkF m 59 #[.val (.int v0)] [(.int (123 : Int32)), (.int v0)])) t
        refine XS.icmpNo X.here hx rfl (hb hby dTermScannerIsNameStartPinLaw_expected_59) rfl (flt hc59).1 ?_
        show Steps p.tables e below (T.setTop (mkF m 62 #[.val (.int v0)] [])) t
        refine XS.iloadN X.here hx rfl (hb hby dTermScannerIsNameStartPinLaw_expected_62) rfl ?_
        show Steps p.tables e below (T.setTop (mkF m 63 #[.val (.int v0)] [(.int v0)])) t
        refine XS.sipush X.here hx rfl (hb hby dTermScannerIsNameStartPinLaw_expected_63) ?_
        exact k
      by_cases hc66 : (191 : Int32) < v0
      · rw [if_pos hc66] at hF
        refine own_Goes.via (B := T.setTop (mkF m 71 #[.val (.int v0)] [])) (fun t k => ?_) ?_
        · show Steps p.tables e below (T.setTop (mkF m 66 #[.val (.int v0)] [(.int (191 : Int32)), (.int v0)])) t
          refine XS.icmpYes X.here hx rfl (pc0 := 66) (pc' := 71) rfl (hb hby dTermScannerIsNameStartPinLaw_expected_66) rfl (tlt hc66).2.2.1 (by decide) (by decide) ?_
          exact k
        exact b_TermScannerIsNameStartPinLaw_expected_71 cx X eT N z v0 _ hF
      · rw [if_neg hc66] at hF
        refine own_Goes.via (B := T.setTop (mkF m 70 #[.val (.int v0)] [(.int (0 : Int32))])) (fun t k => ?_) ?_
        · show Steps p.tables e below (T.setTop (mkF m 66 #[.val (.int v0)] [(.int (191 : Int32)), (.int v0)])) t
          refine XS.icmpNo X.here hx rfl (hb hby dTermScannerIsNameStartPinLaw_expected_66) rfl (flt hc66).2.2.1 ?_
          show Steps p.tables e below (T.setTop (mkF m 69 #[.val (.int v0)] [])) t
          refine XS.iconst X.here hx rfl (hb hby dTermScannerIsNameStartPinLaw_expected_69) ?_
          exact k
        obtain rfl : (0 : Int32) = r := Option.some.inj hF
        exact own_retN X hx (t := .boolean) hret hlk (by simp) (hb hby dTermScannerIsNameStartPinLaw_expected_70) eT (v := (0 : Int32)) (by decide) ⟨rfl, N, rfl⟩ (by decide) (by decide)
set_option maxRecDepth 65536 in
set_option maxHeartbeats 4000000 in
theorem b_TermScannerIsNameStartPinLaw_expected {p : Program} {l : Launch} {e : Env} {s : State} {m : MethodId} {args : Array Value} {below : List Frame} {meth : Method} {c : Code} {Z : State} {a0 : Array Value} {n0 : Nat} {hE : Heap} (cx : Cx_TermScannerIsNameStartPinLaw_expected p s m meth c Z a0) :
    ∀ {T : State} {locs : List Loc} (X : Stand p l e ({ frames := 0, cells := 0, slots := 0, locals := 0 } : Room) s m args below meth c T locs 0 0) (eT : T.heap = hE) (N : Fr n0 locs) (z : n0 ≤ hE.size) (v0 : Int32) (r : Int32), f_TermScannerIsNameStartPinLaw_expected v0 = some r → own_Goes p e below s (Q_TermScannerIsNameStartPinLaw_expected Z hE n0 r) 0 0 (T.setTop (mkF m 0 #[.val (.int v0)] [])) := by
  have cx' := cx
  obtain ⟨hx, hZ, hw, hby, hml, hown, hret, hlk, hnm⟩ := cx'
  intro T locs X eT N z v0 r hF
  unfold f_TermScannerIsNameStartPinLaw_expected at hF
  refine own_Goes.via (B := T.setTop (mkF m 1 #[.val (.int v0)] [(.int v0)])) (fun t k => ?_) ?_
  · show Steps p.tables e below (T.setTop (mkF m 0 #[.val (.int v0)] [])) t
    refine XS.iloadN X.here hx rfl (hb hby dTermScannerIsNameStartPinLaw_expected_0) rfl ?_
    exact k
  by_cases hc1 : v0 < (0 : Int32)
  · rw [if_pos hc1] at hF
    refine own_Goes.via (B := T.setTop (mkF m 11 #[.val (.int v0)] [(.int (0 : Int32))])) (fun t k => ?_) ?_
    · show Steps p.tables e below (T.setTop (mkF m 1 #[.val (.int v0)] [(.int v0)])) t
      refine XS.ifYes X.here hx rfl (pc0 := 1) (pc' := 10) rfl (hb hby dTermScannerIsNameStartPinLaw_expected_1) rfl ((if0 _ _).trans (tlt hc1).1) (by decide) (by decide) ?_
      show Steps p.tables e below (T.setTop (mkF m 10 #[.val (.int v0)] [])) t
      refine XS.iconst X.here hx rfl (hb hby dTermScannerIsNameStartPinLaw_expected_10) ?_
      exact k
    obtain rfl : (0 : Int32) = r := Option.some.inj hF
    exact own_retN X hx (t := .boolean) hret hlk (by simp) (hb hby dTermScannerIsNameStartPinLaw_expected_11) eT (v := (0 : Int32)) (by decide) ⟨rfl, N, rfl⟩ (by decide) (by decide)
  · rw [if_neg hc1] at hF
    refine own_Goes.via (B := T.setTop (mkF m 7 #[.val (.int v0)] [(.int (983039 : Int32)), (.int v0)])) (fun t k => ?_) ?_
    · show Steps p.tables e below (T.setTop (mkF m 1 #[.val (.int v0)] [(.int v0)])) t
      refine XS.ifNo X.here hx rfl (hb hby dTermScannerIsNameStartPinLaw_expected_1) rfl ((if0 _ _).trans (flt hc1).1) ?_
      show Steps p.tables e below (T.setTop (mkF m 4 #[.val (.int v0)] [])) t
      refine XS.iloadN X.here hx rfl (hb hby dTermScannerIsNameStartPinLaw_expected_4) rfl ?_
      show Steps p.tables e below (T.setTop (mkF m 5 #[.val (.int v0)] [(.int v0)])) t
      refine X.ldcInt hx hown (mvT hZ (w18 hw)) (g := (mkF m 5 #[.val (.int v0)] [(.int v0)])) rfl (hb hby dTermScannerIsNameStartPinLaw_expected_5) _ ?_
      exact k
    by_cases hc7 : (983039 : Int32) < v0
    · rw [if_pos hc7] at hF
      refine own_Goes.via (B := T.setTop (mkF m 11 #[.val (.int v0)] [(.int (0 : Int32))])) (fun t k => ?_) ?_
      · show Steps p.tables e below (T.setTop (mkF m 7 #[.val (.int v0)] [(.int (983039 : Int32)), (.int v0)])) t
        refine XS.icmpNo X.here hx rfl (hb hby dTermScannerIsNameStartPinLaw_expected_7) rfl (tlt hc7).2.2.2 ?_
        show Steps p.tables e below (T.setTop (mkF m 10 #[.val (.int v0)] [])) t
        refine XS.iconst X.here hx rfl (hb hby dTermScannerIsNameStartPinLaw_expected_10) ?_
        exact k
      obtain rfl : (0 : Int32) = r := Option.some.inj hF
      exact own_retN X hx (t := .boolean) hret hlk (by simp) (hb hby dTermScannerIsNameStartPinLaw_expected_11) eT (v := (0 : Int32)) (by decide) ⟨rfl, N, rfl⟩ (by decide) (by decide)
    · rw [if_neg hc7] at hF
      refine own_Goes.via (B := T.setTop (mkF m 15 #[.val (.int v0)] [(.int (47 : Int32)), (.int v0)])) (fun t k => ?_) ?_
      · show Steps p.tables e below (T.setTop (mkF m 7 #[.val (.int v0)] [(.int (983039 : Int32)), (.int v0)])) t
        refine XS.icmpYes X.here hx rfl (pc0 := 7) (pc' := 12) rfl (hb hby dTermScannerIsNameStartPinLaw_expected_7) rfl (flt hc7).2.2.2 (by decide) (by decide) ?_
        show Steps p.tables e below (T.setTop (mkF m 12 #[.val (.int v0)] [])) t
        refine XS.iloadN X.here hx rfl (hb hby dTermScannerIsNameStartPinLaw_expected_12) rfl ?_
        show Steps p.tables e below (T.setTop (mkF m 13 #[.val (.int v0)] [(.int v0)])) t
        refine XS.bipush X.here hx rfl (hb hby dTermScannerIsNameStartPinLaw_expected_13) ?_
        exact k
      by_cases hc15 : (47 : Int32) < v0
      · rw [if_pos hc15] at hF
        refine own_Goes.via (B := T.setTop (mkF m 23 #[.val (.int v0)] [(.int (58 : Int32)), (.int v0)])) (fun t k => ?_) ?_
        · show Steps p.tables e below (T.setTop (mkF m 15 #[.val (.int v0)] [(.int (47 : Int32)), (.int v0)])) t
          refine XS.icmpYes X.here hx rfl (pc0 := 15) (pc' := 20) rfl (hb hby dTermScannerIsNameStartPinLaw_expected_15) rfl (tlt hc15).2.2.1 (by decide) (by decide) ?_
          show Steps p.tables e below (T.setTop (mkF m 20 #[.val (.int v0)] [])) t
          refine XS.iloadN X.here hx rfl (hb hby dTermScannerIsNameStartPinLaw_expected_20) rfl ?_
          show Steps p.tables e below (T.setTop (mkF m 21 #[.val (.int v0)] [(.int v0)])) t
          refine XS.bipush X.here hx rfl (hb hby dTermScannerIsNameStartPinLaw_expected_21) ?_
          exact k
        by_cases hc23 : v0 < (58 : Int32)
        · rw [if_pos hc23] at hF
          refine own_Goes.via (B := T.setTop (mkF m 37 #[.val (.int v0)] [(.int (91 : Int32)), (.int v0)])) (fun t k => ?_) ?_
          · show Steps p.tables e below (T.setTop (mkF m 23 #[.val (.int v0)] [(.int (58 : Int32)), (.int v0)])) t
            refine XS.icmpYes X.here hx rfl (pc0 := 23) (pc' := 34) rfl (hb hby dTermScannerIsNameStartPinLaw_expected_23) rfl (tlt hc23).1 (by decide) (by decide) ?_
            show Steps p.tables e below (T.setTop (mkF m 34 #[.val (.int v0)] [])) t
            refine XS.iloadN X.here hx rfl (hb hby dTermScannerIsNameStartPinLaw_expected_34) rfl ?_
            show Steps p.tables e below (T.setTop (mkF m 35 #[.val (.int v0)] [(.int v0)])) t
            refine XS.bipush X.here hx rfl (hb hby dTermScannerIsNameStartPinLaw_expected_35) ?_
            exact k
          by_cases hc37 : v0 < (91 : Int32)
          · rw [if_pos hc37] at hF
            refine own_Goes.via (B := T.setTop (mkF m 48 #[.val (.int v0)] [])) (fun t k => ?_) ?_
            · show Steps p.tables e below (T.setTop (mkF m 37 #[.val (.int v0)] [(.int (91 : Int32)), (.int v0)])) t
              refine XS.icmpYes X.here hx rfl (pc0 := 37) (pc' := 48) rfl (hb hby dTermScannerIsNameStartPinLaw_expected_37) rfl (tlt hc37).1 (by decide) (by decide) ?_
              exact k
            exact b_TermScannerIsNameStartPinLaw_expected_48 cx X eT N z v0 _ hF
          · rw [if_neg hc37] at hF
            refine own_Goes.via (B := T.setTop (mkF m 43 #[.val (.int v0)] [(.int (94 : Int32)), (.int v0)])) (fun t k => ?_) ?_
            · show Steps p.tables e below (T.setTop (mkF m 37 #[.val (.int v0)] [(.int (91 : Int32)), (.int v0)])) t
              refine XS.icmpNo X.here hx rfl (hb hby dTermScannerIsNameStartPinLaw_expected_37) rfl (flt hc37).1 ?_
              show Steps p.tables e below (T.setTop (mkF m 40 #[.val (.int v0)] [])) t
              refine XS.iloadN X.here hx rfl (hb hby dTermScannerIsNameStartPinLaw_expected_40) rfl ?_
              show Steps p.tables e below (T.setTop (mkF m 41 #[.val (.int v0)] [(.int v0)])) t
              refine XS.bipush X.here hx rfl (hb hby dTermScannerIsNameStartPinLaw_expected_41) ?_
              exact k
            by_cases hc43 : (94 : Int32) < v0
            · rw [if_pos hc43] at hF
              refine own_Goes.via (B := T.setTop (mkF m 48 #[.val (.int v0)] [])) (fun t k => ?_) ?_
              · show Steps p.tables e below (T.setTop (mkF m 43 #[.val (.int v0)] [(.int (94 : Int32)), (.int v0)])) t
                refine XS.icmpYes X.here hx rfl (pc0 := 43) (pc' := 48) rfl (hb hby dTermScannerIsNameStartPinLaw_expected_43) rfl (tlt hc43).2.2.1 (by decide) (by decide) ?_
                exact k
              exact b_TermScannerIsNameStartPinLaw_expected_48 cx X eT N z v0 _ hF
            · rw [if_neg hc43] at hF
              refine own_Goes.via (B := T.setTop (mkF m 47 #[.val (.int v0)] [(.int (0 : Int32))])) (fun t k => ?_) ?_
              · show Steps p.tables e below (T.setTop (mkF m 43 #[.val (.int v0)] [(.int (94 : Int32)), (.int v0)])) t
                refine XS.icmpNo X.here hx rfl (hb hby dTermScannerIsNameStartPinLaw_expected_43) rfl (flt hc43).2.2.1 ?_
                show Steps p.tables e below (T.setTop (mkF m 46 #[.val (.int v0)] [])) t
                refine XS.iconst X.here hx rfl (hb hby dTermScannerIsNameStartPinLaw_expected_46) ?_
                exact k
              obtain rfl : (0 : Int32) = r := Option.some.inj hF
              exact own_retN X hx (t := .boolean) hret hlk (by simp) (hb hby dTermScannerIsNameStartPinLaw_expected_47) eT (v := (0 : Int32)) (by decide) ⟨rfl, N, rfl⟩ (by decide) (by decide)
        · rw [if_neg hc23] at hF
          refine own_Goes.via (B := T.setTop (mkF m 29 #[.val (.int v0)] [(.int (64 : Int32)), (.int v0)])) (fun t k => ?_) ?_
          · show Steps p.tables e below (T.setTop (mkF m 23 #[.val (.int v0)] [(.int (58 : Int32)), (.int v0)])) t
            refine XS.icmpNo X.here hx rfl (hb hby dTermScannerIsNameStartPinLaw_expected_23) rfl (flt hc23).1 ?_
            show Steps p.tables e below (T.setTop (mkF m 26 #[.val (.int v0)] [])) t
            refine XS.iloadN X.here hx rfl (hb hby dTermScannerIsNameStartPinLaw_expected_26) rfl ?_
            show Steps p.tables e below (T.setTop (mkF m 27 #[.val (.int v0)] [(.int v0)])) t
            refine XS.bipush X.here hx rfl (hb hby dTermScannerIsNameStartPinLaw_expected_27) ?_
            exact k
          by_cases hc29 : (64 : Int32) < v0
          · rw [if_pos hc29] at hF
            refine own_Goes.via (B := T.setTop (mkF m 37 #[.val (.int v0)] [(.int (91 : Int32)), (.int v0)])) (fun t k => ?_) ?_
            · show Steps p.tables e below (T.setTop (mkF m 29 #[.val (.int v0)] [(.int (64 : Int32)), (.int v0)])) t
              refine XS.icmpYes X.here hx rfl (pc0 := 29) (pc' := 34) rfl (hb hby dTermScannerIsNameStartPinLaw_expected_29) rfl (tlt hc29).2.2.1 (by decide) (by decide) ?_
              show Steps p.tables e below (T.setTop (mkF m 34 #[.val (.int v0)] [])) t
              refine XS.iloadN X.here hx rfl (hb hby dTermScannerIsNameStartPinLaw_expected_34) rfl ?_
              show Steps p.tables e below (T.setTop (mkF m 35 #[.val (.int v0)] [(.int v0)])) t
              refine XS.bipush X.here hx rfl (hb hby dTermScannerIsNameStartPinLaw_expected_35) ?_
              exact k
            by_cases hc37 : v0 < (91 : Int32)
            · rw [if_pos hc37] at hF
              refine own_Goes.via (B := T.setTop (mkF m 48 #[.val (.int v0)] [])) (fun t k => ?_) ?_
              · show Steps p.tables e below (T.setTop (mkF m 37 #[.val (.int v0)] [(.int (91 : Int32)), (.int v0)])) t
                refine XS.icmpYes X.here hx rfl (pc0 := 37) (pc' := 48) rfl (hb hby dTermScannerIsNameStartPinLaw_expected_37) rfl (tlt hc37).1 (by decide) (by decide) ?_
                exact k
              exact b_TermScannerIsNameStartPinLaw_expected_48 cx X eT N z v0 _ hF
            · rw [if_neg hc37] at hF
              refine own_Goes.via (B := T.setTop (mkF m 43 #[.val (.int v0)] [(.int (94 : Int32)), (.int v0)])) (fun t k => ?_) ?_
              · show Steps p.tables e below (T.setTop (mkF m 37 #[.val (.int v0)] [(.int (91 : Int32)), (.int v0)])) t
                refine XS.icmpNo X.here hx rfl (hb hby dTermScannerIsNameStartPinLaw_expected_37) rfl (flt hc37).1 ?_
                show Steps p.tables e below (T.setTop (mkF m 40 #[.val (.int v0)] [])) t
                refine XS.iloadN X.here hx rfl (hb hby dTermScannerIsNameStartPinLaw_expected_40) rfl ?_
                show Steps p.tables e below (T.setTop (mkF m 41 #[.val (.int v0)] [(.int v0)])) t
                refine XS.bipush X.here hx rfl (hb hby dTermScannerIsNameStartPinLaw_expected_41) ?_
                exact k
              by_cases hc43 : (94 : Int32) < v0
              · rw [if_pos hc43] at hF
                refine own_Goes.via (B := T.setTop (mkF m 48 #[.val (.int v0)] [])) (fun t k => ?_) ?_
                · show Steps p.tables e below (T.setTop (mkF m 43 #[.val (.int v0)] [(.int (94 : Int32)), (.int v0)])) t
                  refine XS.icmpYes X.here hx rfl (pc0 := 43) (pc' := 48) rfl (hb hby dTermScannerIsNameStartPinLaw_expected_43) rfl (tlt hc43).2.2.1 (by decide) (by decide) ?_
                  exact k
                exact b_TermScannerIsNameStartPinLaw_expected_48 cx X eT N z v0 _ hF
              · rw [if_neg hc43] at hF
                refine own_Goes.via (B := T.setTop (mkF m 47 #[.val (.int v0)] [(.int (0 : Int32))])) (fun t k => ?_) ?_
                · show Steps p.tables e below (T.setTop (mkF m 43 #[.val (.int v0)] [(.int (94 : Int32)), (.int v0)])) t
                  refine XS.icmpNo X.here hx rfl (hb hby dTermScannerIsNameStartPinLaw_expected_43) rfl (flt hc43).2.2.1 ?_
                  show Steps p.tables e below (T.setTop (mkF m 46 #[.val (.int v0)] [])) t
                  refine XS.iconst X.here hx rfl (hb hby dTermScannerIsNameStartPinLaw_expected_46) ?_
                  exact k
                obtain rfl : (0 : Int32) = r := Option.some.inj hF
                exact own_retN X hx (t := .boolean) hret hlk (by simp) (hb hby dTermScannerIsNameStartPinLaw_expected_47) eT (v := (0 : Int32)) (by decide) ⟨rfl, N, rfl⟩ (by decide) (by decide)
          · rw [if_neg hc29] at hF
            refine own_Goes.via (B := T.setTop (mkF m 33 #[.val (.int v0)] [(.int (0 : Int32))])) (fun t k => ?_) ?_
            · show Steps p.tables e below (T.setTop (mkF m 29 #[.val (.int v0)] [(.int (64 : Int32)), (.int v0)])) t
              refine XS.icmpNo X.here hx rfl (hb hby dTermScannerIsNameStartPinLaw_expected_29) rfl (flt hc29).2.2.1 ?_
              show Steps p.tables e below (T.setTop (mkF m 32 #[.val (.int v0)] [])) t
              refine XS.iconst X.here hx rfl (hb hby dTermScannerIsNameStartPinLaw_expected_32) ?_
              exact k
            obtain rfl : (0 : Int32) = r := Option.some.inj hF
            exact own_retN X hx (t := .boolean) hret hlk (by simp) (hb hby dTermScannerIsNameStartPinLaw_expected_33) eT (v := (0 : Int32)) (by decide) ⟨rfl, N, rfl⟩ (by decide) (by decide)
      · rw [if_neg hc15] at hF
        refine own_Goes.via (B := T.setTop (mkF m 19 #[.val (.int v0)] [(.int (0 : Int32))])) (fun t k => ?_) ?_
        · show Steps p.tables e below (T.setTop (mkF m 15 #[.val (.int v0)] [(.int (47 : Int32)), (.int v0)])) t
          refine XS.icmpNo X.here hx rfl (hb hby dTermScannerIsNameStartPinLaw_expected_15) rfl (flt hc15).2.2.1 ?_
          show Steps p.tables e below (T.setTop (mkF m 18 #[.val (.int v0)] [])) t
          refine XS.iconst X.here hx rfl (hb hby dTermScannerIsNameStartPinLaw_expected_18) ?_
          exact k
        obtain rfl : (0 : Int32) = r := Option.some.inj hF
        exact own_retN X hx (t := .boolean) hret hlk (by simp) (hb hby dTermScannerIsNameStartPinLaw_expected_19) eT (v := (0 : Int32)) (by decide) ⟨rfl, N, rfl⟩ (by decide) (by decide)
theorem ef_TermScannerIsNameStartPinLaw_expected (m : MethodId) (x0 : Int32) : entryFrame m #[(.int x0)] 1 = mkF m 0 #[.val (.int x0)] [] := by first | (simp [entryFrame, mkF, argsToLocals, Value.category]; done) | rfl
set_option maxRecDepth 65536 in
set_option maxHeartbeats 4000000 in
theorem rm_TermScannerIsNameStartPinLaw_expected (l : Launch) (Z : State) (a0 : Array Value) (hw : ∀ d ∈ tables_1, d.before a0 Z = true) (ws : List Jvm.Cond) (hE : Heap) (n0 : Nat) (z : n0 ≤ hE.size)  (v0 : Int32) (r : Int32) (hF : (f_TermScannerIsNameStartPinLaw_expected v0) = some r) :
    MetFree l (⟨"com/example/rulr/rulr/TermScannerIsNameStartPinLaw", "expected", "(I)Z"⟩ : MethodName) (head1 (Jvm.Cond.code (⟨"com/example/rulr/rulr/TermScannerIsNameStartPinLaw", "expected", "(I)Z"⟩ : MethodName) method_3_code 1 (some .boolean) :: ws) ({ frames := 0, cells := 0, slots := 0, locals := 0 } : Room)) (fun a U => a = #[(.int v0)] ∧ Z.Warmed39 U.vm ∧ U.heap = hE) (fun _ _ _ _ _ => True) (fun _ U o U' => ∃ v L, o = .returned v ∧ (Q_TermScannerIsNameStartPinLaw_expected Z hE n0 r) v U'.heap L ∧ FrameEnd U o U' L ({ frames := 0, cells := 0, slots := 0, locals := 0 } : Room).cells ({ frames := 0, cells := 0, slots := 0, locals := 0 } : Room).slots) := by
  refine MetFree.of_bodySF (plainFor_of_name pn_com_example_rulr_rulr_TermScannerIsNameStartPinLaw) hisR ?_
  intro p e s m args below meth c s₁ Bd hml0 hP hK
  obtain ⟨rfl, hZ, hh⟩ := hP
  have X0 : Stand p l e ({ frames := 0, cells := 0, slots := 0, locals := 0 } : Room) s m #[(.int v0)] below meth c s₁ [] 0 0 := Stand.of_body Bd
  have e0 : s₁.heap = hE := by rw [← hh, Bd.state]; rfl
  have cx : Cx_TermScannerIsNameStartPinLaw_expected p s m meth c Z a0 := ⟨Bd.exec, hZ, hw, Bd.bytes, hml0, findClass_of_methodNamed Bd.named, Bd.returns, Bd.notSynchronized, (name_of_methodNamed Bd.named Bd.method).1⟩
  show own_Goes p e below s (Q_TermScannerIsNameStartPinLaw_expected Z hE n0 r) ({ frames := 0, cells := 0, slots := 0, locals := 0 } : Room).cells ({ frames := 0, cells := 0, slots := 0, locals := 0 } : Room).slots (s₁.setTop (entryFrame m #[(.int v0)] 1))
  rw [ef_TermScannerIsNameStartPinLaw_expected]
  exact b_TermScannerIsNameStartPinLaw_expected cx X0 e0 (Fr.nil n0) z v0 _ hF
/-! com/example/rulr/rulr/TermScannerIsNameStartPinLaw.law:(II)Z -/
def f_law (v0 : Int32) (v1 : Int32) : Option (Int32) :=
  own_lt (v1 &&& (3 : Int32)) fun x45 =>
  if x45 = (1 : Int32) then
    own_lt (v0 &&& (255 : Int32)) fun x46 =>
    own_bd (f_TermScanner_isNameStart x46) fun r47 =>
    own_bd (f_TermScannerIsNameStartPinLaw_expected x46) fun r48 =>
    if r47 = r48 then
      some (1 : Int32)
    else
      some (0 : Int32)
  else
    if x45 = (2 : Int32) then
      own_lt (v0 &&& (65535 : Int32)) fun x49 =>
      own_bd (f_TermScanner_isNameStart x49) fun r50 =>
      own_bd (f_TermScannerIsNameStartPinLaw_expected x49) fun r51 =>
      if r50 = r51 then
        some (1 : Int32)
      else
        some (0 : Int32)
    else
      if x45 = (3 : Int32) then
        own_lt (v0 &&& (1048575 : Int32)) fun x52 =>
        own_bd (f_TermScanner_isNameStart x52) fun r53 =>
        own_bd (f_TermScannerIsNameStartPinLaw_expected x52) fun r54 =>
        if r53 = r54 then
          some (1 : Int32)
        else
          some (0 : Int32)
      else
        own_bd (f_TermScanner_isNameStart v0) fun r55 =>
        own_bd (f_TermScannerIsNameStartPinLaw_expected v0) fun r56 =>
        if r55 = r56 then
          some (1 : Int32)
        else
          some (0 : Int32)
def Q_law (Z : State) (hE : Heap) (n0 : Nat)  (r : Int32) (v : Option Value) (h : Heap) (L : List Loc) : Prop := v = some (.int r) ∧ Fr n0 L ∧ h = hE
def Cx_law (p : Program) (s : State) (m : MethodId) (meth : Method) (c : Code) (Z : State) (a0 : Array Value) : Prop := p.tables.exec = Jvm.exec ∧ Z.Warmed39 s.vm ∧ (∀ d ∈ tables_1, d.before a0 Z = true) ∧ c.code = code ∧ c.maxLocals = 4 ∧ s.vm.findClass "com/example/rulr/rulr/TermScannerIsNameStartPinLaw" = some m.cls ∧ meth.sig.returnType = some .boolean ∧ meth.locks = false ∧ meth.name = "law"
set_option maxRecDepth 65536 in
set_option maxHeartbeats 4000000 in
theorem b_law {p : Program} {l : Launch} {e : Env} {s : State} {m : MethodId} {args : Array Value} {below : List Frame} {meth : Method} {c : Code} {Z : State} {a0 : Array Value} {n0 : Nat} {hE : Heap} (cx : Cx_law p s m meth c Z a0) :
    ∀ {T : State} {locs : List Loc} (X : Stand p l e room_1 s m args below meth c T locs 0 0) (eT : T.heap = hE) (N : Fr n0 locs) (z : n0 ≤ hE.size) (v0 : Int32) (v1 : Int32) (r : Int32), f_law v0 v1 = some r → own_Goes p e below s (Q_law Z hE n0 r) 0 0 (T.setTop (mkF m 0 #[.val (.int v0), .val (.int v1), .unset, .unset] [])) := by
  have cx' := cx
  obtain ⟨hx, hZ, hw, hby, hml, hown, hret, hlk, hnm⟩ := cx'
  intro T locs X eT N z v0 v1 r hF
  unfold f_law at hF
  refine own_Goes.via (B := T.setTop (mkF m 3 #[.val (.int v0), .val (.int v1), .unset, .unset] [(.int (v1 &&& (3 : Int32)))])) (fun t k => ?_) ?_
  · show Steps p.tables e below (T.setTop (mkF m 0 #[.val (.int v0), .val (.int v1), .unset, .unset] [])) t
    refine XS.iloadN X.here hx rfl (hb hby at_0) rfl ?_
    show Steps p.tables e below (T.setTop (mkF m 1 #[.val (.int v0), .val (.int v1), .unset, .unset] [(.int v1)])) t
    refine XS.iconst X.here hx rfl (hb hby at_1) ?_
    show Steps p.tables e below (T.setTop (mkF m 2 #[.val (.int v0), .val (.int v1), .unset, .unset] [(.int (3 : Int32)), (.int v1)])) t
    refine XS.iand X.here hx rfl (hb hby at_2) rfl ?_
    exact k
  obtain ⟨x45, hx45, hF⟩ := own_lt_e hF
  rw [← hx45]
  refine own_Goes.via (B := T.setTop (mkF m 8 #[.val (.int v0), .val (.int v1), .val (.int x45), .val (.int v0)] [(.int (1 : Int32)), (.int x45)])) (fun t k => ?_) ?_
  · show Steps p.tables e below (T.setTop (mkF m 3 #[.val (.int v0), .val (.int v1), .unset, .unset] [(.int x45)])) t
    refine XS.istoreN X.here hx rfl (hb hby at_3) rfl (l' := #[.val (.int v0), .val (.int v1), .val (.int x45), .unset]) rfl ?_
    show Steps p.tables e below (T.setTop (mkF m 4 #[.val (.int v0), .val (.int v1), .val (.int x45), .unset] [])) t
    refine XS.iloadN X.here hx rfl (hb hby at_4) rfl ?_
    show Steps p.tables e below (T.setTop (mkF m 5 #[.val (.int v0), .val (.int v1), .val (.int x45), .unset] [(.int v0)])) t
    refine XS.istoreN X.here hx rfl (hb hby at_5) rfl (l' := #[.val (.int v0), .val (.int v1), .val (.int x45), .val (.int v0)]) rfl ?_
    show Steps p.tables e below (T.setTop (mkF m 6 #[.val (.int v0), .val (.int v1), .val (.int x45), .val (.int v0)] [])) t
    refine XS.iloadN X.here hx rfl (hb hby at_6) rfl ?_
    show Steps p.tables e below (T.setTop (mkF m 7 #[.val (.int v0), .val (.int v1), .val (.int x45), .val (.int v0)] [(.int x45)])) t
    refine XS.iconst X.here hx rfl (hb hby at_7) ?_
    exact k
  by_cases hc8 : x45 = (1 : Int32)
  · rw [if_pos hc8] at hF
    refine own_Goes.via (B := T.setTop (mkF m 16 #[.val (.int v0), .val (.int v1), .val (.int x45), .val (.int v0)] [(.int (v0 &&& (255 : Int32)))])) (fun t k => ?_) ?_
    · show Steps p.tables e below (T.setTop (mkF m 8 #[.val (.int v0), .val (.int v1), .val (.int x45), .val (.int v0)] [(.int (1 : Int32)), (.int x45)])) t
      refine XS.icmpNo X.here hx rfl (hb hby at_8) rfl (teq hc8).2 ?_
      show Steps p.tables e below (T.setTop (mkF m 11 #[.val (.int v0), .val (.int v1), .val (.int x45), .val (.int v0)] [])) t
      refine XS.iloadN X.here hx rfl (hb hby at_11) rfl ?_
      show Steps p.tables e below (T.setTop (mkF m 12 #[.val (.int v0), .val (.int v1), .val (.int x45), .val (.int v0)] [(.int v0)])) t
      refine XS.sipush X.here hx rfl (hb hby at_12) ?_
      show Steps p.tables e below (T.setTop (mkF m 15 #[.val (.int v0), .val (.int v1), .val (.int x45), .val (.int v0)] [(.int (255 : Int32)), (.int v0)])) t
      refine XS.iand X.here hx rfl (hb hby at_15) rfl ?_
      exact k
    obtain ⟨x46, hx46, hF⟩ := own_lt_e hF
    rw [← hx46]
    refine own_Goes.via (B := T.setTop (mkF m 44 #[.val (.int v0), .val (.int v1), .val (.int x45), .val (.int x46)] [(.int x46)])) (fun t k => ?_) ?_
    · show Steps p.tables e below (T.setTop (mkF m 16 #[.val (.int v0), .val (.int v1), .val (.int x45), .val (.int v0)] [(.int x46)])) t
      refine XS.istoreN X.here hx rfl (hb hby at_16) rfl (l' := #[.val (.int v0), .val (.int v1), .val (.int x45), .val (.int x46)]) rfl ?_
      show Steps p.tables e below (T.setTop (mkF m 17 #[.val (.int v0), .val (.int v1), .val (.int x45), .val (.int x46)] [])) t
      refine XS.goto X.here hx rfl (pc0 := 17) (pc' := 43) rfl (hb hby at_17) (by decide) (by decide) ?_
      show Steps p.tables e below (T.setTop (mkF m 43 #[.val (.int v0), .val (.int v1), .val (.int x45), .val (.int x46)] [])) t
      refine XS.iloadN X.here hx rfl (hb hby at_43) rfl ?_
      exact k
    obtain ⟨r47, hr47, hF⟩ := own_bd_e hF
    obtain ⟨_, _, ⟨T47, L47, k47, n47⟩, -, X47, ⟨Lc47, hQ47, l47, y47, z47⟩, st47⟩ := Jvm.LawKit.callS X hx (y := (⟨"com/example/rulr/rulr/TermScanner", "isNameStart", "(I)Z"⟩ : MethodName)) hown (mvT hZ (w1 hw)) (mvT hZ (w2 hw)) (mvT hZ (w3 hw)) (mvT hZ (w4 hw)) (by decide) (backOf (W := 0) (rm_TermScanner_isNameStart l Z a0 hw [] hE n0 z x46 r47 hr47) hZ (w4 hw) (w3 hw) (by decide) (by decide)) (g := (mkF m 44 #[.val (.int v0), .val (.int v1), .val (.int x45), .val (.int x46)] [(.int x46)])) rfl (by rw [hml]; rfl) (argsL := [(.int x46)]) (rest := []) (lenOf pd_0 rfl) rfl (by show 2 * 0 + _ ≤ _; exact Nat.le_of_eq rfl) (hb hby at_44) (fun _ _ => ⟨rfl, eT, (by decide : 0 + 0 ≤ _), (by decide : 0 + 0 ≤ _)⟩)
    dsimp only [Pt.U, Pt.locs, Pt.cells, Pt.slots] at X47 l47 y47 z47 st47 hQ47
    subst l47 y47 z47
    obtain ⟨rfl, N47q, e47⟩ := hQ47
    have N47 := Fr.app N N47q
    refine own_Goes.via st47 ?_
    show own_Goes _ _ _ _ _ _ _ (T47.setTop (mkF m 47 #[.val (.int v0), .val (.int v1), .val (.int x45), .val (.int x46)] [(.int r47)]))
    refine own_Goes.via (B := T47.setTop (mkF m 48 #[.val (.int v0), .val (.int v1), .val (.int x45), .val (.int x46)] [(.int x46), (.int r47)])) (fun t k => ?_) ?_
    · show Steps p.tables e below (T47.setTop (mkF m 47 #[.val (.int v0), .val (.int v1), .val (.int x45), .val (.int x46)] [(.int r47)])) t
      refine XS.iloadN X47.here hx rfl (hb hby at_47) rfl ?_
      exact k
    obtain ⟨r48, hr48, hF⟩ := own_bd_e hF
    obtain ⟨_, _, ⟨T48, L48, k48, n48⟩, -, X48, ⟨Lc48, hQ48, l48, y48, z48⟩, st48⟩ := Jvm.LawKit.callS X47 hx (y := (⟨"com/example/rulr/rulr/TermScannerIsNameStartPinLaw", "expected", "(I)Z"⟩ : MethodName)) hown (mvT hZ (w14 hw)) (mvT hZ (w15 hw)) (mvT hZ (w16 hw)) (mvT hZ (w17 hw)) (by decide) (backOf (W := 1) (rm_TermScannerIsNameStartPinLaw_expected l Z a0 hw [] hE n0 z x46 r48 hr48) hZ (w17 hw) (w16 hw) (by decide) (by decide)) (g := (mkF m 48 #[.val (.int v0), .val (.int v1), .val (.int x45), .val (.int x46)] [(.int x46), (.int r47)])) rfl (by rw [hml]; rfl) (argsL := [(.int x46)]) (rest := [(.int r47)]) (lenOf pd_0 rfl) rfl (by show 2 * 0 + _ ≤ _; exact Nat.le_of_eq rfl) (hb hby at_48) (fun _ _ => ⟨rfl, e47, (by decide : 0 + 0 ≤ _), (by decide : 0 + 0 ≤ _)⟩)
    dsimp only [Pt.U, Pt.locs, Pt.cells, Pt.slots] at X48 l48 y48 z48 st48 hQ48
    subst l48 y48 z48
    obtain ⟨rfl, N48q, e48⟩ := hQ48
    have N48 := Fr.app N47 N48q
    refine own_Goes.via st48 ?_
    show own_Goes _ _ _ _ _ _ _ (T48.setTop (mkF m 51 #[.val (.int v0), .val (.int v1), .val (.int x45), .val (.int x46)] [(.int r48), (.int r47)]))
    by_cases hc51 : r47 = r48
    · rw [if_pos hc51] at hF
      refine own_Goes.via (B := T48.setTop (mkF m 59 #[.val (.int v0), .val (.int v1), .val (.int x45), .val (.int x46)] [(.int (1 : Int32))])) (fun t k => ?_) ?_
      · show Steps p.tables e below (T48.setTop (mkF m 51 #[.val (.int v0), .val (.int v1), .val (.int x45), .val (.int x46)] [(.int r48), (.int r47)])) t
        refine XS.icmpNo X48.here hx rfl (hb hby at_51) rfl (teq hc51).2 ?_
        show Steps p.tables e below (T48.setTop (mkF m 54 #[.val (.int v0), .val (.int v1), .val (.int x45), .val (.int x46)] [])) t
        refine XS.iconst X48.here hx rfl (hb hby at_54) ?_
        show Steps p.tables e below (T48.setTop (mkF m 55 #[.val (.int v0), .val (.int v1), .val (.int x45), .val (.int x46)] [(.int (1 : Int32))])) t
        refine XS.goto X48.here hx rfl (pc0 := 55) (pc' := 59) rfl (hb hby at_55) (by decide) (by decide) ?_
        exact k
      obtain rfl : (1 : Int32) = r := Option.some.inj hF
      exact own_retN X48 hx (t := .boolean) hret hlk (by simp) (hb hby at_59) e48 (v := (1 : Int32)) (by decide) ⟨rfl, N48, rfl⟩ (by decide) (by decide)
    · rw [if_neg hc51] at hF
      refine own_Goes.via (B := T48.setTop (mkF m 59 #[.val (.int v0), .val (.int v1), .val (.int x45), .val (.int x46)] [(.int (0 : Int32))])) (fun t k => ?_) ?_
      · show Steps p.tables e below (T48.setTop (mkF m 51 #[.val (.int v0), .val (.int v1), .val (.int x45), .val (.int x46)] [(.int r48), (.int r47)])) t
        refine XS.icmpYes X48.here hx rfl (pc0 := 51) (pc' := 58) rfl (hb hby at_51) rfl (feq hc51).2 (by decide) (by decide) ?_
        show Steps p.tables e below (T48.setTop (mkF m 58 #[.val (.int v0), .val (.int v1), .val (.int x45), .val (.int x46)] [])) t
        refine XS.iconst X48.here hx rfl (hb hby at_58) ?_
        exact k
      obtain rfl : (0 : Int32) = r := Option.some.inj hF
      exact own_retN X48 hx (t := .boolean) hret hlk (by simp) (hb hby at_59) e48 (v := (0 : Int32)) (by decide) ⟨rfl, N48, rfl⟩ (by decide) (by decide)
  · rw [if_neg hc8] at hF
    refine own_Goes.via (B := T.setTop (mkF m 22 #[.val (.int v0), .val (.int v1), .val (.int x45), .val (.int v0)] [(.int (2 : Int32)), (.int x45)])) (fun t k => ?_) ?_
    · show Steps p.tables e below (T.setTop (mkF m 8 #[.val (.int v0), .val (.int v1), .val (.int x45), .val (.int v0)] [(.int (1 : Int32)), (.int x45)])) t
      refine XS.icmpYes X.here hx rfl (pc0 := 8) (pc' := 20) rfl (hb hby at_8) rfl (feq hc8).2 (by decide) (by decide) ?_
      show Steps p.tables e below (T.setTop (mkF m 20 #[.val (.int v0), .val (.int v1), .val (.int x45), .val (.int v0)] [])) t
      refine XS.iloadN X.here hx rfl (hb hby at_20) rfl ?_
      show Steps p.tables e below (T.setTop (mkF m 21 #[.val (.int v0), .val (.int v1), .val (.int x45), .val (.int v0)] [(.int x45)])) t
      refine XS.iconst X.here hx rfl (hb hby at_21) ?_
      exact k
    by_cases hc22 : x45 = (2 : Int32)
    · rw [if_pos hc22] at hF
      refine own_Goes.via (B := T.setTop (mkF m 29 #[.val (.int v0), .val (.int v1), .val (.int x45), .val (.int v0)] [(.int (v0 &&& (65535 : Int32)))])) (fun t k => ?_) ?_
      · show Steps p.tables e below (T.setTop (mkF m 22 #[.val (.int v0), .val (.int v1), .val (.int x45), .val (.int v0)] [(.int (2 : Int32)), (.int x45)])) t
        refine XS.icmpNo X.here hx rfl (hb hby at_22) rfl (teq hc22).2 ?_
        show Steps p.tables e below (T.setTop (mkF m 25 #[.val (.int v0), .val (.int v1), .val (.int x45), .val (.int v0)] [])) t
        refine XS.iloadN X.here hx rfl (hb hby at_25) rfl ?_
        show Steps p.tables e below (T.setTop (mkF m 26 #[.val (.int v0), .val (.int v1), .val (.int x45), .val (.int v0)] [(.int v0)])) t
        refine X.ldcInt hx hown (mvT hZ (w22 hw)) (g := (mkF m 26 #[.val (.int v0), .val (.int v1), .val (.int x45), .val (.int v0)] [(.int v0)])) rfl (hb hby at_26) _ ?_
        show Steps p.tables e below (T.setTop (mkF m 28 #[.val (.int v0), .val (.int v1), .val (.int x45), .val (.int v0)] [(.int (65535 : Int32)), (.int v0)])) t
        refine XS.iand X.here hx rfl (hb hby at_28) rfl ?_
        exact k
      obtain ⟨x49, hx49, hF⟩ := own_lt_e hF
      rw [← hx49]
      refine own_Goes.via (B := T.setTop (mkF m 44 #[.val (.int v0), .val (.int v1), .val (.int x45), .val (.int x49)] [(.int x49)])) (fun t k => ?_) ?_
      · show Steps p.tables e below (T.setTop (mkF m 29 #[.val (.int v0), .val (.int v1), .val (.int x45), .val (.int v0)] [(.int x49)])) t
        refine XS.istoreN X.here hx rfl (hb hby at_29) rfl (l' := #[.val (.int v0), .val (.int v1), .val (.int x45), .val (.int x49)]) rfl ?_
        show Steps p.tables e below (T.setTop (mkF m 30 #[.val (.int v0), .val (.int v1), .val (.int x45), .val (.int x49)] [])) t
        refine XS.goto X.here hx rfl (pc0 := 30) (pc' := 43) rfl (hb hby at_30) (by decide) (by decide) ?_
        show Steps p.tables e below (T.setTop (mkF m 43 #[.val (.int v0), .val (.int v1), .val (.int x45), .val (.int x49)] [])) t
        refine XS.iloadN X.here hx rfl (hb hby at_43) rfl ?_
        exact k
      obtain ⟨r50, hr50, hF⟩ := own_bd_e hF
      obtain ⟨_, _, ⟨T50, L50, k50, n50⟩, -, X50, ⟨Lc50, hQ50, l50, y50, z50⟩, st50⟩ := Jvm.LawKit.callS X hx (y := (⟨"com/example/rulr/rulr/TermScanner", "isNameStart", "(I)Z"⟩ : MethodName)) hown (mvT hZ (w1 hw)) (mvT hZ (w2 hw)) (mvT hZ (w3 hw)) (mvT hZ (w4 hw)) (by decide) (backOf (W := 0) (rm_TermScanner_isNameStart l Z a0 hw [] hE n0 z x49 r50 hr50) hZ (w4 hw) (w3 hw) (by decide) (by decide)) (g := (mkF m 44 #[.val (.int v0), .val (.int v1), .val (.int x45), .val (.int x49)] [(.int x49)])) rfl (by rw [hml]; rfl) (argsL := [(.int x49)]) (rest := []) (lenOf pd_0 rfl) rfl (by show 2 * 0 + _ ≤ _; exact Nat.le_of_eq rfl) (hb hby at_44) (fun _ _ => ⟨rfl, eT, (by decide : 0 + 0 ≤ _), (by decide : 0 + 0 ≤ _)⟩)
      dsimp only [Pt.U, Pt.locs, Pt.cells, Pt.slots] at X50 l50 y50 z50 st50 hQ50
      subst l50 y50 z50
      obtain ⟨rfl, N50q, e50⟩ := hQ50
      have N50 := Fr.app N N50q
      refine own_Goes.via st50 ?_
      show own_Goes _ _ _ _ _ _ _ (T50.setTop (mkF m 47 #[.val (.int v0), .val (.int v1), .val (.int x45), .val (.int x49)] [(.int r50)]))
      refine own_Goes.via (B := T50.setTop (mkF m 48 #[.val (.int v0), .val (.int v1), .val (.int x45), .val (.int x49)] [(.int x49), (.int r50)])) (fun t k => ?_) ?_
      · show Steps p.tables e below (T50.setTop (mkF m 47 #[.val (.int v0), .val (.int v1), .val (.int x45), .val (.int x49)] [(.int r50)])) t
        refine XS.iloadN X50.here hx rfl (hb hby at_47) rfl ?_
        exact k
      obtain ⟨r51, hr51, hF⟩ := own_bd_e hF
      obtain ⟨_, _, ⟨T51, L51, k51, n51⟩, -, X51, ⟨Lc51, hQ51, l51, y51, z51⟩, st51⟩ := Jvm.LawKit.callS X50 hx (y := (⟨"com/example/rulr/rulr/TermScannerIsNameStartPinLaw", "expected", "(I)Z"⟩ : MethodName)) hown (mvT hZ (w14 hw)) (mvT hZ (w15 hw)) (mvT hZ (w16 hw)) (mvT hZ (w17 hw)) (by decide) (backOf (W := 1) (rm_TermScannerIsNameStartPinLaw_expected l Z a0 hw [] hE n0 z x49 r51 hr51) hZ (w17 hw) (w16 hw) (by decide) (by decide)) (g := (mkF m 48 #[.val (.int v0), .val (.int v1), .val (.int x45), .val (.int x49)] [(.int x49), (.int r50)])) rfl (by rw [hml]; rfl) (argsL := [(.int x49)]) (rest := [(.int r50)]) (lenOf pd_0 rfl) rfl (by show 2 * 0 + _ ≤ _; exact Nat.le_of_eq rfl) (hb hby at_48) (fun _ _ => ⟨rfl, e50, (by decide : 0 + 0 ≤ _), (by decide : 0 + 0 ≤ _)⟩)
      dsimp only [Pt.U, Pt.locs, Pt.cells, Pt.slots] at X51 l51 y51 z51 st51 hQ51
      subst l51 y51 z51
      obtain ⟨rfl, N51q, e51⟩ := hQ51
      have N51 := Fr.app N50 N51q
      refine own_Goes.via st51 ?_
      show own_Goes _ _ _ _ _ _ _ (T51.setTop (mkF m 51 #[.val (.int v0), .val (.int v1), .val (.int x45), .val (.int x49)] [(.int r51), (.int r50)]))
      by_cases hc51 : r50 = r51
      · rw [if_pos hc51] at hF
        refine own_Goes.via (B := T51.setTop (mkF m 59 #[.val (.int v0), .val (.int v1), .val (.int x45), .val (.int x49)] [(.int (1 : Int32))])) (fun t k => ?_) ?_
        · show Steps p.tables e below (T51.setTop (mkF m 51 #[.val (.int v0), .val (.int v1), .val (.int x45), .val (.int x49)] [(.int r51), (.int r50)])) t
          refine XS.icmpNo X51.here hx rfl (hb hby at_51) rfl (teq hc51).2 ?_
          show Steps p.tables e below (T51.setTop (mkF m 54 #[.val (.int v0), .val (.int v1), .val (.int x45), .val (.int x49)] [])) t
          refine XS.iconst X51.here hx rfl (hb hby at_54) ?_
          show Steps p.tables e below (T51.setTop (mkF m 55 #[.val (.int v0), .val (.int v1), .val (.int x45), .val (.int x49)] [(.int (1 : Int32))])) t
          refine XS.goto X51.here hx rfl (pc0 := 55) (pc' := 59) rfl (hb hby at_55) (by decide) (by decide) ?_
          exact k
        obtain rfl : (1 : Int32) = r := Option.some.inj hF
        exact own_retN X51 hx (t := .boolean) hret hlk (by simp) (hb hby at_59) e51 (v := (1 : Int32)) (by decide) ⟨rfl, N51, rfl⟩ (by decide) (by decide)
      · rw [if_neg hc51] at hF
        refine own_Goes.via (B := T51.setTop (mkF m 59 #[.val (.int v0), .val (.int v1), .val (.int x45), .val (.int x49)] [(.int (0 : Int32))])) (fun t k => ?_) ?_
        · show Steps p.tables e below (T51.setTop (mkF m 51 #[.val (.int v0), .val (.int v1), .val (.int x45), .val (.int x49)] [(.int r51), (.int r50)])) t
          refine XS.icmpYes X51.here hx rfl (pc0 := 51) (pc' := 58) rfl (hb hby at_51) rfl (feq hc51).2 (by decide) (by decide) ?_
          show Steps p.tables e below (T51.setTop (mkF m 58 #[.val (.int v0), .val (.int v1), .val (.int x45), .val (.int x49)] [])) t
          refine XS.iconst X51.here hx rfl (hb hby at_58) ?_
          exact k
        obtain rfl : (0 : Int32) = r := Option.some.inj hF
        exact own_retN X51 hx (t := .boolean) hret hlk (by simp) (hb hby at_59) e51 (v := (0 : Int32)) (by decide) ⟨rfl, N51, rfl⟩ (by decide) (by decide)
    · rw [if_neg hc22] at hF
      refine own_Goes.via (B := T.setTop (mkF m 35 #[.val (.int v0), .val (.int v1), .val (.int x45), .val (.int v0)] [(.int (3 : Int32)), (.int x45)])) (fun t k => ?_) ?_
      · show Steps p.tables e below (T.setTop (mkF m 22 #[.val (.int v0), .val (.int v1), .val (.int x45), .val (.int v0)] [(.int (2 : Int32)), (.int x45)])) t
        refine XS.icmpYes X.here hx rfl (pc0 := 22) (pc' := 33) rfl (hb hby at_22) rfl (feq hc22).2 (by decide) (by decide) ?_
        show Steps p.tables e below (T.setTop (mkF m 33 #[.val (.int v0), .val (.int v1), .val (.int x45), .val (.int v0)] [])) t
        refine XS.iloadN X.here hx rfl (hb hby at_33) rfl ?_
        show Steps p.tables e below (T.setTop (mkF m 34 #[.val (.int v0), .val (.int v1), .val (.int x45), .val (.int v0)] [(.int x45)])) t
        refine XS.iconst X.here hx rfl (hb hby at_34) ?_
        exact k
      by_cases hc35 : x45 = (3 : Int32)
      · rw [if_pos hc35] at hF
        refine own_Goes.via (B := T.setTop (mkF m 42 #[.val (.int v0), .val (.int v1), .val (.int x45), .val (.int v0)] [(.int (v0 &&& (1048575 : Int32)))])) (fun t k => ?_) ?_
        · show Steps p.tables e below (T.setTop (mkF m 35 #[.val (.int v0), .val (.int v1), .val (.int x45), .val (.int v0)] [(.int (3 : Int32)), (.int x45)])) t
          refine XS.icmpNo X.here hx rfl (hb hby at_35) rfl (teq hc35).2 ?_
          show Steps p.tables e below (T.setTop (mkF m 38 #[.val (.int v0), .val (.int v1), .val (.int x45), .val (.int v0)] [])) t
          refine XS.iloadN X.here hx rfl (hb hby at_38) rfl ?_
          show Steps p.tables e below (T.setTop (mkF m 39 #[.val (.int v0), .val (.int v1), .val (.int x45), .val (.int v0)] [(.int v0)])) t
          refine X.ldcInt hx hown (mvT hZ (w0 hw)) (g := (mkF m 39 #[.val (.int v0), .val (.int v1), .val (.int x45), .val (.int v0)] [(.int v0)])) rfl (hb hby at_39) _ ?_
          show Steps p.tables e below (T.setTop (mkF m 41 #[.val (.int v0), .val (.int v1), .val (.int x45), .val (.int v0)] [(.int (1048575 : Int32)), (.int v0)])) t
          refine XS.iand X.here hx rfl (hb hby at_41) rfl ?_
          exact k
        obtain ⟨x52, hx52, hF⟩ := own_lt_e hF
        rw [← hx52]
        refine own_Goes.via (B := T.setTop (mkF m 44 #[.val (.int v0), .val (.int v1), .val (.int x45), .val (.int x52)] [(.int x52)])) (fun t k => ?_) ?_
        · show Steps p.tables e below (T.setTop (mkF m 42 #[.val (.int v0), .val (.int v1), .val (.int x45), .val (.int v0)] [(.int x52)])) t
          refine XS.istoreN X.here hx rfl (hb hby at_42) rfl (l' := #[.val (.int v0), .val (.int v1), .val (.int x45), .val (.int x52)]) rfl ?_
          show Steps p.tables e below (T.setTop (mkF m 43 #[.val (.int v0), .val (.int v1), .val (.int x45), .val (.int x52)] [])) t
          refine XS.iloadN X.here hx rfl (hb hby at_43) rfl ?_
          exact k
        obtain ⟨r53, hr53, hF⟩ := own_bd_e hF
        obtain ⟨_, _, ⟨T53, L53, k53, n53⟩, -, X53, ⟨Lc53, hQ53, l53, y53, z53⟩, st53⟩ := Jvm.LawKit.callS X hx (y := (⟨"com/example/rulr/rulr/TermScanner", "isNameStart", "(I)Z"⟩ : MethodName)) hown (mvT hZ (w1 hw)) (mvT hZ (w2 hw)) (mvT hZ (w3 hw)) (mvT hZ (w4 hw)) (by decide) (backOf (W := 0) (rm_TermScanner_isNameStart l Z a0 hw [] hE n0 z x52 r53 hr53) hZ (w4 hw) (w3 hw) (by decide) (by decide)) (g := (mkF m 44 #[.val (.int v0), .val (.int v1), .val (.int x45), .val (.int x52)] [(.int x52)])) rfl (by rw [hml]; rfl) (argsL := [(.int x52)]) (rest := []) (lenOf pd_0 rfl) rfl (by show 2 * 0 + _ ≤ _; exact Nat.le_of_eq rfl) (hb hby at_44) (fun _ _ => ⟨rfl, eT, (by decide : 0 + 0 ≤ _), (by decide : 0 + 0 ≤ _)⟩)
        dsimp only [Pt.U, Pt.locs, Pt.cells, Pt.slots] at X53 l53 y53 z53 st53 hQ53
        subst l53 y53 z53
        obtain ⟨rfl, N53q, e53⟩ := hQ53
        have N53 := Fr.app N N53q
        refine own_Goes.via st53 ?_
        show own_Goes _ _ _ _ _ _ _ (T53.setTop (mkF m 47 #[.val (.int v0), .val (.int v1), .val (.int x45), .val (.int x52)] [(.int r53)]))
        refine own_Goes.via (B := T53.setTop (mkF m 48 #[.val (.int v0), .val (.int v1), .val (.int x45), .val (.int x52)] [(.int x52), (.int r53)])) (fun t k => ?_) ?_
        · show Steps p.tables e below (T53.setTop (mkF m 47 #[.val (.int v0), .val (.int v1), .val (.int x45), .val (.int x52)] [(.int r53)])) t
          refine XS.iloadN X53.here hx rfl (hb hby at_47) rfl ?_
          exact k
        obtain ⟨r54, hr54, hF⟩ := own_bd_e hF
        obtain ⟨_, _, ⟨T54, L54, k54, n54⟩, -, X54, ⟨Lc54, hQ54, l54, y54, z54⟩, st54⟩ := Jvm.LawKit.callS X53 hx (y := (⟨"com/example/rulr/rulr/TermScannerIsNameStartPinLaw", "expected", "(I)Z"⟩ : MethodName)) hown (mvT hZ (w14 hw)) (mvT hZ (w15 hw)) (mvT hZ (w16 hw)) (mvT hZ (w17 hw)) (by decide) (backOf (W := 1) (rm_TermScannerIsNameStartPinLaw_expected l Z a0 hw [] hE n0 z x52 r54 hr54) hZ (w17 hw) (w16 hw) (by decide) (by decide)) (g := (mkF m 48 #[.val (.int v0), .val (.int v1), .val (.int x45), .val (.int x52)] [(.int x52), (.int r53)])) rfl (by rw [hml]; rfl) (argsL := [(.int x52)]) (rest := [(.int r53)]) (lenOf pd_0 rfl) rfl (by show 2 * 0 + _ ≤ _; exact Nat.le_of_eq rfl) (hb hby at_48) (fun _ _ => ⟨rfl, e53, (by decide : 0 + 0 ≤ _), (by decide : 0 + 0 ≤ _)⟩)
        dsimp only [Pt.U, Pt.locs, Pt.cells, Pt.slots] at X54 l54 y54 z54 st54 hQ54
        subst l54 y54 z54
        obtain ⟨rfl, N54q, e54⟩ := hQ54
        have N54 := Fr.app N53 N54q
        refine own_Goes.via st54 ?_
        show own_Goes _ _ _ _ _ _ _ (T54.setTop (mkF m 51 #[.val (.int v0), .val (.int v1), .val (.int x45), .val (.int x52)] [(.int r54), (.int r53)]))
        by_cases hc51 : r53 = r54
        · rw [if_pos hc51] at hF
          refine own_Goes.via (B := T54.setTop (mkF m 59 #[.val (.int v0), .val (.int v1), .val (.int x45), .val (.int x52)] [(.int (1 : Int32))])) (fun t k => ?_) ?_
          · show Steps p.tables e below (T54.setTop (mkF m 51 #[.val (.int v0), .val (.int v1), .val (.int x45), .val (.int x52)] [(.int r54), (.int r53)])) t
            refine XS.icmpNo X54.here hx rfl (hb hby at_51) rfl (teq hc51).2 ?_
            show Steps p.tables e below (T54.setTop (mkF m 54 #[.val (.int v0), .val (.int v1), .val (.int x45), .val (.int x52)] [])) t
            refine XS.iconst X54.here hx rfl (hb hby at_54) ?_
            show Steps p.tables e below (T54.setTop (mkF m 55 #[.val (.int v0), .val (.int v1), .val (.int x45), .val (.int x52)] [(.int (1 : Int32))])) t
            refine XS.goto X54.here hx rfl (pc0 := 55) (pc' := 59) rfl (hb hby at_55) (by decide) (by decide) ?_
            exact k
          obtain rfl : (1 : Int32) = r := Option.some.inj hF
          exact own_retN X54 hx (t := .boolean) hret hlk (by simp) (hb hby at_59) e54 (v := (1 : Int32)) (by decide) ⟨rfl, N54, rfl⟩ (by decide) (by decide)
        · rw [if_neg hc51] at hF
          refine own_Goes.via (B := T54.setTop (mkF m 59 #[.val (.int v0), .val (.int v1), .val (.int x45), .val (.int x52)] [(.int (0 : Int32))])) (fun t k => ?_) ?_
          · show Steps p.tables e below (T54.setTop (mkF m 51 #[.val (.int v0), .val (.int v1), .val (.int x45), .val (.int x52)] [(.int r54), (.int r53)])) t
            refine XS.icmpYes X54.here hx rfl (pc0 := 51) (pc' := 58) rfl (hb hby at_51) rfl (feq hc51).2 (by decide) (by decide) ?_
            show Steps p.tables e below (T54.setTop (mkF m 58 #[.val (.int v0), .val (.int v1), .val (.int x45), .val (.int x52)] [])) t
            refine XS.iconst X54.here hx rfl (hb hby at_58) ?_
            exact k
          obtain rfl : (0 : Int32) = r := Option.some.inj hF
          exact own_retN X54 hx (t := .boolean) hret hlk (by simp) (hb hby at_59) e54 (v := (0 : Int32)) (by decide) ⟨rfl, N54, rfl⟩ (by decide) (by decide)
      · rw [if_neg hc35] at hF
        refine own_Goes.via (B := T.setTop (mkF m 44 #[.val (.int v0), .val (.int v1), .val (.int x45), .val (.int v0)] [(.int v0)])) (fun t k => ?_) ?_
        · show Steps p.tables e below (T.setTop (mkF m 35 #[.val (.int v0), .val (.int v1), .val (.int x45), .val (.int v0)] [(.int (3 : Int32)), (.int x45)])) t
          refine XS.icmpYes X.here hx rfl (pc0 := 35) (pc' := 43) rfl (hb hby at_35) rfl (feq hc35).2 (by decide) (by decide) ?_
          show Steps p.tables e below (T.setTop (mkF m 43 #[.val (.int v0), .val (.int v1), .val (.int x45), .val (.int v0)] [])) t
          refine XS.iloadN X.here hx rfl (hb hby at_43) rfl ?_
          exact k
        obtain ⟨r55, hr55, hF⟩ := own_bd_e hF
        obtain ⟨_, _, ⟨T55, L55, k55, n55⟩, -, X55, ⟨Lc55, hQ55, l55, y55, z55⟩, st55⟩ := Jvm.LawKit.callS X hx (y := (⟨"com/example/rulr/rulr/TermScanner", "isNameStart", "(I)Z"⟩ : MethodName)) hown (mvT hZ (w1 hw)) (mvT hZ (w2 hw)) (mvT hZ (w3 hw)) (mvT hZ (w4 hw)) (by decide) (backOf (W := 0) (rm_TermScanner_isNameStart l Z a0 hw [] hE n0 z v0 r55 hr55) hZ (w4 hw) (w3 hw) (by decide) (by decide)) (g := (mkF m 44 #[.val (.int v0), .val (.int v1), .val (.int x45), .val (.int v0)] [(.int v0)])) rfl (by rw [hml]; rfl) (argsL := [(.int v0)]) (rest := []) (lenOf pd_0 rfl) rfl (by show 2 * 0 + _ ≤ _; exact Nat.le_of_eq rfl) (hb hby at_44) (fun _ _ => ⟨rfl, eT, (by decide : 0 + 0 ≤ _), (by decide : 0 + 0 ≤ _)⟩)
        dsimp only [Pt.U, Pt.locs, Pt.cells, Pt.slots] at X55 l55 y55 z55 st55 hQ55
        subst l55 y55 z55
        obtain ⟨rfl, N55q, e55⟩ := hQ55
        have N55 := Fr.app N N55q
        refine own_Goes.via st55 ?_
        show own_Goes _ _ _ _ _ _ _ (T55.setTop (mkF m 47 #[.val (.int v0), .val (.int v1), .val (.int x45), .val (.int v0)] [(.int r55)]))
        refine own_Goes.via (B := T55.setTop (mkF m 48 #[.val (.int v0), .val (.int v1), .val (.int x45), .val (.int v0)] [(.int v0), (.int r55)])) (fun t k => ?_) ?_
        · show Steps p.tables e below (T55.setTop (mkF m 47 #[.val (.int v0), .val (.int v1), .val (.int x45), .val (.int v0)] [(.int r55)])) t
          refine XS.iloadN X55.here hx rfl (hb hby at_47) rfl ?_
          exact k
        obtain ⟨r56, hr56, hF⟩ := own_bd_e hF
        obtain ⟨_, _, ⟨T56, L56, k56, n56⟩, -, X56, ⟨Lc56, hQ56, l56, y56, z56⟩, st56⟩ := Jvm.LawKit.callS X55 hx (y := (⟨"com/example/rulr/rulr/TermScannerIsNameStartPinLaw", "expected", "(I)Z"⟩ : MethodName)) hown (mvT hZ (w14 hw)) (mvT hZ (w15 hw)) (mvT hZ (w16 hw)) (mvT hZ (w17 hw)) (by decide) (backOf (W := 1) (rm_TermScannerIsNameStartPinLaw_expected l Z a0 hw [] hE n0 z v0 r56 hr56) hZ (w17 hw) (w16 hw) (by decide) (by decide)) (g := (mkF m 48 #[.val (.int v0), .val (.int v1), .val (.int x45), .val (.int v0)] [(.int v0), (.int r55)])) rfl (by rw [hml]; rfl) (argsL := [(.int v0)]) (rest := [(.int r55)]) (lenOf pd_0 rfl) rfl (by show 2 * 0 + _ ≤ _; exact Nat.le_of_eq rfl) (hb hby at_48) (fun _ _ => ⟨rfl, e55, (by decide : 0 + 0 ≤ _), (by decide : 0 + 0 ≤ _)⟩)
        dsimp only [Pt.U, Pt.locs, Pt.cells, Pt.slots] at X56 l56 y56 z56 st56 hQ56
        subst l56 y56 z56
        obtain ⟨rfl, N56q, e56⟩ := hQ56
        have N56 := Fr.app N55 N56q
        refine own_Goes.via st56 ?_
        show own_Goes _ _ _ _ _ _ _ (T56.setTop (mkF m 51 #[.val (.int v0), .val (.int v1), .val (.int x45), .val (.int v0)] [(.int r56), (.int r55)]))
        by_cases hc51 : r55 = r56
        · rw [if_pos hc51] at hF
          refine own_Goes.via (B := T56.setTop (mkF m 59 #[.val (.int v0), .val (.int v1), .val (.int x45), .val (.int v0)] [(.int (1 : Int32))])) (fun t k => ?_) ?_
          · show Steps p.tables e below (T56.setTop (mkF m 51 #[.val (.int v0), .val (.int v1), .val (.int x45), .val (.int v0)] [(.int r56), (.int r55)])) t
            refine XS.icmpNo X56.here hx rfl (hb hby at_51) rfl (teq hc51).2 ?_
            show Steps p.tables e below (T56.setTop (mkF m 54 #[.val (.int v0), .val (.int v1), .val (.int x45), .val (.int v0)] [])) t
            refine XS.iconst X56.here hx rfl (hb hby at_54) ?_
            show Steps p.tables e below (T56.setTop (mkF m 55 #[.val (.int v0), .val (.int v1), .val (.int x45), .val (.int v0)] [(.int (1 : Int32))])) t
            refine XS.goto X56.here hx rfl (pc0 := 55) (pc' := 59) rfl (hb hby at_55) (by decide) (by decide) ?_
            exact k
          obtain rfl : (1 : Int32) = r := Option.some.inj hF
          exact own_retN X56 hx (t := .boolean) hret hlk (by simp) (hb hby at_59) e56 (v := (1 : Int32)) (by decide) ⟨rfl, N56, rfl⟩ (by decide) (by decide)
        · rw [if_neg hc51] at hF
          refine own_Goes.via (B := T56.setTop (mkF m 59 #[.val (.int v0), .val (.int v1), .val (.int x45), .val (.int v0)] [(.int (0 : Int32))])) (fun t k => ?_) ?_
          · show Steps p.tables e below (T56.setTop (mkF m 51 #[.val (.int v0), .val (.int v1), .val (.int x45), .val (.int v0)] [(.int r56), (.int r55)])) t
            refine XS.icmpYes X56.here hx rfl (pc0 := 51) (pc' := 58) rfl (hb hby at_51) rfl (feq hc51).2 (by decide) (by decide) ?_
            show Steps p.tables e below (T56.setTop (mkF m 58 #[.val (.int v0), .val (.int v1), .val (.int x45), .val (.int v0)] [])) t
            refine XS.iconst X56.here hx rfl (hb hby at_58) ?_
            exact k
          obtain rfl : (0 : Int32) = r := Option.some.inj hF
          exact own_retN X56 hx (t := .boolean) hret hlk (by simp) (hb hby at_59) e56 (v := (0 : Int32)) (by decide) ⟨rfl, N56, rfl⟩ (by decide) (by decide)
theorem ef_law (m : MethodId) (x0 : Int32) (x1 : Int32) : entryFrame m #[(.int x0), (.int x1)] maxLocals = mkF m 0 #[.val (.int x0), .val (.int x1), .unset, .unset] [] := by first | (simp [entryFrame, mkF, argsToLocals, Value.category, maxLocals]; done) | rfl
set_option maxRecDepth 65536 in
set_option maxHeartbeats 4000000 in
theorem rm_law (l : Launch) (Z : State) (a0 : Array Value) (hw : ∀ d ∈ tables_1, d.before a0 Z = true) (ws : List Jvm.Cond) (hE : Heap) (n0 : Nat) (z : n0 ≤ hE.size)  (v0 : Int32) (v1 : Int32) (r : Int32) (hF : (f_law v0 v1) = some r) :
    MetFree l x (head1 (Jvm.Cond.code x code maxLocals ret :: ws) room_1) (fun a U => a = #[(.int v0), (.int v1)] ∧ Z.Warmed39 U.vm ∧ U.heap = hE) (fun _ _ _ _ _ => True) (fun _ U o U' => ∃ v L, o = .returned v ∧ (Q_law Z hE n0 r) v U'.heap L ∧ FrameEnd U o U' L 0 0) := by
  refine MetFree.of_bodySF (plainFor_of_name pn_com_example_rulr_rulr_TermScannerIsNameStartPinLaw) hisR ?_
  intro p e s m args below meth c s₁ Bd hml0 hP hK
  obtain ⟨rfl, hZ, hh⟩ := hP
  have X0 : Stand p l e room_1 s m #[(.int v0), (.int v1)] below meth c s₁ [] 0 0 := Stand.of_body Bd
  have e0 : s₁.heap = hE := by rw [← hh, Bd.state]; rfl
  have cx : Cx_law p s m meth c Z a0 := ⟨Bd.exec, hZ, hw, Bd.bytes, hml0, findClass_of_methodNamed Bd.named, Bd.returns, Bd.notSynchronized, (name_of_methodNamed Bd.named Bd.method).1⟩
  show own_Goes p e below s (Q_law Z hE n0 r) 0 0 (s₁.setTop (entryFrame m #[(.int v0), (.int v1)] maxLocals))
  rw [ef_law]
  exact b_law cx X0 e0 (Fr.nil n0) z v0 v1 _ hF
/-! the words of the mirrors -/
theorem own_bs {α β : Type} (x : α) (f : α → Option β) : own_bd (some x) f = f x := by unfold own_bd; exact rfl
theorem own_ls {α β : Type} (x : α) (f : α → Option β) : own_lt x f = f x := by unfold own_lt; exact rfl
theorem own_bn {α : Type} (x : Option α) : own_bd x (fun y => some y) = x := by cases x <;> exact rfl
theorem own_ct {β : Type} {P : Prop} [Decidable P] (x : Option β) (h : P) : own_ck P x = x := by unfold own_ck; exact if_pos h
/-! numbers: ints and longs as integers -/
theorem own_i1 (x : Int32) : -2147483648 ≤ x.toInt := Int32.le_toInt x
theorem own_i2 (x : Int32) : x.toInt < 2147483648 := Int32.toInt_lt x
theorem own_j1 (x : Int64) : -9223372036854775808 ≤ x.toInt := Int64.le_toInt x
theorem own_j2 (x : Int64) : x.toInt < 9223372036854775808 := Int64.toInt_lt x
theorem own_iadd {a b : Int32} (h1 : -2147483648 ≤ a.toInt + b.toInt) (h2 : a.toInt + b.toInt < 2147483648) : (a + b).toInt = a.toInt + b.toInt := by
  rw [Int32.toInt_add]; exact Int.bmod_eq_of_le (by omega) (by omega)
theorem own_isub {a b : Int32} (h1 : -2147483648 ≤ a.toInt - b.toInt) (h2 : a.toInt - b.toInt < 2147483648) : (a - b).toInt = a.toInt - b.toInt := by
  rw [Int32.toInt_sub]; exact Int.bmod_eq_of_le (by omega) (by omega)
theorem own_imul {a b : Int32} (h1 : -2147483648 ≤ a.toInt * b.toInt) (h2 : a.toInt * b.toInt < 2147483648) : (a * b).toInt = a.toInt * b.toInt := by
  rw [Int32.toInt_mul]; exact Int.bmod_eq_of_le (by omega) (by omega)
theorem own_ladd {a b : Int64} (h1 : -9223372036854775808 ≤ a.toInt + b.toInt) (h2 : a.toInt + b.toInt < 9223372036854775808) : (a + b).toInt = a.toInt + b.toInt := by
  rw [Int64.toInt_add]; exact Int.bmod_eq_of_le (by omega) (by omega)
theorem own_lsub {a b : Int64} (h1 : -9223372036854775808 ≤ a.toInt - b.toInt) (h2 : a.toInt - b.toInt < 9223372036854775808) : (a - b).toInt = a.toInt - b.toInt := by
  rw [Int64.toInt_sub]; exact Int.bmod_eq_of_le (by omega) (by omega)
theorem own_lmul {a b : Int64} (h1 : -9223372036854775808 ≤ a.toInt * b.toInt) (h2 : a.toInt * b.toInt < 9223372036854775808) : (a * b).toInt = a.toInt * b.toInt := by
  rw [Int64.toInt_mul]; exact Int.bmod_eq_of_le (by omega) (by omega)
theorem own_imask {x m : Int32} (k : Nat) (hk : k ≤ 31) (hm : m.toBitVec.toNat = 2 ^ k - 1) : (x &&& m).toInt = x.toInt % 2 ^ k := by
  have h1 : (x &&& m).toBitVec.toNat = x.toBitVec.toNat % 2 ^ k := by rw [Int32.toBitVec_and, BitVec.toNat_and, hm, Nat.and_two_pow_sub_one_eq_mod]
  have h3 : x.toBitVec.toNat % 2 ^ k < 2 ^ k := Nat.mod_lt _ (Nat.pow_pos (by decide))
  have h4 : (2 : Nat) ^ k ≤ 2 ^ 31 := Nat.pow_le_pow_right (by decide) hk
  have h2 : (x &&& m).toInt = ((x.toBitVec.toNat % 2 ^ k : Nat) : Int) := by
    show (x &&& m).toBitVec.toInt = _
    rw [BitVec.toInt_eq_toNat_of_lt (by rw [h1]; omega), h1]
  rw [h2]
  have h5 : x.toInt = x.toBitVec.toInt := rfl
  have h6 : ((2 : Int) ^ k) ∣ 4294967296 := by
    have : (4294967296 : Int) = 2 ^ k * 2 ^ (32 - k) := by rw [← Int.pow_add, show k + (32 - k) = 32 by omega]; rfl
    exact ⟨_, this⟩
  rw [h5, BitVec.toInt_eq_toNat_cond]
  split
  · exact Int.natCast_emod _ _
  · rw [Int.natCast_emod, show (((2 ^ 32 : Nat) : Int)) = 4294967296 from rfl, Int.sub_emod, Int.emod_eq_zero_of_dvd h6]; simp
theorem own_lmask {x m : Int64} (k : Nat) (hk : k ≤ 63) (hm : m.toBitVec.toNat = 2 ^ k - 1) : (x &&& m).toInt = x.toInt % 2 ^ k := by
  have h1 : (x &&& m).toBitVec.toNat = x.toBitVec.toNat % 2 ^ k := by rw [Int64.toBitVec_and, BitVec.toNat_and, hm, Nat.and_two_pow_sub_one_eq_mod]
  have h3 : x.toBitVec.toNat % 2 ^ k < 2 ^ k := Nat.mod_lt _ (Nat.pow_pos (by decide))
  have h4 : (2 : Nat) ^ k ≤ 2 ^ 63 := Nat.pow_le_pow_right (by decide) hk
  have h2 : (x &&& m).toInt = ((x.toBitVec.toNat % 2 ^ k : Nat) : Int) := by
    show (x &&& m).toBitVec.toInt = _
    rw [BitVec.toInt_eq_toNat_of_lt (by rw [h1]; omega), h1]
  rw [h2]
  have h5 : x.toInt = x.toBitVec.toInt := rfl
  have h6 : ((2 : Int) ^ k) ∣ 18446744073709551616 := by
    have : (18446744073709551616 : Int) = 2 ^ k * 2 ^ (64 - k) := by rw [← Int.pow_add, show k + (64 - k) = 64 by omega]; rfl
    exact ⟨_, this⟩
  rw [h5, BitVec.toInt_eq_toNat_cond]
  split
  · exact Int.natCast_emod _ _
  · rw [Int.natCast_emod, show (((2 ^ 64 : Nat) : Int)) = 18446744073709551616 from rfl, Int.sub_emod, Int.emod_eq_zero_of_dvd h6]; simp
theorem own_bm32 (x : Int) : x.bmod 4294967296 = (x + 2147483648) % 4294967296 - 2147483648 := by
  unfold Int.bmod; dsimp only; split <;> omega
theorem own_bm64 (x : Int) : x.bmod 18446744073709551616 = (x + 9223372036854775808) % 18446744073709551616 - 9223372036854775808 := by
  unfold Int.bmod; dsimp only; split <;> omega
theorem own_bm8 (x : Int) : x.bmod 256 = (x + 128) % 256 - 128 := by
  unfold Int.bmod; dsimp only; split <;> omega
theorem own_bm16 (x : Int) : x.bmod 65536 = (x + 32768) % 65536 - 32768 := by
  unfold Int.bmod; dsimp only; split <;> omega
theorem own_b8 (x : Int32) : x.toInt8.toInt32.toInt = (x.toInt + 128) % 256 - 128 := by rw [Int8.toInt_toInt32, Int32.toInt_toInt8]; exact own_bm8 _
theorem own_s16 (x : Int32) : x.toInt16.toInt32.toInt = (x.toInt + 32768) % 65536 - 32768 := by rw [Int16.toInt_toInt32, Int32.toInt_toInt16]; exact own_bm16 _
theorem own_l2i (x : Int64) : x.toInt32.toInt = (x.toInt + 2147483648) % 4294967296 - 2147483648 := by rw [Int64.toInt_toInt32]; exact own_bm32 _
theorem own_i2l (x : Int32) : x.toInt64.toInt = x.toInt := Int32.toInt_toInt64 x
theorem own_idiv {a b : Int32} (h1 : 0 ≤ a.toInt) (h2 : 0 < b.toInt) : (a / b).toInt = a.toInt / b.toInt := by
  rw [Int32.toInt_div_of_ne_right a b (fun q => by rw [q] at h2; exact absurd h2 (by decide)), Int.tdiv_eq_ediv_of_nonneg h1]
theorem own_ldiv {a b : Int64} (h1 : 0 ≤ a.toInt) (h2 : 0 < b.toInt) : (a / b).toInt = a.toInt / b.toInt := by
  rw [Int64.toInt_div_of_ne_right a b (fun q => by rw [q] at h2; exact absurd h2 (by decide)), Int.tdiv_eq_ediv_of_nonneg h1]
theorem own_imod {a b : Int32} (h1 : 0 ≤ a.toInt) : (a % b).toInt = a.toInt % b.toInt := by rw [Int32.toInt_mod, Int.tmod_eq_emod_of_nonneg h1]
theorem own_lmod {a b : Int64} (h1 : 0 ≤ a.toInt) : (a % b).toInt = a.toInt % b.toInt := by rw [Int64.toInt_mod, Int.tmod_eq_emod_of_nonneg h1]
theorem own_uI (x : Int32) : (x.toUInt32.toNat : Int) = x.toInt % 4294967296 := by
  have h : x.toInt = x.toBitVec.toInt := rfl
  have q : x.toUInt32.toNat = x.toBitVec.toNat := rfl
  have b := x.toBitVec.isLt
  rw [h, q, BitVec.toInt_eq_toNat_cond]
  split <;> omega
theorem own_uJ (x : Int64) : (x.toUInt64.toNat : Int) = x.toInt % 18446744073709551616 := by
  have h : x.toInt = x.toBitVec.toInt := rfl
  have q : x.toUInt64.toNat = x.toBitVec.toNat := rfl
  have b := x.toBitVec.isLt
  rw [h, q, BitVec.toInt_eq_toNat_cond]
  split <;> omega
theorem own_ofU (u : UInt32) (h : u.toNat < 2147483648) : u.toInt32.toInt = u.toNat := by
  show u.toBitVec.toInt = _
  exact BitVec.toInt_eq_toNat_of_lt (by show 2 * u.toNat < 2 ^ 32; omega)
theorem own_ofUJ (u : UInt64) (h : u.toNat < 9223372036854775808) : u.toInt64.toInt = u.toNat := by
  show u.toBitVec.toInt = _
  exact BitVec.toInt_eq_toNat_of_lt (by show 2 * u.toNat < 2 ^ 64; omega)
/-- Java's >>> on ints by a constant from 1 to 31 -/
theorem own_iushr (x s : Int32) (n : Nat) (h0 : 1 ≤ n) (hn : n < 32) (hs : (s &&& 31).toUInt32.toNat = n) : ((x.toUInt32 >>> (s &&& 31).toUInt32).toInt32).toInt = (x.toInt % 4294967296) / (2 ^ n : Nat) := by
  have e : (x.toUInt32 >>> (s &&& 31).toUInt32).toNat = x.toUInt32.toNat / 2 ^ n := by rw [UInt32.toNat_shiftRight, hs, Nat.mod_eq_of_lt hn, Nat.shiftRight_eq_div_pow]
  have b : x.toUInt32.toNat < 4294967296 := x.toUInt32.toNat_lt
  have c : x.toUInt32.toNat / 2 ^ n ≤ x.toUInt32.toNat / 2 ^ 1 := Nat.div_le_div_left (Nat.pow_le_pow_right (by decide) h0) (by decide)
  rw [own_ofU _ (by rw [e]; omega), e, Int.natCast_ediv, own_uI]
theorem own_lushr (x : Int64) (s : Int32) (n : Nat) (h0 : 1 ≤ n) (hn : n < 64) (hs : (s &&& 0x3f).toInt64.toUInt64.toNat = n) : ((x.toUInt64 >>> (s &&& 0x3f).toInt64.toUInt64).toInt64).toInt = (x.toInt % 18446744073709551616) / (2 ^ n : Nat) := by
  have e : (x.toUInt64 >>> (s &&& 0x3f).toInt64.toUInt64).toNat = x.toUInt64.toNat / 2 ^ n := by rw [UInt64.toNat_shiftRight, hs, Nat.mod_eq_of_lt hn, Nat.shiftRight_eq_div_pow]
  have b : x.toUInt64.toNat < 18446744073709551616 := x.toUInt64.toNat_lt
  have c : x.toUInt64.toNat / 2 ^ n ≤ x.toUInt64.toNat / 2 ^ 1 := Nat.div_le_div_left (Nat.pow_le_pow_right (by decide) h0) (by decide)
  rw [own_ofUJ _ (by rw [e]; omega), e, Int.natCast_ediv, own_uJ]
theorem own_ishl {x s : Int32} (n : Nat) (hs : (s.toBitVec.smod 32).toNat = n) (h0 : 0 ≤ x.toInt) (h1 : x.toInt * (2 ^ n : Nat) < 2147483648) : (x <<< s).toInt = x.toInt * (2 ^ n : Nat) := by
  have h : x.toInt = x.toBitVec.toInt := rfl
  have hx : x.toInt = x.toBitVec.toNat := by
    have b := x.toBitVec.isLt
    rw [h, BitVec.toInt_eq_toNat_cond]; rw [h, BitVec.toInt_eq_toNat_cond] at h0
    split at h0 <;> rename_i q
    · rw [if_pos q]
    · omega
  have e : (x <<< s).toBitVec.toNat = x.toBitVec.toNat * 2 ^ n := by
    rw [Int32.toBitVec_shiftLeft, BitVec.shiftLeft_eq', hs, BitVec.toNat_shiftLeft, Nat.shiftLeft_eq]
    apply Nat.mod_eq_of_lt
    rw [hx] at h1
    omega
  show (x <<< s).toBitVec.toInt = _
  rw [BitVec.toInt_eq_toNat_of_lt (by rw [e]; rw [hx] at h1; omega), e, hx]
  simp
theorem own_lshl {x s : Int64} (n : Nat) (hs : (s.toBitVec.smod 64).toNat = n) (h0 : 0 ≤ x.toInt) (h1 : x.toInt * (2 ^ n : Nat) < 9223372036854775808) : (x <<< s).toInt = x.toInt * (2 ^ n : Nat) := by
  have h : x.toInt = x.toBitVec.toInt := rfl
  have hx : x.toInt = x.toBitVec.toNat := by
    have b := x.toBitVec.isLt
    rw [h, BitVec.toInt_eq_toNat_cond]; rw [h, BitVec.toInt_eq_toNat_cond] at h0
    split at h0 <;> rename_i q
    · rw [if_pos q]
    · omega
  have e : (x <<< s).toBitVec.toNat = x.toBitVec.toNat * 2 ^ n := by
    rw [Int64.toBitVec_shiftLeft, BitVec.shiftLeft_eq', hs, BitVec.toNat_shiftLeft, Nat.shiftLeft_eq]
    apply Nat.mod_eq_of_lt
    rw [hx] at h1
    omega
  show (x <<< s).toBitVec.toInt = _
  rw [BitVec.toInt_eq_toNat_of_lt (by rw [e]; rw [hx] at h1; omega), e, hx]
  simp
theorem own_ishr (x s : Int32) (n : Nat) (hs : (s.toBitVec.smod 32).toNat = n) : (x >>> s).toInt = x.toInt / (2 ^ n : Nat) := by
  show (x >>> s).toBitVec.toInt = _
  rw [Int32.toBitVec_shiftRight, BitVec.sshiftRight', hs, BitVec.toInt_sshiftRight, Int.shiftRight_eq_div_pow]
  rfl
theorem own_lshr (x s : Int64) (n : Nat) (hs : (s.toBitVec.smod 64).toNat = n) : (x >>> s).toInt = x.toInt / (2 ^ n : Nat) := by
  show (x >>> s).toBitVec.toInt = _
  rw [Int64.toBitVec_shiftRight, BitVec.sshiftRight', hs, BitVec.toInt_sshiftRight, Int.shiftRight_eq_div_pow]
  rfl
abbrev own_A157 (n : Int) : Prop := (65008 ≤ n ∧ n ≤ 65533) ∨ (65536 ≤ n ∧ n ≤ 983039)
theorem own_a157 (v : Int32) : f_TermScanner_isNameStart_157 v = some (if own_A157 v.toInt then 1 else 0) := by
  unfold f_TermScanner_isNameStart_157
  simp only [Int32.lt_iff_toInt_lt, ← Int32.toInt_inj, Int32.reduceToInt]
  generalize v.toInt = n
  unfold own_A157
  repeat' split
  all_goals first | rfl | (exfalso; omega)
abbrev own_A132 (n : Int) : Prop := (12289 ≤ n ∧ n ≤ 55295) ∨ (63744 ≤ n ∧ n ≤ 64975) ∨ own_A157 n
theorem own_a132 (v : Int32) : f_TermScanner_isNameStart_132 v = some (if own_A132 v.toInt then 1 else 0) := by
  unfold f_TermScanner_isNameStart_132
  simp only [Int32.lt_iff_toInt_lt, ← Int32.toInt_inj, Int32.reduceToInt, own_a157]
  generalize v.toInt = n
  unfold own_A132
  repeat' split
  all_goals first | rfl | (exfalso; omega)
abbrev own_A104 (n : Int) : Prop := (8304 ≤ n ∧ n ≤ 8591) ∨ (11264 ≤ n ∧ n ≤ 12271) ∨ own_A132 n
theorem own_a104 (v : Int32) : f_TermScanner_isNameStart_104 v = some (if own_A104 v.toInt then 1 else 0) := by
  unfold f_TermScanner_isNameStart_104
  simp only [Int32.lt_iff_toInt_lt, ← Int32.toInt_inj, Int32.reduceToInt, own_a132]
  generalize v.toInt = n
  unfold own_A104
  repeat' split
  all_goals first | rfl | (exfalso; omega)
abbrev own_A76 (n : Int) : Prop := (895 ≤ n ∧ n ≤ 8191) ∨ (8204 ≤ n ∧ n ≤ 8205) ∨ own_A104 n
theorem own_a76 (v : Int32) : f_TermScanner_isNameStart_76 v = some (if own_A76 v.toInt then 1 else 0) := by
  unfold f_TermScanner_isNameStart_76
  simp only [Int32.lt_iff_toInt_lt, ← Int32.toInt_inj, Int32.reduceToInt, own_a104]
  generalize v.toInt = n
  unfold own_A76
  repeat' split
  all_goals first | rfl | (exfalso; omega)
abbrev own_A48 (n : Int) : Prop := (248 ≤ n ∧ n ≤ 767) ∨ (880 ≤ n ∧ n ≤ 893) ∨ own_A76 n
theorem own_a48 (v : Int32) : f_TermScanner_isNameStart_48 v = some (if own_A48 v.toInt then 1 else 0) := by
  unfold f_TermScanner_isNameStart_48
  simp only [Int32.lt_iff_toInt_lt, ← Int32.toInt_inj, Int32.reduceToInt, own_a76]
  generalize v.toInt = n
  unfold own_A48
  repeat' split
  all_goals first | rfl | (exfalso; omega)
abbrev own_AL (n : Int) : Prop := (65 ≤ n ∧ n ≤ 90) ∨ (97 ≤ n ∧ n ≤ 122)
theorem own_aL (v : Int32) : f_TermScanner_isAsciiLetter v = some (if own_AL v.toInt then 1 else 0) := by
  unfold f_TermScanner_isAsciiLetter
  simp only [Int32.lt_iff_toInt_lt, ← Int32.toInt_inj, Int32.reduceToInt]
  generalize v.toInt = n
  unfold own_AL
  repeat' split
  all_goals first | rfl | (exfalso; omega)
abbrev own_AD (n : Int) : Prop := (48 ≤ n ∧ n ≤ 57)
theorem own_aD (v : Int32) : f_TermScanner_isAsciiDigit v = some (if own_AD v.toInt then 1 else 0) := by
  unfold f_TermScanner_isAsciiDigit
  simp only [Int32.lt_iff_toInt_lt, ← Int32.toInt_inj, Int32.reduceToInt]
  generalize v.toInt = n
  unfold own_AD
  repeat' split
  all_goals first | rfl | (exfalso; omega)
abbrev own_A (n : Int) : Prop := own_AL n ∨ own_AD n ∨ n = 95 ∨ (192 ≤ n ∧ n ≤ 214) ∨ (216 ≤ n ∧ n ≤ 246) ∨ own_A48 n
theorem own_a (v : Int32) : f_TermScanner_isNameStart v = some (if own_A v.toInt then 1 else 0) := by
  unfold f_TermScanner_isNameStart
  rw [own_aL, own_bs]
  by_cases hl : own_AL v.toInt
  · rw [if_pos hl, if_neg (by decide), if_pos (Or.inl hl)]
  · rw [if_neg hl, if_pos rfl, own_aD, own_bs]
    by_cases hd : own_AD v.toInt
    · rw [if_pos hd, if_neg (by decide), if_pos (Or.inr (Or.inl hd))]
    · rw [if_neg hd, if_pos rfl]
      simp only [own_a48, Int32.lt_iff_toInt_lt, ← Int32.toInt_inj, Int32.reduceToInt]
      have q : own_A v.toInt ↔ (v.toInt = 95 ∨ (192 ≤ v.toInt ∧ v.toInt ≤ 214) ∨ (216 ≤ v.toInt ∧ v.toInt ≤ 246) ∨ own_A48 v.toInt) := ⟨fun z => (z.resolve_left hl).resolve_left hd, fun z => Or.inr (Or.inr z)⟩
      simp only [q]
      generalize v.toInt = n
      repeat' split
      all_goals first | rfl | (exfalso; omega)
abbrev own_B190 (n : Int) : Prop := ¬ (64976 ≤ n ∧ n ≤ 65007) ∧ ¬ (65534 ≤ n ∧ n ≤ 65534) ∧ ¬ (65535 ≤ n ∧ n ≤ 65535)
theorem own_b190 (v : Int32) : f_TermScannerIsNameStartPinLaw_expected_190 v = some (if own_B190 v.toInt then 1 else 0) := by
  unfold f_TermScannerIsNameStartPinLaw_expected_190
  simp only [Int32.lt_iff_toInt_lt, ← Int32.toInt_inj, Int32.reduceToInt]
  generalize v.toInt = n
  unfold own_B190
  repeat' split
  all_goals first | rfl | (exfalso; omega)
abbrev own_B160 (n : Int) : Prop := ¬ (12272 ≤ n ∧ n ≤ 12288) ∧ ¬ (55296 ≤ n ∧ n ≤ 63743) ∧ own_B190 n
theorem own_b160 (v : Int32) : f_TermScannerIsNameStartPinLaw_expected_160 v = some (if own_B160 v.toInt then 1 else 0) := by
  unfold f_TermScannerIsNameStartPinLaw_expected_160
  simp only [Int32.lt_iff_toInt_lt, ← Int32.toInt_inj, Int32.reduceToInt, own_b190]
  generalize v.toInt = n
  unfold own_B160
  repeat' split
  all_goals first | rfl | (exfalso; omega)
abbrev own_B128 (n : Int) : Prop := ¬ (8206 ≤ n ∧ n ≤ 8303) ∧ ¬ (8592 ≤ n ∧ n ≤ 11263) ∧ own_B160 n
theorem own_b128 (v : Int32) : f_TermScannerIsNameStartPinLaw_expected_128 v = some (if own_B128 v.toInt then 1 else 0) := by
  unfold f_TermScannerIsNameStartPinLaw_expected_128
  simp only [Int32.lt_iff_toInt_lt, ← Int32.toInt_inj, Int32.reduceToInt, own_b160]
  generalize v.toInt = n
  unfold own_B128
  repeat' split
  all_goals first | rfl | (exfalso; omega)
abbrev own_B103 (n : Int) : Prop := ¬ (894 ≤ n ∧ n ≤ 894) ∧ ¬ (8192 ≤ n ∧ n ≤ 8203) ∧ own_B128 n
theorem own_b103 (v : Int32) : f_TermScannerIsNameStartPinLaw_expected_103 v = some (if own_B103 v.toInt then 1 else 0) := by
  unfold f_TermScannerIsNameStartPinLaw_expected_103
  simp only [Int32.lt_iff_toInt_lt, ← Int32.toInt_inj, Int32.reduceToInt, own_b128]
  generalize v.toInt = n
  unfold own_B103
  repeat' split
  all_goals first | rfl | (exfalso; omega)
abbrev own_B71 (n : Int) : Prop := ¬ (215 ≤ n ∧ n ≤ 215) ∧ ¬ (247 ≤ n ∧ n ≤ 247) ∧ ¬ (768 ≤ n ∧ n ≤ 879) ∧ own_B103 n
theorem own_b71 (v : Int32) : f_TermScannerIsNameStartPinLaw_expected_71 v = some (if own_B71 v.toInt then 1 else 0) := by
  unfold f_TermScannerIsNameStartPinLaw_expected_71
  simp only [Int32.lt_iff_toInt_lt, ← Int32.toInt_inj, Int32.reduceToInt, own_b103]
  generalize v.toInt = n
  unfold own_B71
  repeat' split
  all_goals first | rfl | (exfalso; omega)
abbrev own_B48 (n : Int) : Prop := ¬ (96 ≤ n ∧ n ≤ 96) ∧ ¬ (123 ≤ n ∧ n ≤ 191) ∧ own_B71 n
theorem own_b48 (v : Int32) : f_TermScannerIsNameStartPinLaw_expected_48 v = some (if own_B48 v.toInt then 1 else 0) := by
  unfold f_TermScannerIsNameStartPinLaw_expected_48
  simp only [Int32.lt_iff_toInt_lt, ← Int32.toInt_inj, Int32.reduceToInt, own_b71]
  generalize v.toInt = n
  unfold own_B48
  repeat' split
  all_goals first | rfl | (exfalso; omega)
abbrev own_B (n : Int) : Prop := ¬ n < 0 ∧ ¬ 983039 < n ∧ ¬ n ≤ 47 ∧ ¬ (58 ≤ n ∧ n ≤ 64) ∧ ¬ (91 ≤ n ∧ n ≤ 94) ∧ own_B48 n
theorem own_b (v : Int32) : f_TermScannerIsNameStartPinLaw_expected v = some (if own_B v.toInt then 1 else 0) := by
  unfold f_TermScannerIsNameStartPinLaw_expected
  simp only [Int32.lt_iff_toInt_lt, ← Int32.toInt_inj, Int32.reduceToInt, own_b48]
  generalize v.toInt = n
  unfold own_B
  repeat' split
  all_goals first | rfl | (exfalso; omega)
theorem own_same (n : Int) : own_A n ↔ own_B n := by
  rcases Int.lt_or_le n 894 with h16 | h16
  · rcases Int.lt_or_le n 123 with h8 | h8
    · rcases Int.lt_or_le n 91 with h4 | h4
      · rcases Int.lt_or_le n 58 with h2 | h2
        · rcases Int.lt_or_le n 48 with h1 | h1
          · rcases Int.lt_or_le n 0 with h0 | h0
            · exact iff_of_false (by omega) (by omega)
            · exact iff_of_false (by omega) (by omega)
          · exact iff_of_true (by omega) (by omega)
        · rcases Int.lt_or_le n 65 with h3 | h3
          · exact iff_of_false (by omega) (by omega)
          · exact iff_of_true (by omega) (by omega)
      · rcases Int.lt_or_le n 96 with h6 | h6
        · rcases Int.lt_or_le n 95 with h5 | h5
          · exact iff_of_false (by omega) (by omega)
          · exact iff_of_true (by omega) (by omega)
        · rcases Int.lt_or_le n 97 with h7 | h7
          · exact iff_of_false (by omega) (by omega)
          · exact iff_of_true (by omega) (by omega)
    · rcases Int.lt_or_le n 247 with h12 | h12
      · rcases Int.lt_or_le n 215 with h10 | h10
        · rcases Int.lt_or_le n 192 with h9 | h9
          · exact iff_of_false (by omega) (by omega)
          · exact iff_of_true (by omega) (by omega)
        · rcases Int.lt_or_le n 216 with h11 | h11
          · exact iff_of_false (by omega) (by omega)
          · exact iff_of_true (by omega) (by omega)
      · rcases Int.lt_or_le n 768 with h14 | h14
        · rcases Int.lt_or_le n 248 with h13 | h13
          · exact iff_of_false (by omega) (by omega)
          · exact iff_of_true (by omega) (by omega)
        · rcases Int.lt_or_le n 880 with h15 | h15
          · exact iff_of_false (by omega) (by omega)
          · exact iff_of_true (by omega) (by omega)
  · rcases Int.lt_or_le n 12289 with h25 | h25
    · rcases Int.lt_or_le n 8304 with h21 | h21
      · rcases Int.lt_or_le n 8204 with h19 | h19
        · rcases Int.lt_or_le n 8192 with h18 | h18
          · rcases Int.lt_or_le n 895 with h17 | h17
            · exact iff_of_false (by omega) (by omega)
            · exact iff_of_true (by omega) (by omega)
          · exact iff_of_false (by omega) (by omega)
        · rcases Int.lt_or_le n 8206 with h20 | h20
          · exact iff_of_true (by omega) (by omega)
          · exact iff_of_false (by omega) (by omega)
      · rcases Int.lt_or_le n 11264 with h23 | h23
        · rcases Int.lt_or_le n 8592 with h22 | h22
          · exact iff_of_true (by omega) (by omega)
          · exact iff_of_false (by omega) (by omega)
        · rcases Int.lt_or_le n 12272 with h24 | h24
          · exact iff_of_true (by omega) (by omega)
          · exact iff_of_false (by omega) (by omega)
    · rcases Int.lt_or_le n 65008 with h29 | h29
      · rcases Int.lt_or_le n 63744 with h27 | h27
        · rcases Int.lt_or_le n 55296 with h26 | h26
          · exact iff_of_true (by omega) (by omega)
          · exact iff_of_false (by omega) (by omega)
        · rcases Int.lt_or_le n 64976 with h28 | h28
          · exact iff_of_true (by omega) (by omega)
          · exact iff_of_false (by omega) (by omega)
      · rcases Int.lt_or_le n 65536 with h31 | h31
        · rcases Int.lt_or_le n 65534 with h30 | h30
          · exact iff_of_true (by omega) (by omega)
          · exact iff_of_false (by omega) (by omega)
        · rcases Int.lt_or_le n 983040 with h32 | h32
          · exact iff_of_true (by omega) (by omega)
          · exact iff_of_false (by omega) (by omega)
theorem own_eq (v : Int32) : f_TermScanner_isNameStart v = f_TermScannerIsNameStartPinLaw_expected v := by
  rw [own_a, own_b]
  by_cases h : own_A v.toInt
  · rw [if_pos h, if_pos ((own_same _).mp h)]
  · rw [if_neg h, if_neg fun q => h ((own_same _).mpr q)]
theorem own_law (v k : Int32) : f_law v k = some 1 := by
  unfold f_law
  simp only [own_ls, own_eq, own_b, own_bs, if_true]
  repeat' split
  all_goals rfl

set_option maxRecDepth 65536 in
set_option maxHeartbeats 4000000 in
theorem comes_1 {Post : Tables → Env → Array Value → State → Outcome → State → Prop} (hpost : ∀ tb e args s v u, (limb_1_1.after args s (.returned v) u = true ∧ limb_1_2.after args s (.returned v) u = true ∧ True) → FrameEnd s (.returned v) u (Jvm.fieldLocs frame_1_writes args s ++ Jvm.arrayLocs frame_1_arrays args s ++ Jvm.staticLocs frame_1_statics s) 0 0 → Post tb e args s (.returned v) u) :
    ArmFor flags0 classFile x code maxLocals ret World_1 tables_1 room_1 Calls_1 rest_1 Pre_1 Post := by
  intro l hfl _ _ p e ha hc hk s m args below hf hA hF happ hP
  obtain ⟨hcalls, hrest, hpre⟩ := hP
  obtain ⟨-, -, -, hnamed, -, -, -, hat⟩ := (Spec.applies_iff hf).mp happ
  obtain ⟨hg, hn⟩ := and_e (Cond.before_iff.mp (show (Jvm.Cond.and given_1 narrow_1).before args s = true from hpre))
  obtain ⟨gc, g0⟩ := and_e hg
  obtain ⟨ga0, g1⟩ := and_e g0
  have ga1 := g1
  obtain ⟨w0, w1, rfl⟩ : ∃ w0 w1 : Value, args = #[w0, w1] := by
    have hs : args.size = 2 := by simpa [Cond.value, given_1] using gc
    obtain ⟨L⟩ := args
    match L, hs with
    | [w0, w1], _ => exact ⟨w0, w1, rfl⟩
  have hw := fun d (hd : d ∈ tables_1) => atoms_spec (ws := Jvm.Cond.code x code maxLocals ret :: tables_1) hat d (List.mem_cons_of_mem _ hd)
  obtain ⟨i0, ei0⟩ := is_v ga0
  obtain rfl : w0 = (.int i0) := Option.some.inj ei0
  obtain ⟨i1, ei1⟩ := is_v ga1
  obtain rfl : w1 = (.int i1) := Option.some.inj ei1
  obtain ⟨n, o, h1, h2, h3, _, L, rfl, hQ, hq⟩ := rm_law l s _ hw tables_1 s.heap s.heap.size (Nat.le_refl _) i0 i1 1 (own_law i0 i1) p e ha hc hk s m _ below hf ((Spec.applies_iff_loose hf).mp happ).1 ⟨rfl, State.Warmed39.refl s, rfl⟩ trivial
  obtain ⟨rfl, N, -⟩ := hQ
  refine ⟨n, _, h1, h2, h3, hpost _ _ _ _ _ _ ⟨Cond.after_iff.mpr rfl, Cond.after_iff.mpr (eq_i res_at (Term.int_eval (1)) rfl), trivial⟩ ⟨hq.1, hq.2.1, (hq.2.2.sift fun y hy => Or.inr (N y hy)).mono (by decide) (by decide)⟩⟩
theorem main_1_1 : Claimed_1_1 := comes_1 fun _ _ _ _ _ _ h hF => ⟨h.1, hF⟩
theorem main_1_2 : Claimed_1_2 := comes_1 fun _ _ _ _ _ _ h hF => ⟨h.2.1, hF⟩
end Jvm.Pilot.@@N@@
namespace Jvm.Pilot.@@N@@
open Jvm Jvm.ClassFile Sem Op Lib Jvm.Free Jvm.Stand Jvm.Pilot.@@N@@.Jvm.D
/-! MADE BY PROGRAM (witnessworld.py) out of the Statement's table words and the real class files: 9 classes; the members and pool entries that the words name. The judged class is class 1, her method 1. -/
namespace start1
open Jvm.ClassFile
def u (s : String) : CpInfo := .utf8 (stringToUtf16 s)
/-- a pool by its gaps: so many unusable entries, then the entry; so many at the end -/
def gap : Nat → List CpInfo → List CpInfo
  | 0, r => r
  | n + 1, r => .unusable :: gap n r
def poolList (es : List (Nat × CpInfo)) (last : Nat) : List CpInfo := es.foldr (fun e r => gap e.1 (e.2 :: r)) (gap last [])
def pool (es : List (Nat × CpInfo)) (last : Nat) : Array CpInfo := ⟨poolList es last⟩
def fileOf (pool : Array CpInfo) (this : Nat) (attrs : Array Attribute := #[]) (ms : Array MethodInfo := #[]) (fl : Nat := 33) (sup : Nat := 0) (ifs : Array Nat := #[]) (fds : Array FieldInfo := #[]) : ClassFile where
  minorVersion := 0
  majorVersion := 65
  constantPool := pool
  accessFlags := fl
  thisClass := this
  superClass := sup
  interfaces := ifs
  fields := fds
  methods := ms
  attributes := attrs
def plain (name : String) (sup : Option ClassId) : Class where
  name := name
  kind := .ordinary
  loader := none
  accessFlags := 33
  super := sup
  interfaces := #[]
  cf := none
  fields := #[]
  methods := #[]
  instanceTypes := #[]
  staticTypes := #[]
  resolved := #[]
  callSites := []
  init := .initialized
  statics := none
  mirror := none

def pool0 : Array CpInfo := pool [(5, u "<init>"), (0, u "()V"), (1, .class_ 10), (1, u "java/lang/Object")] 113

def k0m0 : Method := { name := "<init>", desc := "()V", sig := { parameters := [], returnType := none }, accessFlags := 1, code := none }
/-- java/lang/Object -/
def k0 : Class := { plain "java/lang/Object" none with
  accessFlags := 33
  interfaces := #[]
  cf := some (fileOf pool0 8 #[] #[{ accessFlags := 1, nameIndex := 5, descriptorIndex := 6, attributes := #[] }] 33 0 #[] #[])
  fields := #[]
  methods := #[k0m0]
  instanceTypes := #[]
  staticTypes := #[]
  resolved := Array.replicate 124 none
  statics := none }

def pool1 : Array CpInfo := pool [(2, .class_ 4), (1, u "java/lang/Object"), (0, u "<init>"), (0, u "()V"), (0, .integer 65535), (0, .integer 1048575), (0, .methodref 10 11), (0, .class_ 12), (0, .nameAndType 13 14), (0, u "com/example/rulr/rulr/TermScanner"), (0, u "isNameStart"), (0, u "(I)Z"), (0, .methodref 16 17), (0, .class_ 18), (0, .nameAndType 19 14), (0, u "com/example/rulr/rulr/TermScannerIsNameStartPinLaw"), (0, u "expected"), (0, .integer 983039), (0, .integer 55296), (0, .integer 63743), (0, .integer 64976), (0, .integer 65007), (0, .integer 65534), (2, u "law"), (0, u "(II)Z")] 3

def k1m0 : Method := { name := "<init>", desc := "()V", sig := { parameters := [], returnType := none }, accessFlags := 2, code := none }
def k1c1 : Code := { maxStack := 2, maxLocals := 4, code := code, exceptionTable := #[], attributes := #[] }
def k1m1 : Method := { name := "law", desc := "(II)Z", sig := { parameters := [.int, .int], returnType := some .boolean }, accessFlags := 9, code := some k1c1 }
def k1c2 : Code := { maxStack := 2, maxLocals := 1, code := method_3_code, exceptionTable := #[], attributes := #[] }
def k1m2 : Method := { name := "expected", desc := "(I)Z", sig := { parameters := [.int], returnType := some .boolean }, accessFlags := 10, code := some k1c2 }
/-- com/example/rulr/rulr/TermScannerIsNameStartPinLaw -/
def k1 : Class := { plain "com/example/rulr/rulr/TermScannerIsNameStartPinLaw" (some 0) with
  accessFlags := 49
  interfaces := #[]
  cf := some (fileOf pool1 16 #[] #[{ accessFlags := 2, nameIndex := 5, descriptorIndex := 6, attributes := #[] }, { accessFlags := 9, nameIndex := 28, descriptorIndex := 29, attributes := #[] }, { accessFlags := 10, nameIndex := 19, descriptorIndex := 14, attributes := #[] }] 49 2 #[] #[])
  fields := #[]
  methods := #[k1m0, k1m1, k1m2]
  instanceTypes := #[]
  staticTypes := #[]
  resolved := Array.replicate 33 none
  statics := none }

def pool2 : Array CpInfo := pool [(2, .class_ 4), (1, u "java/lang/Object"), (3, .class_ 10), (1, u "com/example/rulr/rulr/TermScanner"), (0, u "text"), (0, u "Ljava/lang/String;"), (2, u "document"), (0, u "I"), (2, u "position"), (93, u "isNameStart"), (0, u "(I)Z"), (44, .methodref 8 160), (0, .nameAndType 161 114), (0, u "isAsciiLetter"), (2, .methodref 8 165), (0, .nameAndType 166 114), (0, u "isAsciiDigit"), (26, .integer 55295), (0, .integer 63744), (0, .integer 64975), (0, .integer 65008), (0, .integer 65533), (0, .integer 65536), (0, .integer 983039), (9, u "END")] 38

def k2c0 : Code := { maxStack := 2, maxLocals := 1, code := prog_93_method_18_code, exceptionTable := #[], attributes := #[] }
def k2m0 : Method := { name := "isNameStart", desc := "(I)Z", sig := { parameters := [.int], returnType := some .boolean }, accessFlags := 8, code := some k2c0 }
def k2c1 : Code := { maxStack := 2, maxLocals := 1, code := prog_93_method_20_code, exceptionTable := #[], attributes := #[] }
def k2m1 : Method := { name := "isAsciiLetter", desc := "(I)Z", sig := { parameters := [.int], returnType := some .boolean }, accessFlags := 10, code := some k2c1 }
def k2c2 : Code := { maxStack := 2, maxLocals := 1, code := prog_93_method_21_code, exceptionTable := #[], attributes := #[] }
def k2m2 : Method := { name := "isAsciiDigit", desc := "(I)Z", sig := { parameters := [.int], returnType := some .boolean }, accessFlags := 10, code := some k2c2 }
/-- com/example/rulr/rulr/TermScanner -/
def k2 : Class := { plain "com/example/rulr/rulr/TermScanner" (some 0) with
  accessFlags := 48
  interfaces := #[]
  cf := some (fileOf pool2 8 #[] #[{ accessFlags := 8, nameIndex := 113, descriptorIndex := 114, attributes := #[] }, { accessFlags := 10, nameIndex := 161, descriptorIndex := 114, attributes := #[] }, { accessFlags := 10, nameIndex := 166, descriptorIndex := 114, attributes := #[] }] 48 2 #[] #[{ accessFlags := 24, nameIndex := 209, descriptorIndex := 16, attributes := #[] }, { accessFlags := 18, nameIndex := 11, descriptorIndex := 12, attributes := #[] }, { accessFlags := 18, nameIndex := 15, descriptorIndex := 16, attributes := #[] }, { accessFlags := 2, nameIndex := 19, descriptorIndex := 16, attributes := #[] }])
  fields := #[{ name := "END", type := .int, accessFlags := 24, slot := 0, constantValue := 0 }, { name := "text", type := (.object "java/lang/String"), accessFlags := 18, slot := 0, constantValue := 0 }, { name := "document", type := .int, accessFlags := 18, slot := 1, constantValue := 0 }, { name := "position", type := .int, accessFlags := 2, slot := 2, constantValue := 0 }]
  methods := #[k2m0, k2m1, k2m2]
  instanceTypes := #[(.object "java/lang/String"), .int, .int]
  staticTypes := #[.int]
  resolved := Array.replicate 248 none
  statics := none }

def pool3 : Array CpInfo := pool [(1, u "java/lang/Cloneable"), (0, .class_ 1), (0, u "java/lang/Object"), (0, .class_ 3)] 3

/-- java/lang/Cloneable -/
def k3 : Class := { plain "java/lang/Cloneable" (some 0) with
  accessFlags := 1537
  interfaces := #[]
  cf := some (fileOf pool3 2 #[] #[] 1537 4 #[] #[])
  fields := #[]
  methods := #[]
  instanceTypes := #[]
  staticTypes := #[]
  resolved := Array.replicate 8 none
  statics := none }

def pool4 : Array CpInfo := pool [(1, u "java/io/Serializable"), (0, .class_ 1), (0, u "java/lang/Object"), (0, .class_ 3)] 3

/-- java/io/Serializable -/
def k4 : Class := { plain "java/io/Serializable" (some 0) with
  accessFlags := 1537
  interfaces := #[]
  cf := some (fileOf pool4 2 #[] #[] 1537 4 #[] #[])
  fields := #[]
  methods := #[]
  instanceTypes := #[]
  staticTypes := #[]
  resolved := Array.replicate 8 none
  statics := none }

/-- the primitive byte -/
def k5 : Class := { plain "byte" none with kind := .primitive 'B', accessFlags := 0x411 }
/-- [B -/
def k6 : Class := { plain "[B" (some 0) with kind := .array 5 .byte, interfaces := #[3, 4], accessFlags := 1041 }

/-- the primitive int -/
def k7 : Class := { plain "int" none with kind := .primitive 'I', accessFlags := 0x411 }
/-- [I -/
def k8 : Class := { plain "[I" (some 0) with kind := .array 7 .int, interfaces := #[3, 4], accessFlags := 1041 }

def heap : Heap := #[]
def classes : Array Class := #[k0, k1, k2, k3, k4, k5, k6, k7, k8]
def interned : List (Array UInt16 × Addr) := []
def slotsUsed : Nat := 0
def theMethod : MethodId := ⟨1, 1⟩
def args0 : Array Value := #[.int 5, .int 5]
def aboutOver (below : List Frame) : State where
  vm := { classes := classes, interned := interned.toArray }
  heap := heap
  slotsUsed := slotsUsed
  threads := #[{ frames := .invoking theMethod args0 :: below }]
def below0 : List Frame := [.native { method := ⟨0, 0⟩, args := #[] }]
def about1 : State := aboutOver below0
def p0 : Program := .bare "" "" ""
def e0 : Env := launch0.env 0 0 0
theorem w_frames : about1.frames = Frame.invoking theMethod args0 :: below0 := rfl
set_option maxRecDepth 65536 in
theorem w_args : argsFit about1.vm theMethod args0 = true := by decide +kernel
set_option maxRecDepth 65536 in
theorem w_heap : heapFits about1 = true := by decide +kernel
set_option maxRecDepth 65536 in
theorem w_runnable : about1.curStatus? = some .runnable := by decide +kernel
set_option maxRecDepth 65536 in
theorem w_alone : about1.alone = true := by decide +kernel
set_option maxRecDepth 65536 in
theorem w_named : about1.methodNamed? x = some theMethod := by decide +kernel
set_option maxRecDepth 65536 in
theorem w_hears : about1.hears theMethod below0 = true := by decide +kernel
set_option maxRecDepth 65536 in
theorem w_ripe : about1.ripe theMethod args0 below0 = true := by decide +kernel
theorem w_running : about1.status = .running := rfl
set_option maxRecDepth 65536 in
theorem w_room : about1.hasRoom e0.platform room_1 = true :=
  launch0.hasRoom_least _ room_1 (by decide +kernel) (by decide +kernel) (by decide +kernel) (by decide +kernel) (by decide +kernel) (by decide +kernel)
theorem allAtoms_all (ts : List Jvm.Cond) (a : Array Jvm.Value) (st : Jvm.State) : (allAtoms ts).before a st = ts.all (fun c => c.before a st) := by
  induction ts with
  | nil => rfl
  | cons c t ih =>
    show (Jvm.Cond.and c (allAtoms t)).before a st = _
    rw [Jvm.Cond.before_and, ih, List.all_cons]
def words1 : List Jvm.Cond := Jvm.Cond.code x code maxLocals ret :: tables_1
/-- a 'code' word, met by the world's own term for the bytes: nothing is compared byte by byte -/
theorem code_word {y : MethodName} {bytes : ByteArray} {mx : Nat} {rt : Option FieldType} {a : Array Value} {s : State} {m : MethodId} {meth : Method} {c : Code} (h1 : s.methodNamed? y = some m) (h2 : s.vm.method? m = some meth) (h3 : meth.code = some c) (h4 : c.code = bytes)
    (h5 : (c.maxLocals == mx && c.exceptionTable.isEmpty && decide (c.maxStack ≤ mostOperands) && decide (meth.sig.returnType = rt) && !meth.locks && decide (parseMethodDescriptor y.desc = some meth.sig)) = true) : (Jvm.Cond.code y bytes mx rt).before a s = true := by
  simp only [Bool.and_eq_true, beq_iff_eq, Bool.not_eq_true', decide_eq_true_eq] at h5
  obtain ⟨⟨⟨⟨⟨g1, g2⟩, g3⟩, g4⟩, g5⟩, g6⟩ := h5
  simp [Cond.before, Cond.holds, Cond.value, h1, h2, h3, h4, g1, g2, g3, g4, g5, g6]
def isCode : Jvm.Cond → Bool
  | .code _ _ _ _ => true
  | _ => false
theorem all_split {L : List Jvm.Cond} {P : Jvm.Cond → Bool} (h1 : L.all (fun c => isCode c || P c) = true) (h2 : ∀ c ∈ L.filter isCode, P c = true) : L.all P = true := by
  refine List.all_eq_true.mpr fun c hc => ?_
  have h := List.all_eq_true.mp h1 c hc
  rcases Bool.eq_false_or_eq_true (isCode c) with hi | hi
  · exact h2 c (List.mem_filter.mpr ⟨hc, hi⟩)
  · simpa [hi] using h
set_option maxRecDepth 65536 in
theorem w_c0 : (Jvm.Cond.code x code maxLocals ret).before args0 about1 = true := code_word (m := ⟨1, 1⟩) (meth := k1m1) (c := k1c1) (by decide +kernel) rfl rfl rfl (by decide +kernel)
set_option maxRecDepth 65536 in
theorem w_c1 : (Jvm.Cond.code ({ cls := "com/example/rulr/rulr/TermScanner", name := "isNameStart", desc := "(I)Z" } : Jvm.MethodName) prog_93_method_18_code (1 : Nat) (Option.some Jvm.ClassFile.FieldType.boolean)).before args0 about1 = true := code_word (m := ⟨2, 0⟩) (meth := k2m0) (c := k2c0) (by decide +kernel) rfl rfl rfl (by decide +kernel)
set_option maxRecDepth 65536 in
theorem w_c2 : (Jvm.Cond.code ({ cls := "com/example/rulr/rulr/TermScanner", name := "isAsciiLetter", desc := "(I)Z" } : Jvm.MethodName) prog_93_method_20_code (1 : Nat) (Option.some Jvm.ClassFile.FieldType.boolean)).before args0 about1 = true := code_word (m := ⟨2, 1⟩) (meth := k2m1) (c := k2c1) (by decide +kernel) rfl rfl rfl (by decide +kernel)
set_option maxRecDepth 65536 in
theorem w_c3 : (Jvm.Cond.code ({ cls := "com/example/rulr/rulr/TermScanner", name := "isAsciiDigit", desc := "(I)Z" } : Jvm.MethodName) prog_93_method_21_code (1 : Nat) (Option.some Jvm.ClassFile.FieldType.boolean)).before args0 about1 = true := code_word (m := ⟨2, 2⟩) (meth := k2m2) (c := k2c2) (by decide +kernel) rfl rfl rfl (by decide +kernel)
set_option maxRecDepth 65536 in
theorem w_c4 : (Jvm.Cond.code ({ cls := "com/example/rulr/rulr/TermScannerIsNameStartPinLaw", name := "expected", desc := "(I)Z" } : Jvm.MethodName) method_3_code (1 : Nat) (Option.some Jvm.ClassFile.FieldType.boolean)).before args0 about1 = true := code_word (m := ⟨1, 2⟩) (meth := k1m2) (c := k1c2) (by decide +kernel) rfl rfl rfl (by decide +kernel)
def codes1 : List Jvm.Cond := [Jvm.Cond.code x code maxLocals ret, Jvm.Cond.code ({ cls := "com/example/rulr/rulr/TermScanner", name := "isNameStart", desc := "(I)Z" } : Jvm.MethodName) prog_93_method_18_code (1 : Nat) (Option.some Jvm.ClassFile.FieldType.boolean), Jvm.Cond.code ({ cls := "com/example/rulr/rulr/TermScanner", name := "isAsciiLetter", desc := "(I)Z" } : Jvm.MethodName) prog_93_method_20_code (1 : Nat) (Option.some Jvm.ClassFile.FieldType.boolean), Jvm.Cond.code ({ cls := "com/example/rulr/rulr/TermScanner", name := "isAsciiDigit", desc := "(I)Z" } : Jvm.MethodName) prog_93_method_21_code (1 : Nat) (Option.some Jvm.ClassFile.FieldType.boolean), Jvm.Cond.code ({ cls := "com/example/rulr/rulr/TermScannerIsNameStartPinLaw", name := "expected", desc := "(I)Z" } : Jvm.MethodName) method_3_code (1 : Nat) (Option.some Jvm.ClassFile.FieldType.boolean)]
set_option maxRecDepth 65536 in
theorem codes_eq : words1.filter isCode = codes1 := rfl
theorem w_codes : ∀ c ∈ words1.filter isCode, c.before args0 about1 = true := by
  rw [codes_eq]
  intro c hc
  simp only [codes1, List.mem_cons, List.not_mem_nil, or_false] at hc
  rcases hc with rfl | rfl | rfl | rfl | rfl
  · exact w_c0
  · exact w_c1
  · exact w_c2
  · exact w_c3
  · exact w_c4
set_option maxRecDepth 65536 in
theorem w_t1 : (words1.take 24).all (fun c => isCode c || c.before args0 about1) = true := by decide +kernel
set_option maxRecDepth 65536 in
theorem w_t2 : (words1.drop 24).all (fun c => isCode c || c.before args0 about1) = true := by decide +kernel
theorem w_tables : (allAtoms (Jvm.Cond.code x code maxLocals ret :: tables_1)).before args0 about1 = true := by
  rw [allAtoms_all]
  show words1.all (fun c => c.before args0 about1) = true
  refine all_split ?_ w_codes
  rw [← List.take_append_drop 24 words1, List.all_append, w_t1, w_t2]
  rfl
set_option maxRecDepth 65536 in
theorem w_case : (Jvm.Cond.and given_1 narrow_1).before args0 about1 = true := by decide +kernel
theorem w_applies : (headSpec (Jvm.Cond.code x code maxLocals ret :: tables_1) room_1).applies x e0.platform about1 = true :=
  (Spec.applies_iff w_frames).mpr ⟨w_running, w_runnable, w_alone, w_named, w_hears, w_ripe, w_room, w_tables⟩
theorem atStart : AtStart classFile x code maxLocals ret World_1 tables_1 room_1 Calls_1 rest_1 Pre_1 launch0 p0 e0 about1 theMethod args0 below0 :=
  ⟨lists_1, trivial, launch0.admits_env _ _ _, launch0.least_env, fairChoices_fair.cas, fairChoices_fair.clock, w_frames, w_args, w_heap, w_applies, trivial, trivial, w_case⟩
end start1
theorem witness_1 : WitnessClaimed_1 := ⟨start1.p0, start1.e0, start1.about1, start1.theMethod, start1.args0, start1.below0, start1.atStart⟩
end Jvm.Pilot.@@N@@
