import JvmDerived
import JvmDerived.Pilot.@@N@@Statement
import JvmDerived.Pilot.@@N@@Code
set_option linter.unusedVariables false
set_option linter.unusedSimpArgs false
namespace Jvm.Pilot.@@N@@
open Jvm Jvm.ClassFile Sem Op Lib Jvm.Free Jvm.Stand Jvm.LawKit Jvm.RoadKit Bundle Jvm.Pilot.@@N@@.Jvm.D
/-! 1. the words of the mirrors: a named value, a check, a call -/
def own_lt {α β : Type} (x : α) (f : α → Option β) : Option β := f x
def own_ck {β : Type} (P : Prop) [Decidable P] (x : Option β) : Option β := if P then x else none
def own_bd {α β : Type} (x : Option α) (f : α → Option β) : Option β := x.bind f
theorem own_lt_e {α β : Type} {x : α} {f : α → Option β} {r : β} (h : own_lt x f = some r) : ∃ v, v = x ∧ f v = some r := ⟨x, rfl, h⟩
theorem own_ck_e {β : Type} {P : Prop} [Decidable P] {x : Option β} {r : β} (h : own_ck P x = some r) : P ∧ x = some r := by
  unfold own_ck at h
  by_cases q : P
  · rw [if_pos q] at h; exact ⟨q, h⟩
  · rw [if_neg q] at h; cases h
theorem own_bd_e {α β : Type} {x : Option α} {f : α → Option β} {r : β} (h : own_bd x f = some r) : ∃ v, x = some v ∧ f v = some r := by
  unfold own_bd at h
  cases x with
  | none => cases h
  | some v => exact ⟨v, rfl, h⟩
abbrev own_inb {α : Type} (bs : List α) (j : Int32) : Prop := ¬ j < 0 ∧ j.toNatClampNeg < bs.length
def own_rd {α : Type} [OfNat α 0] (bs : List α) (j : Int32) : α := bs.getD j.toNatClampNeg 0
def own_wr {α : Type} (bs : List α) (j : Int32) (v : α) : List α := bs.set j.toNatClampNeg v
def own_sz {α : Type} (bs : List α) : Int32 := bs.length.toInt32
/-! 2. a run that comes to an end as Q says -/
def own_Goes (p : Program) (e : Env) (below : List Frame) (s : State) (Q : Option Value → Heap → List Loc → Prop) (ce sl : Nat) (A : State) : Prop :=
  ∃ s₂ o, Steps p.tables e below A s₂ ∧ s₂.status = .running ∧ Ended s₂ below o ∧ ∃ v L, o = .returned v ∧ Q v s₂.heap L ∧ FrameEnd s o s₂ L ce sl
section Own
variable {p : Program} {l : Launch} {e : Env} {R : Room} {s : State} {m : MethodId} {args : Array Value} {below : List Frame} {meth : Method} {c : Code} {T : State} {locs : List Loc} {cells slots : Nat} {Z : State} {h h' : Heap} {Q : Option Value → Heap → List Loc → Prop} {ce sl : Nat}
theorem own_Goes.via {A B : State} (q : ∀ t, Steps p.tables e below B t → Steps p.tables e below A t) (g : own_Goes p e below s Q ce sl B) : own_Goes p e below s Q ce sl A := by
  obtain ⟨s₂, o, h1, r⟩ := g
  exact ⟨s₂, o, q _ h1, r⟩
theorem own_Goes.tr {A B : State} (q : Steps p.tables e below A B) (g : own_Goes p e below s Q ce sl B) : own_Goes p e below s Q ce sl A := g.via fun _ k => q.trans k
theorem own_retV (X : Stand p l e R s m args below meth c T locs cells slots) (hx : p.tables.exec = Jvm.exec) {pc : Nat} {Ls : Array Slot} (hret : meth.sig.returnType = none) (hlk : meth.locks = false) (hd : decode c.code pc = .ok (.return_, 1)) (eT : T.heap = h) (hQ : Q none h locs) (hc : cells ≤ ce) (hs : slots ≤ sl) :
    own_Goes p e below s Q ce sl (T.setTop (mkF m pc Ls [])) := by
  obtain ⟨fs, hr, hrun, hended, hW, hsame⟩ := X.leave (v := none) (fun _ => rfl) hlk
  refine ⟨_, _, ?_, hrun, hended, _, _, rfl, ?_, ⟨_, rfl⟩, hW, hsame.mono hc hs⟩
  · exact X.returnOut hx hret hd hr
  · show Q none T.heap locs
    rw [eT]; exact hQ
theorem own_retI (X : Stand p l e R s m args below meth c T locs cells slots) (hx : p.tables.exec = Jvm.exec) {pc : Nat} {Ls : Array Slot} {z : Int32} {rest : List Value} (hret : meth.sig.returnType = some .int) (hlk : meth.locks = false) (hd : decode c.code pc = .ok (.ireturn, 1)) (eT : T.heap = h) (hQ : Q (some (.int z)) h locs) (hc : cells ≤ ce) (hs : slots ≤ sl) :
    own_Goes p e below s Q ce sl (T.setTop (mkF m pc Ls (.int z :: rest))) := by
  obtain ⟨fs, hr, hrun, hended, hW, hsame⟩ := X.leave (v := some (.int z)) (fun h => by rw [hret] at h; cases h) hlk
  refine ⟨_, _, ?_, hrun, hended, _, _, rfl, ?_, ⟨_, rfl⟩, hW, hsame.mono hc hs⟩
  · exact retOut X hx hret rfl (Or.inl ⟨rfl, Or.inl rfl, z, rfl⟩) hd hr
  · show Q _ T.heap locs
    rw [eT]; exact hQ
theorem own_retJ (X : Stand p l e R s m args below meth c T locs cells slots) (hx : p.tables.exec = Jvm.exec) {pc : Nat} {Ls : Array Slot} {z : Int64} {rest : List Value} (hret : meth.sig.returnType = some .long) (hlk : meth.locks = false) (hd : decode c.code pc = .ok (.lreturn, 1)) (eT : T.heap = h) (hQ : Q (some (.long z)) h locs) (hc : cells ≤ ce) (hs : slots ≤ sl) :
    own_Goes p e below s Q ce sl (T.setTop (mkF m pc Ls (.long z :: rest))) := by
  obtain ⟨fs, hr, hrun, hended, hW, hsame⟩ := X.leave (v := some (.long z)) (fun h => by rw [hret] at h; cases h) hlk
  refine ⟨_, _, ?_, hrun, hended, _, _, rfl, ?_, ⟨_, rfl⟩, hW, hsame.mono hc hs⟩
  · exact retOut X hx hret rfl (Or.inr (Or.inl ⟨rfl, rfl, z, rfl⟩)) hd hr
  · show Q _ T.heap locs
    rw [eT]; exact hQ
theorem own_retR (X : Stand p l e R s m args below meth c T locs cells slots) (hx : p.tables.exec = Jvm.exec) {pc : Nat} {Ls : Array Slot} {t : FieldType} {w : Value} {rest : List Value} (hret : meth.sig.returnType = some t) (hlk : meth.locks = false) (hd : decode c.code pc = .ok (.areturn, 1)) (ht : t.isReference = true) (eT : T.heap = h) (hw : w.isRef = true) (hQ : Q (some w) h locs) (hc : cells ≤ ce) (hs : slots ≤ sl) :
    own_Goes p e below s Q ce sl (T.setTop (mkF m pc Ls (w :: rest))) := by
  obtain ⟨fs, hr, hrun, hended, hW, hsame⟩ := X.leave (v := some w) (fun h => by rw [hret] at h; cases h) hlk
  refine ⟨_, _, ?_, hrun, hended, _, _, rfl, ?_, ⟨_, rfl⟩, hW, hsame.mono hc hs⟩
  · exact retOut X hx hret (by cases t <;> first | (cases ht; done) | rfl) (Or.inr (Or.inr (Or.inr (Or.inr ⟨rfl, ht, hw⟩)))) hd hr
  · show Q _ T.heap locs
    rw [eT]; exact hQ
theorem own_retN (X : Stand p l e R s m args below meth c T locs cells slots) (hx : p.tables.exec = Jvm.exec) {pc : Nat} {Ls : Array Slot} {z v : Int32} {t : FieldType} {rest : List Value} (hret : meth.sig.returnType = some t) (hlk : meth.locks = false) (ht : t = .boolean ∨ t = .byte ∨ t = .char ∨ t = .short) (hd : decode c.code pc = .ok (.ireturn, 1)) (eT : T.heap = h) (hv : nar t z = v) (hQ : Q (some (.int v)) h locs) (hc : cells ≤ ce) (hs : slots ≤ sl) :
    own_Goes p e below s Q ce sl (T.setTop (mkF m pc Ls (.int z :: rest))) := by
  subst hv
  obtain ⟨fs, hr, hrun, hended, hW, hsame⟩ := X.leave (v := some (.int (nar t z))) (fun h => by rw [hret] at h; cases h) hlk
  refine ⟨_, _, ?_, hrun, hended, _, _, rfl, ?_, ⟨_, rfl⟩, hW, hsame.mono hc hs⟩
  · exact retN X hx hret ht hd hr
  · show Q _ T.heap locs
    rw [eT]; exact hQ
/-! 3. single steps -/
theorem own_irem {g : JFrame} {target : State} (X : Stand p l e R s m args below meth c T locs cells slots) (hx : p.tables.exec = Jvm.exec) (hg : g.method = m) {x y : Int32} {rest : List Value} (hd : decode c.code g.pc = .ok (.irem, 1)) (hs : g.stack = .int y :: .int x :: rest) (hy : y ≠ 0)
    (hr : Steps p.tables e below (T.setTop { g with pc := g.pc + 1, stack := .int (x % y) :: rest }) target) : Steps p.tables e below (T.setTop g) target := iremM X hx hg hd hs hy hr
theorem own_lrem {g : JFrame} {target : State} (X : Stand p l e R s m args below meth c T locs cells slots) (hx : p.tables.exec = Jvm.exec) (hg : g.method = m) {x y : Int64} {rest : List Value} (hd : decode c.code g.pc = .ok (.lrem, 1)) (hs : g.stack = .long y :: .long x :: rest) (hy : y ≠ 0)
    (hr : Steps p.tables e below (T.setTop { g with pc := g.pc + 1, stack := .long (x % y) :: rest }) target) : Steps p.tables e below (T.setTop g) target :=
  XS.lrem X.here hx hg hd hs hy (by rw [lrem_mod]; exact hr)
theorem own_tltL {x y : Int64} (q : x < y) : ifCond.holds .lt (lcmpW x y) = true ∧ ifCond.holds .ge (lcmpW x y) = false := by
  rw [if0, if0]; exact ⟨(tlt ((lw_lt x y).mpr q)).1, (tlt ((lw_lt x y).mpr q)).2.1⟩
theorem own_fltL {x y : Int64} (q : ¬ x < y) : ifCond.holds .lt (lcmpW x y) = false ∧ ifCond.holds .ge (lcmpW x y) = true := by
  rw [if0, if0]; exact ⟨(flt fun z => q ((lw_lt x y).mp z)).1, (flt fun z => q ((lw_lt x y).mp z)).2.1⟩
theorem own_tgtL {x y : Int64} (q : y < x) : ifCond.holds .gt (lcmpW x y) = true ∧ ifCond.holds .le (lcmpW x y) = false := by
  rw [if0, if0]; exact ⟨(tlt ((lw_gt x y).mpr q)).2.2.1, (tlt ((lw_gt x y).mpr q)).2.2.2⟩
theorem own_fgtL {x y : Int64} (q : ¬ y < x) : ifCond.holds .gt (lcmpW x y) = false ∧ ifCond.holds .le (lcmpW x y) = true := by
  rw [if0, if0]; exact ⟨(flt fun z => q ((lw_gt x y).mp z)).2.2.1, (flt fun z => q ((lw_gt x y).mp z)).2.2.2⟩
theorem own_teqL {x y : Int64} (q : x = y) : ifCond.holds .eq (lcmpW x y) = true ∧ ifCond.holds .ne (lcmpW x y) = false := by
  rw [if0, if0]; exact ⟨(teq ((lw_eq x y).mpr q)).1, (teq ((lw_eq x y).mpr q)).2⟩
theorem own_feqL {x y : Int64} (q : ¬ x = y) : ifCond.holds .eq (lcmpW x y) = false ∧ ifCond.holds .ne (lcmpW x y) = true := by
  rw [if0, if0]; exact ⟨(feq fun z => q ((lw_eq x y).mp z)).1, (feq fun z => q ((lw_eq x y).mp z)).2⟩
theorem own_st1 {L : Array Slot} {i : Nat} {v : Value} {o : Slot} {L' : Array Slot} (hold : L[i]? = some o) (ho : One o) (hv : v.category = 1) (hL : L.setIfInBounds i (.val v) = L' := by rfl) : storeLocals L i v = some L' := hL ▸ XS.store1 hold ho hv
theorem own_privSel {s : State} {args : Array Value} {y : MethodName} {n : Nat} (wi : (Cond.instantiable y.cls n).before args s = true) (hp : s.PrivateAt y) (hinst : (Cond.instanceMethod y).before args s = true) (hy : y.cls ≠ "java/lang/invoke/MethodHandle" ∧ y.cls ≠ "java/lang/invoke/VarHandle") : (Cond.selects y.cls y y).before args s = true := by
  obtain ⟨c, k, h1, h2, -, h3, -⟩ := Cond.instantiable_spec wi
  exact selects_self_of_private h1 h2 (Bool.or_eq_false_iff.mp h3).1 hp hinst hy
theorem own_st2 {L L' : Array Slot} {i : Nat} {x : Int64} {o1 o2 : Slot} (h1 : L[i]? = some o1) (h2 : L[i + 1]? = some o2) (q1 : One o1) (q2 : One o2) (hL : (L.setIfInBounds i (.val (.long x))).setIfInBounds (i + 1) .second = L' := by rfl) : storeLocals L i (.long x) = some L' := by
  subst hL
  obtain ⟨b1, g1⟩ := Array.getElem?_eq_some_iff.mp h1
  obtain ⟨b2, g2⟩ := Array.getElem?_eq_some_iff.mp h2
  have hc : (Value.long x).category = 2 := rfl
  rcases q1 with rfl | ⟨w, rfl, hw⟩ <;> rcases q2 with rfl | ⟨w', rfl, hw'⟩ <;> simp [storeLocals, storeSelf, setAt, hc, *]
/-! 4. arrays: what lies in them, as a list -/
def own_Ar (Z : State) (h : Heap) (a : Addr) (ty : FieldType) (vs : List Value) : Prop := ∃ c : Cell, Arr Z h a c ty ∧ c.slots.toList = vs ∧ vs.length < 2 ^ 31 ∧ ∀ v ∈ vs, fits ty v = true
variable {a b : Addr} {ty : FieldType} {vs : List Value}
theorem own_Ar.lt (F : own_Ar Z h a ty vs) : a < h.size := by obtain ⟨c, A, -⟩ := F; exact A.lt
theorem own_Ar.ext (F : own_Ar Z h a ty vs) (E : Ext h h') : own_Ar Z h' a ty vs := by obtain ⟨c, A, r⟩ := F; exact ⟨c, A.ext E, r⟩
theorem own_Ar.other {k : Nat} {v : Value} (F : own_Ar Z h b ty vs) (W : Wr h h' a k v) (q : b ≠ a) : own_Ar Z h' b ty vs := by obtain ⟨c, A, r⟩ := F; exact ⟨c, A.other W q, r⟩
theorem own_Ar.keep {ws : List Addr} (F : own_Ar Z h a ty vs) (K : Keep h h' ws) (q : a ∉ ws) : own_Ar Z h' a ty vs := by obtain ⟨c, A, r⟩ := F; exact ⟨c, ⟨K.2.1 a c A.1 q, A.2⟩, r⟩
theorem own_Ar.size {c : Cell} (q : c.slots.toList = vs) : c.slots.size = vs.length := by rw [← q]; simp
theorem own_in {c : Cell} {j : Int32} (q : c.slots.toList = vs) (hj : own_inb vs j) : ¬ (j < 0 ∨ c.slots.size ≤ j.toNatClampNeg) := by
  rw [own_Ar.size q]
  rintro (r | r)
  · exact hj.1 r
  · exact absurd hj.2 (Nat.not_lt.mpr r)
theorem own_get {c : Cell} {i : Nat} (q : c.slots.toList = vs) (d : Value) (hi : i < vs.length) : c.slots[i]? = some (vs.getD i d) := by
  have e : c.slots = vs.toArray := by rw [← q]
  rw [e]
  simp [List.getD, hi]
theorem own_set {c : Cell} {i : Nat} {v : Value} (q : c.slots.toList = vs) : (c.setSlot i v).slots.toList = vs.set i v := by
  have e : c.slots = vs.toArray := by rw [← q]
  simp [Cell.setSlot, e]
theorem own_fits {i : Nat} {v : Value} (q : ∀ v ∈ vs, fits ty v = true) (hv : fits ty v = true) : ∀ u ∈ vs.set i v, fits ty u = true := fun u hu => by
  rcases List.mem_or_eq_of_mem_set hu with r | r
  · exact q u r
  · rw [r]; exact hv
theorem own_mapGet {bs : List Int32} {i : Nat} (hi : i < bs.length) : (bs.map Value.int).getD i (.int 0) = .int (bs.getD i 0) := by simp [List.getD, hi]
theorem own_mapGetJ {bs : List Int64} {i : Nat} (hi : i < bs.length) : (bs.map Value.long).getD i (.long 0) = .long (bs.getD i 0) := by simp [List.getD, hi]
theorem own_mapSet {bs : List Int32} {i : Nat} {v : Int32} : (bs.map Value.int).set i (.int v) = (bs.set i v).map Value.int := by simp
theorem own_mapSetJ {bs : List Int64} {i : Nat} {v : Int64} : (bs.map Value.long).set i (.long v) = (bs.set i v).map Value.long := by simp
theorem own_inbM {α : Type} {f : α → Value} {bs : List α} {j : Int32} (q : own_inb bs j) : own_inb (bs.map f) j := ⟨q.1, by rw [List.length_map]; exact q.2⟩
theorem own_wrk {α : Type} {bs : List α} {j : Int32} {v : α} (k : Nat) (hk : j.toNatClampNeg = k) : own_wr bs j v = bs.set k v := by rw [own_wr, hk]
theorem own_rdk {α : Type} [OfNat α 0] {bs : List α} {j : Int32} (k : Nat) (hk : j.toNatClampNeg = k) : own_rd bs j = bs.getD k 0 := by rw [own_rd, hk]
theorem own_inbk {α : Type} {bs : List α} {j : Int32} (k n : Nat) (h0 : ¬ j < 0) (hk : j.toNatClampNeg = k) (hl : bs.length = n) (hkn : k < n) : own_inb bs j := ⟨h0, by rw [hk, hl]; exact hkn⟩
theorem own_len {α : Type} {f : α → Value} {bs : List α} (X : Stand p l e R s m args below meth c T locs cells slots) (hx : p.tables.exec = Jvm.exec) (hZ : Z.Warmed39 s.vm) (eT : T.heap = h) (A : own_Ar Z h a ty (bs.map f)) {g : JFrame} (hg : g.method = m) {rest : List Value} (hs : g.stack = .ref a :: rest) (hd : decode c.code g.pc = .ok (.arraylength, 1)) {target : State}
    (hr : Steps p.tables e below (T.setTop { g with pc := g.pc + 1, stack := .int (own_sz bs) :: rest }) target) : Steps p.tables e below (T.setTop g) target := by
  obtain ⟨cl, A, q, -⟩ := A
  refine X.arraylength hx (by rw [eT]; exact A.1) (State.isArrayOf_alike hZ.alike A.2.1) hg hs hd _ ?_
  rw [own_Ar.size q, List.length_map]; exact hr
theorem own_ldI {bs : List Int32} {j v : Int32} (X : Stand p l e R s m args below meth c T locs cells slots) (hx : p.tables.exec = Jvm.exec) (hZ : Z.Warmed39 s.vm) (eT : T.heap = h) (A : own_Ar Z h a .int (bs.map Value.int)) (hj : own_inb bs j) (hv : own_rd bs j = v) {g : JFrame} (hg : g.method = m) {rest : List Value} (hs : g.stack = .int j :: .ref a :: rest) (hd : decode c.code g.pc = .ok (.iaload, 1)) {target : State}
    (hr : Steps p.tables e below (T.setTop { g with pc := g.pc + 1, stack := .int v :: rest }) target) : Steps p.tables e below (T.setTop g) target := by
  subst hv
  obtain ⟨cl, A, q, -⟩ := A
  exact X.iaload hx (by rw [eT]; exact A.1) (State.isArrayOf_alike hZ.alike A.2.1) A.2.2 (own_in q (own_inbM hj)) ((own_get q (.int 0) (own_inbM hj).2).trans (congrArg some (own_mapGet hj.2))) hg hs hd _ hr
theorem own_ldB {bs : List Int32} {j v : Int32} (X : Stand p l e R s m args below meth c T locs cells slots) (hx : p.tables.exec = Jvm.exec) (hZ : Z.Warmed39 s.vm) (eT : T.heap = h) (A : own_Ar Z h a .byte (bs.map Value.int)) (hj : own_inb bs j) (hv : own_rd bs j = v) {g : JFrame} (hg : g.method = m) {rest : List Value} (hs : g.stack = .int j :: .ref a :: rest) (hd : decode c.code g.pc = .ok (.baload, 1)) {target : State}
    (hr : Steps p.tables e below (T.setTop { g with pc := g.pc + 1, stack := .int v :: rest }) target) : Steps p.tables e below (T.setTop g) target := by
  subst hv
  obtain ⟨cl, A, q, -⟩ := A
  exact X.baloadBytes hx (by rw [eT]; exact A.1) (State.isArrayOf_alike hZ.alike A.2.1) A.2.2 (own_in q (own_inbM hj)) ((own_get q (.int 0) (own_inbM hj).2).trans (congrArg some (own_mapGet hj.2))) hg hs hd _ hr
theorem own_ldZ {bs : List Int32} {j v : Int32} (X : Stand p l e R s m args below meth c T locs cells slots) (hx : p.tables.exec = Jvm.exec) (hZ : Z.Warmed39 s.vm) (eT : T.heap = h) (A : own_Ar Z h a .boolean (bs.map Value.int)) (hj : own_inb bs j) (hv : own_rd bs j = v) {g : JFrame} (hg : g.method = m) {rest : List Value} (hs : g.stack = .int j :: .ref a :: rest) (hd : decode c.code g.pc = .ok (.baload, 1)) {target : State}
    (hr : Steps p.tables e below (T.setTop { g with pc := g.pc + 1, stack := .int v :: rest }) target) : Steps p.tables e below (T.setTop g) target := by
  subst hv
  obtain ⟨cl, A, q, -⟩ := A
  exact X.baloadBooleans hx (by rw [eT]; exact A.1) (State.isArrayOf_alike hZ.alike A.2.1) A.2.2 (own_in q (own_inbM hj)) ((own_get q (.int 0) (own_inbM hj).2).trans (congrArg some (own_mapGet hj.2))) hg hs hd _ hr
theorem own_ldJ {bs : List Int64} {j : Int32} {v : Int64} (X : Stand p l e R s m args below meth c T locs cells slots) (hx : p.tables.exec = Jvm.exec) (hZ : Z.Warmed39 s.vm) (eT : T.heap = h) (A : own_Ar Z h a .long (bs.map Value.long)) (hj : own_inb bs j) (hv : own_rd bs j = v) {g : JFrame} (hg : g.method = m) {rest : List Value} (hs : g.stack = .int j :: .ref a :: rest) (hd : decode c.code g.pc = .ok (.laload, 1)) {target : State}
    (hr : Steps p.tables e below (T.setTop { g with pc := g.pc + 1, stack := .long v :: rest }) target) : Steps p.tables e below (T.setTop g) target := by
  subst hv
  obtain ⟨cl, A, q, -⟩ := A
  exact X.laload hx (by rw [eT]; exact A.1) (State.isArrayOf_alike hZ.alike A.2.1) A.2.2 (own_in q (own_inbM hj)) ((own_get q (.long 0) (own_inbM hj).2).trans (congrArg some (own_mapGetJ hj.2))) hg hs hd _ hr
theorem own_stI {bs : List Int32} {j x : Int32} (X : Stand p l e R s m args below meth c T locs cells slots) (hx : p.tables.exec = Jvm.exec) (hZ : Z.Warmed39 s.vm) (eT : T.heap = h) (A : own_Ar Z h a .int (bs.map Value.int)) (hj : own_inb bs j) {g : JFrame} (hg : g.method = m) {rest : List Value} (hs : g.stack = .int x :: .int j :: .ref a :: rest) (hd : decode c.code g.pc = .ok (.iastore, 1)) :
    ∃ T' h', Stand p l e R s m args below meth c T' (locs ++ [⟨a, j.toNatClampNeg⟩]) cells slots ∧ T'.heap = h' ∧ Wr h h' a j.toNatClampNeg (.int x) ∧ own_Ar Z h' a .int ((own_wr bs j x).map Value.int) ∧ ∀ target, Steps p.tables e below (T'.setTop { g with pc := g.pc + 1, stack := rest }) target → Steps p.tables e below (T.setTop g) target := by
  obtain ⟨cl, A, q, r, ft⟩ := A
  obtain ⟨T', h', X', e', W, st⟩ := stI X hx hZ eT A (own_in q (own_inbM hj)) hg hs hd
  exact ⟨T', h', X', e', W, ⟨_, A.same W, (own_set q).trans own_mapSet, by simpa [own_wr] using r, own_mapSet ▸ own_fits ft rfl⟩, st⟩
theorem own_stB {bs : List Int32} {j x : Int32} (X : Stand p l e R s m args below meth c T locs cells slots) (hx : p.tables.exec = Jvm.exec) (hZ : Z.Warmed39 s.vm) (eT : T.heap = h) (A : own_Ar Z h a .byte (bs.map Value.int)) (hj : own_inb bs j) {g : JFrame} (hg : g.method = m) {rest : List Value} (hs : g.stack = .int x :: .int j :: .ref a :: rest) (hd : decode c.code g.pc = .ok (.bastore, 1)) :
    ∃ T' h', Stand p l e R s m args below meth c T' (locs ++ [⟨a, j.toNatClampNeg⟩]) cells slots ∧ T'.heap = h' ∧ Wr h h' a j.toNatClampNeg (.int x.toInt8.toInt32) ∧ own_Ar Z h' a .byte ((own_wr bs j x.toInt8.toInt32).map Value.int) ∧ ∀ target, Steps p.tables e below (T'.setTop { g with pc := g.pc + 1, stack := rest }) target → Steps p.tables e below (T.setTop g) target := by
  obtain ⟨cl, A, q, r, ft⟩ := A
  obtain ⟨T', h', X', e', W, st⟩ := stB X hx hZ eT A (own_in q (own_inbM hj)) hg hs hd
  exact ⟨T', h', X', e', W, ⟨_, A.same W, (own_set q).trans own_mapSet, by simpa [own_wr] using r, own_mapSet ▸ own_fits ft (fits_nar_byte _)⟩, st⟩
theorem own_stZ {bs : List Int32} {j x : Int32} (X : Stand p l e R s m args below meth c T locs cells slots) (hx : p.tables.exec = Jvm.exec) (hZ : Z.Warmed39 s.vm) (eT : T.heap = h) (A : own_Ar Z h a .boolean (bs.map Value.int)) (hj : own_inb bs j) {g : JFrame} (hg : g.method = m) {rest : List Value} (hs : g.stack = .int x :: .int j :: .ref a :: rest) (hd : decode c.code g.pc = .ok (.bastore, 1)) :
    ∃ T' h', Stand p l e R s m args below meth c T' (locs ++ [⟨a, j.toNatClampNeg⟩]) cells slots ∧ T'.heap = h' ∧ Wr h h' a j.toNatClampNeg (.int (x &&& 1)) ∧ own_Ar Z h' a .boolean ((own_wr bs j (x &&& 1)).map Value.int) ∧ ∀ target, Steps p.tables e below (T'.setTop { g with pc := g.pc + 1, stack := rest }) target → Steps p.tables e below (T.setTop g) target := by
  obtain ⟨cl, A, q, r, ft⟩ := A
  obtain ⟨T', h', X', e', W, st⟩ := stZ X hx hZ eT A (own_in q (own_inbM hj)) hg hs hd
  exact ⟨T', h', X', e', W, ⟨_, A.same W, (own_set q).trans own_mapSet, by simpa [own_wr] using r, own_mapSet ▸ own_fits ft (fits_nar_bool _)⟩, st⟩
theorem own_stJ {bs : List Int64} {j : Int32} {x : Int64} (X : Stand p l e R s m args below meth c T locs cells slots) (hx : p.tables.exec = Jvm.exec) (hZ : Z.Warmed39 s.vm) (eT : T.heap = h) (A : own_Ar Z h a .long (bs.map Value.long)) (hj : own_inb bs j) {g : JFrame} (hg : g.method = m) {rest : List Value} (hs : g.stack = .long x :: .int j :: .ref a :: rest) (hd : decode c.code g.pc = .ok (.lastore, 1)) :
    ∃ T' h', Stand p l e R s m args below meth c T' (locs ++ [⟨a, j.toNatClampNeg⟩]) cells slots ∧ T'.heap = h' ∧ Wr h h' a j.toNatClampNeg (.long x) ∧ own_Ar Z h' a .long ((own_wr bs j x).map Value.long) ∧ ∀ target, Steps p.tables e below (T'.setTop { g with pc := g.pc + 1, stack := rest }) target → Steps p.tables e below (T.setTop g) target := by
  obtain ⟨cl, A, q, r, ft⟩ := A
  obtain ⟨T', h', X', e', W, st⟩ := stJ X hx hZ eT A (own_in q (own_inbM hj)) hg hs hd
  exact ⟨T', h', X', e', W, ⟨_, A.same W, (own_set q).trans own_mapSetJ, by simpa [own_wr] using r, own_mapSetJ ▸ own_fits ft rfl⟩, st⟩
theorem own_newI {k : ClassId} {n : Int32} {kk : Nat} (A : Arr Z h a (newA k ty n) ty) (q : ¬ n < 0) (hd : defaultValue ty = .int 0) (hk : n.toNatClampNeg = kk) : own_Ar Z h a ty ((List.replicate kk (0 : Int32)).map Value.int) := hk ▸
  ⟨_, A, by simp [newA, hd], by rw [List.length_map, List.length_replicate]; exact (back32 q).2, fun v hv => by
    rw [List.map_replicate] at hv
    rw [(List.mem_replicate.mp hv).2, ← hd]; cases ty <;> rfl⟩
theorem own_newJ {k : ClassId} {n : Int32} {kk : Nat} (A : Arr Z h a (newA k ty n) ty) (q : ¬ n < 0) (hd : defaultValue ty = .long 0) (hk : n.toNatClampNeg = kk) : own_Ar Z h a ty ((List.replicate kk (0 : Int64)).map Value.long) := hk ▸
  ⟨_, A, by simp [newA, hd], by rw [List.length_map, List.length_replicate]; exact (back32 q).2, fun v hv => by
    rw [List.map_replicate] at hv
    rw [(List.mem_replicate.mp hv).2, ← hd]; cases ty <;> rfl⟩
end Own
theorem w0 {a0 : Array Value} {Z : State} (hw : ∀ d ∈ tables_1, d.before a0 Z = true) : ((Jvm.Cond.classLink "com/example/expire/expire/BatchSizeHoldingPinLaw" (7 : Nat) "com/example/expire/expire/BatchSize")).before a0 Z = true := hw _ (List.mem_of_getElem? (i := 0) rfl)
theorem w1 {a0 : Array Value} {Z : State} (hw : ∀ d ∈ tables_1, d.before a0 Z = true) : ((Jvm.Cond.instantiable "com/example/expire/expire/BatchSize" (3 : Nat))).before a0 Z = true := hw _ (List.mem_of_getElem? (i := 1) rfl)
theorem w2 {a0 : Array Value} {Z : State} (hw : ∀ d ∈ tables_1, d.before a0 Z = true) : ((Jvm.Cond.initialized "com/example/expire/expire/BatchSize")).before a0 Z = true := hw _ (List.mem_of_getElem? (i := 2) rfl)
theorem w3 {a0 : Array Value} {Z : State} (hw : ∀ d ∈ tables_1, d.before a0 Z = true) : ((Jvm.Cond.methodLink "com/example/expire/expire/BatchSizeHoldingPinLaw" (9 : Nat) ({ cls := "com/example/expire/expire/BatchSize", name := "<init>", desc := "()V" } : Jvm.MethodName))).before a0 Z = true := hw _ (List.mem_of_getElem? (i := 3) rfl)
theorem w4 {a0 : Array Value} {Z : State} (hw : ∀ d ∈ tables_1, d.before a0 Z = true) : ((Jvm.Cond.instanceMethod ({ cls := "com/example/expire/expire/BatchSize", name := "<init>", desc := "()V" } : Jvm.MethodName))).before a0 Z = true := hw _ (List.mem_of_getElem? (i := 4) rfl)
theorem w5 {a0 : Array Value} {Z : State} (hw : ∀ d ∈ tables_1, d.before a0 Z = true) : ((Jvm.Cond.code ({ cls := "com/example/expire/expire/BatchSize", name := "<init>", desc := "()V" } : Jvm.MethodName) prog_2_method_1_code (1 : Nat) (Option.none : Option Jvm.ClassFile.FieldType))).before a0 Z = true := hw _ (List.mem_of_getElem? (i := 5) rfl)
theorem w6 {a0 : Array Value} {Z : State} (hw : ∀ d ∈ tables_1, d.before a0 Z = true) : ((Jvm.Cond.methodLink "com/example/expire/expire/BatchSize" (3 : Nat) ({ cls := "java/lang/Object", name := "<init>", desc := "()V" } : Jvm.MethodName))).before a0 Z = true := hw _ (List.mem_of_getElem? (i := 6) rfl)
theorem w7 {a0 : Array Value} {Z : State} (hw : ∀ d ∈ tables_1, d.before a0 Z = true) : ((Jvm.Cond.instanceMethod ({ cls := "java/lang/Object", name := "<init>", desc := "()V" } : Jvm.MethodName))).before a0 Z = true := hw _ (List.mem_of_getElem? (i := 7) rfl)
theorem w8 {a0 : Array Value} {Z : State} (hw : ∀ d ∈ tables_1, d.before a0 Z = true) : ((Jvm.Cond.code ({ cls := "java/lang/Object", name := "<init>", desc := "()V" } : Jvm.MethodName) object_method_1_code (1 : Nat) (Option.none : Option Jvm.ClassFile.FieldType))).before a0 Z = true := hw _ (List.mem_of_getElem? (i := 8) rfl)
theorem w9 {a0 : Array Value} {Z : State} (hw : ∀ d ∈ tables_1, d.before a0 Z = true) : ((Jvm.Cond.fieldLink "com/example/expire/expire/BatchSize" (9 : Nat) "com/example/expire/expire/BatchSize" "rows" "I")).before a0 Z = true := hw _ (List.mem_of_getElem? (i := 9) rfl)
theorem w10 {a0 : Array Value} {Z : State} (hw : ∀ d ∈ tables_1, d.before a0 Z = true) : ((Jvm.Cond.lays "com/example/expire/expire/BatchSize" "com/example/expire/expire/BatchSize" "rows" "I")).before a0 Z = true := hw _ (List.mem_of_getElem? (i := 10) rfl)
theorem w11 {a0 : Array Value} {Z : State} (hw : ∀ d ∈ tables_1, d.before a0 Z = true) : ((Jvm.Cond.constantLong "com/example/expire/expire/BatchSizeHoldingPinLaw" (16 : Nat) (2147483647 : Int64))).before a0 Z = true := hw _ (List.mem_of_getElem? (i := 11) rfl)
theorem w12 {a0 : Array Value} {Z : State} (hw : ∀ d ∈ tables_1, d.before a0 Z = true) : ((Jvm.Cond.methodLink "com/example/expire/expire/BatchSizeHoldingPinLaw" (18 : Nat) ({ cls := "com/example/expire/expire/BatchSize", name := "found", desc := "(JJ)V" } : Jvm.MethodName))).before a0 Z = true := hw _ (List.mem_of_getElem? (i := 12) rfl)
theorem w13 {a0 : Array Value} {Z : State} (hw : ∀ d ∈ tables_1, d.before a0 Z = true) : ((Jvm.Cond.declares ({ cls := "com/example/expire/expire/BatchSize", name := "found", desc := "(JJ)V" } : Jvm.MethodName))).before a0 Z = true := hw _ (List.mem_of_getElem? (i := 13) rfl)
theorem w14 {a0 : Array Value} {Z : State} (hw : ∀ d ∈ tables_1, d.before a0 Z = true) : ((Jvm.Cond.instanceMethod ({ cls := "com/example/expire/expire/BatchSize", name := "found", desc := "(JJ)V" } : Jvm.MethodName))).before a0 Z = true := hw _ (List.mem_of_getElem? (i := 14) rfl)
theorem w15 {a0 : Array Value} {Z : State} (hw : ∀ d ∈ tables_1, d.before a0 Z = true) : ((Jvm.Cond.selects "com/example/expire/expire/BatchSize" ({ cls := "com/example/expire/expire/BatchSize", name := "found", desc := "(JJ)V" } : Jvm.MethodName) ({ cls := "com/example/expire/expire/BatchSize", name := "found", desc := "(JJ)V" } : Jvm.MethodName))).before a0 Z = true := hw _ (List.mem_of_getElem? (i := 15) rfl)
theorem w16 {a0 : Array Value} {Z : State} (hw : ∀ d ∈ tables_1, d.before a0 Z = true) : ((Jvm.Cond.code ({ cls := "com/example/expire/expire/BatchSize", name := "found", desc := "(JJ)V" } : Jvm.MethodName) prog_2_method_5_code (5 : Nat) (Option.none : Option Jvm.ClassFile.FieldType))).before a0 Z = true := hw _ (List.mem_of_getElem? (i := 16) rfl)
theorem w17 {a0 : Array Value} {Z : State} (hw : ∀ d ∈ tables_1, d.before a0 Z = true) : ((Jvm.Cond.fieldLink "com/example/expire/expire/BatchSize" (19 : Nat) "com/example/expire/expire/BatchSize" "examined" "J")).before a0 Z = true := hw _ (List.mem_of_getElem? (i := 17) rfl)
theorem w18 {a0 : Array Value} {Z : State} (hw : ∀ d ∈ tables_1, d.before a0 Z = true) : ((Jvm.Cond.lays "com/example/expire/expire/BatchSize" "com/example/expire/expire/BatchSize" "examined" "J")).before a0 Z = true := hw _ (List.mem_of_getElem? (i := 18) rfl)
theorem w19 {a0 : Array Value} {Z : State} (hw : ∀ d ∈ tables_1, d.before a0 Z = true) : ((Jvm.Cond.fieldLink "com/example/expire/expire/BatchSize" (13 : Nat) "com/example/expire/expire/BatchSize" "removed" "J")).before a0 Z = true := hw _ (List.mem_of_getElem? (i := 19) rfl)
theorem w20 {a0 : Array Value} {Z : State} (hw : ∀ d ∈ tables_1, d.before a0 Z = true) : ((Jvm.Cond.lays "com/example/expire/expire/BatchSize" "com/example/expire/expire/BatchSize" "removed" "J")).before a0 Z = true := hw _ (List.mem_of_getElem? (i := 20) rfl)
theorem w21 {a0 : Array Value} {Z : State} (hw : ∀ d ∈ tables_1, d.before a0 Z = true) : ((Jvm.Cond.methodLink "com/example/expire/expire/BatchSizeHoldingPinLaw" (22 : Nat) ({ cls := "com/example/expire/expire/BatchSize", name := "rows", desc := "()I" } : Jvm.MethodName))).before a0 Z = true := hw _ (List.mem_of_getElem? (i := 21) rfl)
theorem w22 {a0 : Array Value} {Z : State} (hw : ∀ d ∈ tables_1, d.before a0 Z = true) : ((Jvm.Cond.declares ({ cls := "com/example/expire/expire/BatchSize", name := "rows", desc := "()I" } : Jvm.MethodName))).before a0 Z = true := hw _ (List.mem_of_getElem? (i := 22) rfl)
theorem w23 {a0 : Array Value} {Z : State} (hw : ∀ d ∈ tables_1, d.before a0 Z = true) : ((Jvm.Cond.instanceMethod ({ cls := "com/example/expire/expire/BatchSize", name := "rows", desc := "()I" } : Jvm.MethodName))).before a0 Z = true := hw _ (List.mem_of_getElem? (i := 23) rfl)
theorem w24 {a0 : Array Value} {Z : State} (hw : ∀ d ∈ tables_1, d.before a0 Z = true) : ((Jvm.Cond.selects "com/example/expire/expire/BatchSize" ({ cls := "com/example/expire/expire/BatchSize", name := "rows", desc := "()I" } : Jvm.MethodName) ({ cls := "com/example/expire/expire/BatchSize", name := "rows", desc := "()I" } : Jvm.MethodName))).before a0 Z = true := hw _ (List.mem_of_getElem? (i := 24) rfl)
theorem w25 {a0 : Array Value} {Z : State} (hw : ∀ d ∈ tables_1, d.before a0 Z = true) : ((Jvm.Cond.code ({ cls := "com/example/expire/expire/BatchSize", name := "rows", desc := "()I" } : Jvm.MethodName) prog_2_method_2_code (1 : Nat) (Option.some Jvm.ClassFile.FieldType.int))).before a0 Z = true := hw _ (List.mem_of_getElem? (i := 25) rfl)
theorem w26 {a0 : Array Value} {Z : State} (hw : ∀ d ∈ tables_1, d.before a0 Z = true) : ((Jvm.Cond.methodLink "com/example/expire/expire/BatchSizeHoldingPinLaw" (26 : Nat) ({ cls := "java/lang/Math", name := "max", desc := "(II)I" } : Jvm.MethodName))).before a0 Z = true := hw _ (List.mem_of_getElem? (i := 26) rfl)
theorem w27 {a0 : Array Value} {Z : State} (hw : ∀ d ∈ tables_1, d.before a0 Z = true) : ((Jvm.Cond.static ({ cls := "java/lang/Math", name := "max", desc := "(II)I" } : Jvm.MethodName))).before a0 Z = true := hw _ (List.mem_of_getElem? (i := 27) rfl)
theorem w28 {a0 : Array Value} {Z : State} (hw : ∀ d ∈ tables_1, d.before a0 Z = true) : ((Jvm.Cond.initialized "java/lang/Math")).before a0 Z = true := hw _ (List.mem_of_getElem? (i := 28) rfl)
theorem w29 {a0 : Array Value} {Z : State} (hw : ∀ d ∈ tables_1, d.before a0 Z = true) : ((Jvm.Cond.code ({ cls := "java/lang/Math", name := "max", desc := "(II)I" } : Jvm.MethodName) jdk_29_method_65_code (2 : Nat) (Option.some Jvm.ClassFile.FieldType.int))).before a0 Z = true := hw _ (List.mem_of_getElem? (i := 29) rfl)
theorem w30 {a0 : Array Value} {Z : State} (hw : ∀ d ∈ tables_1, d.before a0 Z = true) : ((Jvm.Cond.constant "com/example/expire/expire/BatchSizeHoldingPinLaw" (32 : Nat) (2147483647 : Int32))).before a0 Z = true := hw _ (List.mem_of_getElem? (i := 30) rfl)
theorem w31 {a0 : Array Value} {Z : State} (hw : ∀ d ∈ tables_1, d.before a0 Z = true) : ((Jvm.Cond.methodLink "com/example/expire/expire/BatchSizeHoldingPinLaw" (33 : Nat) ({ cls := "com/example/expire/expire/BatchSize", name := "holding", desc := "(I)I" } : Jvm.MethodName))).before a0 Z = true := hw _ (List.mem_of_getElem? (i := 31) rfl)
theorem w32 {a0 : Array Value} {Z : State} (hw : ∀ d ∈ tables_1, d.before a0 Z = true) : ((Jvm.Cond.declares ({ cls := "com/example/expire/expire/BatchSize", name := "holding", desc := "(I)I" } : Jvm.MethodName))).before a0 Z = true := hw _ (List.mem_of_getElem? (i := 32) rfl)
theorem w33 {a0 : Array Value} {Z : State} (hw : ∀ d ∈ tables_1, d.before a0 Z = true) : ((Jvm.Cond.instanceMethod ({ cls := "com/example/expire/expire/BatchSize", name := "holding", desc := "(I)I" } : Jvm.MethodName))).before a0 Z = true := hw _ (List.mem_of_getElem? (i := 33) rfl)
theorem w34 {a0 : Array Value} {Z : State} (hw : ∀ d ∈ tables_1, d.before a0 Z = true) : ((Jvm.Cond.selects "com/example/expire/expire/BatchSize" ({ cls := "com/example/expire/expire/BatchSize", name := "holding", desc := "(I)I" } : Jvm.MethodName) ({ cls := "com/example/expire/expire/BatchSize", name := "holding", desc := "(I)I" } : Jvm.MethodName))).before a0 Z = true := hw _ (List.mem_of_getElem? (i := 34) rfl)
theorem w35 {a0 : Array Value} {Z : State} (hw : ∀ d ∈ tables_1, d.before a0 Z = true) : ((Jvm.Cond.code ({ cls := "com/example/expire/expire/BatchSize", name := "holding", desc := "(I)I" } : Jvm.MethodName) prog_2_method_3_code (4 : Nat) (Option.some Jvm.ClassFile.FieldType.int))).before a0 Z = true := hw _ (List.mem_of_getElem? (i := 35) rfl)
theorem w36 {a0 : Array Value} {Z : State} (hw : ∀ d ∈ tables_1, d.before a0 Z = true) : ((Jvm.Cond.constantLong "com/example/expire/expire/BatchSizeHoldingPinLaw" (10 : Nat) (25000000 : Int64))).before a0 Z = true := hw _ (List.mem_of_getElem? (i := 36) rfl)
theorem w37 {a0 : Array Value} {Z : State} (hw : ∀ d ∈ tables_1, d.before a0 Z = true) : ((Jvm.Cond.methodLink "com/example/expire/expire/BatchSizeHoldingPinLaw" (12 : Nat) ({ cls := "com/example/expire/expire/BatchSize", name := "took", desc := "(IJ)V" } : Jvm.MethodName))).before a0 Z = true := hw _ (List.mem_of_getElem? (i := 37) rfl)
theorem w38 {a0 : Array Value} {Z : State} (hw : ∀ d ∈ tables_1, d.before a0 Z = true) : ((Jvm.Cond.declares ({ cls := "com/example/expire/expire/BatchSize", name := "took", desc := "(IJ)V" } : Jvm.MethodName))).before a0 Z = true := hw _ (List.mem_of_getElem? (i := 38) rfl)
theorem w39 {a0 : Array Value} {Z : State} (hw : ∀ d ∈ tables_1, d.before a0 Z = true) : ((Jvm.Cond.instanceMethod ({ cls := "com/example/expire/expire/BatchSize", name := "took", desc := "(IJ)V" } : Jvm.MethodName))).before a0 Z = true := hw _ (List.mem_of_getElem? (i := 39) rfl)
theorem w40 {a0 : Array Value} {Z : State} (hw : ∀ d ∈ tables_1, d.before a0 Z = true) : ((Jvm.Cond.selects "com/example/expire/expire/BatchSize" ({ cls := "com/example/expire/expire/BatchSize", name := "took", desc := "(IJ)V" } : Jvm.MethodName) ({ cls := "com/example/expire/expire/BatchSize", name := "took", desc := "(IJ)V" } : Jvm.MethodName))).before a0 Z = true := hw _ (List.mem_of_getElem? (i := 40) rfl)
theorem w41 {a0 : Array Value} {Z : State} (hw : ∀ d ∈ tables_1, d.before a0 Z = true) : ((Jvm.Cond.code ({ cls := "com/example/expire/expire/BatchSize", name := "took", desc := "(IJ)V" } : Jvm.MethodName) prog_2_method_4_code (6 : Nat) (Option.none : Option Jvm.ClassFile.FieldType))).before a0 Z = true := hw _ (List.mem_of_getElem? (i := 41) rfl)
theorem w42 {a0 : Array Value} {Z : State} (hw : ∀ d ∈ tables_1, d.before a0 Z = true) : ((Jvm.Cond.constantLong "com/example/expire/expire/BatchSize" (28 : Nat) (25000000 : Int64))).before a0 Z = true := hw _ (List.mem_of_getElem? (i := 42) rfl)
theorem w43 {a0 : Array Value} {Z : State} (hw : ∀ d ∈ tables_1, d.before a0 Z = true) : ((Jvm.Cond.constantLong "com/example/expire/expire/BatchSize" (32 : Nat) (100 : Int64))).before a0 Z = true := hw _ (List.mem_of_getElem? (i := 43) rfl)
theorem w44 {a0 : Array Value} {Z : State} (hw : ∀ d ∈ tables_1, d.before a0 Z = true) : ((Jvm.Cond.constantLong "com/example/expire/expire/BatchSize" (30 : Nat) (20000 : Int64))).before a0 Z = true := hw _ (List.mem_of_getElem? (i := 44) rfl)
theorem w45 {a0 : Array Value} {Z : State} (hw : ∀ d ∈ tables_1, d.before a0 Z = true) : ((Jvm.Cond.constantLong "com/example/expire/expire/BatchSize" (17 : Nat) (2 : Int64))).before a0 Z = true := hw _ (List.mem_of_getElem? (i := 45) rfl)
theorem w46 {a0 : Array Value} {Z : State} (hw : ∀ d ∈ tables_1, d.before a0 Z = true) : ((Jvm.Cond.methodLink "com/example/expire/expire/BatchSize" (22 : Nat) ({ cls := "java/lang/Math", name := "min", desc := "(JJ)J" } : Jvm.MethodName))).before a0 Z = true := hw _ (List.mem_of_getElem? (i := 46) rfl)
theorem w47 {a0 : Array Value} {Z : State} (hw : ∀ d ∈ tables_1, d.before a0 Z = true) : ((Jvm.Cond.static ({ cls := "java/lang/Math", name := "min", desc := "(JJ)J" } : Jvm.MethodName))).before a0 Z = true := hw _ (List.mem_of_getElem? (i := 47) rfl)
theorem w48 {a0 : Array Value} {Z : State} (hw : ∀ d ∈ tables_1, d.before a0 Z = true) : ((Jvm.Cond.code ({ cls := "java/lang/Math", name := "min", desc := "(JJ)J" } : Jvm.MethodName) jdk_29_method_70_code (4 : Nat) (Option.some Jvm.ClassFile.FieldType.long))).before a0 Z = true := hw _ (List.mem_of_getElem? (i := 48) rfl)
theorem w49 {a0 : Array Value} {Z : State} (hw : ∀ d ∈ tables_1, d.before a0 Z = true) : ((Jvm.Cond.methodLink "com/example/expire/expire/BatchSize" (34 : Nat) ({ cls := "java/lang/Math", name := "max", desc := "(JJ)J" } : Jvm.MethodName))).before a0 Z = true := hw _ (List.mem_of_getElem? (i := 49) rfl)
theorem w50 {a0 : Array Value} {Z : State} (hw : ∀ d ∈ tables_1, d.before a0 Z = true) : ((Jvm.Cond.static ({ cls := "java/lang/Math", name := "max", desc := "(JJ)J" } : Jvm.MethodName))).before a0 Z = true := hw _ (List.mem_of_getElem? (i := 50) rfl)
theorem w51 {a0 : Array Value} {Z : State} (hw : ∀ d ∈ tables_1, d.before a0 Z = true) : ((Jvm.Cond.code ({ cls := "java/lang/Math", name := "max", desc := "(JJ)J" } : Jvm.MethodName) jdk_29_method_66_code (4 : Nat) (Option.some Jvm.ClassFile.FieldType.long))).before a0 Z = true := hw _ (List.mem_of_getElem? (i := 51) rfl)
theorem w52 {a0 : Array Value} {Z : State} (hw : ∀ d ∈ tables_1, d.before a0 Z = true) : ((Jvm.Cond.constantLong "com/example/expire/expire/BatchSizeHoldingPinLaw" (37 : Nat) (2 : Int64))).before a0 Z = true := hw _ (List.mem_of_getElem? (i := 52) rfl)
theorem pn_com_example_expire_expire_BatchSize : plainName "com/example/expire/expire/BatchSize" = true := by first | (simp [plainName, overriddenIn]; done) | decide +kernel
theorem pn_com_example_expire_expire_BatchSizeHoldingPinLaw : plainName "com/example/expire/expire/BatchSizeHoldingPinLaw" = true := by first | (simp [plainName, overriddenIn]; done) | decide +kernel
theorem pd_0 : parseMethodDescriptor "()V" = some ⟨[], none⟩ := by decide +kernel
theorem pd_1 : parseMethodDescriptor "()I" = some ⟨[], some .int⟩ := by decide +kernel
theorem pd_2 : parseMethodDescriptor "(II)I" = some ⟨[.int, .int], some .int⟩ := by decide +kernel
theorem pd_3 : parseMethodDescriptor "(JJ)J" = some ⟨[.long, .long], some .long⟩ := by decide +kernel
theorem pd_4 : parseMethodDescriptor "(I)I" = some ⟨[.int], some .int⟩ := by decide +kernel
theorem pd_5 : parseMethodDescriptor "(JJ)V" = some ⟨[.long, .long], none⟩ := by decide +kernel
theorem pd_6 : parseMethodDescriptor "(IJ)V" = some ⟨[.int, .long], none⟩ := by decide +kernel
theorem dBatchSize_mk_0 : decode prog_2_method_1_code 0 = .ok (.aload_n 0, 1) := by decide +kernel
theorem dBatchSize_mk_1 : decode prog_2_method_1_code 1 = .ok (.invokespecial 3, 3) := by decide +kernel
theorem dBatchSize_mk_4 : decode prog_2_method_1_code 4 = .ok (.aload_n 0, 1) := by decide +kernel
theorem dBatchSize_mk_5 : decode prog_2_method_1_code 5 = .ok (.sipush 1000, 3) := by decide +kernel
theorem dBatchSize_mk_8 : decode prog_2_method_1_code 8 = .ok (.putfield 9, 3) := by decide +kernel
theorem dBatchSize_mk_11 : decode prog_2_method_1_code 11 = .ok (.return_, 1) := by decide +kernel
theorem dBatchSize_rows_0 : decode prog_2_method_2_code 0 = .ok (.aload_n 0, 1) := by decide +kernel
theorem dBatchSize_rows_1 : decode prog_2_method_2_code 1 = .ok (.getfield 9, 3) := by decide +kernel
theorem dBatchSize_rows_4 : decode prog_2_method_2_code 4 = .ok (.ireturn, 1) := by decide +kernel
theorem dMath_max_0 : decode jdk_29_method_65_code 0 = .ok (.iload_n 0, 1) := by decide +kernel
theorem dMath_max_1 : decode jdk_29_method_65_code 1 = .ok (.iload_n 1, 1) := by decide +kernel
theorem dMath_max_2 : decode jdk_29_method_65_code 2 = .ok (.if_icmp .lt 7, 3) := by decide +kernel
theorem dMath_max_5 : decode jdk_29_method_65_code 5 = .ok (.iload_n 0, 1) := by decide +kernel
theorem dMath_max_6 : decode jdk_29_method_65_code 6 = .ok (.goto 4, 3) := by decide +kernel
theorem dMath_max_9 : decode jdk_29_method_65_code 9 = .ok (.iload_n 1, 1) := by decide +kernel
theorem dMath_max_10 : decode jdk_29_method_65_code 10 = .ok (.ireturn, 1) := by decide +kernel
theorem dBatchSize_holding_0 : decode prog_2_method_3_code 0 = .ok (.iload_n 1, 1) := by decide +kernel
theorem dBatchSize_holding_1 : decode prog_2_method_3_code 1 = .ok (.aload_n 0, 1) := by decide +kernel
theorem dBatchSize_holding_2 : decode prog_2_method_3_code 2 = .ok (.getfield 9, 3) := by decide +kernel
theorem dBatchSize_holding_5 : decode prog_2_method_3_code 5 = .ok (.if_icmp .ge 12, 3) := by decide +kernel
theorem dBatchSize_holding_8 : decode prog_2_method_3_code 8 = .ok (.aload_n 0, 1) := by decide +kernel
theorem dBatchSize_holding_9 : decode prog_2_method_3_code 9 = .ok (.getfield 13, 3) := by decide +kernel
theorem dBatchSize_holding_12 : decode prog_2_method_3_code 12 = .ok (.lconst 0, 1) := by decide +kernel
theorem dBatchSize_holding_13 : decode prog_2_method_3_code 13 = .ok (.lcmp, 1) := by decide +kernel
theorem dBatchSize_holding_14 : decode prog_2_method_3_code 14 = .ok (.ifCond .ne 8, 3) := by decide +kernel
theorem dBatchSize_holding_17 : decode prog_2_method_3_code 17 = .ok (.aload_n 0, 1) := by decide +kernel
theorem dBatchSize_holding_18 : decode prog_2_method_3_code 18 = .ok (.getfield 9, 3) := by decide +kernel
theorem dBatchSize_holding_21 : decode prog_2_method_3_code 21 = .ok (.ireturn, 1) := by decide +kernel
theorem dBatchSize_holding_22 : decode prog_2_method_3_code 22 = .ok (.ldc2_w 17, 3) := by decide +kernel
theorem dBatchSize_holding_25 : decode prog_2_method_3_code 25 = .ok (.aload_n 0, 1) := by decide +kernel
theorem dBatchSize_holding_26 : decode prog_2_method_3_code 26 = .ok (.getfield 13, 3) := by decide +kernel
theorem dBatchSize_holding_29 : decode prog_2_method_3_code 29 = .ok (.lmul, 1) := by decide +kernel
theorem dBatchSize_holding_30 : decode prog_2_method_3_code 30 = .ok (.aload_n 0, 1) := by decide +kernel
theorem dBatchSize_holding_31 : decode prog_2_method_3_code 31 = .ok (.getfield 19, 3) := by decide +kernel
theorem dBatchSize_holding_34 : decode prog_2_method_3_code 34 = .ok (.lcmp, 1) := by decide +kernel
theorem dBatchSize_holding_35 : decode prog_2_method_3_code 35 = .ok (.ifCond .lt 5, 3) := by decide +kernel
theorem dBatchSize_holding_38 : decode prog_2_method_3_code 38 = .ok (.iload_n 1, 1) := by decide +kernel
theorem dBatchSize_holding_39 : decode prog_2_method_3_code 39 = .ok (.ireturn, 1) := by decide +kernel
theorem dBatchSize_holding_40 : decode prog_2_method_3_code 40 = .ok (.iload_n 1, 1) := by decide +kernel
theorem dBatchSize_holding_41 : decode prog_2_method_3_code 41 = .ok (.i2l, 1) := by decide +kernel
theorem dBatchSize_holding_42 : decode prog_2_method_3_code 42 = .ok (.aload_n 0, 1) := by decide +kernel
theorem dBatchSize_holding_43 : decode prog_2_method_3_code 43 = .ok (.getfield 19, 3) := by decide +kernel
theorem dBatchSize_holding_46 : decode prog_2_method_3_code 46 = .ok (.lmul, 1) := by decide +kernel
theorem dBatchSize_holding_47 : decode prog_2_method_3_code 47 = .ok (.aload_n 0, 1) := by decide +kernel
theorem dBatchSize_holding_48 : decode prog_2_method_3_code 48 = .ok (.getfield 13, 3) := by decide +kernel
theorem dBatchSize_holding_51 : decode prog_2_method_3_code 51 = .ok (.ladd, 1) := by decide +kernel
theorem dBatchSize_holding_52 : decode prog_2_method_3_code 52 = .ok (.lconst 1, 1) := by decide +kernel
theorem dBatchSize_holding_53 : decode prog_2_method_3_code 53 = .ok (.lsub, 1) := by decide +kernel
theorem dBatchSize_holding_54 : decode prog_2_method_3_code 54 = .ok (.aload_n 0, 1) := by decide +kernel
theorem dBatchSize_holding_55 : decode prog_2_method_3_code 55 = .ok (.getfield 13, 3) := by decide +kernel
theorem dBatchSize_holding_58 : decode prog_2_method_3_code 58 = .ok (.ldiv, 1) := by decide +kernel
theorem dBatchSize_holding_59 : decode prog_2_method_3_code 59 = .ok (.lstore_n 2, 1) := by decide +kernel
theorem dBatchSize_holding_60 : decode prog_2_method_3_code 60 = .ok (.aload_n 0, 1) := by decide +kernel
theorem dBatchSize_holding_61 : decode prog_2_method_3_code 61 = .ok (.getfield 9, 3) := by decide +kernel
theorem dBatchSize_holding_64 : decode prog_2_method_3_code 64 = .ok (.i2l, 1) := by decide +kernel
theorem dBatchSize_holding_65 : decode prog_2_method_3_code 65 = .ok (.lload_n 2, 1) := by decide +kernel
theorem dBatchSize_holding_66 : decode prog_2_method_3_code 66 = .ok (.invokestatic 22, 3) := by decide +kernel
theorem dBatchSize_holding_69 : decode prog_2_method_3_code 69 = .ok (.l2i, 1) := by decide +kernel
theorem dBatchSize_holding_70 : decode prog_2_method_3_code 70 = .ok (.ireturn, 1) := by decide +kernel
theorem dMath_min_0 : decode jdk_29_method_70_code 0 = .ok (.lload_n 0, 1) := by decide +kernel
theorem dMath_min_1 : decode jdk_29_method_70_code 1 = .ok (.lload_n 2, 1) := by decide +kernel
theorem dMath_min_2 : decode jdk_29_method_70_code 2 = .ok (.lcmp, 1) := by decide +kernel
theorem dMath_min_3 : decode jdk_29_method_70_code 3 = .ok (.ifCond .gt 7, 3) := by decide +kernel
theorem dMath_min_6 : decode jdk_29_method_70_code 6 = .ok (.lload_n 0, 1) := by decide +kernel
theorem dMath_min_7 : decode jdk_29_method_70_code 7 = .ok (.goto 4, 3) := by decide +kernel
theorem dMath_min_10 : decode jdk_29_method_70_code 10 = .ok (.lload_n 2, 1) := by decide +kernel
theorem dMath_min_11 : decode jdk_29_method_70_code 11 = .ok (.lreturn, 1) := by decide +kernel
theorem dBatchSize_found_0 : decode prog_2_method_5_code 0 = .ok (.aload_n 0, 1) := by decide +kernel
theorem dBatchSize_found_1 : decode prog_2_method_5_code 1 = .ok (.lload_n 1, 1) := by decide +kernel
theorem dBatchSize_found_2 : decode prog_2_method_5_code 2 = .ok (.putfield 19, 3) := by decide +kernel
theorem dBatchSize_found_5 : decode prog_2_method_5_code 5 = .ok (.aload_n 0, 1) := by decide +kernel
theorem dBatchSize_found_6 : decode prog_2_method_5_code 6 = .ok (.lload_n 3, 1) := by decide +kernel
theorem dBatchSize_found_7 : decode prog_2_method_5_code 7 = .ok (.putfield 13, 3) := by decide +kernel
theorem dBatchSize_found_10 : decode prog_2_method_5_code 10 = .ok (.return_, 1) := by decide +kernel
theorem dBatchSize_took_0 : decode prog_2_method_4_code 0 = .ok (.lload_n 2, 1) := by decide +kernel
theorem dBatchSize_took_1 : decode prog_2_method_4_code 1 = .ok (.lconst 0, 1) := by decide +kernel
theorem dBatchSize_took_2 : decode prog_2_method_4_code 2 = .ok (.lcmp, 1) := by decide +kernel
theorem dBatchSize_took_3 : decode prog_2_method_4_code 3 = .ok (.ifCond .le 14, 3) := by decide +kernel
theorem dBatchSize_took_6 : decode prog_2_method_4_code 6 = .ok (.iload_n 1, 1) := by decide +kernel
theorem dBatchSize_took_7 : decode prog_2_method_4_code 7 = .ok (.i2l, 1) := by decide +kernel
theorem dBatchSize_took_8 : decode prog_2_method_4_code 8 = .ok (.ldc2_w 28, 3) := by decide +kernel
theorem dBatchSize_took_11 : decode prog_2_method_4_code 11 = .ok (.lmul, 1) := by decide +kernel
theorem dBatchSize_took_12 : decode prog_2_method_4_code 12 = .ok (.lload_n 2, 1) := by decide +kernel
theorem dBatchSize_took_13 : decode prog_2_method_4_code 13 = .ok (.ldiv, 1) := by decide +kernel
theorem dBatchSize_took_14 : decode prog_2_method_4_code 14 = .ok (.goto 6, 3) := by decide +kernel
theorem dBatchSize_took_17 : decode prog_2_method_4_code 17 = .ok (.ldc2_w 30, 3) := by decide +kernel
theorem dBatchSize_took_20 : decode prog_2_method_4_code 20 = .ok (.lstore 4, 2) := by decide +kernel
theorem dBatchSize_took_22 : decode prog_2_method_4_code 22 = .ok (.aload_n 0, 1) := by decide +kernel
theorem dBatchSize_took_23 : decode prog_2_method_4_code 23 = .ok (.ldc2_w 32, 3) := by decide +kernel
theorem dBatchSize_took_26 : decode prog_2_method_4_code 26 = .ok (.ldc2_w 30, 3) := by decide +kernel
theorem dBatchSize_took_29 : decode prog_2_method_4_code 29 = .ok (.ldc2_w 17, 3) := by decide +kernel
theorem dBatchSize_took_32 : decode prog_2_method_4_code 32 = .ok (.iload_n 1, 1) := by decide +kernel
theorem dBatchSize_took_33 : decode prog_2_method_4_code 33 = .ok (.i2l, 1) := by decide +kernel
theorem dBatchSize_took_34 : decode prog_2_method_4_code 34 = .ok (.lmul, 1) := by decide +kernel
theorem dBatchSize_took_35 : decode prog_2_method_4_code 35 = .ok (.invokestatic 22, 3) := by decide +kernel
theorem dBatchSize_took_38 : decode prog_2_method_4_code 38 = .ok (.lload 4, 2) := by decide +kernel
theorem dBatchSize_took_40 : decode prog_2_method_4_code 40 = .ok (.invokestatic 22, 3) := by decide +kernel
theorem dBatchSize_took_43 : decode prog_2_method_4_code 43 = .ok (.invokestatic 34, 3) := by decide +kernel
theorem dBatchSize_took_46 : decode prog_2_method_4_code 46 = .ok (.l2i, 1) := by decide +kernel
theorem dBatchSize_took_47 : decode prog_2_method_4_code 47 = .ok (.putfield 9, 3) := by decide +kernel
theorem dBatchSize_took_50 : decode prog_2_method_4_code 50 = .ok (.return_, 1) := by decide +kernel
theorem dMath_max2_0 : decode jdk_29_method_66_code 0 = .ok (.lload_n 0, 1) := by decide +kernel
theorem dMath_max2_1 : decode jdk_29_method_66_code 1 = .ok (.lload_n 2, 1) := by decide +kernel
theorem dMath_max2_2 : decode jdk_29_method_66_code 2 = .ok (.lcmp, 1) := by decide +kernel
theorem dMath_max2_3 : decode jdk_29_method_66_code 3 = .ok (.ifCond .lt 7, 3) := by decide +kernel
theorem dMath_max2_6 : decode jdk_29_method_66_code 6 = .ok (.lload_n 0, 1) := by decide +kernel
theorem dMath_max2_7 : decode jdk_29_method_66_code 7 = .ok (.goto 4, 3) := by decide +kernel
theorem dMath_max2_10 : decode jdk_29_method_66_code 10 = .ok (.lload_n 2, 1) := by decide +kernel
theorem dMath_max2_11 : decode jdk_29_method_66_code 11 = .ok (.lreturn, 1) := by decide +kernel
/-! com/example/expire/expire/BatchSize.<init>:()V -/
def f_BatchSize_mk (f_a1_examined : Int64) (f_a1_removed : Int64) (f_a1_rows : Int32) : Option (Int64 × Int64 × Int32) :=
  some (f_a1_examined, f_a1_removed, (1000 : Int32))
def Q_BatchSize_mk (Z : State) (hE : Heap) (n0 : Nat) (a1 : Addr) (r : Int64 × Int64 × Int32) (v : Option Value) (h : Heap) (L : List Loc) : Prop := v = none ∧ Fr n0 L ∧ Keep hE h [a1] ∧ Exa Z h a1 "com/example/expire/expire/BatchSize" ∧ Fld Z h a1 "com/example/expire/expire/BatchSize" "examined" "J" (.long r.1) ∧ Fld Z h a1 "com/example/expire/expire/BatchSize" "removed" "J" (.long r.2.1) ∧ Fld Z h a1 "com/example/expire/expire/BatchSize" "rows" "I" (.int r.2.2)
def Cx_BatchSize_mk (p : Program) (s : State) (m : MethodId) (meth : Method) (c : Code) (Z : State) (a0 : Array Value) : Prop := p.tables.exec = Jvm.exec ∧ Z.Warmed39 s.vm ∧ (∀ d ∈ tables_1, d.before a0 Z = true) ∧ c.code = prog_2_method_1_code ∧ c.maxLocals = 1 ∧ s.vm.findClass "com/example/expire/expire/BatchSize" = some m.cls ∧ meth.sig.returnType = none ∧ meth.locks = false ∧ meth.name = "<init>"
set_option maxRecDepth 65536 in
set_option maxHeartbeats 4000000 in
theorem b_BatchSize_mk {p : Program} {l : Launch} {e : Env} {s : State} {m : MethodId} {args : Array Value} {below : List Frame} {meth : Method} {c : Code} {Z : State} {a0 : Array Value} {n0 : Nat} {hE : Heap} (cx : Cx_BatchSize_mk p s m meth c Z a0) (a1 : Addr) :
    ∀ {T : State} {locs : List Loc} {h : Heap} (X : Stand p l e ({ frames := 1, cells := 0, slots := 0, locals := 12 } : Room) s m args below meth c T locs 0 0) (eT : T.heap = h) (N : Fr n0 locs) (K : Keep hE h [a1]) (z : n0 ≤ h.size) (f_a1_examined : Int64) (f_a1_removed : Int64) (f_a1_rows : Int32) (E_a1 : Exa Z h a1 "com/example/expire/expire/BatchSize") (F_a1_examined : Fld Z h a1 "com/example/expire/expire/BatchSize" "examined" "J" (.long f_a1_examined)) (F_a1_removed : Fld Z h a1 "com/example/expire/expire/BatchSize" "removed" "J" (.long f_a1_removed)) (F_a1_rows : Fld Z h a1 "com/example/expire/expire/BatchSize" "rows" "I" (.int f_a1_rows)) (g_a1 : n0 ≤ a1) (r : Int64 × Int64 × Int32), f_BatchSize_mk f_a1_examined f_a1_removed f_a1_rows = some r → own_Goes p e below s (Q_BatchSize_mk Z hE n0 a1 r) 0 0 (T.setTop (mkF m 0 #[.val (.ref a1)] [])) := by
  have cx' := cx
  obtain ⟨hx, hZ, hw, hby, hml, hown, hret, hlk, hnm⟩ := cx'
  intro T locs h X eT N K z f_a1_examined f_a1_removed f_a1_rows E_a1 F_a1_examined F_a1_removed F_a1_rows g_a1 r hF
  unfold f_BatchSize_mk at hF
  refine own_Goes.via (B := T.setTop (mkF m 1 #[.val (.ref a1)] [(.ref a1)])) (fun t k => ?_) ?_
  · show Steps p.tables e below (T.setTop (mkF m 0 #[.val (.ref a1)] [])) t
    refine XS.aloadN X.here hx rfl (hb hby dBatchSize_mk_0) rfl rfl ?_
    exact k
  obtain ⟨T8, X8, e8, st8⟩ := initO X hx hZ hown (w6 hw) (w7 hw) (w8 hw) eT (g := (mkF m 1 #[.val (.ref a1)] [(.ref a1)])) rfl (by rw [hml]; rfl) rfl (hb hby dBatchSize_mk_1) (by decide) (W := 0) (by show 2 * 0 + _ ≤ _; exact Nat.le_of_eq rfl) (by decide)
  refine own_Goes.via st8 ?_
  show own_Goes _ _ _ _ _ _ _ (T8.setTop (mkF m 4 #[.val (.ref a1)] []))
  refine own_Goes.via (B := T8.setTop (mkF m 8 #[.val (.ref a1)] [(.int (1000 : Int32)), (.ref a1)])) (fun t k => ?_) ?_
  · show Steps p.tables e below (T8.setTop (mkF m 4 #[.val (.ref a1)] [])) t
    refine XS.aloadN X8.here hx rfl (hb hby dBatchSize_mk_4) rfl rfl ?_
    show Steps p.tables e below (T8.setTop (mkF m 5 #[.val (.ref a1)] [(.ref a1)])) t
    refine XS.sipush X8.here hx rfl (hb hby dBatchSize_mk_5) ?_
    exact k
  obtain ⟨T9, h9, X9, e9, W9, st9⟩ := putF X8 hx hZ hown (host := "") (Or.inl (w9 hw)) Via.refl e8 F_a1_rows E_a1 (Or.inl (w10 hw)) (w1 hw) (ty := .int) (by decide) rfl rfl (g := (mkF m 8 #[.val (.ref a1)] [(.int (1000 : Int32)), (.ref a1)])) rfl rfl (hb hby dBatchSize_mk_8)
  refine own_Goes.via st9 ?_
  have E9_a1 := E_a1.wr W9
  have F9_a1_examined := F_a1_examined.other W9 (Or.inr (slot_ne (Or.inl (w18 hw)) (Or.inl (w10 hw)) (by decide) (t := .long) (t' := .int) (by decide) (by decide)))
  have F9_a1_removed := F_a1_removed.other W9 (Or.inr (slot_ne (Or.inl (w20 hw)) (Or.inl (w10 hw)) (by decide) (t := .long) (t' := .int) (by decide) (by decide)))
  have F9_a1_rows := F_a1_rows.same W9
  have z9 := Nat.le_trans z (Keep.of_wr W9).1
  have K9_ := K.wr W9 (Or.inl (List.mem_of_getElem? (i := 0) rfl))
  have N9 := Fr.snoc X9 N g_a1
  show own_Goes _ _ _ _ _ _ _ (T9.setTop (mkF m 11 #[.val (.ref a1)] []))
  obtain rfl : (f_a1_examined, f_a1_removed, (1000 : Int32)) = r := Option.some.inj hF
  exact own_retV X9 hx hret hlk (hb hby dBatchSize_mk_11) e9 ⟨rfl, N9, K9_, E9_a1, F9_a1_examined, F9_a1_removed, F9_a1_rows⟩ (by decide) (by decide)
theorem ef_BatchSize_mk (m : MethodId) (x0 : Addr) : entryFrame m #[(.ref x0)] 1 = mkF m 0 #[.val (.ref x0)] [] := by first | (simp [entryFrame, mkF, argsToLocals, Value.category]; done) | rfl
set_option maxRecDepth 65536 in
set_option maxHeartbeats 4000000 in
theorem rm_BatchSize_mk (l : Launch) (Z : State) (a0 : Array Value) (hw : ∀ d ∈ tables_1, d.before a0 Z = true) (ws : List Jvm.Cond) (hE : Heap) (n0 : Nat) (z : n0 ≤ hE.size) (a1 : Addr) (f_a1_examined : Int64) (f_a1_removed : Int64) (f_a1_rows : Int32) (E_a1 : Exa Z hE a1 "com/example/expire/expire/BatchSize") (F_a1_examined : Fld Z hE a1 "com/example/expire/expire/BatchSize" "examined" "J" (.long f_a1_examined)) (F_a1_removed : Fld Z hE a1 "com/example/expire/expire/BatchSize" "removed" "J" (.long f_a1_removed)) (F_a1_rows : Fld Z hE a1 "com/example/expire/expire/BatchSize" "rows" "I" (.int f_a1_rows)) (g_a1 : n0 ≤ a1) (r : Int64 × Int64 × Int32) (hF : (f_BatchSize_mk f_a1_examined f_a1_removed f_a1_rows) = some r) :
    MetFree l (⟨"com/example/expire/expire/BatchSize", "<init>", "()V"⟩ : MethodName) (head1 (Jvm.Cond.code (⟨"com/example/expire/expire/BatchSize", "<init>", "()V"⟩ : MethodName) prog_2_method_1_code 1 none :: ws) ({ frames := 1, cells := 0, slots := 0, locals := 12 } : Room)) (fun a U => a = #[(.ref a1)] ∧ Z.Warmed39 U.vm ∧ U.heap = hE) (fun _ _ _ _ _ => True) (fun _ U o U' => ∃ v L, o = .returned v ∧ (Q_BatchSize_mk Z hE n0 a1 r) v U'.heap L ∧ FrameEnd U o U' L ({ frames := 1, cells := 0, slots := 0, locals := 12 } : Room).cells ({ frames := 1, cells := 0, slots := 0, locals := 12 } : Room).slots) := by
  refine MetFree.of_bodySF (plainFor_of_name pn_com_example_expire_expire_BatchSize) hisR ?_
  intro p e s m args below meth c s₁ Bd hml0 hP hK
  obtain ⟨rfl, hZ, hh⟩ := hP
  have X0 : Stand p l e ({ frames := 1, cells := 0, slots := 0, locals := 12 } : Room) s m #[(.ref a1)] below meth c s₁ [] 0 0 := Stand.of_body Bd
  have e0 : s₁.heap = hE := by rw [← hh, Bd.state]; rfl
  have cx : Cx_BatchSize_mk p s m meth c Z a0 := ⟨Bd.exec, hZ, hw, Bd.bytes, hml0, findClass_of_methodNamed Bd.named, Bd.returns, Bd.notSynchronized, (name_of_methodNamed Bd.named Bd.method).1⟩
  show own_Goes p e below s (Q_BatchSize_mk Z hE n0 a1 r) ({ frames := 1, cells := 0, slots := 0, locals := 12 } : Room).cells ({ frames := 1, cells := 0, slots := 0, locals := 12 } : Room).slots (s₁.setTop (entryFrame m #[(.ref a1)] 1))
  rw [ef_BatchSize_mk]
  exact b_BatchSize_mk cx a1 X0 e0 (Fr.nil n0) (Keep.refl _ _) z f_a1_examined f_a1_removed f_a1_rows E_a1 F_a1_examined F_a1_removed F_a1_rows g_a1 _ hF
/-! com/example/expire/expire/BatchSize.rows:()I -/
def f_BatchSize_rows (f_a1_examined : Int64) (f_a1_removed : Int64) (f_a1_rows : Int32) : Option (Int32) :=
  some f_a1_rows
def Q_BatchSize_rows (Z : State) (hE : Heap) (n0 : Nat) (a1 : Addr) (r : Int32) (v : Option Value) (h : Heap) (L : List Loc) : Prop := v = some (.int r) ∧ Fr n0 L ∧ h = hE
def Cx_BatchSize_rows (p : Program) (s : State) (m : MethodId) (meth : Method) (c : Code) (Z : State) (a0 : Array Value) : Prop := p.tables.exec = Jvm.exec ∧ Z.Warmed39 s.vm ∧ (∀ d ∈ tables_1, d.before a0 Z = true) ∧ c.code = prog_2_method_2_code ∧ c.maxLocals = 1 ∧ s.vm.findClass "com/example/expire/expire/BatchSize" = some m.cls ∧ meth.sig.returnType = some .int ∧ meth.locks = false ∧ meth.name = "rows"
set_option maxRecDepth 65536 in
set_option maxHeartbeats 4000000 in
theorem b_BatchSize_rows {p : Program} {l : Launch} {e : Env} {s : State} {m : MethodId} {args : Array Value} {below : List Frame} {meth : Method} {c : Code} {Z : State} {a0 : Array Value} {n0 : Nat} {hE : Heap} (cx : Cx_BatchSize_rows p s m meth c Z a0) (a1 : Addr) :
    ∀ {T : State} {locs : List Loc} (X : Stand p l e ({ frames := 0, cells := 0, slots := 0, locals := 0 } : Room) s m args below meth c T locs 0 0) (eT : T.heap = hE) (N : Fr n0 locs) (z : n0 ≤ hE.size) (f_a1_examined : Int64) (f_a1_removed : Int64) (f_a1_rows : Int32) (E_a1 : Exa Z hE a1 "com/example/expire/expire/BatchSize") (F_a1_examined : Fld Z hE a1 "com/example/expire/expire/BatchSize" "examined" "J" (.long f_a1_examined)) (F_a1_removed : Fld Z hE a1 "com/example/expire/expire/BatchSize" "removed" "J" (.long f_a1_removed)) (F_a1_rows : Fld Z hE a1 "com/example/expire/expire/BatchSize" "rows" "I" (.int f_a1_rows)) (g_a1 : n0 ≤ a1) (r : Int32), f_BatchSize_rows f_a1_examined f_a1_removed f_a1_rows = some r → own_Goes p e below s (Q_BatchSize_rows Z hE n0 a1 r) 0 0 (T.setTop (mkF m 0 #[.val (.ref a1)] [])) := by
  have cx' := cx
  obtain ⟨hx, hZ, hw, hby, hml, hown, hret, hlk, hnm⟩ := cx'
  intro T locs X eT N z f_a1_examined f_a1_removed f_a1_rows E_a1 F_a1_examined F_a1_removed F_a1_rows g_a1 r hF
  unfold f_BatchSize_rows at hF
  refine own_Goes.via (B := T.setTop (mkF m 1 #[.val (.ref a1)] [(.ref a1)])) (fun t k => ?_) ?_
  · show Steps p.tables e below (T.setTop (mkF m 0 #[.val (.ref a1)] [])) t
    refine XS.aloadN X.here hx rfl (hb hby dBatchSize_rows_0) rfl rfl ?_
    exact k
  obtain ⟨T16, X16, e16, st16⟩ := getF X hx hZ hown (host := "") (Or.inl (w9 hw)) Via.refl eT F_a1_rows (g := (mkF m 1 #[.val (.ref a1)] [(.ref a1)])) rfl rfl (hb hby dBatchSize_rows_1)
  refine own_Goes.via st16 ?_
  show own_Goes _ _ _ _ _ _ _ (T16.setTop (mkF m 4 #[.val (.ref a1)] [(.int f_a1_rows)]))
  obtain rfl : f_a1_rows = r := Option.some.inj hF
  exact own_retI X16 hx hret hlk (hb hby dBatchSize_rows_4) e16 ⟨rfl, N, rfl⟩ (by decide) (by decide)
theorem ef_BatchSize_rows (m : MethodId) (x0 : Addr) : entryFrame m #[(.ref x0)] 1 = mkF m 0 #[.val (.ref x0)] [] := by first | (simp [entryFrame, mkF, argsToLocals, Value.category]; done) | rfl
set_option maxRecDepth 65536 in
set_option maxHeartbeats 4000000 in
theorem rm_BatchSize_rows (l : Launch) (Z : State) (a0 : Array Value) (hw : ∀ d ∈ tables_1, d.before a0 Z = true) (ws : List Jvm.Cond) (hE : Heap) (n0 : Nat) (z : n0 ≤ hE.size) (a1 : Addr) (f_a1_examined : Int64) (f_a1_removed : Int64) (f_a1_rows : Int32) (E_a1 : Exa Z hE a1 "com/example/expire/expire/BatchSize") (F_a1_examined : Fld Z hE a1 "com/example/expire/expire/BatchSize" "examined" "J" (.long f_a1_examined)) (F_a1_removed : Fld Z hE a1 "com/example/expire/expire/BatchSize" "removed" "J" (.long f_a1_removed)) (F_a1_rows : Fld Z hE a1 "com/example/expire/expire/BatchSize" "rows" "I" (.int f_a1_rows)) (g_a1 : n0 ≤ a1) (r : Int32) (hF : (f_BatchSize_rows f_a1_examined f_a1_removed f_a1_rows) = some r) :
    MetFree l (⟨"com/example/expire/expire/BatchSize", "rows", "()I"⟩ : MethodName) (head1 (Jvm.Cond.code (⟨"com/example/expire/expire/BatchSize", "rows", "()I"⟩ : MethodName) prog_2_method_2_code 1 (some .int) :: ws) ({ frames := 0, cells := 0, slots := 0, locals := 0 } : Room)) (fun a U => a = #[(.ref a1)] ∧ Z.Warmed39 U.vm ∧ U.heap = hE) (fun _ _ _ _ _ => True) (fun _ U o U' => ∃ v L, o = .returned v ∧ (Q_BatchSize_rows Z hE n0 a1 r) v U'.heap L ∧ FrameEnd U o U' L ({ frames := 0, cells := 0, slots := 0, locals := 0 } : Room).cells ({ frames := 0, cells := 0, slots := 0, locals := 0 } : Room).slots) := by
  refine MetFree.of_bodySF (plainFor_of_name pn_com_example_expire_expire_BatchSize) hisR ?_
  intro p e s m args below meth c s₁ Bd hml0 hP hK
  obtain ⟨rfl, hZ, hh⟩ := hP
  have X0 : Stand p l e ({ frames := 0, cells := 0, slots := 0, locals := 0 } : Room) s m #[(.ref a1)] below meth c s₁ [] 0 0 := Stand.of_body Bd
  have e0 : s₁.heap = hE := by rw [← hh, Bd.state]; rfl
  have cx : Cx_BatchSize_rows p s m meth c Z a0 := ⟨Bd.exec, hZ, hw, Bd.bytes, hml0, findClass_of_methodNamed Bd.named, Bd.returns, Bd.notSynchronized, (name_of_methodNamed Bd.named Bd.method).1⟩
  show own_Goes p e below s (Q_BatchSize_rows Z hE n0 a1 r) ({ frames := 0, cells := 0, slots := 0, locals := 0 } : Room).cells ({ frames := 0, cells := 0, slots := 0, locals := 0 } : Room).slots (s₁.setTop (entryFrame m #[(.ref a1)] 1))
  rw [ef_BatchSize_rows]
  exact b_BatchSize_rows cx a1 X0 e0 (Fr.nil n0) z f_a1_examined f_a1_removed f_a1_rows E_a1 F_a1_examined F_a1_removed F_a1_rows g_a1 _ hF
/-! java/lang/Math.max:(II)I -/
def f_Math_max (v0 : Int32) (v1 : Int32) : Option (Int32) :=
  if v0 < v1 then
    some v1
  else
    some v0
def Q_Math_max (Z : State) (hE : Heap) (n0 : Nat)  (r : Int32) (v : Option Value) (h : Heap) (L : List Loc) : Prop := v = some (.int r) ∧ Fr n0 L ∧ h = hE
def Cx_Math_max (p : Program) (s : State) (m : MethodId) (meth : Method) (c : Code) (Z : State) (a0 : Array Value) : Prop := p.tables.exec = Jvm.exec ∧ Z.Warmed39 s.vm ∧ (∀ d ∈ tables_1, d.before a0 Z = true) ∧ c.code = jdk_29_method_65_code ∧ c.maxLocals = 2 ∧ s.vm.findClass "java/lang/Math" = some m.cls ∧ meth.sig.returnType = some .int ∧ meth.locks = false ∧ meth.name = "max"
set_option maxRecDepth 65536 in
set_option maxHeartbeats 4000000 in
theorem b_Math_max {p : Program} {l : Launch} {e : Env} {s : State} {m : MethodId} {args : Array Value} {below : List Frame} {meth : Method} {c : Code} {Z : State} {a0 : Array Value} {n0 : Nat} {hE : Heap} (cx : Cx_Math_max p s m meth c Z a0) :
    ∀ {T : State} {locs : List Loc} (X : Stand p l e ({ frames := 0, cells := 0, slots := 0, locals := 0 } : Room) s m args below meth c T locs 0 0) (eT : T.heap = hE) (N : Fr n0 locs) (z : n0 ≤ hE.size) (v0 : Int32) (v1 : Int32) (r : Int32), f_Math_max v0 v1 = some r → own_Goes p e below s (Q_Math_max Z hE n0 r) 0 0 (T.setTop (mkF m 0 #[.val (.int v0), .val (.int v1)] [])) := by
  have cx' := cx
  obtain ⟨hx, hZ, hw, hby, hml, hown, hret, hlk, hnm⟩ := cx'
  intro T locs X eT N z v0 v1 r hF
  unfold f_Math_max at hF
  refine own_Goes.via (B := T.setTop (mkF m 2 #[.val (.int v0), .val (.int v1)] [(.int v1), (.int v0)])) (fun t k => ?_) ?_
  · show Steps p.tables e below (T.setTop (mkF m 0 #[.val (.int v0), .val (.int v1)] [])) t
    refine XS.iloadN X.here hx rfl (hb hby dMath_max_0) rfl ?_
    show Steps p.tables e below (T.setTop (mkF m 1 #[.val (.int v0), .val (.int v1)] [(.int v0)])) t
    refine XS.iloadN X.here hx rfl (hb hby dMath_max_1) rfl ?_
    exact k
  by_cases hc2 : v0 < v1
  · rw [if_pos hc2] at hF
    refine own_Goes.via (B := T.setTop (mkF m 10 #[.val (.int v0), .val (.int v1)] [(.int v1)])) (fun t k => ?_) ?_
    · show Steps p.tables e below (T.setTop (mkF m 2 #[.val (.int v0), .val (.int v1)] [(.int v1), (.int v0)])) t
      refine XS.icmpYes X.here hx rfl (pc0 := 2) (pc' := 9) rfl (hb hby dMath_max_2) rfl (tlt hc2).1 (by decide) (by decide) ?_
      show Steps p.tables e below (T.setTop (mkF m 9 #[.val (.int v0), .val (.int v1)] [])) t
      refine XS.iloadN X.here hx rfl (hb hby dMath_max_9) rfl ?_
      exact k
    obtain rfl : v1 = r := Option.some.inj hF
    exact own_retI X hx hret hlk (hb hby dMath_max_10) eT ⟨rfl, N, rfl⟩ (by decide) (by decide)
  · rw [if_neg hc2] at hF
    refine own_Goes.via (B := T.setTop (mkF m 10 #[.val (.int v0), .val (.int v1)] [(.int v0)])) (fun t k => ?_) ?_
    · show Steps p.tables e below (T.setTop (mkF m 2 #[.val (.int v0), .val (.int v1)] [(.int v1), (.int v0)])) t
      refine XS.icmpNo X.here hx rfl (hb hby dMath_max_2) rfl (flt hc2).1 ?_
      show Steps p.tables e below (T.setTop (mkF m 5 #[.val (.int v0), .val (.int v1)] [])) t
      refine XS.iloadN X.here hx rfl (hb hby dMath_max_5) rfl ?_
      show Steps p.tables e below (T.setTop (mkF m 6 #[.val (.int v0), .val (.int v1)] [(.int v0)])) t
      refine XS.goto X.here hx rfl (pc0 := 6) (pc' := 10) rfl (hb hby dMath_max_6) (by decide) (by decide) ?_
      exact k
    obtain rfl : v0 = r := Option.some.inj hF
    exact own_retI X hx hret hlk (hb hby dMath_max_10) eT ⟨rfl, N, rfl⟩ (by decide) (by decide)
theorem ef_Math_max (m : MethodId) (x0 : Int32) (x1 : Int32) : entryFrame m #[(.int x0), (.int x1)] 2 = mkF m 0 #[.val (.int x0), .val (.int x1)] [] := by first | (simp [entryFrame, mkF, argsToLocals, Value.category]; done) | rfl
set_option maxRecDepth 65536 in
set_option maxHeartbeats 4000000 in
theorem rm_Math_max (l : Launch) (Z : State) (a0 : Array Value) (hw : ∀ d ∈ tables_1, d.before a0 Z = true) (ws : List Jvm.Cond) (hE : Heap) (n0 : Nat) (z : n0 ≤ hE.size)  (v0 : Int32) (v1 : Int32) (r : Int32) (hF : (f_Math_max v0 v1) = some r) :
    MetFree l (⟨"java/lang/Math", "max", "(II)I"⟩ : MethodName) (head1 (Jvm.Cond.code (⟨"java/lang/Math", "max", "(II)I"⟩ : MethodName) jdk_29_method_65_code 2 (some .int) :: ws) ({ frames := 0, cells := 0, slots := 0, locals := 0 } : Room)) (fun a U => a = #[(.int v0), (.int v1)] ∧ Z.Warmed39 U.vm ∧ U.heap = hE) (fun _ _ _ _ _ => True) (fun _ U o U' => ∃ v L, o = .returned v ∧ (Q_Math_max Z hE n0 r) v U'.heap L ∧ FrameEnd U o U' L ({ frames := 0, cells := 0, slots := 0, locals := 0 } : Room).cells ({ frames := 0, cells := 0, slots := 0, locals := 0 } : Room).slots) := by
  refine MetFree.of_bodySF (Jvm.Free.JP.mathPlain rfl (by decide +kernel)) hisR ?_
  intro p e s m args below meth c s₁ Bd hml0 hP hK
  obtain ⟨rfl, hZ, hh⟩ := hP
  have X0 : Stand p l e ({ frames := 0, cells := 0, slots := 0, locals := 0 } : Room) s m #[(.int v0), (.int v1)] below meth c s₁ [] 0 0 := Stand.of_body Bd
  have e0 : s₁.heap = hE := by rw [← hh, Bd.state]; rfl
  have cx : Cx_Math_max p s m meth c Z a0 := ⟨Bd.exec, hZ, hw, Bd.bytes, hml0, findClass_of_methodNamed Bd.named, Bd.returns, Bd.notSynchronized, (name_of_methodNamed Bd.named Bd.method).1⟩
  show own_Goes p e below s (Q_Math_max Z hE n0 r) ({ frames := 0, cells := 0, slots := 0, locals := 0 } : Room).cells ({ frames := 0, cells := 0, slots := 0, locals := 0 } : Room).slots (s₁.setTop (entryFrame m #[(.int v0), (.int v1)] 2))
  rw [ef_Math_max]
  exact b_Math_max cx X0 e0 (Fr.nil n0) z v0 v1 _ hF
/-! java/lang/Math.min:(JJ)J -/
def f_Math_min (v0 : Int64) (v2 : Int64) : Option (Int64) :=
  if v2 < v0 then
    some v2
  else
    some v0
def Q_Math_min (Z : State) (hE : Heap) (n0 : Nat)  (r : Int64) (v : Option Value) (h : Heap) (L : List Loc) : Prop := v = some (.long r) ∧ Fr n0 L ∧ h = hE
def Cx_Math_min (p : Program) (s : State) (m : MethodId) (meth : Method) (c : Code) (Z : State) (a0 : Array Value) : Prop := p.tables.exec = Jvm.exec ∧ Z.Warmed39 s.vm ∧ (∀ d ∈ tables_1, d.before a0 Z = true) ∧ c.code = jdk_29_method_70_code ∧ c.maxLocals = 4 ∧ s.vm.findClass "java/lang/Math" = some m.cls ∧ meth.sig.returnType = some .long ∧ meth.locks = false ∧ meth.name = "min"
set_option maxRecDepth 65536 in
set_option maxHeartbeats 4000000 in
theorem b_Math_min {p : Program} {l : Launch} {e : Env} {s : State} {m : MethodId} {args : Array Value} {below : List Frame} {meth : Method} {c : Code} {Z : State} {a0 : Array Value} {n0 : Nat} {hE : Heap} (cx : Cx_Math_min p s m meth c Z a0) :
    ∀ {T : State} {locs : List Loc} (X : Stand p l e ({ frames := 0, cells := 0, slots := 0, locals := 0 } : Room) s m args below meth c T locs 0 0) (eT : T.heap = hE) (N : Fr n0 locs) (z : n0 ≤ hE.size) (v0 : Int64) (v2 : Int64) (r : Int64), f_Math_min v0 v2 = some r → own_Goes p e below s (Q_Math_min Z hE n0 r) 0 0 (T.setTop (mkF m 0 #[.val (.long v0), .second, .val (.long v2), .second] [])) := by
  have cx' := cx
  obtain ⟨hx, hZ, hw, hby, hml, hown, hret, hlk, hnm⟩ := cx'
  intro T locs X eT N z v0 v2 r hF
  unfold f_Math_min at hF
  refine own_Goes.via (B := T.setTop (mkF m 3 #[.val (.long v0), .second, .val (.long v2), .second] [(.int (lcmpW v0 v2))])) (fun t k => ?_) ?_
  · show Steps p.tables e below (T.setTop (mkF m 0 #[.val (.long v0), .second, .val (.long v2), .second] [])) t
    refine XS.lloadN X.here hx rfl (hb hby dMath_min_0) rfl ?_
    show Steps p.tables e below (T.setTop (mkF m 1 #[.val (.long v0), .second, .val (.long v2), .second] [(.long v0)])) t
    refine XS.lloadN X.here hx rfl (hb hby dMath_min_1) rfl ?_
    show Steps p.tables e below (T.setTop (mkF m 2 #[.val (.long v0), .second, .val (.long v2), .second] [(.long v2), (.long v0)])) t
    refine XS.lcmp X.here hx rfl (hb hby dMath_min_2) rfl ?_
    exact k
  by_cases hc3 : v2 < v0
  · rw [if_pos hc3] at hF
    refine own_Goes.via (B := T.setTop (mkF m 11 #[.val (.long v0), .second, .val (.long v2), .second] [(.long v2)])) (fun t k => ?_) ?_
    · show Steps p.tables e below (T.setTop (mkF m 3 #[.val (.long v0), .second, .val (.long v2), .second] [(.int (lcmpW v0 v2))])) t
      refine XS.ifYes X.here hx rfl (pc0 := 3) (pc' := 10) rfl (hb hby dMath_min_3) rfl (own_tgtL hc3).1 (by decide) (by decide) ?_
      show Steps p.tables e below (T.setTop (mkF m 10 #[.val (.long v0), .second, .val (.long v2), .second] [])) t
      refine XS.lloadN X.here hx rfl (hb hby dMath_min_10) rfl ?_
      exact k
    obtain rfl : v2 = r := Option.some.inj hF
    exact own_retJ X hx hret hlk (hb hby dMath_min_11) eT ⟨rfl, N, rfl⟩ (by decide) (by decide)
  · rw [if_neg hc3] at hF
    refine own_Goes.via (B := T.setTop (mkF m 11 #[.val (.long v0), .second, .val (.long v2), .second] [(.long v0)])) (fun t k => ?_) ?_
    · show Steps p.tables e below (T.setTop (mkF m 3 #[.val (.long v0), .second, .val (.long v2), .second] [(.int (lcmpW v0 v2))])) t
      refine XS.ifNo X.here hx rfl (hb hby dMath_min_3) rfl (own_fgtL hc3).1 ?_
      show Steps p.tables e below (T.setTop (mkF m 6 #[.val (.long v0), .second, .val (.long v2), .second] [])) t
      refine XS.lloadN X.here hx rfl (hb hby dMath_min_6) rfl ?_
      show Steps p.tables e below (T.setTop (mkF m 7 #[.val (.long v0), .second, .val (.long v2), .second] [(.long v0)])) t
      refine XS.goto X.here hx rfl (pc0 := 7) (pc' := 11) rfl (hb hby dMath_min_7) (by decide) (by decide) ?_
      exact k
    obtain rfl : v0 = r := Option.some.inj hF
    exact own_retJ X hx hret hlk (hb hby dMath_min_11) eT ⟨rfl, N, rfl⟩ (by decide) (by decide)
theorem ef_Math_min (m : MethodId) (x0 : Int64) (x1 : Int64) : entryFrame m #[(.long x0), (.long x1)] 4 = mkF m 0 #[.val (.long x0), .second, .val (.long x1), .second] [] := by first | (simp [entryFrame, mkF, argsToLocals, Value.category]; done) | rfl
set_option maxRecDepth 65536 in
set_option maxHeartbeats 4000000 in
theorem rm_Math_min (l : Launch) (Z : State) (a0 : Array Value) (hw : ∀ d ∈ tables_1, d.before a0 Z = true) (ws : List Jvm.Cond) (hE : Heap) (n0 : Nat) (z : n0 ≤ hE.size)  (v0 : Int64) (v2 : Int64) (r : Int64) (hF : (f_Math_min v0 v2) = some r) :
    MetFree l (⟨"java/lang/Math", "min", "(JJ)J"⟩ : MethodName) (head1 (Jvm.Cond.code (⟨"java/lang/Math", "min", "(JJ)J"⟩ : MethodName) jdk_29_method_70_code 4 (some .long) :: ws) ({ frames := 0, cells := 0, slots := 0, locals := 0 } : Room)) (fun a U => a = #[(.long v0), (.long v2)] ∧ Z.Warmed39 U.vm ∧ U.heap = hE) (fun _ _ _ _ _ => True) (fun _ U o U' => ∃ v L, o = .returned v ∧ (Q_Math_min Z hE n0 r) v U'.heap L ∧ FrameEnd U o U' L ({ frames := 0, cells := 0, slots := 0, locals := 0 } : Room).cells ({ frames := 0, cells := 0, slots := 0, locals := 0 } : Room).slots) := by
  refine MetFree.of_bodySF (Jvm.Free.JP.mathPlain rfl (by decide +kernel)) hisR ?_
  intro p e s m args below meth c s₁ Bd hml0 hP hK
  obtain ⟨rfl, hZ, hh⟩ := hP
  have X0 : Stand p l e ({ frames := 0, cells := 0, slots := 0, locals := 0 } : Room) s m #[(.long v0), (.long v2)] below meth c s₁ [] 0 0 := Stand.of_body Bd
  have e0 : s₁.heap = hE := by rw [← hh, Bd.state]; rfl
  have cx : Cx_Math_min p s m meth c Z a0 := ⟨Bd.exec, hZ, hw, Bd.bytes, hml0, findClass_of_methodNamed Bd.named, Bd.returns, Bd.notSynchronized, (name_of_methodNamed Bd.named Bd.method).1⟩
  show own_Goes p e below s (Q_Math_min Z hE n0 r) ({ frames := 0, cells := 0, slots := 0, locals := 0 } : Room).cells ({ frames := 0, cells := 0, slots := 0, locals := 0 } : Room).slots (s₁.setTop (entryFrame m #[(.long v0), (.long v2)] 4))
  rw [ef_Math_min]
  exact b_Math_min cx X0 e0 (Fr.nil n0) z v0 v2 _ hF
/-! com/example/expire/expire/BatchSize.holding:(I)I -/
def f_BatchSize_holding (v1 : Int32) (f_a1_examined : Int64) (f_a1_removed : Int64) (f_a1_rows : Int32) : Option (Int32) :=
  if v1 < f_a1_rows then
    if f_a1_removed = (0 : Int64) then
      some f_a1_rows
    else
      if ((2 : Int64) * f_a1_removed) < f_a1_examined then
        own_ck (¬ f_a1_removed = (0 : Int64)) <|
        own_lt (((((v1.toInt64) * f_a1_examined) + f_a1_removed) - (1 : Int64)) / f_a1_removed) fun x68 =>
        own_lt (f_a1_rows.toInt64) fun x70 =>
        own_bd (f_Math_min x70 x68) fun r71 =>
        some (r71.toInt32)
      else
        some v1
  else
    some f_a1_rows
def Q_BatchSize_holding (Z : State) (hE : Heap) (n0 : Nat) (a1 : Addr) (r : Int32) (v : Option Value) (h : Heap) (L : List Loc) : Prop := v = some (.int r) ∧ Fr n0 L ∧ h = hE
def Cx_BatchSize_holding (p : Program) (s : State) (m : MethodId) (meth : Method) (c : Code) (Z : State) (a0 : Array Value) : Prop := p.tables.exec = Jvm.exec ∧ Z.Warmed39 s.vm ∧ (∀ d ∈ tables_1, d.before a0 Z = true) ∧ c.code = prog_2_method_3_code ∧ c.maxLocals = 4 ∧ s.vm.findClass "com/example/expire/expire/BatchSize" = some m.cls ∧ meth.sig.returnType = some .int ∧ meth.locks = false ∧ meth.name = "holding"
set_option maxRecDepth 65536 in
set_option maxHeartbeats 4000000 in
theorem b_BatchSize_holding {p : Program} {l : Launch} {e : Env} {s : State} {m : MethodId} {args : Array Value} {below : List Frame} {meth : Method} {c : Code} {Z : State} {a0 : Array Value} {n0 : Nat} {hE : Heap} (cx : Cx_BatchSize_holding p s m meth c Z a0) (a1 : Addr) :
    ∀ {T : State} {locs : List Loc} (X : Stand p l e ({ frames := 1, cells := 0, slots := 0, locals := 15 } : Room) s m args below meth c T locs 0 0) (eT : T.heap = hE) (N : Fr n0 locs) (z : n0 ≤ hE.size) (v1 : Int32) (f_a1_examined : Int64) (f_a1_removed : Int64) (f_a1_rows : Int32) (E_a1 : Exa Z hE a1 "com/example/expire/expire/BatchSize") (F_a1_examined : Fld Z hE a1 "com/example/expire/expire/BatchSize" "examined" "J" (.long f_a1_examined)) (F_a1_removed : Fld Z hE a1 "com/example/expire/expire/BatchSize" "removed" "J" (.long f_a1_removed)) (F_a1_rows : Fld Z hE a1 "com/example/expire/expire/BatchSize" "rows" "I" (.int f_a1_rows)) (g_a1 : n0 ≤ a1) (r : Int32), f_BatchSize_holding v1 f_a1_examined f_a1_removed f_a1_rows = some r → own_Goes p e below s (Q_BatchSize_holding Z hE n0 a1 r) 0 0 (T.setTop (mkF m 0 #[.val (.ref a1), .val (.int v1), .unset, .unset] [])) := by
  have cx' := cx
  obtain ⟨hx, hZ, hw, hby, hml, hown, hret, hlk, hnm⟩ := cx'
  intro T locs X eT N z v1 f_a1_examined f_a1_removed f_a1_rows E_a1 F_a1_examined F_a1_removed F_a1_rows g_a1 r hF
  unfold f_BatchSize_holding at hF
  refine own_Goes.via (B := T.setTop (mkF m 2 #[.val (.ref a1), .val (.int v1), .unset, .unset] [(.ref a1), (.int v1)])) (fun t k => ?_) ?_
  · show Steps p.tables e below (T.setTop (mkF m 0 #[.val (.ref a1), .val (.int v1), .unset, .unset] [])) t
    refine XS.iloadN X.here hx rfl (hb hby dBatchSize_holding_0) rfl ?_
    show Steps p.tables e below (T.setTop (mkF m 1 #[.val (.ref a1), .val (.int v1), .unset, .unset] [(.int v1)])) t
    refine XS.aloadN X.here hx rfl (hb hby dBatchSize_holding_1) rfl rfl ?_
    exact k
  obtain ⟨T60, X60, e60, st60⟩ := getF X hx hZ hown (host := "") (Or.inl (w9 hw)) Via.refl eT F_a1_rows (g := (mkF m 2 #[.val (.ref a1), .val (.int v1), .unset, .unset] [(.ref a1), (.int v1)])) rfl rfl (hb hby dBatchSize_holding_2)
  refine own_Goes.via st60 ?_
  show own_Goes _ _ _ _ _ _ _ (T60.setTop (mkF m 5 #[.val (.ref a1), .val (.int v1), .unset, .unset] [(.int f_a1_rows), (.int v1)]))
  by_cases hc5 : v1 < f_a1_rows
  · rw [if_pos hc5] at hF
    refine own_Goes.via (B := T60.setTop (mkF m 9 #[.val (.ref a1), .val (.int v1), .unset, .unset] [(.ref a1)])) (fun t k => ?_) ?_
    · show Steps p.tables e below (T60.setTop (mkF m 5 #[.val (.ref a1), .val (.int v1), .unset, .unset] [(.int f_a1_rows), (.int v1)])) t
      refine XS.icmpNo X60.here hx rfl (hb hby dBatchSize_holding_5) rfl (tlt hc5).2.1 ?_
      show Steps p.tables e below (T60.setTop (mkF m 8 #[.val (.ref a1), .val (.int v1), .unset, .unset] [])) t
      refine XS.aloadN X60.here hx rfl (hb hby dBatchSize_holding_8) rfl rfl ?_
      exact k
    obtain ⟨T61, X61, e61, st61⟩ := getF X60 hx hZ hown (host := "") (Or.inl (w19 hw)) Via.refl e60 F_a1_removed (g := (mkF m 9 #[.val (.ref a1), .val (.int v1), .unset, .unset] [(.ref a1)])) rfl rfl (hb hby dBatchSize_holding_9)
    refine own_Goes.via st61 ?_
    show own_Goes _ _ _ _ _ _ _ (T61.setTop (mkF m 12 #[.val (.ref a1), .val (.int v1), .unset, .unset] [(.long f_a1_removed)]))
    refine own_Goes.via (B := T61.setTop (mkF m 14 #[.val (.ref a1), .val (.int v1), .unset, .unset] [(.int (lcmpW f_a1_removed (0 : Int64)))])) (fun t k => ?_) ?_
    · show Steps p.tables e below (T61.setTop (mkF m 12 #[.val (.ref a1), .val (.int v1), .unset, .unset] [(.long f_a1_removed)])) t
      refine XS.lconst X61.here hx rfl (hb hby dBatchSize_holding_12) ?_
      show Steps p.tables e below (T61.setTop (mkF m 13 #[.val (.ref a1), .val (.int v1), .unset, .unset] [(.long (0 : Int64)), (.long f_a1_removed)])) t
      refine XS.lcmp X61.here hx rfl (hb hby dBatchSize_holding_13) rfl ?_
      exact k
    by_cases hc14 : f_a1_removed = (0 : Int64)
    · rw [if_pos hc14] at hF
      refine own_Goes.via (B := T61.setTop (mkF m 18 #[.val (.ref a1), .val (.int v1), .unset, .unset] [(.ref a1)])) (fun t k => ?_) ?_
      · show Steps p.tables e below (T61.setTop (mkF m 14 #[.val (.ref a1), .val (.int v1), .unset, .unset] [(.int (lcmpW f_a1_removed (0 : Int64)))])) t
        refine XS.ifNo X61.here hx rfl (hb hby dBatchSize_holding_14) rfl (own_teqL hc14).2 ?_
        show Steps p.tables e below (T61.setTop (mkF m 17 #[.val (.ref a1), .val (.int v1), .unset, .unset] [])) t
        refine XS.aloadN X61.here hx rfl (hb hby dBatchSize_holding_17) rfl rfl ?_
        exact k
      obtain ⟨T62, X62, e62, st62⟩ := getF X61 hx hZ hown (host := "") (Or.inl (w9 hw)) Via.refl e61 F_a1_rows (g := (mkF m 18 #[.val (.ref a1), .val (.int v1), .unset, .unset] [(.ref a1)])) rfl rfl (hb hby dBatchSize_holding_18)
      refine own_Goes.via st62 ?_
      show own_Goes _ _ _ _ _ _ _ (T62.setTop (mkF m 21 #[.val (.ref a1), .val (.int v1), .unset, .unset] [(.int f_a1_rows)]))
      obtain rfl : f_a1_rows = r := Option.some.inj hF
      exact own_retI X62 hx hret hlk (hb hby dBatchSize_holding_21) e62 ⟨rfl, N, rfl⟩ (by decide) (by decide)
    · rw [if_neg hc14] at hF
      refine own_Goes.via (B := T61.setTop (mkF m 26 #[.val (.ref a1), .val (.int v1), .unset, .unset] [(.ref a1), (.long (2 : Int64))])) (fun t k => ?_) ?_
      · show Steps p.tables e below (T61.setTop (mkF m 14 #[.val (.ref a1), .val (.int v1), .unset, .unset] [(.int (lcmpW f_a1_removed (0 : Int64)))])) t
        refine XS.ifYes X61.here hx rfl (pc0 := 14) (pc' := 22) rfl (hb hby dBatchSize_holding_14) rfl (own_feqL hc14).2 (by decide) (by decide) ?_
        show Steps p.tables e below (T61.setTop (mkF m 22 #[.val (.ref a1), .val (.int v1), .unset, .unset] [])) t
        refine X61.ldc2Long hx hown (mvT hZ (w45 hw)) (g := (mkF m 22 #[.val (.ref a1), .val (.int v1), .unset, .unset] [])) rfl (hb hby dBatchSize_holding_22) _ ?_
        show Steps p.tables e below (T61.setTop (mkF m 25 #[.val (.ref a1), .val (.int v1), .unset, .unset] [(.long (2 : Int64))])) t
        refine XS.aloadN X61.here hx rfl (hb hby dBatchSize_holding_25) rfl rfl ?_
        exact k
      obtain ⟨T63, X63, e63, st63⟩ := getF X61 hx hZ hown (host := "") (Or.inl (w19 hw)) Via.refl e61 F_a1_removed (g := (mkF m 26 #[.val (.ref a1), .val (.int v1), .unset, .unset] [(.ref a1), (.long (2 : Int64))])) rfl rfl (hb hby dBatchSize_holding_26)
      refine own_Goes.via st63 ?_
      show own_Goes _ _ _ _ _ _ _ (T63.setTop (mkF m 29 #[.val (.ref a1), .val (.int v1), .unset, .unset] [(.long f_a1_removed), (.long (2 : Int64))]))
      refine own_Goes.via (B := T63.setTop (mkF m 31 #[.val (.ref a1), .val (.int v1), .unset, .unset] [(.ref a1), (.long ((2 : Int64) * f_a1_removed))])) (fun t k => ?_) ?_
      · show Steps p.tables e below (T63.setTop (mkF m 29 #[.val (.ref a1), .val (.int v1), .unset, .unset] [(.long f_a1_removed), (.long (2 : Int64))])) t
        refine XS.lmul X63.here hx rfl (hb hby dBatchSize_holding_29) rfl ?_
        show Steps p.tables e below (T63.setTop (mkF m 30 #[.val (.ref a1), .val (.int v1), .unset, .unset] [(.long ((2 : Int64) * f_a1_removed))])) t
        refine XS.aloadN X63.here hx rfl (hb hby dBatchSize_holding_30) rfl rfl ?_
        exact k
      obtain ⟨T64, X64, e64, st64⟩ := getF X63 hx hZ hown (host := "") (Or.inl (w17 hw)) Via.refl e63 F_a1_examined (g := (mkF m 31 #[.val (.ref a1), .val (.int v1), .unset, .unset] [(.ref a1), (.long ((2 : Int64) * f_a1_removed))])) rfl rfl (hb hby dBatchSize_holding_31)
      refine own_Goes.via st64 ?_
      show own_Goes _ _ _ _ _ _ _ (T64.setTop (mkF m 34 #[.val (.ref a1), .val (.int v1), .unset, .unset] [(.long f_a1_examined), (.long ((2 : Int64) * f_a1_removed))]))
      refine own_Goes.via (B := T64.setTop (mkF m 35 #[.val (.ref a1), .val (.int v1), .unset, .unset] [(.int (lcmpW ((2 : Int64) * f_a1_removed) f_a1_examined))])) (fun t k => ?_) ?_
      · show Steps p.tables e below (T64.setTop (mkF m 34 #[.val (.ref a1), .val (.int v1), .unset, .unset] [(.long f_a1_examined), (.long ((2 : Int64) * f_a1_removed))])) t
        refine XS.lcmp X64.here hx rfl (hb hby dBatchSize_holding_34) rfl ?_
        exact k
      by_cases hc35 : ((2 : Int64) * f_a1_removed) < f_a1_examined
      · rw [if_pos hc35] at hF
        refine own_Goes.via (B := T64.setTop (mkF m 43 #[.val (.ref a1), .val (.int v1), .unset, .unset] [(.ref a1), (.long (v1.toInt64))])) (fun t k => ?_) ?_
        · show Steps p.tables e below (T64.setTop (mkF m 35 #[.val (.ref a1), .val (.int v1), .unset, .unset] [(.int (lcmpW ((2 : Int64) * f_a1_removed) f_a1_examined))])) t
          refine XS.ifYes X64.here hx rfl (pc0 := 35) (pc' := 40) rfl (hb hby dBatchSize_holding_35) rfl (own_tltL hc35).1 (by decide) (by decide) ?_
          show Steps p.tables e below (T64.setTop (mkF m 40 #[.val (.ref a1), .val (.int v1), .unset, .unset] [])) t
          refine XS.iloadN X64.here hx rfl (hb hby dBatchSize_holding_40) rfl ?_
          show Steps p.tables e below (T64.setTop (mkF m 41 #[.val (.ref a1), .val (.int v1), .unset, .unset] [(.int v1)])) t
          refine XS.i2l X64.here hx rfl (hb hby dBatchSize_holding_41) rfl ?_
          show Steps p.tables e below (T64.setTop (mkF m 42 #[.val (.ref a1), .val (.int v1), .unset, .unset] [(.long (v1.toInt64))])) t
          refine XS.aloadN X64.here hx rfl (hb hby dBatchSize_holding_42) rfl rfl ?_
          exact k
        obtain ⟨T65, X65, e65, st65⟩ := getF X64 hx hZ hown (host := "") (Or.inl (w17 hw)) Via.refl e64 F_a1_examined (g := (mkF m 43 #[.val (.ref a1), .val (.int v1), .unset, .unset] [(.ref a1), (.long (v1.toInt64))])) rfl rfl (hb hby dBatchSize_holding_43)
        refine own_Goes.via st65 ?_
        show own_Goes _ _ _ _ _ _ _ (T65.setTop (mkF m 46 #[.val (.ref a1), .val (.int v1), .unset, .unset] [(.long f_a1_examined), (.long (v1.toInt64))]))
        refine own_Goes.via (B := T65.setTop (mkF m 48 #[.val (.ref a1), .val (.int v1), .unset, .unset] [(.ref a1), (.long ((v1.toInt64) * f_a1_examined))])) (fun t k => ?_) ?_
        · show Steps p.tables e below (T65.setTop (mkF m 46 #[.val (.ref a1), .val (.int v1), .unset, .unset] [(.long f_a1_examined), (.long (v1.toInt64))])) t
          refine XS.lmul X65.here hx rfl (hb hby dBatchSize_holding_46) rfl ?_
          show Steps p.tables e below (T65.setTop (mkF m 47 #[.val (.ref a1), .val (.int v1), .unset, .unset] [(.long ((v1.toInt64) * f_a1_examined))])) t
          refine XS.aloadN X65.here hx rfl (hb hby dBatchSize_holding_47) rfl rfl ?_
          exact k
        obtain ⟨T66, X66, e66, st66⟩ := getF X65 hx hZ hown (host := "") (Or.inl (w19 hw)) Via.refl e65 F_a1_removed (g := (mkF m 48 #[.val (.ref a1), .val (.int v1), .unset, .unset] [(.ref a1), (.long ((v1.toInt64) * f_a1_examined))])) rfl rfl (hb hby dBatchSize_holding_48)
        refine own_Goes.via st66 ?_
        show own_Goes _ _ _ _ _ _ _ (T66.setTop (mkF m 51 #[.val (.ref a1), .val (.int v1), .unset, .unset] [(.long f_a1_removed), (.long ((v1.toInt64) * f_a1_examined))]))
        refine own_Goes.via (B := T66.setTop (mkF m 55 #[.val (.ref a1), .val (.int v1), .unset, .unset] [(.ref a1), (.long ((((v1.toInt64) * f_a1_examined) + f_a1_removed) - (1 : Int64)))])) (fun t k => ?_) ?_
        · show Steps p.tables e below (T66.setTop (mkF m 51 #[.val (.ref a1), .val (.int v1), .unset, .unset] [(.long f_a1_removed), (.long ((v1.toInt64) * f_a1_examined))])) t
          refine XS.ladd X66.here hx rfl (hb hby dBatchSize_holding_51) rfl ?_
          show Steps p.tables e below (T66.setTop (mkF m 52 #[.val (.ref a1), .val (.int v1), .unset, .unset] [(.long (((v1.toInt64) * f_a1_examined) + f_a1_removed))])) t
          refine XS.lconst X66.here hx rfl (hb hby dBatchSize_holding_52) ?_
          show Steps p.tables e below (T66.setTop (mkF m 53 #[.val (.ref a1), .val (.int v1), .unset, .unset] [(.long (1 : Int64)), (.long (((v1.toInt64) * f_a1_examined) + f_a1_removed))])) t
          refine XS.lsub X66.here hx rfl (hb hby dBatchSize_holding_53) rfl ?_
          show Steps p.tables e below (T66.setTop (mkF m 54 #[.val (.ref a1), .val (.int v1), .unset, .unset] [(.long ((((v1.toInt64) * f_a1_examined) + f_a1_removed) - (1 : Int64)))])) t
          refine XS.aloadN X66.here hx rfl (hb hby dBatchSize_holding_54) rfl rfl ?_
          exact k
        obtain ⟨T67, X67, e67, st67⟩ := getF X66 hx hZ hown (host := "") (Or.inl (w19 hw)) Via.refl e66 F_a1_removed (g := (mkF m 55 #[.val (.ref a1), .val (.int v1), .unset, .unset] [(.ref a1), (.long ((((v1.toInt64) * f_a1_examined) + f_a1_removed) - (1 : Int64)))])) rfl rfl (hb hby dBatchSize_holding_55)
        refine own_Goes.via st67 ?_
        show own_Goes _ _ _ _ _ _ _ (T67.setTop (mkF m 58 #[.val (.ref a1), .val (.int v1), .unset, .unset] [(.long f_a1_removed), (.long ((((v1.toInt64) * f_a1_examined) + f_a1_removed) - (1 : Int64)))]))
        obtain ⟨hz58, hF⟩ := own_ck_e hF
        refine own_Goes.via (B := T67.setTop (mkF m 59 #[.val (.ref a1), .val (.int v1), .unset, .unset] [(.long (((((v1.toInt64) * f_a1_examined) + f_a1_removed) - (1 : Int64)) / f_a1_removed))])) (fun t k => ?_) ?_
        · show Steps p.tables e below (T67.setTop (mkF m 58 #[.val (.ref a1), .val (.int v1), .unset, .unset] [(.long f_a1_removed), (.long ((((v1.toInt64) * f_a1_examined) + f_a1_removed) - (1 : Int64)))])) t
          refine XS.ldiv X67.here hx rfl (hb hby dBatchSize_holding_58) rfl hz58 ?_
          exact k
        obtain ⟨x68, hx68, hF⟩ := own_lt_e hF
        rw [← hx68]
        refine own_Goes.via (B := T67.setTop (mkF m 61 #[.val (.ref a1), .val (.int v1), .val (.long x68), .second] [(.ref a1)])) (fun t k => ?_) ?_
        · show Steps p.tables e below (T67.setTop (mkF m 59 #[.val (.ref a1), .val (.int v1), .unset, .unset] [(.long x68)])) t
          refine XS.lstoreN X67.here hx rfl (hb hby dBatchSize_holding_59) rfl (l' := #[.val (.ref a1), .val (.int v1), .val (.long x68), .second]) rfl ?_
          show Steps p.tables e below (T67.setTop (mkF m 60 #[.val (.ref a1), .val (.int v1), .val (.long x68), .second] [])) t
          refine XS.aloadN X67.here hx rfl (hb hby dBatchSize_holding_60) rfl rfl ?_
          exact k
        obtain ⟨T69, X69, e69, st69⟩ := getF X67 hx hZ hown (host := "") (Or.inl (w9 hw)) Via.refl e67 F_a1_rows (g := (mkF m 61 #[.val (.ref a1), .val (.int v1), .val (.long x68), .second] [(.ref a1)])) rfl rfl (hb hby dBatchSize_holding_61)
        refine own_Goes.via st69 ?_
        show own_Goes _ _ _ _ _ _ _ (T69.setTop (mkF m 64 #[.val (.ref a1), .val (.int v1), .val (.long x68), .second] [(.int f_a1_rows)]))
        refine own_Goes.via (B := T69.setTop (mkF m 66 #[.val (.ref a1), .val (.int v1), .val (.long x68), .second] [(.long x68), (.long (f_a1_rows.toInt64))])) (fun t k => ?_) ?_
        · show Steps p.tables e below (T69.setTop (mkF m 64 #[.val (.ref a1), .val (.int v1), .val (.long x68), .second] [(.int f_a1_rows)])) t
          refine XS.i2l X69.here hx rfl (hb hby dBatchSize_holding_64) rfl ?_
          show Steps p.tables e below (T69.setTop (mkF m 65 #[.val (.ref a1), .val (.int v1), .val (.long x68), .second] [(.long (f_a1_rows.toInt64))])) t
          refine XS.lloadN X69.here hx rfl (hb hby dBatchSize_holding_65) rfl ?_
          exact k
        obtain ⟨x70, hx70, hF⟩ := own_lt_e hF
        rw [← hx70]
        obtain ⟨r71, hr71, hF⟩ := own_bd_e hF
        obtain ⟨_, _, ⟨T71, L71, k71, n71⟩, -, X71, ⟨Lc71, hQ71, l71, y71, z71⟩, st71⟩ := Jvm.LawKit.callS X69 hx (y := (⟨"java/lang/Math", "min", "(JJ)J"⟩ : MethodName)) hown (mvT hZ (w46 hw)) (mvT hZ (w47 hw)) (mvT hZ (w28 hw)) (mvT hZ (w48 hw)) (by decide) (backOf (W := 0) (rm_Math_min l Z a0 hw [] hE n0 z x70 x68 r71 hr71) hZ (w48 hw) (w28 hw) (by decide) (by decide)) (g := (mkF m 66 #[.val (.ref a1), .val (.int v1), .val (.long x68), .second] [(.long x68), (.long x70)])) rfl (by rw [hml]; rfl) (argsL := [(.long x70), (.long x68)]) (rest := []) (lenOf pd_3 rfl) rfl (by show 2 * 0 + _ ≤ _; exact Nat.le_of_eq rfl) (hb hby dBatchSize_holding_66) (fun _ _ => ⟨rfl, e69, (by decide : 0 + 0 ≤ _), (by decide : 0 + 0 ≤ _)⟩)
        dsimp only [Pt.U, Pt.locs, Pt.cells, Pt.slots] at X71 l71 y71 z71 st71 hQ71
        subst l71 y71 z71
        obtain ⟨rfl, N71q, e71⟩ := hQ71
        have N71 := Fr.app N N71q
        refine own_Goes.via st71 ?_
        show own_Goes _ _ _ _ _ _ _ (T71.setTop (mkF m 69 #[.val (.ref a1), .val (.int v1), .val (.long x68), .second] [(.long r71)]))
        refine own_Goes.via (B := T71.setTop (mkF m 70 #[.val (.ref a1), .val (.int v1), .val (.long x68), .second] [(.int (r71.toInt32))])) (fun t k => ?_) ?_
        · show Steps p.tables e below (T71.setTop (mkF m 69 #[.val (.ref a1), .val (.int v1), .val (.long x68), .second] [(.long r71)])) t
          refine XS.l2i X71.here hx rfl (hb hby dBatchSize_holding_69) rfl ?_
          exact k
        obtain rfl : (r71.toInt32) = r := Option.some.inj hF
        exact own_retI X71 hx hret hlk (hb hby dBatchSize_holding_70) e71 ⟨rfl, N71, rfl⟩ (by decide) (by decide)
      · rw [if_neg hc35] at hF
        refine own_Goes.via (B := T64.setTop (mkF m 39 #[.val (.ref a1), .val (.int v1), .unset, .unset] [(.int v1)])) (fun t k => ?_) ?_
        · show Steps p.tables e below (T64.setTop (mkF m 35 #[.val (.ref a1), .val (.int v1), .unset, .unset] [(.int (lcmpW ((2 : Int64) * f_a1_removed) f_a1_examined))])) t
          refine XS.ifNo X64.here hx rfl (hb hby dBatchSize_holding_35) rfl (own_fltL hc35).1 ?_
          show Steps p.tables e below (T64.setTop (mkF m 38 #[.val (.ref a1), .val (.int v1), .unset, .unset] [])) t
          refine XS.iloadN X64.here hx rfl (hb hby dBatchSize_holding_38) rfl ?_
          exact k
        obtain rfl : v1 = r := Option.some.inj hF
        exact own_retI X64 hx hret hlk (hb hby dBatchSize_holding_39) e64 ⟨rfl, N, rfl⟩ (by decide) (by decide)
  · rw [if_neg hc5] at hF
    refine own_Goes.via (B := T60.setTop (mkF m 18 #[.val (.ref a1), .val (.int v1), .unset, .unset] [(.ref a1)])) (fun t k => ?_) ?_
    · show Steps p.tables e below (T60.setTop (mkF m 5 #[.val (.ref a1), .val (.int v1), .unset, .unset] [(.int f_a1_rows), (.int v1)])) t
      refine XS.icmpYes X60.here hx rfl (pc0 := 5) (pc' := 17) rfl (hb hby dBatchSize_holding_5) rfl (flt hc5).2.1 (by decide) (by decide) ?_
      show Steps p.tables e below (T60.setTop (mkF m 17 #[.val (.ref a1), .val (.int v1), .unset, .unset] [])) t
      refine XS.aloadN X60.here hx rfl (hb hby dBatchSize_holding_17) rfl rfl ?_
      exact k
    obtain ⟨T72, X72, e72, st72⟩ := getF X60 hx hZ hown (host := "") (Or.inl (w9 hw)) Via.refl e60 F_a1_rows (g := (mkF m 18 #[.val (.ref a1), .val (.int v1), .unset, .unset] [(.ref a1)])) rfl rfl (hb hby dBatchSize_holding_18)
    refine own_Goes.via st72 ?_
    show own_Goes _ _ _ _ _ _ _ (T72.setTop (mkF m 21 #[.val (.ref a1), .val (.int v1), .unset, .unset] [(.int f_a1_rows)]))
    obtain rfl : f_a1_rows = r := Option.some.inj hF
    exact own_retI X72 hx hret hlk (hb hby dBatchSize_holding_21) e72 ⟨rfl, N, rfl⟩ (by decide) (by decide)
theorem ef_BatchSize_holding (m : MethodId) (x0 : Addr) (x1 : Int32) : entryFrame m #[(.ref x0), (.int x1)] 4 = mkF m 0 #[.val (.ref x0), .val (.int x1), .unset, .unset] [] := by first | (simp [entryFrame, mkF, argsToLocals, Value.category]; done) | rfl
set_option maxRecDepth 65536 in
set_option maxHeartbeats 4000000 in
theorem rm_BatchSize_holding (l : Launch) (Z : State) (a0 : Array Value) (hw : ∀ d ∈ tables_1, d.before a0 Z = true) (ws : List Jvm.Cond) (hE : Heap) (n0 : Nat) (z : n0 ≤ hE.size) (a1 : Addr) (v1 : Int32) (f_a1_examined : Int64) (f_a1_removed : Int64) (f_a1_rows : Int32) (E_a1 : Exa Z hE a1 "com/example/expire/expire/BatchSize") (F_a1_examined : Fld Z hE a1 "com/example/expire/expire/BatchSize" "examined" "J" (.long f_a1_examined)) (F_a1_removed : Fld Z hE a1 "com/example/expire/expire/BatchSize" "removed" "J" (.long f_a1_removed)) (F_a1_rows : Fld Z hE a1 "com/example/expire/expire/BatchSize" "rows" "I" (.int f_a1_rows)) (g_a1 : n0 ≤ a1) (r : Int32) (hF : (f_BatchSize_holding v1 f_a1_examined f_a1_removed f_a1_rows) = some r) :
    MetFree l (⟨"com/example/expire/expire/BatchSize", "holding", "(I)I"⟩ : MethodName) (head1 (Jvm.Cond.code (⟨"com/example/expire/expire/BatchSize", "holding", "(I)I"⟩ : MethodName) prog_2_method_3_code 4 (some .int) :: ws) ({ frames := 1, cells := 0, slots := 0, locals := 15 } : Room)) (fun a U => a = #[(.ref a1), (.int v1)] ∧ Z.Warmed39 U.vm ∧ U.heap = hE) (fun _ _ _ _ _ => True) (fun _ U o U' => ∃ v L, o = .returned v ∧ (Q_BatchSize_holding Z hE n0 a1 r) v U'.heap L ∧ FrameEnd U o U' L ({ frames := 1, cells := 0, slots := 0, locals := 15 } : Room).cells ({ frames := 1, cells := 0, slots := 0, locals := 15 } : Room).slots) := by
  refine MetFree.of_bodySF (plainFor_of_name pn_com_example_expire_expire_BatchSize) hisR ?_
  intro p e s m args below meth c s₁ Bd hml0 hP hK
  obtain ⟨rfl, hZ, hh⟩ := hP
  have X0 : Stand p l e ({ frames := 1, cells := 0, slots := 0, locals := 15 } : Room) s m #[(.ref a1), (.int v1)] below meth c s₁ [] 0 0 := Stand.of_body Bd
  have e0 : s₁.heap = hE := by rw [← hh, Bd.state]; rfl
  have cx : Cx_BatchSize_holding p s m meth c Z a0 := ⟨Bd.exec, hZ, hw, Bd.bytes, hml0, findClass_of_methodNamed Bd.named, Bd.returns, Bd.notSynchronized, (name_of_methodNamed Bd.named Bd.method).1⟩
  show own_Goes p e below s (Q_BatchSize_holding Z hE n0 a1 r) ({ frames := 1, cells := 0, slots := 0, locals := 15 } : Room).cells ({ frames := 1, cells := 0, slots := 0, locals := 15 } : Room).slots (s₁.setTop (entryFrame m #[(.ref a1), (.int v1)] 4))
  rw [ef_BatchSize_holding]
  exact b_BatchSize_holding cx a1 X0 e0 (Fr.nil n0) z v1 f_a1_examined f_a1_removed f_a1_rows E_a1 F_a1_examined F_a1_removed F_a1_rows g_a1 _ hF
/-! com/example/expire/expire/BatchSize.found:(JJ)V -/
def f_BatchSize_found (v1 : Int64) (v3 : Int64) (f_a1_examined : Int64) (f_a1_removed : Int64) (f_a1_rows : Int32) : Option (Int64 × Int64 × Int32) :=
  some (v1, v3, f_a1_rows)
def Q_BatchSize_found (Z : State) (hE : Heap) (n0 : Nat) (a1 : Addr) (r : Int64 × Int64 × Int32) (v : Option Value) (h : Heap) (L : List Loc) : Prop := v = none ∧ Fr n0 L ∧ Keep hE h [a1] ∧ Exa Z h a1 "com/example/expire/expire/BatchSize" ∧ Fld Z h a1 "com/example/expire/expire/BatchSize" "examined" "J" (.long r.1) ∧ Fld Z h a1 "com/example/expire/expire/BatchSize" "removed" "J" (.long r.2.1) ∧ Fld Z h a1 "com/example/expire/expire/BatchSize" "rows" "I" (.int r.2.2)
def Cx_BatchSize_found (p : Program) (s : State) (m : MethodId) (meth : Method) (c : Code) (Z : State) (a0 : Array Value) : Prop := p.tables.exec = Jvm.exec ∧ Z.Warmed39 s.vm ∧ (∀ d ∈ tables_1, d.before a0 Z = true) ∧ c.code = prog_2_method_5_code ∧ c.maxLocals = 5 ∧ s.vm.findClass "com/example/expire/expire/BatchSize" = some m.cls ∧ meth.sig.returnType = none ∧ meth.locks = false ∧ meth.name = "found"
set_option maxRecDepth 65536 in
set_option maxHeartbeats 4000000 in
theorem b_BatchSize_found {p : Program} {l : Launch} {e : Env} {s : State} {m : MethodId} {args : Array Value} {below : List Frame} {meth : Method} {c : Code} {Z : State} {a0 : Array Value} {n0 : Nat} {hE : Heap} (cx : Cx_BatchSize_found p s m meth c Z a0) (a1 : Addr) :
    ∀ {T : State} {locs : List Loc} {h : Heap} (X : Stand p l e ({ frames := 0, cells := 0, slots := 0, locals := 0 } : Room) s m args below meth c T locs 0 0) (eT : T.heap = h) (N : Fr n0 locs) (K : Keep hE h [a1]) (z : n0 ≤ h.size) (v1 : Int64) (v3 : Int64) (f_a1_examined : Int64) (f_a1_removed : Int64) (f_a1_rows : Int32) (E_a1 : Exa Z h a1 "com/example/expire/expire/BatchSize") (F_a1_examined : Fld Z h a1 "com/example/expire/expire/BatchSize" "examined" "J" (.long f_a1_examined)) (F_a1_removed : Fld Z h a1 "com/example/expire/expire/BatchSize" "removed" "J" (.long f_a1_removed)) (F_a1_rows : Fld Z h a1 "com/example/expire/expire/BatchSize" "rows" "I" (.int f_a1_rows)) (g_a1 : n0 ≤ a1) (r : Int64 × Int64 × Int32), f_BatchSize_found v1 v3 f_a1_examined f_a1_removed f_a1_rows = some r → own_Goes p e below s (Q_BatchSize_found Z hE n0 a1 r) 0 0 (T.setTop (mkF m 0 #[.val (.ref a1), .val (.long v1), .second, .val (.long v3), .second] [])) := by
  have cx' := cx
  obtain ⟨hx, hZ, hw, hby, hml, hown, hret, hlk, hnm⟩ := cx'
  intro T locs h X eT N K z v1 v3 f_a1_examined f_a1_removed f_a1_rows E_a1 F_a1_examined F_a1_removed F_a1_rows g_a1 r hF
  unfold f_BatchSize_found at hF
  refine own_Goes.via (B := T.setTop (mkF m 2 #[.val (.ref a1), .val (.long v1), .second, .val (.long v3), .second] [(.long v1), (.ref a1)])) (fun t k => ?_) ?_
  · show Steps p.tables e below (T.setTop (mkF m 0 #[.val (.ref a1), .val (.long v1), .second, .val (.long v3), .second] [])) t
    refine XS.aloadN X.here hx rfl (hb hby dBatchSize_found_0) rfl rfl ?_
    show Steps p.tables e below (T.setTop (mkF m 1 #[.val (.ref a1), .val (.long v1), .second, .val (.long v3), .second] [(.ref a1)])) t
    refine XS.lloadN X.here hx rfl (hb hby dBatchSize_found_1) rfl ?_
    exact k
  obtain ⟨T91, h91, X91, e91, W91, st91⟩ := putF X hx hZ hown (host := "") (Or.inl (w17 hw)) Via.refl eT F_a1_examined E_a1 (Or.inl (w18 hw)) (w1 hw) (ty := .long) (by decide) rfl rfl (g := (mkF m 2 #[.val (.ref a1), .val (.long v1), .second, .val (.long v3), .second] [(.long v1), (.ref a1)])) rfl rfl (hb hby dBatchSize_found_2)
  refine own_Goes.via st91 ?_
  have E91_a1 := E_a1.wr W91
  have F91_a1_removed := F_a1_removed.other W91 (Or.inr (slot_ne (Or.inl (w20 hw)) (Or.inl (w18 hw)) (by decide) (t := .long) (t' := .long) (by decide) (by decide)))
  have F91_a1_rows := F_a1_rows.other W91 (Or.inr (slot_ne (Or.inl (w10 hw)) (Or.inl (w18 hw)) (by decide) (t := .int) (t' := .long) (by decide) (by decide)))
  have F91_a1_examined := F_a1_examined.same W91
  have z91 := Nat.le_trans z (Keep.of_wr W91).1
  have K91_ := K.wr W91 (Or.inl (List.mem_of_getElem? (i := 0) rfl))
  have N91 := Fr.snoc X91 N g_a1
  show own_Goes _ _ _ _ _ _ _ (T91.setTop (mkF m 5 #[.val (.ref a1), .val (.long v1), .second, .val (.long v3), .second] []))
  refine own_Goes.via (B := T91.setTop (mkF m 7 #[.val (.ref a1), .val (.long v1), .second, .val (.long v3), .second] [(.long v3), (.ref a1)])) (fun t k => ?_) ?_
  · show Steps p.tables e below (T91.setTop (mkF m 5 #[.val (.ref a1), .val (.long v1), .second, .val (.long v3), .second] [])) t
    refine XS.aloadN X91.here hx rfl (hb hby dBatchSize_found_5) rfl rfl ?_
    show Steps p.tables e below (T91.setTop (mkF m 6 #[.val (.ref a1), .val (.long v1), .second, .val (.long v3), .second] [(.ref a1)])) t
    refine XS.lloadN X91.here hx rfl (hb hby dBatchSize_found_6) rfl ?_
    exact k
  obtain ⟨T92, h92, X92, e92, W92, st92⟩ := putF X91 hx hZ hown (host := "") (Or.inl (w19 hw)) Via.refl e91 F91_a1_removed E91_a1 (Or.inl (w20 hw)) (w1 hw) (ty := .long) (by decide) rfl rfl (g := (mkF m 7 #[.val (.ref a1), .val (.long v1), .second, .val (.long v3), .second] [(.long v3), (.ref a1)])) rfl rfl (hb hby dBatchSize_found_7)
  refine own_Goes.via st92 ?_
  have E92_a1 := E91_a1.wr W92
  have F92_a1_examined := F91_a1_examined.other W92 (Or.inr (slot_ne (Or.inl (w18 hw)) (Or.inl (w20 hw)) (by decide) (t := .long) (t' := .long) (by decide) (by decide)))
  have F92_a1_rows := F91_a1_rows.other W92 (Or.inr (slot_ne (Or.inl (w10 hw)) (Or.inl (w20 hw)) (by decide) (t := .int) (t' := .long) (by decide) (by decide)))
  have F92_a1_removed := F91_a1_removed.same W92
  have z92 := Nat.le_trans z91 (Keep.of_wr W92).1
  have K92_ := K91_.wr W92 (Or.inl (List.mem_of_getElem? (i := 0) rfl))
  have N92 := Fr.snoc X92 N91 g_a1
  show own_Goes _ _ _ _ _ _ _ (T92.setTop (mkF m 10 #[.val (.ref a1), .val (.long v1), .second, .val (.long v3), .second] []))
  obtain rfl : (v1, v3, f_a1_rows) = r := Option.some.inj hF
  exact own_retV X92 hx hret hlk (hb hby dBatchSize_found_10) e92 ⟨rfl, N92, K92_, E92_a1, F92_a1_examined, F92_a1_removed, F92_a1_rows⟩ (by decide) (by decide)
theorem ef_BatchSize_found (m : MethodId) (x0 : Addr) (x1 : Int64) (x2 : Int64) : entryFrame m #[(.ref x0), (.long x1), (.long x2)] 5 = mkF m 0 #[.val (.ref x0), .val (.long x1), .second, .val (.long x2), .second] [] := by first | (simp [entryFrame, mkF, argsToLocals, Value.category]; done) | rfl
set_option maxRecDepth 65536 in
set_option maxHeartbeats 4000000 in
theorem rm_BatchSize_found (l : Launch) (Z : State) (a0 : Array Value) (hw : ∀ d ∈ tables_1, d.before a0 Z = true) (ws : List Jvm.Cond) (hE : Heap) (n0 : Nat) (z : n0 ≤ hE.size) (a1 : Addr) (v1 : Int64) (v3 : Int64) (f_a1_examined : Int64) (f_a1_removed : Int64) (f_a1_rows : Int32) (E_a1 : Exa Z hE a1 "com/example/expire/expire/BatchSize") (F_a1_examined : Fld Z hE a1 "com/example/expire/expire/BatchSize" "examined" "J" (.long f_a1_examined)) (F_a1_removed : Fld Z hE a1 "com/example/expire/expire/BatchSize" "removed" "J" (.long f_a1_removed)) (F_a1_rows : Fld Z hE a1 "com/example/expire/expire/BatchSize" "rows" "I" (.int f_a1_rows)) (g_a1 : n0 ≤ a1) (r : Int64 × Int64 × Int32) (hF : (f_BatchSize_found v1 v3 f_a1_examined f_a1_removed f_a1_rows) = some r) :
    MetFree l (⟨"com/example/expire/expire/BatchSize", "found", "(JJ)V"⟩ : MethodName) (head1 (Jvm.Cond.code (⟨"com/example/expire/expire/BatchSize", "found", "(JJ)V"⟩ : MethodName) prog_2_method_5_code 5 none :: ws) ({ frames := 0, cells := 0, slots := 0, locals := 0 } : Room)) (fun a U => a = #[(.ref a1), (.long v1), (.long v3)] ∧ Z.Warmed39 U.vm ∧ U.heap = hE) (fun _ _ _ _ _ => True) (fun _ U o U' => ∃ v L, o = .returned v ∧ (Q_BatchSize_found Z hE n0 a1 r) v U'.heap L ∧ FrameEnd U o U' L ({ frames := 0, cells := 0, slots := 0, locals := 0 } : Room).cells ({ frames := 0, cells := 0, slots := 0, locals := 0 } : Room).slots) := by
  refine MetFree.of_bodySF (plainFor_of_name pn_com_example_expire_expire_BatchSize) hisR ?_
  intro p e s m args below meth c s₁ Bd hml0 hP hK
  obtain ⟨rfl, hZ, hh⟩ := hP
  have X0 : Stand p l e ({ frames := 0, cells := 0, slots := 0, locals := 0 } : Room) s m #[(.ref a1), (.long v1), (.long v3)] below meth c s₁ [] 0 0 := Stand.of_body Bd
  have e0 : s₁.heap = hE := by rw [← hh, Bd.state]; rfl
  have cx : Cx_BatchSize_found p s m meth c Z a0 := ⟨Bd.exec, hZ, hw, Bd.bytes, hml0, findClass_of_methodNamed Bd.named, Bd.returns, Bd.notSynchronized, (name_of_methodNamed Bd.named Bd.method).1⟩
  show own_Goes p e below s (Q_BatchSize_found Z hE n0 a1 r) ({ frames := 0, cells := 0, slots := 0, locals := 0 } : Room).cells ({ frames := 0, cells := 0, slots := 0, locals := 0 } : Room).slots (s₁.setTop (entryFrame m #[(.ref a1), (.long v1), (.long v3)] 5))
  rw [ef_BatchSize_found]
  exact b_BatchSize_found cx a1 X0 e0 (Fr.nil n0) (Keep.refl _ _) z v1 v3 f_a1_examined f_a1_removed f_a1_rows E_a1 F_a1_examined F_a1_removed F_a1_rows g_a1 _ hF
/-! java/lang/Math.max:(JJ)J -/
def f_Math_max2 (v0 : Int64) (v2 : Int64) : Option (Int64) :=
  if v0 < v2 then
    some v2
  else
    some v0
def Q_Math_max2 (Z : State) (hE : Heap) (n0 : Nat)  (r : Int64) (v : Option Value) (h : Heap) (L : List Loc) : Prop := v = some (.long r) ∧ Fr n0 L ∧ h = hE
def Cx_Math_max2 (p : Program) (s : State) (m : MethodId) (meth : Method) (c : Code) (Z : State) (a0 : Array Value) : Prop := p.tables.exec = Jvm.exec ∧ Z.Warmed39 s.vm ∧ (∀ d ∈ tables_1, d.before a0 Z = true) ∧ c.code = jdk_29_method_66_code ∧ c.maxLocals = 4 ∧ s.vm.findClass "java/lang/Math" = some m.cls ∧ meth.sig.returnType = some .long ∧ meth.locks = false ∧ meth.name = "max"
set_option maxRecDepth 65536 in
set_option maxHeartbeats 4000000 in
theorem b_Math_max2 {p : Program} {l : Launch} {e : Env} {s : State} {m : MethodId} {args : Array Value} {below : List Frame} {meth : Method} {c : Code} {Z : State} {a0 : Array Value} {n0 : Nat} {hE : Heap} (cx : Cx_Math_max2 p s m meth c Z a0) :
    ∀ {T : State} {locs : List Loc} (X : Stand p l e ({ frames := 0, cells := 0, slots := 0, locals := 0 } : Room) s m args below meth c T locs 0 0) (eT : T.heap = hE) (N : Fr n0 locs) (z : n0 ≤ hE.size) (v0 : Int64) (v2 : Int64) (r : Int64), f_Math_max2 v0 v2 = some r → own_Goes p e below s (Q_Math_max2 Z hE n0 r) 0 0 (T.setTop (mkF m 0 #[.val (.long v0), .second, .val (.long v2), .second] [])) := by
  have cx' := cx
  obtain ⟨hx, hZ, hw, hby, hml, hown, hret, hlk, hnm⟩ := cx'
  intro T locs X eT N z v0 v2 r hF
  unfold f_Math_max2 at hF
  refine own_Goes.via (B := T.setTop (mkF m 3 #[.val (.long v0), .second, .val (.long v2), .second] [(.int (lcmpW v0 v2))])) (fun t k => ?_) ?_
  · show Steps p.tables e below (T.setTop (mkF m 0 #[.val (.long v0), .second, .val (.long v2), .second] [])) t
    refine XS.lloadN X.here hx rfl (hb hby dMath_max2_0) rfl ?_
    show Steps p.tables e below (T.setTop (mkF m 1 #[.val (.long v0), .second, .val (.long v2), .second] [(.long v0)])) t
    refine XS.lloadN X.here hx rfl (hb hby dMath_max2_1) rfl ?_
    show Steps p.tables e below (T.setTop (mkF m 2 #[.val (.long v0), .second, .val (.long v2), .second] [(.long v2), (.long v0)])) t
    refine XS.lcmp X.here hx rfl (hb hby dMath_max2_2) rfl ?_
    exact k
  by_cases hc3 : v0 < v2
  · rw [if_pos hc3] at hF
    refine own_Goes.via (B := T.setTop (mkF m 11 #[.val (.long v0), .second, .val (.long v2), .second] [(.long v2)])) (fun t k => ?_) ?_
    · show Steps p.tables e below (T.setTop (mkF m 3 #[.val (.long v0), .second, .val (.long v2), .second] [(.int (lcmpW v0 v2))])) t
      refine XS.ifYes X.here hx rfl (pc0 := 3) (pc' := 10) rfl (hb hby dMath_max2_3) rfl (own_tltL hc3).1 (by decide) (by decide) ?_
      show Steps p.tables e below (T.setTop (mkF m 10 #[.val (.long v0), .second, .val (.long v2), .second] [])) t
      refine XS.lloadN X.here hx rfl (hb hby dMath_max2_10) rfl ?_
      exact k
    obtain rfl : v2 = r := Option.some.inj hF
    exact own_retJ X hx hret hlk (hb hby dMath_max2_11) eT ⟨rfl, N, rfl⟩ (by decide) (by decide)
  · rw [if_neg hc3] at hF
    refine own_Goes.via (B := T.setTop (mkF m 11 #[.val (.long v0), .second, .val (.long v2), .second] [(.long v0)])) (fun t k => ?_) ?_
    · show Steps p.tables e below (T.setTop (mkF m 3 #[.val (.long v0), .second, .val (.long v2), .second] [(.int (lcmpW v0 v2))])) t
      refine XS.ifNo X.here hx rfl (hb hby dMath_max2_3) rfl (own_fltL hc3).1 ?_
      show Steps p.tables e below (T.setTop (mkF m 6 #[.val (.long v0), .second, .val (.long v2), .second] [])) t
      refine XS.lloadN X.here hx rfl (hb hby dMath_max2_6) rfl ?_
      show Steps p.tables e below (T.setTop (mkF m 7 #[.val (.long v0), .second, .val (.long v2), .second] [(.long v0)])) t
      refine XS.goto X.here hx rfl (pc0 := 7) (pc' := 11) rfl (hb hby dMath_max2_7) (by decide) (by decide) ?_
      exact k
    obtain rfl : v0 = r := Option.some.inj hF
    exact own_retJ X hx hret hlk (hb hby dMath_max2_11) eT ⟨rfl, N, rfl⟩ (by decide) (by decide)
theorem ef_Math_max2 (m : MethodId) (x0 : Int64) (x1 : Int64) : entryFrame m #[(.long x0), (.long x1)] 4 = mkF m 0 #[.val (.long x0), .second, .val (.long x1), .second] [] := by first | (simp [entryFrame, mkF, argsToLocals, Value.category]; done) | rfl
set_option maxRecDepth 65536 in
set_option maxHeartbeats 4000000 in
theorem rm_Math_max2 (l : Launch) (Z : State) (a0 : Array Value) (hw : ∀ d ∈ tables_1, d.before a0 Z = true) (ws : List Jvm.Cond) (hE : Heap) (n0 : Nat) (z : n0 ≤ hE.size)  (v0 : Int64) (v2 : Int64) (r : Int64) (hF : (f_Math_max2 v0 v2) = some r) :
    MetFree l (⟨"java/lang/Math", "max", "(JJ)J"⟩ : MethodName) (head1 (Jvm.Cond.code (⟨"java/lang/Math", "max", "(JJ)J"⟩ : MethodName) jdk_29_method_66_code 4 (some .long) :: ws) ({ frames := 0, cells := 0, slots := 0, locals := 0 } : Room)) (fun a U => a = #[(.long v0), (.long v2)] ∧ Z.Warmed39 U.vm ∧ U.heap = hE) (fun _ _ _ _ _ => True) (fun _ U o U' => ∃ v L, o = .returned v ∧ (Q_Math_max2 Z hE n0 r) v U'.heap L ∧ FrameEnd U o U' L ({ frames := 0, cells := 0, slots := 0, locals := 0 } : Room).cells ({ frames := 0, cells := 0, slots := 0, locals := 0 } : Room).slots) := by
  refine MetFree.of_bodySF (Jvm.Free.JP.mathPlain rfl (by decide +kernel)) hisR ?_
  intro p e s m args below meth c s₁ Bd hml0 hP hK
  obtain ⟨rfl, hZ, hh⟩ := hP
  have X0 : Stand p l e ({ frames := 0, cells := 0, slots := 0, locals := 0 } : Room) s m #[(.long v0), (.long v2)] below meth c s₁ [] 0 0 := Stand.of_body Bd
  have e0 : s₁.heap = hE := by rw [← hh, Bd.state]; rfl
  have cx : Cx_Math_max2 p s m meth c Z a0 := ⟨Bd.exec, hZ, hw, Bd.bytes, hml0, findClass_of_methodNamed Bd.named, Bd.returns, Bd.notSynchronized, (name_of_methodNamed Bd.named Bd.method).1⟩
  show own_Goes p e below s (Q_Math_max2 Z hE n0 r) ({ frames := 0, cells := 0, slots := 0, locals := 0 } : Room).cells ({ frames := 0, cells := 0, slots := 0, locals := 0 } : Room).slots (s₁.setTop (entryFrame m #[(.long v0), (.long v2)] 4))
  rw [ef_Math_max2]
  exact b_Math_max2 cx X0 e0 (Fr.nil n0) z v0 v2 _ hF
/-! com/example/expire/expire/BatchSize.took:(IJ)V -/
def f_BatchSize_took_20 (v1 : Int32) (t0 : Int64) (f_a1_examined : Int64) (f_a1_removed : Int64) (f_a1_rows : Int32) : Option (Int64 × Int64 × Int32) :=
  own_lt ((2 : Int64) * (v1.toInt64)) fun x115 =>
  own_bd (f_Math_min (20000 : Int64) x115) fun r116 =>
  own_bd (f_Math_min r116 t0) fun r117 =>
  own_bd (f_Math_max2 (100 : Int64) r117) fun r118 =>
  own_lt (r118.toInt32) fun x119 =>
  some (f_a1_examined, f_a1_removed, x119)
def f_BatchSize_took (v1 : Int32) (v2 : Int64) (f_a1_examined : Int64) (f_a1_removed : Int64) (f_a1_rows : Int32) : Option (Int64 × Int64 × Int32) :=
  if (0 : Int64) < v2 then
    own_ck (¬ v2 = (0 : Int64)) <|
    (f_BatchSize_took_20 v1 (((v1.toInt64) * (25000000 : Int64)) / v2) f_a1_examined f_a1_removed f_a1_rows)
  else
    (f_BatchSize_took_20 v1 (20000 : Int64) f_a1_examined f_a1_removed f_a1_rows)
def Q_BatchSize_took (Z : State) (hE : Heap) (n0 : Nat) (a1 : Addr) (r : Int64 × Int64 × Int32) (v : Option Value) (h : Heap) (L : List Loc) : Prop := v = none ∧ Fr n0 L ∧ Keep hE h [a1] ∧ Exa Z h a1 "com/example/expire/expire/BatchSize" ∧ Fld Z h a1 "com/example/expire/expire/BatchSize" "examined" "J" (.long r.1) ∧ Fld Z h a1 "com/example/expire/expire/BatchSize" "removed" "J" (.long r.2.1) ∧ Fld Z h a1 "com/example/expire/expire/BatchSize" "rows" "I" (.int r.2.2)
def Cx_BatchSize_took (p : Program) (s : State) (m : MethodId) (meth : Method) (c : Code) (Z : State) (a0 : Array Value) : Prop := p.tables.exec = Jvm.exec ∧ Z.Warmed39 s.vm ∧ (∀ d ∈ tables_1, d.before a0 Z = true) ∧ c.code = prog_2_method_4_code ∧ c.maxLocals = 6 ∧ s.vm.findClass "com/example/expire/expire/BatchSize" = some m.cls ∧ meth.sig.returnType = none ∧ meth.locks = false ∧ meth.name = "took"
set_option maxRecDepth 65536 in
set_option maxHeartbeats 4000000 in
theorem b_BatchSize_took_20 {p : Program} {l : Launch} {e : Env} {s : State} {m : MethodId} {args : Array Value} {below : List Frame} {meth : Method} {c : Code} {Z : State} {a0 : Array Value} {n0 : Nat} {hE : Heap} (cx : Cx_BatchSize_took p s m meth c Z a0) (a1 : Addr) :
    ∀ {T : State} {locs : List Loc} {h : Heap} (X : Stand p l e ({ frames := 1, cells := 0, slots := 0, locals := 18 } : Room) s m args below meth c T locs 0 0) (eT : T.heap = h) (N : Fr n0 locs) (K : Keep hE h [a1]) (z : n0 ≤ h.size) (v1 : Int32) (t0 : Int64) (f_a1_examined : Int64) (f_a1_removed : Int64) (f_a1_rows : Int32) (v2 : Int64) (d4 : Slot) (d5 : Slot) (o_d4 : One d4) (o_d5 : One d5) (E_a1 : Exa Z h a1 "com/example/expire/expire/BatchSize") (F_a1_examined : Fld Z h a1 "com/example/expire/expire/BatchSize" "examined" "J" (.long f_a1_examined)) (F_a1_removed : Fld Z h a1 "com/example/expire/expire/BatchSize" "removed" "J" (.long f_a1_removed)) (F_a1_rows : Fld Z h a1 "com/example/expire/expire/BatchSize" "rows" "I" (.int f_a1_rows)) (g_a1 : n0 ≤ a1) (r : Int64 × Int64 × Int32), f_BatchSize_took_20 v1 t0 f_a1_examined f_a1_removed f_a1_rows = some r → own_Goes p e below s (Q_BatchSize_took Z hE n0 a1 r) 0 0 (T.setTop (mkF m 20 #[.val (.ref a1), .val (.int v1), .val (.long v2), .second, d4, d5] [(.long t0)])) := by
  have cx' := cx
  obtain ⟨hx, hZ, hw, hby, hml, hown, hret, hlk, hnm⟩ := cx'
  intro T locs h X eT N K z v1 t0 f_a1_examined f_a1_removed f_a1_rows v2 d4 d5 o_d4 o_d5 E_a1 F_a1_examined F_a1_removed F_a1_rows g_a1 r hF
  unfold f_BatchSize_took_20 at hF
  refine own_Goes.via (B := T.setTop (mkF m 35 #[.val (.ref a1), .val (.int v1), .val (.long v2), .second, .val (.long t0), .second] [(.long ((2 : Int64) * (v1.toInt64))), (.long (20000 : Int64)), (.long (100 : Int64)), (.ref a1)])) (fun t k => ?_) ?_
  · show Steps p.tables e below (T.setTop (mkF m 20 #[.val (.ref a1), .val (.int v1), .val (.long v2), .second, d4, d5] [(.long t0)])) t
    refine XS.lstore X.here hx rfl (hb hby dBatchSize_took_20) rfl (l' := #[.val (.ref a1), .val (.int v1), .val (.long v2), .second, .val (.long t0), .second]) (own_st2 rfl rfl o_d4 o_d5 rfl) ?_
    show Steps p.tables e below (T.setTop (mkF m 22 #[.val (.ref a1), .val (.int v1), .val (.long v2), .second, .val (.long t0), .second] [])) t
    refine XS.aloadN X.here hx rfl (hb hby dBatchSize_took_22) rfl rfl ?_
    show Steps p.tables e below (T.setTop (mkF m 23 #[.val (.ref a1), .val (.int v1), .val (.long v2), .second, .val (.long t0), .second] [(.ref a1)])) t
    refine X.ldc2Long hx hown (mvT hZ (w43 hw)) (g := (mkF m 23 #[.val (.ref a1), .val (.int v1), .val (.long v2), .second, .val (.long t0), .second] [(.ref a1)])) rfl (hb hby dBatchSize_took_23) _ ?_
    show Steps p.tables e below (T.setTop (mkF m 26 #[.val (.ref a1), .val (.int v1), .val (.long v2), .second, .val (.long t0), .second] [(.long (100 : Int64)), (.ref a1)])) t
    refine X.ldc2Long hx hown (mvT hZ (w44 hw)) (g := (mkF m 26 #[.val (.ref a1), .val (.int v1), .val (.long v2), .second, .val (.long t0), .second] [(.long (100 : Int64)), (.ref a1)])) rfl (hb hby dBatchSize_took_26) _ ?_
    show Steps p.tables e below (T.setTop (mkF m 29 #[.val (.ref a1), .val (.int v1), .val (.long v2), .second, .val (.long t0), .second] [(.long (20000 : Int64)), (.long (100 : Int64)), (.ref a1)])) t
    refine X.ldc2Long hx hown (mvT hZ (w45 hw)) (g := (mkF m 29 #[.val (.ref a1), .val (.int v1), .val (.long v2), .second, .val (.long t0), .second] [(.long (20000 : Int64)), (.long (100 : Int64)), (.ref a1)])) rfl (hb hby dBatchSize_took_29) _ ?_
    show Steps p.tables e below (T.setTop (mkF m 32 #[.val (.ref a1), .val (.int v1), .val (.long v2), .second, .val (.long t0), .second] [(.long (2 : Int64)), (.long (20000 : Int64)), (.long (100 : Int64)), (.ref a1)])) t
    refine XS.iloadN X.here hx rfl (hb hby dBatchSize_took_32) rfl ?_
    show Steps p.tables e below (T.setTop (mkF m 33 #[.val (.ref a1), .val (.int v1), .val (.long v2), .second, .val (.long t0), .second] [(.int v1), (.long (2 : Int64)), (.long (20000 : Int64)), (.long (100 : Int64)), (.ref a1)])) t
    refine XS.i2l X.here hx rfl (hb hby dBatchSize_took_33) rfl ?_
    show Steps p.tables e below (T.setTop (mkF m 34 #[.val (.ref a1), .val (.int v1), .val (.long v2), .second, .val (.long t0), .second] [(.long (v1.toInt64)), (.long (2 : Int64)), (.long (20000 : Int64)), (.long (100 : Int64)), (.ref a1)])) t
    refine XS.lmul X.here hx rfl (hb hby dBatchSize_took_34) rfl ?_
    exact k
  obtain ⟨x115, hx115, hF⟩ := own_lt_e hF
  rw [← hx115]
  obtain ⟨r116, hr116, hF⟩ := own_bd_e hF
  obtain ⟨_, _, ⟨T116, L116, k116, n116⟩, -, X116, ⟨Lc116, hQ116, l116, y116, z116⟩, st116⟩ := Jvm.LawKit.callS X hx (y := (⟨"java/lang/Math", "min", "(JJ)J"⟩ : MethodName)) hown (mvT hZ (w46 hw)) (mvT hZ (w47 hw)) (mvT hZ (w28 hw)) (mvT hZ (w48 hw)) (by decide) (backOf (W := 3) (rm_Math_min l Z a0 hw [] h n0 z (20000 : Int64) x115 r116 hr116) hZ (w48 hw) (w28 hw) (by decide) (by decide)) (g := (mkF m 35 #[.val (.ref a1), .val (.int v1), .val (.long v2), .second, .val (.long t0), .second] [(.long x115), (.long (20000 : Int64)), (.long (100 : Int64)), (.ref a1)])) rfl (by rw [hml]; rfl) (argsL := [(.long (20000 : Int64)), (.long x115)]) (rest := [(.long (100 : Int64)), (.ref a1)]) (lenOf pd_3 rfl) rfl (by show 2 * 0 + _ ≤ _; exact Nat.le_of_eq rfl) (hb hby dBatchSize_took_35) (fun _ _ => ⟨rfl, eT, (by decide : 0 + 0 ≤ _), (by decide : 0 + 0 ≤ _)⟩)
  dsimp only [Pt.U, Pt.locs, Pt.cells, Pt.slots] at X116 l116 y116 z116 st116 hQ116
  subst l116 y116 z116
  obtain ⟨rfl, N116q, e116⟩ := hQ116
  have N116 := Fr.app N N116q
  refine own_Goes.via st116 ?_
  show own_Goes _ _ _ _ _ _ _ (T116.setTop (mkF m 38 #[.val (.ref a1), .val (.int v1), .val (.long v2), .second, .val (.long t0), .second] [(.long r116), (.long (100 : Int64)), (.ref a1)]))
  refine own_Goes.via (B := T116.setTop (mkF m 40 #[.val (.ref a1), .val (.int v1), .val (.long v2), .second, .val (.long t0), .second] [(.long t0), (.long r116), (.long (100 : Int64)), (.ref a1)])) (fun t k => ?_) ?_
  · show Steps p.tables e below (T116.setTop (mkF m 38 #[.val (.ref a1), .val (.int v1), .val (.long v2), .second, .val (.long t0), .second] [(.long r116), (.long (100 : Int64)), (.ref a1)])) t
    refine XS.lload X116.here hx rfl (hb hby dBatchSize_took_38) rfl ?_
    exact k
  obtain ⟨r117, hr117, hF⟩ := own_bd_e hF
  obtain ⟨_, _, ⟨T117, L117, k117, n117⟩, -, X117, ⟨Lc117, hQ117, l117, y117, z117⟩, st117⟩ := Jvm.LawKit.callS X116 hx (y := (⟨"java/lang/Math", "min", "(JJ)J"⟩ : MethodName)) hown (mvT hZ (w46 hw)) (mvT hZ (w47 hw)) (mvT hZ (w28 hw)) (mvT hZ (w48 hw)) (by decide) (backOf (W := 3) (rm_Math_min l Z a0 hw [] h n0 z r116 t0 r117 hr117) hZ (w48 hw) (w28 hw) (by decide) (by decide)) (g := (mkF m 40 #[.val (.ref a1), .val (.int v1), .val (.long v2), .second, .val (.long t0), .second] [(.long t0), (.long r116), (.long (100 : Int64)), (.ref a1)])) rfl (by rw [hml]; rfl) (argsL := [(.long r116), (.long t0)]) (rest := [(.long (100 : Int64)), (.ref a1)]) (lenOf pd_3 rfl) rfl (by show 2 * 0 + _ ≤ _; exact Nat.le_of_eq rfl) (hb hby dBatchSize_took_40) (fun _ _ => ⟨rfl, e116, (by decide : 0 + 0 ≤ _), (by decide : 0 + 0 ≤ _)⟩)
  dsimp only [Pt.U, Pt.locs, Pt.cells, Pt.slots] at X117 l117 y117 z117 st117 hQ117
  subst l117 y117 z117
  obtain ⟨rfl, N117q, e117⟩ := hQ117
  have N117 := Fr.app N116 N117q
  refine own_Goes.via st117 ?_
  show own_Goes _ _ _ _ _ _ _ (T117.setTop (mkF m 43 #[.val (.ref a1), .val (.int v1), .val (.long v2), .second, .val (.long t0), .second] [(.long r117), (.long (100 : Int64)), (.ref a1)]))
  obtain ⟨r118, hr118, hF⟩ := own_bd_e hF
  obtain ⟨_, _, ⟨T118, L118, k118, n118⟩, -, X118, ⟨Lc118, hQ118, l118, y118, z118⟩, st118⟩ := Jvm.LawKit.callS X117 hx (y := (⟨"java/lang/Math", "max", "(JJ)J"⟩ : MethodName)) hown (mvT hZ (w49 hw)) (mvT hZ (w50 hw)) (mvT hZ (w28 hw)) (mvT hZ (w51 hw)) (by decide) (backOf (W := 1) (rm_Math_max2 l Z a0 hw [] h n0 z (100 : Int64) r117 r118 hr118) hZ (w51 hw) (w28 hw) (by decide) (by decide)) (g := (mkF m 43 #[.val (.ref a1), .val (.int v1), .val (.long v2), .second, .val (.long t0), .second] [(.long r117), (.long (100 : Int64)), (.ref a1)])) rfl (by rw [hml]; rfl) (argsL := [(.long (100 : Int64)), (.long r117)]) (rest := [(.ref a1)]) (lenOf pd_3 rfl) rfl (by show 2 * 0 + _ ≤ _; exact Nat.le_of_eq rfl) (hb hby dBatchSize_took_43) (fun _ _ => ⟨rfl, e117, (by decide : 0 + 0 ≤ _), (by decide : 0 + 0 ≤ _)⟩)
  dsimp only [Pt.U, Pt.locs, Pt.cells, Pt.slots] at X118 l118 y118 z118 st118 hQ118
  subst l118 y118 z118
  obtain ⟨rfl, N118q, e118⟩ := hQ118
  have N118 := Fr.app N117 N118q
  refine own_Goes.via st118 ?_
  show own_Goes _ _ _ _ _ _ _ (T118.setTop (mkF m 46 #[.val (.ref a1), .val (.int v1), .val (.long v2), .second, .val (.long t0), .second] [(.long r118), (.ref a1)]))
  refine own_Goes.via (B := T118.setTop (mkF m 47 #[.val (.ref a1), .val (.int v1), .val (.long v2), .second, .val (.long t0), .second] [(.int (r118.toInt32)), (.ref a1)])) (fun t k => ?_) ?_
  · show Steps p.tables e below (T118.setTop (mkF m 46 #[.val (.ref a1), .val (.int v1), .val (.long v2), .second, .val (.long t0), .second] [(.long r118), (.ref a1)])) t
    refine XS.l2i X118.here hx rfl (hb hby dBatchSize_took_46) rfl ?_
    exact k
  obtain ⟨x119, hx119, hF⟩ := own_lt_e hF
  rw [← hx119]
  obtain ⟨T120, h120, X120, e120, W120, st120⟩ := putF X118 hx hZ hown (host := "") (Or.inl (w9 hw)) Via.refl e118 F_a1_rows E_a1 (Or.inl (w10 hw)) (w1 hw) (ty := .int) (by decide) rfl rfl (g := (mkF m 47 #[.val (.ref a1), .val (.int v1), .val (.long v2), .second, .val (.long t0), .second] [(.int x119), (.ref a1)])) rfl rfl (hb hby dBatchSize_took_47)
  refine own_Goes.via st120 ?_
  have E120_a1 := E_a1.wr W120
  have F120_a1_examined := F_a1_examined.other W120 (Or.inr (slot_ne (Or.inl (w18 hw)) (Or.inl (w10 hw)) (by decide) (t := .long) (t' := .int) (by decide) (by decide)))
  have F120_a1_removed := F_a1_removed.other W120 (Or.inr (slot_ne (Or.inl (w20 hw)) (Or.inl (w10 hw)) (by decide) (t := .long) (t' := .int) (by decide) (by decide)))
  have F120_a1_rows := F_a1_rows.same W120
  have z120 := Nat.le_trans z (Keep.of_wr W120).1
  have K120_ := K.wr W120 (Or.inl (List.mem_of_getElem? (i := 0) rfl))
  have N120 := Fr.snoc X120 N118 g_a1
  show own_Goes _ _ _ _ _ _ _ (T120.setTop (mkF m 50 #[.val (.ref a1), .val (.int v1), .val (.long v2), .second, .val (.long t0), .second] []))
  obtain rfl : (f_a1_examined, f_a1_removed, x119) = r := Option.some.inj hF
  exact own_retV X120 hx hret hlk (hb hby dBatchSize_took_50) e120 ⟨rfl, N120, K120_, E120_a1, F120_a1_examined, F120_a1_removed, F120_a1_rows⟩ (by decide) (by decide)
set_option maxRecDepth 65536 in
set_option maxHeartbeats 4000000 in
theorem b_BatchSize_took {p : Program} {l : Launch} {e : Env} {s : State} {m : MethodId} {args : Array Value} {below : List Frame} {meth : Method} {c : Code} {Z : State} {a0 : Array Value} {n0 : Nat} {hE : Heap} (cx : Cx_BatchSize_took p s m meth c Z a0) (a1 : Addr) :
    ∀ {T : State} {locs : List Loc} {h : Heap} (X : Stand p l e ({ frames := 1, cells := 0, slots := 0, locals := 18 } : Room) s m args below meth c T locs 0 0) (eT : T.heap = h) (N : Fr n0 locs) (K : Keep hE h [a1]) (z : n0 ≤ h.size) (v1 : Int32) (v2 : Int64) (f_a1_examined : Int64) (f_a1_removed : Int64) (f_a1_rows : Int32) (E_a1 : Exa Z h a1 "com/example/expire/expire/BatchSize") (F_a1_examined : Fld Z h a1 "com/example/expire/expire/BatchSize" "examined" "J" (.long f_a1_examined)) (F_a1_removed : Fld Z h a1 "com/example/expire/expire/BatchSize" "removed" "J" (.long f_a1_removed)) (F_a1_rows : Fld Z h a1 "com/example/expire/expire/BatchSize" "rows" "I" (.int f_a1_rows)) (g_a1 : n0 ≤ a1) (r : Int64 × Int64 × Int32), f_BatchSize_took v1 v2 f_a1_examined f_a1_removed f_a1_rows = some r → own_Goes p e below s (Q_BatchSize_took Z hE n0 a1 r) 0 0 (T.setTop (mkF m 0 #[.val (.ref a1), .val (.int v1), .val (.long v2), .second, .unset, .unset] [])) := by
  have cx' := cx
  obtain ⟨hx, hZ, hw, hby, hml, hown, hret, hlk, hnm⟩ := cx'
  intro T locs h X eT N K z v1 v2 f_a1_examined f_a1_removed f_a1_rows E_a1 F_a1_examined F_a1_removed F_a1_rows g_a1 r hF
  unfold f_BatchSize_took at hF
  refine own_Goes.via (B := T.setTop (mkF m 3 #[.val (.ref a1), .val (.int v1), .val (.long v2), .second, .unset, .unset] [(.int (lcmpW v2 (0 : Int64)))])) (fun t k => ?_) ?_
  · show Steps p.tables e below (T.setTop (mkF m 0 #[.val (.ref a1), .val (.int v1), .val (.long v2), .second, .unset, .unset] [])) t
    refine XS.lloadN X.here hx rfl (hb hby dBatchSize_took_0) rfl ?_
    show Steps p.tables e below (T.setTop (mkF m 1 #[.val (.ref a1), .val (.int v1), .val (.long v2), .second, .unset, .unset] [(.long v2)])) t
    refine XS.lconst X.here hx rfl (hb hby dBatchSize_took_1) ?_
    show Steps p.tables e below (T.setTop (mkF m 2 #[.val (.ref a1), .val (.int v1), .val (.long v2), .second, .unset, .unset] [(.long (0 : Int64)), (.long v2)])) t
    refine XS.lcmp X.here hx rfl (hb hby dBatchSize_took_2) rfl ?_
    exact k
  by_cases hc3 : (0 : Int64) < v2
  · rw [if_pos hc3] at hF
    refine own_Goes.via (B := T.setTop (mkF m 13 #[.val (.ref a1), .val (.int v1), .val (.long v2), .second, .unset, .unset] [(.long v2), (.long ((v1.toInt64) * (25000000 : Int64)))])) (fun t k => ?_) ?_
    · show Steps p.tables e below (T.setTop (mkF m 3 #[.val (.ref a1), .val (.int v1), .val (.long v2), .second, .unset, .unset] [(.int (lcmpW v2 (0 : Int64)))])) t
      refine XS.ifNo X.here hx rfl (hb hby dBatchSize_took_3) rfl (own_tgtL hc3).2 ?_
      show Steps p.tables e below (T.setTop (mkF m 6 #[.val (.ref a1), .val (.int v1), .val (.long v2), .second, .unset, .unset] [])) t
      refine XS.iloadN X.here hx rfl (hb hby dBatchSize_took_6) rfl ?_
      show Steps p.tables e below (T.setTop (mkF m 7 #[.val (.ref a1), .val (.int v1), .val (.long v2), .second, .unset, .unset] [(.int v1)])) t
      refine XS.i2l X.here hx rfl (hb hby dBatchSize_took_7) rfl ?_
      show Steps p.tables e below (T.setTop (mkF m 8 #[.val (.ref a1), .val (.int v1), .val (.long v2), .second, .unset, .unset] [(.long (v1.toInt64))])) t
      refine X.ldc2Long hx hown (mvT hZ (w42 hw)) (g := (mkF m 8 #[.val (.ref a1), .val (.int v1), .val (.long v2), .second, .unset, .unset] [(.long (v1.toInt64))])) rfl (hb hby dBatchSize_took_8) _ ?_
      show Steps p.tables e below (T.setTop (mkF m 11 #[.val (.ref a1), .val (.int v1), .val (.long v2), .second, .unset, .unset] [(.long (25000000 : Int64)), (.long (v1.toInt64))])) t
      refine XS.lmul X.here hx rfl (hb hby dBatchSize_took_11) rfl ?_
      show Steps p.tables e below (T.setTop (mkF m 12 #[.val (.ref a1), .val (.int v1), .val (.long v2), .second, .unset, .unset] [(.long ((v1.toInt64) * (25000000 : Int64)))])) t
      refine XS.lloadN X.here hx rfl (hb hby dBatchSize_took_12) rfl ?_
      exact k
    obtain ⟨hz13, hF⟩ := own_ck_e hF
    refine own_Goes.via (B := T.setTop (mkF m 20 #[.val (.ref a1), .val (.int v1), .val (.long v2), .second, .unset, .unset] [(.long (((v1.toInt64) * (25000000 : Int64)) / v2))])) (fun t k => ?_) ?_
    · show Steps p.tables e below (T.setTop (mkF m 13 #[.val (.ref a1), .val (.int v1), .val (.long v2), .second, .unset, .unset] [(.long v2), (.long ((v1.toInt64) * (25000000 : Int64)))])) t
      refine XS.ldiv X.here hx rfl (hb hby dBatchSize_took_13) rfl hz13 ?_
      show Steps p.tables e below (T.setTop (mkF m 14 #[.val (.ref a1), .val (.int v1), .val (.long v2), .second, .unset, .unset] [(.long (((v1.toInt64) * (25000000 : Int64)) / v2))])) t
      refine XS.goto X.here hx rfl (pc0 := 14) (pc' := 20) rfl (hb hby dBatchSize_took_14) (by decide) (by decide) ?_
      exact k
    exact b_BatchSize_took_20 cx a1 X eT N K z v1 (((v1.toInt64) * (25000000 : Int64)) / v2) f_a1_examined f_a1_removed f_a1_rows v2 (.unset) (.unset) One.u One.u E_a1 F_a1_examined F_a1_removed F_a1_rows g_a1 _ hF
  · rw [if_neg hc3] at hF
    refine own_Goes.via (B := T.setTop (mkF m 20 #[.val (.ref a1), .val (.int v1), .val (.long v2), .second, .unset, .unset] [(.long (20000 : Int64))])) (fun t k => ?_) ?_
    · show Steps p.tables e below (T.setTop (mkF m 3 #[.val (.ref a1), .val (.int v1), .val (.long v2), .second, .unset, .unset] [(.int (lcmpW v2 (0 : Int64)))])) t
      refine XS.ifYes X.here hx rfl (pc0 := 3) (pc' := 17) rfl (hb hby dBatchSize_took_3) rfl (own_fgtL hc3).2 (by decide) (by decide) ?_
      show Steps p.tables e below (T.setTop (mkF m 17 #[.val (.ref a1), .val (.int v1), .val (.long v2), .second, .unset, .unset] [])) t
      refine X.ldc2Long hx hown (mvT hZ (w44 hw)) (g := (mkF m 17 #[.val (.ref a1), .val (.int v1), .val (.long v2), .second, .unset, .unset] [])) rfl (hb hby dBatchSize_took_17) _ ?_
      exact k
    exact b_BatchSize_took_20 cx a1 X eT N K z v1 (20000 : Int64) f_a1_examined f_a1_removed f_a1_rows v2 (.unset) (.unset) One.u One.u E_a1 F_a1_examined F_a1_removed F_a1_rows g_a1 _ hF
theorem ef_BatchSize_took (m : MethodId) (x0 : Addr) (x1 : Int32) (x2 : Int64) : entryFrame m #[(.ref x0), (.int x1), (.long x2)] 6 = mkF m 0 #[.val (.ref x0), .val (.int x1), .val (.long x2), .second, .unset, .unset] [] := by first | (simp [entryFrame, mkF, argsToLocals, Value.category]; done) | rfl
set_option maxRecDepth 65536 in
set_option maxHeartbeats 4000000 in
theorem rm_BatchSize_took (l : Launch) (Z : State) (a0 : Array Value) (hw : ∀ d ∈ tables_1, d.before a0 Z = true) (ws : List Jvm.Cond) (hE : Heap) (n0 : Nat) (z : n0 ≤ hE.size) (a1 : Addr) (v1 : Int32) (v2 : Int64) (f_a1_examined : Int64) (f_a1_removed : Int64) (f_a1_rows : Int32) (E_a1 : Exa Z hE a1 "com/example/expire/expire/BatchSize") (F_a1_examined : Fld Z hE a1 "com/example/expire/expire/BatchSize" "examined" "J" (.long f_a1_examined)) (F_a1_removed : Fld Z hE a1 "com/example/expire/expire/BatchSize" "removed" "J" (.long f_a1_removed)) (F_a1_rows : Fld Z hE a1 "com/example/expire/expire/BatchSize" "rows" "I" (.int f_a1_rows)) (g_a1 : n0 ≤ a1) (r : Int64 × Int64 × Int32) (hF : (f_BatchSize_took v1 v2 f_a1_examined f_a1_removed f_a1_rows) = some r) :
    MetFree l (⟨"com/example/expire/expire/BatchSize", "took", "(IJ)V"⟩ : MethodName) (head1 (Jvm.Cond.code (⟨"com/example/expire/expire/BatchSize", "took", "(IJ)V"⟩ : MethodName) prog_2_method_4_code 6 none :: ws) ({ frames := 1, cells := 0, slots := 0, locals := 18 } : Room)) (fun a U => a = #[(.ref a1), (.int v1), (.long v2)] ∧ Z.Warmed39 U.vm ∧ U.heap = hE) (fun _ _ _ _ _ => True) (fun _ U o U' => ∃ v L, o = .returned v ∧ (Q_BatchSize_took Z hE n0 a1 r) v U'.heap L ∧ FrameEnd U o U' L ({ frames := 1, cells := 0, slots := 0, locals := 18 } : Room).cells ({ frames := 1, cells := 0, slots := 0, locals := 18 } : Room).slots) := by
  refine MetFree.of_bodySF (plainFor_of_name pn_com_example_expire_expire_BatchSize) hisR ?_
  intro p e s m args below meth c s₁ Bd hml0 hP hK
  obtain ⟨rfl, hZ, hh⟩ := hP
  have X0 : Stand p l e ({ frames := 1, cells := 0, slots := 0, locals := 18 } : Room) s m #[(.ref a1), (.int v1), (.long v2)] below meth c s₁ [] 0 0 := Stand.of_body Bd
  have e0 : s₁.heap = hE := by rw [← hh, Bd.state]; rfl
  have cx : Cx_BatchSize_took p s m meth c Z a0 := ⟨Bd.exec, hZ, hw, Bd.bytes, hml0, findClass_of_methodNamed Bd.named, Bd.returns, Bd.notSynchronized, (name_of_methodNamed Bd.named Bd.method).1⟩
  show own_Goes p e below s (Q_BatchSize_took Z hE n0 a1 r) ({ frames := 1, cells := 0, slots := 0, locals := 18 } : Room).cells ({ frames := 1, cells := 0, slots := 0, locals := 18 } : Room).slots (s₁.setTop (entryFrame m #[(.ref a1), (.int v1), (.long v2)] 6))
  rw [ef_BatchSize_took]
  exact b_BatchSize_took cx a1 X0 e0 (Fr.nil n0) (Keep.refl _ _) z v1 v2 f_a1_examined f_a1_removed f_a1_rows E_a1 F_a1_examined F_a1_removed F_a1_rows g_a1 _ hF
/-! com/example/expire/expire/BatchSizeHoldingPinLaw.law:(IIJJI)Z -/
def f_law_133 (v8 : Int64) (v13 : Int32) (v15 : Int32) (v16 : Int32) (t0 : Int64) : Option (Int32) :=
  if v15 < v13 then
    if t0 = (0 : Int64) then
      if v16 = v13 then
        some (1 : Int32)
      else
        some (0 : Int32)
    else
      if ((2 : Int64) * t0) < v8 then
        own_lt ((v15.toInt64) * v8) fun x135 =>
        if v13 < v16 then
          some (0 : Int32)
        else
          if v16 = v13 then
            if (((v13 - (1 : Int32)).toInt64) * t0) < x135 then
              some (1 : Int32)
            else
              some (0 : Int32)
          else
            if ((v16.toInt64) * t0) < x135 then
              some (0 : Int32)
            else
              if (((v16 - (1 : Int32)).toInt64) * t0) < x135 then
                some (1 : Int32)
              else
                some (0 : Int32)
      else
        if v16 = v15 then
          some (1 : Int32)
        else
          some (0 : Int32)
  else
    if v16 = v13 then
      some (1 : Int32)
    else
      some (0 : Int32)
def f_law_73 (v1 : Int32) (v6 : Int32) (v8 : Int64) (v10 : Int64) (v12 : Int32) (f_b1_examined : Int64) (f_b1_removed : Int64) (f_b1_rows : Int32) : Option (Int32) :=
  own_bd (f_BatchSize_rows f_b1_examined f_b1_removed f_b1_rows) fun r138 =>
  own_bd (f_Math_max r138 (0 : Int32)) fun r139 =>
  own_lt (r139 + (2 : Int32)) fun x140 =>
  if (v6 &&& (4 : Int32)) = (0 : Int32) then
    own_ck (¬ x140 = (0 : Int32)) <|
    own_lt ((v1 &&& (2147483647 : Int32)) % x140) fun x141 =>
    own_bd (f_BatchSize_holding x141 f_b1_examined f_b1_removed f_b1_rows) fun r142 =>
    if v12 = (0 : Int32) then
      (f_law_133 v8 r138 x141 r142 (0 : Int64))
    else
      (f_law_133 v8 r138 x141 r142 v10)
  else
    own_lt (v1 &&& (2147483647 : Int32)) fun x143 =>
    own_bd (f_BatchSize_holding x143 f_b1_examined f_b1_removed f_b1_rows) fun r144 =>
    if v12 = (0 : Int32) then
      (f_law_133 v8 r138 x143 r144 (0 : Int64))
    else
      (f_law_133 v8 r138 x143 r144 v10)
def f_law_25 (v1 : Int32) (v2 : Int64) (v4 : Int64) (v6 : Int32) (f_b1_examined : Int64) (f_b1_removed : Int64) (f_b1_rows : Int32) : Option (Int32) :=
  own_lt (v2 &&& (2147483647 : Int64)) fun x146 =>
  own_ck (¬ (x146 + (1 : Int64)) = (0 : Int64)) <|
  own_lt ((v4 &&& (2147483647 : Int64)) % (x146 + (1 : Int64))) fun x147 =>
  if (v6 &&& (2 : Int32)) = (0 : Int32) then
    (f_law_73 v1 v6 x146 x147 (0 : Int32) f_b1_examined f_b1_removed f_b1_rows)
  else
    own_bd (f_BatchSize_found x146 x147 f_b1_examined f_b1_removed f_b1_rows) fun r148 =>
    (f_law_73 v1 v6 x146 x147 (1 : Int32) r148.1 r148.2.1 r148.2.2)
def f_law (v0 : Int32) (v1 : Int32) (v2 : Int64) (v4 : Int64) (v6 : Int32) : Option (Int32) :=
  own_bd (f_BatchSize_mk (0 : Int64) (0 : Int64) (0 : Int32)) fun r151 =>
  if (v6 &&& (1 : Int32)) = (0 : Int32) then
    (f_law_25 v1 v2 v4 v6 r151.1 r151.2.1 r151.2.2)
  else
    own_bd (f_BatchSize_took v0 (25000000 : Int64) r151.1 r151.2.1 r151.2.2) fun r152 =>
    (f_law_25 v1 v2 v4 v6 r152.1 r152.2.1 r152.2.2)
def Q_law (Z : State) (hE : Heap) (n0 : Nat)  (r : Int32) (v : Option Value) (h : Heap) (L : List Loc) : Prop := v = some (.int r) ∧ Fr n0 L ∧ Keep hE h []
def Cx_law (p : Program) (s : State) (m : MethodId) (meth : Method) (c : Code) (Z : State) (a0 : Array Value) : Prop := p.tables.exec = Jvm.exec ∧ Z.Warmed39 s.vm ∧ (∀ d ∈ tables_1, d.before a0 Z = true) ∧ c.code = code ∧ c.maxLocals = 21 ∧ s.vm.findClass "com/example/expire/expire/BatchSizeHoldingPinLaw" = some m.cls ∧ meth.sig.returnType = some .boolean ∧ meth.locks = false ∧ meth.name = "law"
set_option maxRecDepth 65536 in
set_option maxHeartbeats 4000000 in
theorem b_law_133 {p : Program} {l : Launch} {e : Env} {s : State} {m : MethodId} {args : Array Value} {below : List Frame} {meth : Method} {c : Code} {Z : State} {a0 : Array Value} {n0 : Nat} {hE : Heap} (cx : Cx_law p s m meth c Z a0) :
    ∀ {T : State} {locs : List Loc} {h : Heap} (X : Stand p l e room_1 s m args below meth c T locs 1 3) (eT : T.heap = h) (N : Fr n0 locs) (K : Keep hE h []) (z : n0 ≤ h.size) (v8 : Int64) (v13 : Int32) (v15 : Int32) (v16 : Int32) (t0 : Int64) (d0 : Slot) (d1 : Slot) (v2 : Int64) (v4 : Int64) (d6 : Slot) (d7 : Slot) (v10 : Int64) (d12 : Slot) (d14 : Slot) (d17 : Slot) (d18 : Slot) (d19 : Slot) (d20 : Slot) (o_d0 : One d0) (o_d1 : One d1) (o_d6 : One d6) (o_d7 : One d7) (o_d12 : One d12) (o_d14 : One d14) (o_d17 : One d17) (o_d18 : One d18) (o_d19 : One d19) (o_d20 : One d20) (r : Int32), f_law_133 v8 v13 v15 v16 t0 = some r → own_Goes p e below s (Q_law Z hE n0 r) 1 3 (T.setTop (mkF m 133 #[d0, d1, .val (.long v2), .second, .val (.long v4), .second, d6, d7, .val (.long v8), .second, .val (.long v10), .second, d12, .val (.int v13), d14, .val (.int v15), .val (.int v16), d17, d18, d19, d20] [(.long t0)])) := by
  have cx' := cx
  obtain ⟨hx, hZ, hw, hby, hml, hown, hret, hlk, hnm⟩ := cx'
  intro T locs h X eT N K z v8 v13 v15 v16 t0 d0 d1 v2 v4 d6 d7 v10 d12 d14 d17 d18 d19 d20 o_d0 o_d1 o_d6 o_d7 o_d12 o_d14 o_d17 o_d18 o_d19 o_d20 r hF
  unfold f_law_133 at hF
  refine own_Goes.via (B := T.setTop (mkF m 139 #[d0, d1, .val (.long v2), .second, .val (.long v4), .second, d6, d7, .val (.long v8), .second, .val (.long v10), .second, d12, .val (.int v13), d14, .val (.int v15), .val (.int v16), .val (.long t0), .second, d19, d20] [(.int v13), (.int v15)])) (fun t k => ?_) ?_
  · show Steps p.tables e below (T.setTop (mkF m 133 #[d0, d1, .val (.long v2), .second, .val (.long v4), .second, d6, d7, .val (.long v8), .second, .val (.long v10), .second, d12, .val (.int v13), d14, .val (.int v15), .val (.int v16), d17, d18, d19, d20] [(.long t0)])) t
    refine XS.lstore X.here hx rfl (hb hby at_133) rfl (l' := #[d0, d1, .val (.long v2), .second, .val (.long v4), .second, d6, d7, .val (.long v8), .second, .val (.long v10), .second, d12, .val (.int v13), d14, .val (.int v15), .val (.int v16), .val (.long t0), .second, d19, d20]) (own_st2 rfl rfl o_d17 o_d18 rfl) ?_
    show Steps p.tables e below (T.setTop (mkF m 135 #[d0, d1, .val (.long v2), .second, .val (.long v4), .second, d6, d7, .val (.long v8), .second, .val (.long v10), .second, d12, .val (.int v13), d14, .val (.int v15), .val (.int v16), .val (.long t0), .second, d19, d20] [])) t
    refine XS.iload X.here hx rfl (hb hby at_135) rfl ?_
    show Steps p.tables e below (T.setTop (mkF m 137 #[d0, d1, .val (.long v2), .second, .val (.long v4), .second, d6, d7, .val (.long v8), .second, .val (.long v10), .second, d12, .val (.int v13), d14, .val (.int v15), .val (.int v16), .val (.long t0), .second, d19, d20] [(.int v15)])) t
    refine XS.iload X.here hx rfl (hb hby at_137) rfl ?_
    exact k
  by_cases hc139 : v15 < v13
  · rw [if_pos hc139] at hF
    refine own_Goes.via (B := T.setTop (mkF m 146 #[d0, d1, .val (.long v2), .second, .val (.long v4), .second, d6, d7, .val (.long v8), .second, .val (.long v10), .second, d12, .val (.int v13), d14, .val (.int v15), .val (.int v16), .val (.long t0), .second, d19, d20] [(.int (lcmpW t0 (0 : Int64)))])) (fun t k => ?_) ?_
    · show Steps p.tables e below (T.setTop (mkF m 139 #[d0, d1, .val (.long v2), .second, .val (.long v4), .second, d6, d7, .val (.long v8), .second, .val (.long v10), .second, d12, .val (.int v13), d14, .val (.int v15), .val (.int v16), .val (.long t0), .second, d19, d20] [(.int v13), (.int v15)])) t
      refine XS.icmpNo X.here hx rfl (hb hby at_139) rfl (tlt hc139).2.1 ?_
      show Steps p.tables e below (T.setTop (mkF m 142 #[d0, d1, .val (.long v2), .second, .val (.long v4), .second, d6, d7, .val (.long v8), .second, .val (.long v10), .second, d12, .val (.int v13), d14, .val (.int v15), .val (.int v16), .val (.long t0), .second, d19, d20] [])) t
      refine XS.lload X.here hx rfl (hb hby at_142) rfl ?_
      show Steps p.tables e below (T.setTop (mkF m 144 #[d0, d1, .val (.long v2), .second, .val (.long v4), .second, d6, d7, .val (.long v8), .second, .val (.long v10), .second, d12, .val (.int v13), d14, .val (.int v15), .val (.int v16), .val (.long t0), .second, d19, d20] [(.long t0)])) t
      refine XS.lconst X.here hx rfl (hb hby at_144) ?_
      show Steps p.tables e below (T.setTop (mkF m 145 #[d0, d1, .val (.long v2), .second, .val (.long v4), .second, d6, d7, .val (.long v8), .second, .val (.long v10), .second, d12, .val (.int v13), d14, .val (.int v15), .val (.int v16), .val (.long t0), .second, d19, d20] [(.long (0 : Int64)), (.long t0)])) t
      refine XS.lcmp X.here hx rfl (hb hby at_145) rfl ?_
      exact k
    by_cases hc146 : t0 = (0 : Int64)
    · rw [if_pos hc146] at hF
      refine own_Goes.via (B := T.setTop (mkF m 153 #[d0, d1, .val (.long v2), .second, .val (.long v4), .second, d6, d7, .val (.long v8), .second, .val (.long v10), .second, d12, .val (.int v13), d14, .val (.int v15), .val (.int v16), .val (.long t0), .second, d19, d20] [(.int v13), (.int v16)])) (fun t k => ?_) ?_
      · show Steps p.tables e below (T.setTop (mkF m 146 #[d0, d1, .val (.long v2), .second, .val (.long v4), .second, d6, d7, .val (.long v8), .second, .val (.long v10), .second, d12, .val (.int v13), d14, .val (.int v15), .val (.int v16), .val (.long t0), .second, d19, d20] [(.int (lcmpW t0 (0 : Int64)))])) t
        refine XS.ifNo X.here hx rfl (hb hby at_146) rfl (own_teqL hc146).2 ?_
        show Steps p.tables e below (T.setTop (mkF m 149 #[d0, d1, .val (.long v2), .second, .val (.long v4), .second, d6, d7, .val (.long v8), .second, .val (.long v10), .second, d12, .val (.int v13), d14, .val (.int v15), .val (.int v16), .val (.long t0), .second, d19, d20] [])) t
        refine XS.iload X.here hx rfl (hb hby at_149) rfl ?_
        show Steps p.tables e below (T.setTop (mkF m 151 #[d0, d1, .val (.long v2), .second, .val (.long v4), .second, d6, d7, .val (.long v8), .second, .val (.long v10), .second, d12, .val (.int v13), d14, .val (.int v15), .val (.int v16), .val (.long t0), .second, d19, d20] [(.int v16)])) t
        refine XS.iload X.here hx rfl (hb hby at_151) rfl ?_
        exact k
      by_cases hc153 : v16 = v13
      · rw [if_pos hc153] at hF
        refine own_Goes.via (B := T.setTop (mkF m 161 #[d0, d1, .val (.long v2), .second, .val (.long v4), .second, d6, d7, .val (.long v8), .second, .val (.long v10), .second, d12, .val (.int v13), d14, .val (.int v15), .val (.int v16), .val (.long t0), .second, d19, d20] [(.int (1 : Int32))])) (fun t k => ?_) ?_
        · show Steps p.tables e below (T.setTop (mkF m 153 #[d0, d1, .val (.long v2), .second, .val (.long v4), .second, d6, d7, .val (.long v8), .second, .val (.long v10), .second, d12, .val (.int v13), d14, .val (.int v15), .val (.int v16), .val (.long t0), .second, d19, d20] [(.int v13), (.int v16)])) t
          refine XS.icmpNo X.here hx rfl (hb hby at_153) rfl (teq hc153).2 ?_
          show Steps p.tables e below (T.setTop (mkF m 156 #[d0, d1, .val (.long v2), .second, .val (.long v4), .second, d6, d7, .val (.long v8), .second, .val (.long v10), .second, d12, .val (.int v13), d14, .val (.int v15), .val (.int v16), .val (.long t0), .second, d19, d20] [])) t
          refine XS.iconst X.here hx rfl (hb hby at_156) ?_
          show Steps p.tables e below (T.setTop (mkF m 157 #[d0, d1, .val (.long v2), .second, .val (.long v4), .second, d6, d7, .val (.long v8), .second, .val (.long v10), .second, d12, .val (.int v13), d14, .val (.int v15), .val (.int v16), .val (.long t0), .second, d19, d20] [(.int (1 : Int32))])) t
          refine XS.goto X.here hx rfl (pc0 := 157) (pc' := 161) rfl (hb hby at_157) (by decide) (by decide) ?_
          exact k
        obtain rfl : (1 : Int32) = r := Option.some.inj hF
        exact own_retN X hx (t := .boolean) hret hlk (by simp) (hb hby at_161) eT (v := (1 : Int32)) (by decide) ⟨rfl, N, K⟩ (by decide) (by decide)
      · rw [if_neg hc153] at hF
        refine own_Goes.via (B := T.setTop (mkF m 161 #[d0, d1, .val (.long v2), .second, .val (.long v4), .second, d6, d7, .val (.long v8), .second, .val (.long v10), .second, d12, .val (.int v13), d14, .val (.int v15), .val (.int v16), .val (.long t0), .second, d19, d20] [(.int (0 : Int32))])) (fun t k => ?_) ?_
        · show Steps p.tables e below (T.setTop (mkF m 153 #[d0, d1, .val (.long v2), .second, .val (.long v4), .second, d6, d7, .val (.long v8), .second, .val (.long v10), .second, d12, .val (.int v13), d14, .val (.int v15), .val (.int v16), .val (.long t0), .second, d19, d20] [(.int v13), (.int v16)])) t
          refine XS.icmpYes X.here hx rfl (pc0 := 153) (pc' := 160) rfl (hb hby at_153) rfl (feq hc153).2 (by decide) (by decide) ?_
          show Steps p.tables e below (T.setTop (mkF m 160 #[d0, d1, .val (.long v2), .second, .val (.long v4), .second, d6, d7, .val (.long v8), .second, .val (.long v10), .second, d12, .val (.int v13), d14, .val (.int v15), .val (.int v16), .val (.long t0), .second, d19, d20] [])) t
          refine XS.iconst X.here hx rfl (hb hby at_160) ?_
          exact k
        obtain rfl : (0 : Int32) = r := Option.some.inj hF
        exact own_retN X hx (t := .boolean) hret hlk (by simp) (hb hby at_161) eT (v := (0 : Int32)) (by decide) ⟨rfl, N, K⟩ (by decide) (by decide)
    · rw [if_neg hc146] at hF
      refine own_Goes.via (B := T.setTop (mkF m 171 #[d0, d1, .val (.long v2), .second, .val (.long v4), .second, d6, d7, .val (.long v8), .second, .val (.long v10), .second, d12, .val (.int v13), d14, .val (.int v15), .val (.int v16), .val (.long t0), .second, d19, d20] [(.int (lcmpW ((2 : Int64) * t0) v8))])) (fun t k => ?_) ?_
      · show Steps p.tables e below (T.setTop (mkF m 146 #[d0, d1, .val (.long v2), .second, .val (.long v4), .second, d6, d7, .val (.long v8), .second, .val (.long v10), .second, d12, .val (.int v13), d14, .val (.int v15), .val (.int v16), .val (.long t0), .second, d19, d20] [(.int (lcmpW t0 (0 : Int64)))])) t
        refine XS.ifYes X.here hx rfl (pc0 := 146) (pc' := 162) rfl (hb hby at_146) rfl (own_feqL hc146).2 (by decide) (by decide) ?_
        show Steps p.tables e below (T.setTop (mkF m 162 #[d0, d1, .val (.long v2), .second, .val (.long v4), .second, d6, d7, .val (.long v8), .second, .val (.long v10), .second, d12, .val (.int v13), d14, .val (.int v15), .val (.int v16), .val (.long t0), .second, d19, d20] [])) t
        refine X.ldc2Long hx hown (mvT hZ (w52 hw)) (g := (mkF m 162 #[d0, d1, .val (.long v2), .second, .val (.long v4), .second, d6, d7, .val (.long v8), .second, .val (.long v10), .second, d12, .val (.int v13), d14, .val (.int v15), .val (.int v16), .val (.long t0), .second, d19, d20] [])) rfl (hb hby at_162) _ ?_
        show Steps p.tables e below (T.setTop (mkF m 165 #[d0, d1, .val (.long v2), .second, .val (.long v4), .second, d6, d7, .val (.long v8), .second, .val (.long v10), .second, d12, .val (.int v13), d14, .val (.int v15), .val (.int v16), .val (.long t0), .second, d19, d20] [(.long (2 : Int64))])) t
        refine XS.lload X.here hx rfl (hb hby at_165) rfl ?_
        show Steps p.tables e below (T.setTop (mkF m 167 #[d0, d1, .val (.long v2), .second, .val (.long v4), .second, d6, d7, .val (.long v8), .second, .val (.long v10), .second, d12, .val (.int v13), d14, .val (.int v15), .val (.int v16), .val (.long t0), .second, d19, d20] [(.long t0), (.long (2 : Int64))])) t
        refine XS.lmul X.here hx rfl (hb hby at_167) rfl ?_
        show Steps p.tables e below (T.setTop (mkF m 168 #[d0, d1, .val (.long v2), .second, .val (.long v4), .second, d6, d7, .val (.long v8), .second, .val (.long v10), .second, d12, .val (.int v13), d14, .val (.int v15), .val (.int v16), .val (.long t0), .second, d19, d20] [(.long ((2 : Int64) * t0))])) t
        refine XS.lload X.here hx rfl (hb hby at_168) rfl ?_
        show Steps p.tables e below (T.setTop (mkF m 170 #[d0, d1, .val (.long v2), .second, .val (.long v4), .second, d6, d7, .val (.long v8), .second, .val (.long v10), .second, d12, .val (.int v13), d14, .val (.int v15), .val (.int v16), .val (.long t0), .second, d19, d20] [(.long v8), (.long ((2 : Int64) * t0))])) t
        refine XS.lcmp X.here hx rfl (hb hby at_170) rfl ?_
        exact k
      by_cases hc171 : ((2 : Int64) * t0) < v8
      · rw [if_pos hc171] at hF
        refine own_Goes.via (B := T.setTop (mkF m 193 #[d0, d1, .val (.long v2), .second, .val (.long v4), .second, d6, d7, .val (.long v8), .second, .val (.long v10), .second, d12, .val (.int v13), d14, .val (.int v15), .val (.int v16), .val (.long t0), .second, d19, d20] [(.long ((v15.toInt64) * v8))])) (fun t k => ?_) ?_
        · show Steps p.tables e below (T.setTop (mkF m 171 #[d0, d1, .val (.long v2), .second, .val (.long v4), .second, d6, d7, .val (.long v8), .second, .val (.long v10), .second, d12, .val (.int v13), d14, .val (.int v15), .val (.int v16), .val (.long t0), .second, d19, d20] [(.int (lcmpW ((2 : Int64) * t0) v8))])) t
          refine XS.ifYes X.here hx rfl (pc0 := 171) (pc' := 187) rfl (hb hby at_171) rfl (own_tltL hc171).1 (by decide) (by decide) ?_
          show Steps p.tables e below (T.setTop (mkF m 187 #[d0, d1, .val (.long v2), .second, .val (.long v4), .second, d6, d7, .val (.long v8), .second, .val (.long v10), .second, d12, .val (.int v13), d14, .val (.int v15), .val (.int v16), .val (.long t0), .second, d19, d20] [])) t
          refine XS.iload X.here hx rfl (hb hby at_187) rfl ?_
          show Steps p.tables e below (T.setTop (mkF m 189 #[d0, d1, .val (.long v2), .second, .val (.long v4), .second, d6, d7, .val (.long v8), .second, .val (.long v10), .second, d12, .val (.int v13), d14, .val (.int v15), .val (.int v16), .val (.long t0), .second, d19, d20] [(.int v15)])) t
          refine XS.i2l X.here hx rfl (hb hby at_189) rfl ?_
          show Steps p.tables e below (T.setTop (mkF m 190 #[d0, d1, .val (.long v2), .second, .val (.long v4), .second, d6, d7, .val (.long v8), .second, .val (.long v10), .second, d12, .val (.int v13), d14, .val (.int v15), .val (.int v16), .val (.long t0), .second, d19, d20] [(.long (v15.toInt64))])) t
          refine XS.lload X.here hx rfl (hb hby at_190) rfl ?_
          show Steps p.tables e below (T.setTop (mkF m 192 #[d0, d1, .val (.long v2), .second, .val (.long v4), .second, d6, d7, .val (.long v8), .second, .val (.long v10), .second, d12, .val (.int v13), d14, .val (.int v15), .val (.int v16), .val (.long t0), .second, d19, d20] [(.long v8), (.long (v15.toInt64))])) t
          refine XS.lmul X.here hx rfl (hb hby at_192) rfl ?_
          exact k
        obtain ⟨x135, hx135, hF⟩ := own_lt_e hF
        rw [← hx135]
        refine own_Goes.via (B := T.setTop (mkF m 199 #[d0, d1, .val (.long v2), .second, .val (.long v4), .second, d6, d7, .val (.long v8), .second, .val (.long v10), .second, d12, .val (.int v13), d14, .val (.int v15), .val (.int v16), .val (.long t0), .second, .val (.long x135), .second] [(.int v13), (.int v16)])) (fun t k => ?_) ?_
        · show Steps p.tables e below (T.setTop (mkF m 193 #[d0, d1, .val (.long v2), .second, .val (.long v4), .second, d6, d7, .val (.long v8), .second, .val (.long v10), .second, d12, .val (.int v13), d14, .val (.int v15), .val (.int v16), .val (.long t0), .second, d19, d20] [(.long x135)])) t
          refine XS.lstore X.here hx rfl (hb hby at_193) rfl (l' := #[d0, d1, .val (.long v2), .second, .val (.long v4), .second, d6, d7, .val (.long v8), .second, .val (.long v10), .second, d12, .val (.int v13), d14, .val (.int v15), .val (.int v16), .val (.long t0), .second, .val (.long x135), .second]) (own_st2 rfl rfl o_d19 o_d20 rfl) ?_
          show Steps p.tables e below (T.setTop (mkF m 195 #[d0, d1, .val (.long v2), .second, .val (.long v4), .second, d6, d7, .val (.long v8), .second, .val (.long v10), .second, d12, .val (.int v13), d14, .val (.int v15), .val (.int v16), .val (.long t0), .second, .val (.long x135), .second] [])) t
          refine XS.iload X.here hx rfl (hb hby at_195) rfl ?_
          show Steps p.tables e below (T.setTop (mkF m 197 #[d0, d1, .val (.long v2), .second, .val (.long v4), .second, d6, d7, .val (.long v8), .second, .val (.long v10), .second, d12, .val (.int v13), d14, .val (.int v15), .val (.int v16), .val (.long t0), .second, .val (.long x135), .second] [(.int v16)])) t
          refine XS.iload X.here hx rfl (hb hby at_197) rfl ?_
          exact k
        by_cases hc199 : v13 < v16
        · rw [if_pos hc199] at hF
          refine own_Goes.via (B := T.setTop (mkF m 203 #[d0, d1, .val (.long v2), .second, .val (.long v4), .second, d6, d7, .val (.long v8), .second, .val (.long v10), .second, d12, .val (.int v13), d14, .val (.int v15), .val (.int v16), .val (.long t0), .second, .val (.long x135), .second] [(.int (0 : Int32))])) (fun t k => ?_) ?_
          · show Steps p.tables e below (T.setTop (mkF m 199 #[d0, d1, .val (.long v2), .second, .val (.long v4), .second, d6, d7, .val (.long v8), .second, .val (.long v10), .second, d12, .val (.int v13), d14, .val (.int v15), .val (.int v16), .val (.long t0), .second, .val (.long x135), .second] [(.int v13), (.int v16)])) t
            refine XS.icmpNo X.here hx rfl (hb hby at_199) rfl (tlt hc199).2.2.2 ?_
            show Steps p.tables e below (T.setTop (mkF m 202 #[d0, d1, .val (.long v2), .second, .val (.long v4), .second, d6, d7, .val (.long v8), .second, .val (.long v10), .second, d12, .val (.int v13), d14, .val (.int v15), .val (.int v16), .val (.long t0), .second, .val (.long x135), .second] [])) t
            refine XS.iconst X.here hx rfl (hb hby at_202) ?_
            exact k
          obtain rfl : (0 : Int32) = r := Option.some.inj hF
          exact own_retN X hx (t := .boolean) hret hlk (by simp) (hb hby at_203) eT (v := (0 : Int32)) (by decide) ⟨rfl, N, K⟩ (by decide) (by decide)
        · rw [if_neg hc199] at hF
          refine own_Goes.via (B := T.setTop (mkF m 208 #[d0, d1, .val (.long v2), .second, .val (.long v4), .second, d6, d7, .val (.long v8), .second, .val (.long v10), .second, d12, .val (.int v13), d14, .val (.int v15), .val (.int v16), .val (.long t0), .second, .val (.long x135), .second] [(.int v13), (.int v16)])) (fun t k => ?_) ?_
          · show Steps p.tables e below (T.setTop (mkF m 199 #[d0, d1, .val (.long v2), .second, .val (.long v4), .second, d6, d7, .val (.long v8), .second, .val (.long v10), .second, d12, .val (.int v13), d14, .val (.int v15), .val (.int v16), .val (.long t0), .second, .val (.long x135), .second] [(.int v13), (.int v16)])) t
            refine XS.icmpYes X.here hx rfl (pc0 := 199) (pc' := 204) rfl (hb hby at_199) rfl (flt hc199).2.2.2 (by decide) (by decide) ?_
            show Steps p.tables e below (T.setTop (mkF m 204 #[d0, d1, .val (.long v2), .second, .val (.long v4), .second, d6, d7, .val (.long v8), .second, .val (.long v10), .second, d12, .val (.int v13), d14, .val (.int v15), .val (.int v16), .val (.long t0), .second, .val (.long x135), .second] [])) t
            refine XS.iload X.here hx rfl (hb hby at_204) rfl ?_
            show Steps p.tables e below (T.setTop (mkF m 206 #[d0, d1, .val (.long v2), .second, .val (.long v4), .second, d6, d7, .val (.long v8), .second, .val (.long v10), .second, d12, .val (.int v13), d14, .val (.int v15), .val (.int v16), .val (.long t0), .second, .val (.long x135), .second] [(.int v16)])) t
            refine XS.iload X.here hx rfl (hb hby at_206) rfl ?_
            exact k
          by_cases hc208 : v16 = v13
          · rw [if_pos hc208] at hF
            refine own_Goes.via (B := T.setTop (mkF m 222 #[d0, d1, .val (.long v2), .second, .val (.long v4), .second, d6, d7, .val (.long v8), .second, .val (.long v10), .second, d12, .val (.int v13), d14, .val (.int v15), .val (.int v16), .val (.long t0), .second, .val (.long x135), .second] [(.int (lcmpW (((v13 - (1 : Int32)).toInt64) * t0) x135))])) (fun t k => ?_) ?_
            · show Steps p.tables e below (T.setTop (mkF m 208 #[d0, d1, .val (.long v2), .second, .val (.long v4), .second, d6, d7, .val (.long v8), .second, .val (.long v10), .second, d12, .val (.int v13), d14, .val (.int v15), .val (.int v16), .val (.long t0), .second, .val (.long x135), .second] [(.int v13), (.int v16)])) t
              refine XS.icmpNo X.here hx rfl (hb hby at_208) rfl (teq hc208).2 ?_
              show Steps p.tables e below (T.setTop (mkF m 211 #[d0, d1, .val (.long v2), .second, .val (.long v4), .second, d6, d7, .val (.long v8), .second, .val (.long v10), .second, d12, .val (.int v13), d14, .val (.int v15), .val (.int v16), .val (.long t0), .second, .val (.long x135), .second] [])) t
              refine XS.iload X.here hx rfl (hb hby at_211) rfl ?_
              show Steps p.tables e below (T.setTop (mkF m 213 #[d0, d1, .val (.long v2), .second, .val (.long v4), .second, d6, d7, .val (.long v8), .second, .val (.long v10), .second, d12, .val (.int v13), d14, .val (.int v15), .val (.int v16), .val (.long t0), .second, .val (.long x135), .second] [(.int v13)])) t
              refine XS.iconst X.here hx rfl (hb hby at_213) ?_
              show Steps p.tables e below (T.setTop (mkF m 214 #[d0, d1, .val (.long v2), .second, .val (.long v4), .second, d6, d7, .val (.long v8), .second, .val (.long v10), .second, d12, .val (.int v13), d14, .val (.int v15), .val (.int v16), .val (.long t0), .second, .val (.long x135), .second] [(.int (1 : Int32)), (.int v13)])) t
              refine XS.isub X.here hx rfl (hb hby at_214) rfl ?_
              show Steps p.tables e below (T.setTop (mkF m 215 #[d0, d1, .val (.long v2), .second, .val (.long v4), .second, d6, d7, .val (.long v8), .second, .val (.long v10), .second, d12, .val (.int v13), d14, .val (.int v15), .val (.int v16), .val (.long t0), .second, .val (.long x135), .second] [(.int (v13 - (1 : Int32)))])) t
              refine XS.i2l X.here hx rfl (hb hby at_215) rfl ?_
              show Steps p.tables e below (T.setTop (mkF m 216 #[d0, d1, .val (.long v2), .second, .val (.long v4), .second, d6, d7, .val (.long v8), .second, .val (.long v10), .second, d12, .val (.int v13), d14, .val (.int v15), .val (.int v16), .val (.long t0), .second, .val (.long x135), .second] [(.long ((v13 - (1 : Int32)).toInt64))])) t
              refine XS.lload X.here hx rfl (hb hby at_216) rfl ?_
              show Steps p.tables e below (T.setTop (mkF m 218 #[d0, d1, .val (.long v2), .second, .val (.long v4), .second, d6, d7, .val (.long v8), .second, .val (.long v10), .second, d12, .val (.int v13), d14, .val (.int v15), .val (.int v16), .val (.long t0), .second, .val (.long x135), .second] [(.long t0), (.long ((v13 - (1 : Int32)).toInt64))])) t
              refine XS.lmul X.here hx rfl (hb hby at_218) rfl ?_
              show Steps p.tables e below (T.setTop (mkF m 219 #[d0, d1, .val (.long v2), .second, .val (.long v4), .second, d6, d7, .val (.long v8), .second, .val (.long v10), .second, d12, .val (.int v13), d14, .val (.int v15), .val (.int v16), .val (.long t0), .second, .val (.long x135), .second] [(.long (((v13 - (1 : Int32)).toInt64) * t0))])) t
              refine XS.lload X.here hx rfl (hb hby at_219) rfl ?_
              show Steps p.tables e below (T.setTop (mkF m 221 #[d0, d1, .val (.long v2), .second, .val (.long v4), .second, d6, d7, .val (.long v8), .second, .val (.long v10), .second, d12, .val (.int v13), d14, .val (.int v15), .val (.int v16), .val (.long t0), .second, .val (.long x135), .second] [(.long x135), (.long (((v13 - (1 : Int32)).toInt64) * t0))])) t
              refine XS.lcmp X.here hx rfl (hb hby at_221) rfl ?_
              exact k
            by_cases hc222 : (((v13 - (1 : Int32)).toInt64) * t0) < x135
            · rw [if_pos hc222] at hF
              refine own_Goes.via (B := T.setTop (mkF m 230 #[d0, d1, .val (.long v2), .second, .val (.long v4), .second, d6, d7, .val (.long v8), .second, .val (.long v10), .second, d12, .val (.int v13), d14, .val (.int v15), .val (.int v16), .val (.long t0), .second, .val (.long x135), .second] [(.int (1 : Int32))])) (fun t k => ?_) ?_
              · show Steps p.tables e below (T.setTop (mkF m 222 #[d0, d1, .val (.long v2), .second, .val (.long v4), .second, d6, d7, .val (.long v8), .second, .val (.long v10), .second, d12, .val (.int v13), d14, .val (.int v15), .val (.int v16), .val (.long t0), .second, .val (.long x135), .second] [(.int (lcmpW (((v13 - (1 : Int32)).toInt64) * t0) x135))])) t
                refine XS.ifNo X.here hx rfl (hb hby at_222) rfl (own_tltL hc222).2 ?_
                show Steps p.tables e below (T.setTop (mkF m 225 #[d0, d1, .val (.long v2), .second, .val (.long v4), .second, d6, d7, .val (.long v8), .second, .val (.long v10), .second, d12, .val (.int v13), d14, .val (.int v15), .val (.int v16), .val (.long t0), .second, .val (.long x135), .second] [])) t
                refine XS.iconst X.here hx rfl (hb hby at_225) ?_
                show Steps p.tables e below (T.setTop (mkF m 226 #[d0, d1, .val (.long v2), .second, .val (.long v4), .second, d6, d7, .val (.long v8), .second, .val (.long v10), .second, d12, .val (.int v13), d14, .val (.int v15), .val (.int v16), .val (.long t0), .second, .val (.long x135), .second] [(.int (1 : Int32))])) t
                refine XS.goto X.here hx rfl (pc0 := 226) (pc' := 230) rfl (hb hby at_226) (by decide) (by decide) ?_
                exact k
              obtain rfl : (1 : Int32) = r := Option.some.inj hF
              exact own_retN X hx (t := .boolean) hret hlk (by simp) (hb hby at_230) eT (v := (1 : Int32)) (by decide) ⟨rfl, N, K⟩ (by decide) (by decide)
            · rw [if_neg hc222] at hF
              refine own_Goes.via (B := T.setTop (mkF m 230 #[d0, d1, .val (.long v2), .second, .val (.long v4), .second, d6, d7, .val (.long v8), .second, .val (.long v10), .second, d12, .val (.int v13), d14, .val (.int v15), .val (.int v16), .val (.long t0), .second, .val (.long x135), .second] [(.int (0 : Int32))])) (fun t k => ?_) ?_
              · show Steps p.tables e below (T.setTop (mkF m 222 #[d0, d1, .val (.long v2), .second, .val (.long v4), .second, d6, d7, .val (.long v8), .second, .val (.long v10), .second, d12, .val (.int v13), d14, .val (.int v15), .val (.int v16), .val (.long t0), .second, .val (.long x135), .second] [(.int (lcmpW (((v13 - (1 : Int32)).toInt64) * t0) x135))])) t
                refine XS.ifYes X.here hx rfl (pc0 := 222) (pc' := 229) rfl (hb hby at_222) rfl (own_fltL hc222).2 (by decide) (by decide) ?_
                show Steps p.tables e below (T.setTop (mkF m 229 #[d0, d1, .val (.long v2), .second, .val (.long v4), .second, d6, d7, .val (.long v8), .second, .val (.long v10), .second, d12, .val (.int v13), d14, .val (.int v15), .val (.int v16), .val (.long t0), .second, .val (.long x135), .second] [])) t
                refine XS.iconst X.here hx rfl (hb hby at_229) ?_
                exact k
              obtain rfl : (0 : Int32) = r := Option.some.inj hF
              exact own_retN X hx (t := .boolean) hret hlk (by simp) (hb hby at_230) eT (v := (0 : Int32)) (by decide) ⟨rfl, N, K⟩ (by decide) (by decide)
          · rw [if_neg hc208] at hF
            refine own_Goes.via (B := T.setTop (mkF m 240 #[d0, d1, .val (.long v2), .second, .val (.long v4), .second, d6, d7, .val (.long v8), .second, .val (.long v10), .second, d12, .val (.int v13), d14, .val (.int v15), .val (.int v16), .val (.long t0), .second, .val (.long x135), .second] [(.int (lcmpW ((v16.toInt64) * t0) x135))])) (fun t k => ?_) ?_
            · show Steps p.tables e below (T.setTop (mkF m 208 #[d0, d1, .val (.long v2), .second, .val (.long v4), .second, d6, d7, .val (.long v8), .second, .val (.long v10), .second, d12, .val (.int v13), d14, .val (.int v15), .val (.int v16), .val (.long t0), .second, .val (.long x135), .second] [(.int v13), (.int v16)])) t
              refine XS.icmpYes X.here hx rfl (pc0 := 208) (pc' := 231) rfl (hb hby at_208) rfl (feq hc208).2 (by decide) (by decide) ?_
              show Steps p.tables e below (T.setTop (mkF m 231 #[d0, d1, .val (.long v2), .second, .val (.long v4), .second, d6, d7, .val (.long v8), .second, .val (.long v10), .second, d12, .val (.int v13), d14, .val (.int v15), .val (.int v16), .val (.long t0), .second, .val (.long x135), .second] [])) t
              refine XS.iload X.here hx rfl (hb hby at_231) rfl ?_
              show Steps p.tables e below (T.setTop (mkF m 233 #[d0, d1, .val (.long v2), .second, .val (.long v4), .second, d6, d7, .val (.long v8), .second, .val (.long v10), .second, d12, .val (.int v13), d14, .val (.int v15), .val (.int v16), .val (.long t0), .second, .val (.long x135), .second] [(.int v16)])) t
              refine XS.i2l X.here hx rfl (hb hby at_233) rfl ?_
              show Steps p.tables e below (T.setTop (mkF m 234 #[d0, d1, .val (.long v2), .second, .val (.long v4), .second, d6, d7, .val (.long v8), .second, .val (.long v10), .second, d12, .val (.int v13), d14, .val (.int v15), .val (.int v16), .val (.long t0), .second, .val (.long x135), .second] [(.long (v16.toInt64))])) t
              refine XS.lload X.here hx rfl (hb hby at_234) rfl ?_
              show Steps p.tables e below (T.setTop (mkF m 236 #[d0, d1, .val (.long v2), .second, .val (.long v4), .second, d6, d7, .val (.long v8), .second, .val (.long v10), .second, d12, .val (.int v13), d14, .val (.int v15), .val (.int v16), .val (.long t0), .second, .val (.long x135), .second] [(.long t0), (.long (v16.toInt64))])) t
              refine XS.lmul X.here hx rfl (hb hby at_236) rfl ?_
              show Steps p.tables e below (T.setTop (mkF m 237 #[d0, d1, .val (.long v2), .second, .val (.long v4), .second, d6, d7, .val (.long v8), .second, .val (.long v10), .second, d12, .val (.int v13), d14, .val (.int v15), .val (.int v16), .val (.long t0), .second, .val (.long x135), .second] [(.long ((v16.toInt64) * t0))])) t
              refine XS.lload X.here hx rfl (hb hby at_237) rfl ?_
              show Steps p.tables e below (T.setTop (mkF m 239 #[d0, d1, .val (.long v2), .second, .val (.long v4), .second, d6, d7, .val (.long v8), .second, .val (.long v10), .second, d12, .val (.int v13), d14, .val (.int v15), .val (.int v16), .val (.long t0), .second, .val (.long x135), .second] [(.long x135), (.long ((v16.toInt64) * t0))])) t
              refine XS.lcmp X.here hx rfl (hb hby at_239) rfl ?_
              exact k
            by_cases hc240 : ((v16.toInt64) * t0) < x135
            · rw [if_pos hc240] at hF
              refine own_Goes.via (B := T.setTop (mkF m 262 #[d0, d1, .val (.long v2), .second, .val (.long v4), .second, d6, d7, .val (.long v8), .second, .val (.long v10), .second, d12, .val (.int v13), d14, .val (.int v15), .val (.int v16), .val (.long t0), .second, .val (.long x135), .second] [(.int (0 : Int32))])) (fun t k => ?_) ?_
              · show Steps p.tables e below (T.setTop (mkF m 240 #[d0, d1, .val (.long v2), .second, .val (.long v4), .second, d6, d7, .val (.long v8), .second, .val (.long v10), .second, d12, .val (.int v13), d14, .val (.int v15), .val (.int v16), .val (.long t0), .second, .val (.long x135), .second] [(.int (lcmpW ((v16.toInt64) * t0) x135))])) t
                refine XS.ifYes X.here hx rfl (pc0 := 240) (pc' := 261) rfl (hb hby at_240) rfl (own_tltL hc240).1 (by decide) (by decide) ?_
                show Steps p.tables e below (T.setTop (mkF m 261 #[d0, d1, .val (.long v2), .second, .val (.long v4), .second, d6, d7, .val (.long v8), .second, .val (.long v10), .second, d12, .val (.int v13), d14, .val (.int v15), .val (.int v16), .val (.long t0), .second, .val (.long x135), .second] [])) t
                refine XS.iconst X.here hx rfl (hb hby at_261) ?_
                exact k
              obtain rfl : (0 : Int32) = r := Option.some.inj hF
              exact own_retN X hx (t := .boolean) hret hlk (by simp) (hb hby at_262) eT (v := (0 : Int32)) (by decide) ⟨rfl, N, K⟩ (by decide) (by decide)
            · rw [if_neg hc240] at hF
              refine own_Goes.via (B := T.setTop (mkF m 254 #[d0, d1, .val (.long v2), .second, .val (.long v4), .second, d6, d7, .val (.long v8), .second, .val (.long v10), .second, d12, .val (.int v13), d14, .val (.int v15), .val (.int v16), .val (.long t0), .second, .val (.long x135), .second] [(.int (lcmpW (((v16 - (1 : Int32)).toInt64) * t0) x135))])) (fun t k => ?_) ?_
              · show Steps p.tables e below (T.setTop (mkF m 240 #[d0, d1, .val (.long v2), .second, .val (.long v4), .second, d6, d7, .val (.long v8), .second, .val (.long v10), .second, d12, .val (.int v13), d14, .val (.int v15), .val (.int v16), .val (.long t0), .second, .val (.long x135), .second] [(.int (lcmpW ((v16.toInt64) * t0) x135))])) t
                refine XS.ifNo X.here hx rfl (hb hby at_240) rfl (own_fltL hc240).1 ?_
                show Steps p.tables e below (T.setTop (mkF m 243 #[d0, d1, .val (.long v2), .second, .val (.long v4), .second, d6, d7, .val (.long v8), .second, .val (.long v10), .second, d12, .val (.int v13), d14, .val (.int v15), .val (.int v16), .val (.long t0), .second, .val (.long x135), .second] [])) t
                refine XS.iload X.here hx rfl (hb hby at_243) rfl ?_
                show Steps p.tables e below (T.setTop (mkF m 245 #[d0, d1, .val (.long v2), .second, .val (.long v4), .second, d6, d7, .val (.long v8), .second, .val (.long v10), .second, d12, .val (.int v13), d14, .val (.int v15), .val (.int v16), .val (.long t0), .second, .val (.long x135), .second] [(.int v16)])) t
                refine XS.iconst X.here hx rfl (hb hby at_245) ?_
                show Steps p.tables e below (T.setTop (mkF m 246 #[d0, d1, .val (.long v2), .second, .val (.long v4), .second, d6, d7, .val (.long v8), .second, .val (.long v10), .second, d12, .val (.int v13), d14, .val (.int v15), .val (.int v16), .val (.long t0), .second, .val (.long x135), .second] [(.int (1 : Int32)), (.int v16)])) t
                refine XS.isub X.here hx rfl (hb hby at_246) rfl ?_
                show Steps p.tables e below (T.setTop (mkF m 247 #[d0, d1, .val (.long v2), .second, .val (.long v4), .second, d6, d7, .val (.long v8), .second, .val (.long v10), .second, d12, .val (.int v13), d14, .val (.int v15), .val (.int v16), .val (.long t0), .second, .val (.long x135), .second] [(.int (v16 - (1 : Int32)))])) t
                refine XS.i2l X.here hx rfl (hb hby at_247) rfl ?_
                show Steps p.tables e below (T.setTop (mkF m 248 #[d0, d1, .val (.long v2), .second, .val (.long v4), .second, d6, d7, .val (.long v8), .second, .val (.long v10), .second, d12, .val (.int v13), d14, .val (.int v15), .val (.int v16), .val (.long t0), .second, .val (.long x135), .second] [(.long ((v16 - (1 : Int32)).toInt64))])) t
                refine XS.lload X.here hx rfl (hb hby at_248) rfl ?_
                show Steps p.tables e below (T.setTop (mkF m 250 #[d0, d1, .val (.long v2), .second, .val (.long v4), .second, d6, d7, .val (.long v8), .second, .val (.long v10), .second, d12, .val (.int v13), d14, .val (.int v15), .val (.int v16), .val (.long t0), .second, .val (.long x135), .second] [(.long t0), (.long ((v16 - (1 : Int32)).toInt64))])) t
                refine XS.lmul X.here hx rfl (hb hby at_250) rfl ?_
                show Steps p.tables e below (T.setTop (mkF m 251 #[d0, d1, .val (.long v2), .second, .val (.long v4), .second, d6, d7, .val (.long v8), .second, .val (.long v10), .second, d12, .val (.int v13), d14, .val (.int v15), .val (.int v16), .val (.long t0), .second, .val (.long x135), .second] [(.long (((v16 - (1 : Int32)).toInt64) * t0))])) t
                refine XS.lload X.here hx rfl (hb hby at_251) rfl ?_
                show Steps p.tables e below (T.setTop (mkF m 253 #[d0, d1, .val (.long v2), .second, .val (.long v4), .second, d6, d7, .val (.long v8), .second, .val (.long v10), .second, d12, .val (.int v13), d14, .val (.int v15), .val (.int v16), .val (.long t0), .second, .val (.long x135), .second] [(.long x135), (.long (((v16 - (1 : Int32)).toInt64) * t0))])) t
                refine XS.lcmp X.here hx rfl (hb hby at_253) rfl ?_
                exact k
              by_cases hc254 : (((v16 - (1 : Int32)).toInt64) * t0) < x135
              · rw [if_pos hc254] at hF
                refine own_Goes.via (B := T.setTop (mkF m 262 #[d0, d1, .val (.long v2), .second, .val (.long v4), .second, d6, d7, .val (.long v8), .second, .val (.long v10), .second, d12, .val (.int v13), d14, .val (.int v15), .val (.int v16), .val (.long t0), .second, .val (.long x135), .second] [(.int (1 : Int32))])) (fun t k => ?_) ?_
                · show Steps p.tables e below (T.setTop (mkF m 254 #[d0, d1, .val (.long v2), .second, .val (.long v4), .second, d6, d7, .val (.long v8), .second, .val (.long v10), .second, d12, .val (.int v13), d14, .val (.int v15), .val (.int v16), .val (.long t0), .second, .val (.long x135), .second] [(.int (lcmpW (((v16 - (1 : Int32)).toInt64) * t0) x135))])) t
                  refine XS.ifNo X.here hx rfl (hb hby at_254) rfl (own_tltL hc254).2 ?_
                  show Steps p.tables e below (T.setTop (mkF m 257 #[d0, d1, .val (.long v2), .second, .val (.long v4), .second, d6, d7, .val (.long v8), .second, .val (.long v10), .second, d12, .val (.int v13), d14, .val (.int v15), .val (.int v16), .val (.long t0), .second, .val (.long x135), .second] [])) t
                  refine XS.iconst X.here hx rfl (hb hby at_257) ?_
                  show Steps p.tables e below (T.setTop (mkF m 258 #[d0, d1, .val (.long v2), .second, .val (.long v4), .second, d6, d7, .val (.long v8), .second, .val (.long v10), .second, d12, .val (.int v13), d14, .val (.int v15), .val (.int v16), .val (.long t0), .second, .val (.long x135), .second] [(.int (1 : Int32))])) t
                  refine XS.goto X.here hx rfl (pc0 := 258) (pc' := 262) rfl (hb hby at_258) (by decide) (by decide) ?_
                  exact k
                obtain rfl : (1 : Int32) = r := Option.some.inj hF
                exact own_retN X hx (t := .boolean) hret hlk (by simp) (hb hby at_262) eT (v := (1 : Int32)) (by decide) ⟨rfl, N, K⟩ (by decide) (by decide)
              · rw [if_neg hc254] at hF
                refine own_Goes.via (B := T.setTop (mkF m 262 #[d0, d1, .val (.long v2), .second, .val (.long v4), .second, d6, d7, .val (.long v8), .second, .val (.long v10), .second, d12, .val (.int v13), d14, .val (.int v15), .val (.int v16), .val (.long t0), .second, .val (.long x135), .second] [(.int (0 : Int32))])) (fun t k => ?_) ?_
                · show Steps p.tables e below (T.setTop (mkF m 254 #[d0, d1, .val (.long v2), .second, .val (.long v4), .second, d6, d7, .val (.long v8), .second, .val (.long v10), .second, d12, .val (.int v13), d14, .val (.int v15), .val (.int v16), .val (.long t0), .second, .val (.long x135), .second] [(.int (lcmpW (((v16 - (1 : Int32)).toInt64) * t0) x135))])) t
                  refine XS.ifYes X.here hx rfl (pc0 := 254) (pc' := 261) rfl (hb hby at_254) rfl (own_fltL hc254).2 (by decide) (by decide) ?_
                  show Steps p.tables e below (T.setTop (mkF m 261 #[d0, d1, .val (.long v2), .second, .val (.long v4), .second, d6, d7, .val (.long v8), .second, .val (.long v10), .second, d12, .val (.int v13), d14, .val (.int v15), .val (.int v16), .val (.long t0), .second, .val (.long x135), .second] [])) t
                  refine XS.iconst X.here hx rfl (hb hby at_261) ?_
                  exact k
                obtain rfl : (0 : Int32) = r := Option.some.inj hF
                exact own_retN X hx (t := .boolean) hret hlk (by simp) (hb hby at_262) eT (v := (0 : Int32)) (by decide) ⟨rfl, N, K⟩ (by decide) (by decide)
      · rw [if_neg hc171] at hF
        refine own_Goes.via (B := T.setTop (mkF m 178 #[d0, d1, .val (.long v2), .second, .val (.long v4), .second, d6, d7, .val (.long v8), .second, .val (.long v10), .second, d12, .val (.int v13), d14, .val (.int v15), .val (.int v16), .val (.long t0), .second, d19, d20] [(.int v15), (.int v16)])) (fun t k => ?_) ?_
        · show Steps p.tables e below (T.setTop (mkF m 171 #[d0, d1, .val (.long v2), .second, .val (.long v4), .second, d6, d7, .val (.long v8), .second, .val (.long v10), .second, d12, .val (.int v13), d14, .val (.int v15), .val (.int v16), .val (.long t0), .second, d19, d20] [(.int (lcmpW ((2 : Int64) * t0) v8))])) t
          refine XS.ifNo X.here hx rfl (hb hby at_171) rfl (own_fltL hc171).1 ?_
          show Steps p.tables e below (T.setTop (mkF m 174 #[d0, d1, .val (.long v2), .second, .val (.long v4), .second, d6, d7, .val (.long v8), .second, .val (.long v10), .second, d12, .val (.int v13), d14, .val (.int v15), .val (.int v16), .val (.long t0), .second, d19, d20] [])) t
          refine XS.iload X.here hx rfl (hb hby at_174) rfl ?_
          show Steps p.tables e below (T.setTop (mkF m 176 #[d0, d1, .val (.long v2), .second, .val (.long v4), .second, d6, d7, .val (.long v8), .second, .val (.long v10), .second, d12, .val (.int v13), d14, .val (.int v15), .val (.int v16), .val (.long t0), .second, d19, d20] [(.int v16)])) t
          refine XS.iload X.here hx rfl (hb hby at_176) rfl ?_
          exact k
        by_cases hc178 : v16 = v15
        · rw [if_pos hc178] at hF
          refine own_Goes.via (B := T.setTop (mkF m 186 #[d0, d1, .val (.long v2), .second, .val (.long v4), .second, d6, d7, .val (.long v8), .second, .val (.long v10), .second, d12, .val (.int v13), d14, .val (.int v15), .val (.int v16), .val (.long t0), .second, d19, d20] [(.int (1 : Int32))])) (fun t k => ?_) ?_
          · show Steps p.tables e below (T.setTop (mkF m 178 #[d0, d1, .val (.long v2), .second, .val (.long v4), .second, d6, d7, .val (.long v8), .second, .val (.long v10), .second, d12, .val (.int v13), d14, .val (.int v15), .val (.int v16), .val (.long t0), .second, d19, d20] [(.int v15), (.int v16)])) t
            refine XS.icmpNo X.here hx rfl (hb hby at_178) rfl (teq hc178).2 ?_
            show Steps p.tables e below (T.setTop (mkF m 181 #[d0, d1, .val (.long v2), .second, .val (.long v4), .second, d6, d7, .val (.long v8), .second, .val (.long v10), .second, d12, .val (.int v13), d14, .val (.int v15), .val (.int v16), .val (.long t0), .second, d19, d20] [])) t
            refine XS.iconst X.here hx rfl (hb hby at_181) ?_
            show Steps p.tables e below (T.setTop (mkF m 182 #[d0, d1, .val (.long v2), .second, .val (.long v4), .second, d6, d7, .val (.long v8), .second, .val (.long v10), .second, d12, .val (.int v13), d14, .val (.int v15), .val (.int v16), .val (.long t0), .second, d19, d20] [(.int (1 : Int32))])) t
            refine XS.goto X.here hx rfl (pc0 := 182) (pc' := 186) rfl (hb hby at_182) (by decide) (by decide) ?_
            exact k
          obtain rfl : (1 : Int32) = r := Option.some.inj hF
          exact own_retN X hx (t := .boolean) hret hlk (by simp) (hb hby at_186) eT (v := (1 : Int32)) (by decide) ⟨rfl, N, K⟩ (by decide) (by decide)
        · rw [if_neg hc178] at hF
          refine own_Goes.via (B := T.setTop (mkF m 186 #[d0, d1, .val (.long v2), .second, .val (.long v4), .second, d6, d7, .val (.long v8), .second, .val (.long v10), .second, d12, .val (.int v13), d14, .val (.int v15), .val (.int v16), .val (.long t0), .second, d19, d20] [(.int (0 : Int32))])) (fun t k => ?_) ?_
          · show Steps p.tables e below (T.setTop (mkF m 178 #[d0, d1, .val (.long v2), .second, .val (.long v4), .second, d6, d7, .val (.long v8), .second, .val (.long v10), .second, d12, .val (.int v13), d14, .val (.int v15), .val (.int v16), .val (.long t0), .second, d19, d20] [(.int v15), (.int v16)])) t
            refine XS.icmpYes X.here hx rfl (pc0 := 178) (pc' := 185) rfl (hb hby at_178) rfl (feq hc178).2 (by decide) (by decide) ?_
            show Steps p.tables e below (T.setTop (mkF m 185 #[d0, d1, .val (.long v2), .second, .val (.long v4), .second, d6, d7, .val (.long v8), .second, .val (.long v10), .second, d12, .val (.int v13), d14, .val (.int v15), .val (.int v16), .val (.long t0), .second, d19, d20] [])) t
            refine XS.iconst X.here hx rfl (hb hby at_185) ?_
            exact k
          obtain rfl : (0 : Int32) = r := Option.some.inj hF
          exact own_retN X hx (t := .boolean) hret hlk (by simp) (hb hby at_186) eT (v := (0 : Int32)) (by decide) ⟨rfl, N, K⟩ (by decide) (by decide)
  · rw [if_neg hc139] at hF
    refine own_Goes.via (B := T.setTop (mkF m 153 #[d0, d1, .val (.long v2), .second, .val (.long v4), .second, d6, d7, .val (.long v8), .second, .val (.long v10), .second, d12, .val (.int v13), d14, .val (.int v15), .val (.int v16), .val (.long t0), .second, d19, d20] [(.int v13), (.int v16)])) (fun t k => ?_) ?_
    · show Steps p.tables e below (T.setTop (mkF m 139 #[d0, d1, .val (.long v2), .second, .val (.long v4), .second, d6, d7, .val (.long v8), .second, .val (.long v10), .second, d12, .val (.int v13), d14, .val (.int v15), .val (.int v16), .val (.long t0), .second, d19, d20] [(.int v13), (.int v15)])) t
      refine XS.icmpYes X.here hx rfl (pc0 := 139) (pc' := 149) rfl (hb hby at_139) rfl (flt hc139).2.1 (by decide) (by decide) ?_
      show Steps p.tables e below (T.setTop (mkF m 149 #[d0, d1, .val (.long v2), .second, .val (.long v4), .second, d6, d7, .val (.long v8), .second, .val (.long v10), .second, d12, .val (.int v13), d14, .val (.int v15), .val (.int v16), .val (.long t0), .second, d19, d20] [])) t
      refine XS.iload X.here hx rfl (hb hby at_149) rfl ?_
      show Steps p.tables e below (T.setTop (mkF m 151 #[d0, d1, .val (.long v2), .second, .val (.long v4), .second, d6, d7, .val (.long v8), .second, .val (.long v10), .second, d12, .val (.int v13), d14, .val (.int v15), .val (.int v16), .val (.long t0), .second, d19, d20] [(.int v16)])) t
      refine XS.iload X.here hx rfl (hb hby at_151) rfl ?_
      exact k
    by_cases hc153 : v16 = v13
    · rw [if_pos hc153] at hF
      refine own_Goes.via (B := T.setTop (mkF m 161 #[d0, d1, .val (.long v2), .second, .val (.long v4), .second, d6, d7, .val (.long v8), .second, .val (.long v10), .second, d12, .val (.int v13), d14, .val (.int v15), .val (.int v16), .val (.long t0), .second, d19, d20] [(.int (1 : Int32))])) (fun t k => ?_) ?_
      · show Steps p.tables e below (T.setTop (mkF m 153 #[d0, d1, .val (.long v2), .second, .val (.long v4), .second, d6, d7, .val (.long v8), .second, .val (.long v10), .second, d12, .val (.int v13), d14, .val (.int v15), .val (.int v16), .val (.long t0), .second, d19, d20] [(.int v13), (.int v16)])) t
        refine XS.icmpNo X.here hx rfl (hb hby at_153) rfl (teq hc153).2 ?_
        show Steps p.tables e below (T.setTop (mkF m 156 #[d0, d1, .val (.long v2), .second, .val (.long v4), .second, d6, d7, .val (.long v8), .second, .val (.long v10), .second, d12, .val (.int v13), d14, .val (.int v15), .val (.int v16), .val (.long t0), .second, d19, d20] [])) t
        refine XS.iconst X.here hx rfl (hb hby at_156) ?_
        show Steps p.tables e below (T.setTop (mkF m 157 #[d0, d1, .val (.long v2), .second, .val (.long v4), .second, d6, d7, .val (.long v8), .second, .val (.long v10), .second, d12, .val (.int v13), d14, .val (.int v15), .val (.int v16), .val (.long t0), .second, d19, d20] [(.int (1 : Int32))])) t
        refine XS.goto X.here hx rfl (pc0 := 157) (pc' := 161) rfl (hb hby at_157) (by decide) (by decide) ?_
        exact k
      obtain rfl : (1 : Int32) = r := Option.some.inj hF
      exact own_retN X hx (t := .boolean) hret hlk (by simp) (hb hby at_161) eT (v := (1 : Int32)) (by decide) ⟨rfl, N, K⟩ (by decide) (by decide)
    · rw [if_neg hc153] at hF
      refine own_Goes.via (B := T.setTop (mkF m 161 #[d0, d1, .val (.long v2), .second, .val (.long v4), .second, d6, d7, .val (.long v8), .second, .val (.long v10), .second, d12, .val (.int v13), d14, .val (.int v15), .val (.int v16), .val (.long t0), .second, d19, d20] [(.int (0 : Int32))])) (fun t k => ?_) ?_
      · show Steps p.tables e below (T.setTop (mkF m 153 #[d0, d1, .val (.long v2), .second, .val (.long v4), .second, d6, d7, .val (.long v8), .second, .val (.long v10), .second, d12, .val (.int v13), d14, .val (.int v15), .val (.int v16), .val (.long t0), .second, d19, d20] [(.int v13), (.int v16)])) t
        refine XS.icmpYes X.here hx rfl (pc0 := 153) (pc' := 160) rfl (hb hby at_153) rfl (feq hc153).2 (by decide) (by decide) ?_
        show Steps p.tables e below (T.setTop (mkF m 160 #[d0, d1, .val (.long v2), .second, .val (.long v4), .second, d6, d7, .val (.long v8), .second, .val (.long v10), .second, d12, .val (.int v13), d14, .val (.int v15), .val (.int v16), .val (.long t0), .second, d19, d20] [])) t
        refine XS.iconst X.here hx rfl (hb hby at_160) ?_
        exact k
      obtain rfl : (0 : Int32) = r := Option.some.inj hF
      exact own_retN X hx (t := .boolean) hret hlk (by simp) (hb hby at_161) eT (v := (0 : Int32)) (by decide) ⟨rfl, N, K⟩ (by decide) (by decide)
set_option maxRecDepth 65536 in
set_option maxHeartbeats 4000000 in
theorem b_law_73 {p : Program} {l : Launch} {e : Env} {s : State} {m : MethodId} {args : Array Value} {below : List Frame} {meth : Method} {c : Code} {Z : State} {a0 : Array Value} {n0 : Nat} {hE : Heap} (cx : Cx_law p s m meth c Z a0) :
    ∀ {T : State} {locs : List Loc} {h : Heap} (X : Stand p l e room_1 s m args below meth c T locs 1 3) (eT : T.heap = h) (N : Fr n0 locs) (K : Keep hE h []) (z : n0 ≤ h.size) (b1 : Addr) (v1 : Int32) (v6 : Int32) (v8 : Int64) (v10 : Int64) (v12 : Int32) (f_b1_examined : Int64) (f_b1_removed : Int64) (f_b1_rows : Int32) (d0 : Slot) (v2 : Int64) (v4 : Int64) (d13 : Slot) (d14 : Slot) (d15 : Slot) (d16 : Slot) (d17 : Slot) (d18 : Slot) (d19 : Slot) (d20 : Slot) (o_d0 : One d0) (o_d13 : One d13) (o_d14 : One d14) (o_d15 : One d15) (o_d16 : One d16) (o_d17 : One d17) (o_d18 : One d18) (o_d19 : One d19) (o_d20 : One d20) (E_b1 : Exa Z h b1 "com/example/expire/expire/BatchSize") (F_b1_examined : Fld Z h b1 "com/example/expire/expire/BatchSize" "examined" "J" (.long f_b1_examined)) (F_b1_removed : Fld Z h b1 "com/example/expire/expire/BatchSize" "removed" "J" (.long f_b1_removed)) (F_b1_rows : Fld Z h b1 "com/example/expire/expire/BatchSize" "rows" "I" (.int f_b1_rows)) (g_b1 : n0 ≤ b1) (nE_b1 : hE.size ≤ b1) (r : Int32), f_law_73 v1 v6 v8 v10 v12 f_b1_examined f_b1_removed f_b1_rows = some r → own_Goes p e below s (Q_law Z hE n0 r) 1 3 (T.setTop (mkF m 73 #[d0, .val (.int v1), .val (.long v2), .second, .val (.long v4), .second, .val (.int v6), .val (.ref b1), .val (.long v8), .second, .val (.long v10), .second, .val (.int v12), d13, d14, d15, d16, d17, d18, d19, d20] [])) := by
  have cx' := cx
  obtain ⟨hx, hZ, hw, hby, hml, hown, hret, hlk, hnm⟩ := cx'
  intro T locs h X eT N K z b1 v1 v6 v8 v10 v12 f_b1_examined f_b1_removed f_b1_rows d0 v2 v4 d13 d14 d15 d16 d17 d18 d19 d20 o_d0 o_d13 o_d14 o_d15 o_d16 o_d17 o_d18 o_d19 o_d20 E_b1 F_b1_examined F_b1_removed F_b1_rows g_b1 nE_b1 r hF
  unfold f_law_73 at hF
  refine own_Goes.via (B := T.setTop (mkF m 75 #[d0, .val (.int v1), .val (.long v2), .second, .val (.long v4), .second, .val (.int v6), .val (.ref b1), .val (.long v8), .second, .val (.long v10), .second, .val (.int v12), d13, d14, d15, d16, d17, d18, d19, d20] [(.ref b1)])) (fun t k => ?_) ?_
  · show Steps p.tables e below (T.setTop (mkF m 73 #[d0, .val (.int v1), .val (.long v2), .second, .val (.long v4), .second, .val (.int v6), .val (.ref b1), .val (.long v8), .second, .val (.long v10), .second, .val (.int v12), d13, d14, d15, d16, d17, d18, d19, d20] [])) t
    refine XS.aload X.here hx rfl (hb hby at_73) rfl rfl ?_
    exact k
  obtain ⟨r138, hr138, hF⟩ := own_bd_e hF
  obtain ⟨cq138, kq138, q138a, q138b, q138c⟩ := isOf hZ eT E_b1
  obtain ⟨_, _, ⟨T138, L138, k138, n138⟩, -, X138, ⟨Lc138, hQ138, l138, y138, z138⟩, st138⟩ := X.virtualBack hx (y := (⟨"com/example/expire/expire/BatchSize", "rows", "()I"⟩ : MethodName)) (z := (⟨"com/example/expire/expire/BatchSize", "rows", "()I"⟩ : MethodName)) hown (mvT hZ (w21 hw)) (mvT hZ (w22 hw)) (notFace_of_selects (args := #[]) (mvT hZ (w24 hw))) (mvT hZ (w24 hw)) (mvT hZ (w23 hw)) (by decide) (backOf (W := 0) (rm_BatchSize_rows l Z a0 hw [] h n0 z b1 f_b1_examined f_b1_removed f_b1_rows E_b1 F_b1_examined F_b1_removed F_b1_rows g_b1 r138 hr138) hZ (w25 hw) (w2 hw) (by decide) (by decide)) q138a q138c (g := (mkF m 75 #[d0, .val (.int v1), .val (.long v2), .second, .val (.long v4), .second, .val (.int v6), .val (.ref b1), .val (.long v8), .second, .val (.long v10), .second, .val (.int v12), d13, d14, d15, d16, d17, d18, d19, d20] [(.ref b1)])) rfl (by rw [hml]; rfl) (Steps.refl _) (argsL := []) (rest := []) (lenOf pd_1 rfl) rfl (by show 2 * 0 + _ ≤ _; exact Nat.le_of_eq rfl) (hb hby at_75) (fun _ _ => ⟨rfl, eT, (by decide : 1 + 0 ≤ _), (by decide : 3 + 0 ≤ _)⟩)
  dsimp only [Pt.U, Pt.locs, Pt.cells, Pt.slots] at X138 l138 y138 z138 st138 hQ138
  subst l138 y138 z138
  obtain ⟨rfl, N138q, e138⟩ := hQ138
  have N138 := Fr.app N N138q
  refine own_Goes.tr st138 ?_
  show own_Goes _ _ _ _ _ _ _ (T138.setTop (mkF m 78 #[d0, .val (.int v1), .val (.long v2), .second, .val (.long v4), .second, .val (.int v6), .val (.ref b1), .val (.long v8), .second, .val (.long v10), .second, .val (.int v12), d13, d14, d15, d16, d17, d18, d19, d20] [(.int r138)]))
  refine own_Goes.via (B := T138.setTop (mkF m 83 #[d0, .val (.int v1), .val (.long v2), .second, .val (.long v4), .second, .val (.int v6), .val (.ref b1), .val (.long v8), .second, .val (.long v10), .second, .val (.int v12), .val (.int r138), d14, d15, d16, d17, d18, d19, d20] [(.int (0 : Int32)), (.int r138)])) (fun t k => ?_) ?_
  · show Steps p.tables e below (T138.setTop (mkF m 78 #[d0, .val (.int v1), .val (.long v2), .second, .val (.long v4), .second, .val (.int v6), .val (.ref b1), .val (.long v8), .second, .val (.long v10), .second, .val (.int v12), d13, d14, d15, d16, d17, d18, d19, d20] [(.int r138)])) t
    refine XS.istoreS X138.here hx rfl (hb hby at_78) rfl rfl o_d13 ?_
    show Steps p.tables e below (T138.setTop (mkF m 80 #[d0, .val (.int v1), .val (.long v2), .second, .val (.long v4), .second, .val (.int v6), .val (.ref b1), .val (.long v8), .second, .val (.long v10), .second, .val (.int v12), .val (.int r138), d14, d15, d16, d17, d18, d19, d20] [])) t
    refine XS.iload X138.here hx rfl (hb hby at_80) rfl ?_
    show Steps p.tables e below (T138.setTop (mkF m 82 #[d0, .val (.int v1), .val (.long v2), .second, .val (.long v4), .second, .val (.int v6), .val (.ref b1), .val (.long v8), .second, .val (.long v10), .second, .val (.int v12), .val (.int r138), d14, d15, d16, d17, d18, d19, d20] [(.int r138)])) t
    refine XS.iconst X138.here hx rfl (hb hby at_82) ?_
    exact k
  obtain ⟨r139, hr139, hF⟩ := own_bd_e hF
  obtain ⟨_, _, ⟨T139, L139, k139, n139⟩, -, X139, ⟨Lc139, hQ139, l139, y139, z139⟩, st139⟩ := Jvm.LawKit.callS X138 hx (y := (⟨"java/lang/Math", "max", "(II)I"⟩ : MethodName)) hown (mvT hZ (w26 hw)) (mvT hZ (w27 hw)) (mvT hZ (w28 hw)) (mvT hZ (w29 hw)) (by decide) (backOf (W := 0) (rm_Math_max l Z a0 hw [] h n0 z r138 (0 : Int32) r139 hr139) hZ (w29 hw) (w28 hw) (by decide) (by decide)) (g := (mkF m 83 #[d0, .val (.int v1), .val (.long v2), .second, .val (.long v4), .second, .val (.int v6), .val (.ref b1), .val (.long v8), .second, .val (.long v10), .second, .val (.int v12), .val (.int r138), d14, d15, d16, d17, d18, d19, d20] [(.int (0 : Int32)), (.int r138)])) rfl (by rw [hml]; rfl) (argsL := [(.int r138), (.int (0 : Int32))]) (rest := []) (lenOf pd_2 rfl) rfl (by show 2 * 0 + _ ≤ _; exact Nat.le_of_eq rfl) (hb hby at_83) (fun _ _ => ⟨rfl, e138, (by decide : 1 + 0 ≤ _), (by decide : 3 + 0 ≤ _)⟩)
  dsimp only [Pt.U, Pt.locs, Pt.cells, Pt.slots] at X139 l139 y139 z139 st139 hQ139
  subst l139 y139 z139
  obtain ⟨rfl, N139q, e139⟩ := hQ139
  have N139 := Fr.app N138 N139q
  refine own_Goes.via st139 ?_
  show own_Goes _ _ _ _ _ _ _ (T139.setTop (mkF m 86 #[d0, .val (.int v1), .val (.long v2), .second, .val (.long v4), .second, .val (.int v6), .val (.ref b1), .val (.long v8), .second, .val (.long v10), .second, .val (.int v12), .val (.int r138), d14, d15, d16, d17, d18, d19, d20] [(.int r139)]))
  refine own_Goes.via (B := T139.setTop (mkF m 88 #[d0, .val (.int v1), .val (.long v2), .second, .val (.long v4), .second, .val (.int v6), .val (.ref b1), .val (.long v8), .second, .val (.long v10), .second, .val (.int v12), .val (.int r138), d14, d15, d16, d17, d18, d19, d20] [(.int (r139 + (2 : Int32)))])) (fun t k => ?_) ?_
  · show Steps p.tables e below (T139.setTop (mkF m 86 #[d0, .val (.int v1), .val (.long v2), .second, .val (.long v4), .second, .val (.int v6), .val (.ref b1), .val (.long v8), .second, .val (.long v10), .second, .val (.int v12), .val (.int r138), d14, d15, d16, d17, d18, d19, d20] [(.int r139)])) t
    refine XS.iconst X139.here hx rfl (hb hby at_86) ?_
    show Steps p.tables e below (T139.setTop (mkF m 87 #[d0, .val (.int v1), .val (.long v2), .second, .val (.long v4), .second, .val (.int v6), .val (.ref b1), .val (.long v8), .second, .val (.long v10), .second, .val (.int v12), .val (.int r138), d14, d15, d16, d17, d18, d19, d20] [(.int (2 : Int32)), (.int r139)])) t
    refine XS.iadd X139.here hx rfl (hb hby at_87) rfl ?_
    exact k
  obtain ⟨x140, hx140, hF⟩ := own_lt_e hF
  rw [← hx140]
  refine own_Goes.via (B := T139.setTop (mkF m 94 #[d0, .val (.int v1), .val (.long v2), .second, .val (.long v4), .second, .val (.int v6), .val (.ref b1), .val (.long v8), .second, .val (.long v10), .second, .val (.int v12), .val (.int r138), .val (.int x140), d15, d16, d17, d18, d19, d20] [(.int (v6 &&& (4 : Int32)))])) (fun t k => ?_) ?_
  · show Steps p.tables e below (T139.setTop (mkF m 88 #[d0, .val (.int v1), .val (.long v2), .second, .val (.long v4), .second, .val (.int v6), .val (.ref b1), .val (.long v8), .second, .val (.long v10), .second, .val (.int v12), .val (.int r138), d14, d15, d16, d17, d18, d19, d20] [(.int x140)])) t
    refine XS.istoreS X139.here hx rfl (hb hby at_88) rfl rfl o_d14 ?_
    show Steps p.tables e below (T139.setTop (mkF m 90 #[d0, .val (.int v1), .val (.long v2), .second, .val (.long v4), .second, .val (.int v6), .val (.ref b1), .val (.long v8), .second, .val (.long v10), .second, .val (.int v12), .val (.int r138), .val (.int x140), d15, d16, d17, d18, d19, d20] [])) t
    refine XS.iload X139.here hx rfl (hb hby at_90) rfl ?_
    show Steps p.tables e below (T139.setTop (mkF m 92 #[d0, .val (.int v1), .val (.long v2), .second, .val (.long v4), .second, .val (.int v6), .val (.ref b1), .val (.long v8), .second, .val (.long v10), .second, .val (.int v12), .val (.int r138), .val (.int x140), d15, d16, d17, d18, d19, d20] [(.int v6)])) t
    refine XS.iconst X139.here hx rfl (hb hby at_92) ?_
    show Steps p.tables e below (T139.setTop (mkF m 93 #[d0, .val (.int v1), .val (.long v2), .second, .val (.long v4), .second, .val (.int v6), .val (.ref b1), .val (.long v8), .second, .val (.long v10), .second, .val (.int v12), .val (.int r138), .val (.int x140), d15, d16, d17, d18, d19, d20] [(.int (4 : Int32)), (.int v6)])) t
    refine XS.iand X139.here hx rfl (hb hby at_93) rfl ?_
    exact k
  by_cases hc94 : (v6 &&& (4 : Int32)) = (0 : Int32)
  · rw [if_pos hc94] at hF
    refine own_Goes.via (B := T139.setTop (mkF m 110 #[d0, .val (.int v1), .val (.long v2), .second, .val (.long v4), .second, .val (.int v6), .val (.ref b1), .val (.long v8), .second, .val (.long v10), .second, .val (.int v12), .val (.int r138), .val (.int x140), d15, d16, d17, d18, d19, d20] [(.int x140), (.int (v1 &&& (2147483647 : Int32)))])) (fun t k => ?_) ?_
    · show Steps p.tables e below (T139.setTop (mkF m 94 #[d0, .val (.int v1), .val (.long v2), .second, .val (.long v4), .second, .val (.int v6), .val (.ref b1), .val (.long v8), .second, .val (.long v10), .second, .val (.int v12), .val (.int r138), .val (.int x140), d15, d16, d17, d18, d19, d20] [(.int (v6 &&& (4 : Int32)))])) t
      refine XS.ifYes X139.here hx rfl (pc0 := 94) (pc' := 104) rfl (hb hby at_94) rfl ((if0 _ _).trans (teq hc94).1) (by decide) (by decide) ?_
      show Steps p.tables e below (T139.setTop (mkF m 104 #[d0, .val (.int v1), .val (.long v2), .second, .val (.long v4), .second, .val (.int v6), .val (.ref b1), .val (.long v8), .second, .val (.long v10), .second, .val (.int v12), .val (.int r138), .val (.int x140), d15, d16, d17, d18, d19, d20] [])) t
      refine XS.iloadN X139.here hx rfl (hb hby at_104) rfl ?_
      show Steps p.tables e below (T139.setTop (mkF m 105 #[d0, .val (.int v1), .val (.long v2), .second, .val (.long v4), .second, .val (.int v6), .val (.ref b1), .val (.long v8), .second, .val (.long v10), .second, .val (.int v12), .val (.int r138), .val (.int x140), d15, d16, d17, d18, d19, d20] [(.int v1)])) t
      refine X139.ldcInt hx hown (mvT hZ (w30 hw)) (g := (mkF m 105 #[d0, .val (.int v1), .val (.long v2), .second, .val (.long v4), .second, .val (.int v6), .val (.ref b1), .val (.long v8), .second, .val (.long v10), .second, .val (.int v12), .val (.int r138), .val (.int x140), d15, d16, d17, d18, d19, d20] [(.int v1)])) rfl (hb hby at_105) _ ?_
      show Steps p.tables e below (T139.setTop (mkF m 107 #[d0, .val (.int v1), .val (.long v2), .second, .val (.long v4), .second, .val (.int v6), .val (.ref b1), .val (.long v8), .second, .val (.long v10), .second, .val (.int v12), .val (.int r138), .val (.int x140), d15, d16, d17, d18, d19, d20] [(.int (2147483647 : Int32)), (.int v1)])) t
      refine XS.iand X139.here hx rfl (hb hby at_107) rfl ?_
      show Steps p.tables e below (T139.setTop (mkF m 108 #[d0, .val (.int v1), .val (.long v2), .second, .val (.long v4), .second, .val (.int v6), .val (.ref b1), .val (.long v8), .second, .val (.long v10), .second, .val (.int v12), .val (.int r138), .val (.int x140), d15, d16, d17, d18, d19, d20] [(.int (v1 &&& (2147483647 : Int32)))])) t
      refine XS.iload X139.here hx rfl (hb hby at_108) rfl ?_
      exact k
    obtain ⟨hz110, hF⟩ := own_ck_e hF
    refine own_Goes.via (B := T139.setTop (mkF m 111 #[d0, .val (.int v1), .val (.long v2), .second, .val (.long v4), .second, .val (.int v6), .val (.ref b1), .val (.long v8), .second, .val (.long v10), .second, .val (.int v12), .val (.int r138), .val (.int x140), d15, d16, d17, d18, d19, d20] [(.int ((v1 &&& (2147483647 : Int32)) % x140))])) (fun t k => ?_) ?_
    · show Steps p.tables e below (T139.setTop (mkF m 110 #[d0, .val (.int v1), .val (.long v2), .second, .val (.long v4), .second, .val (.int v6), .val (.ref b1), .val (.long v8), .second, .val (.long v10), .second, .val (.int v12), .val (.int r138), .val (.int x140), d15, d16, d17, d18, d19, d20] [(.int x140), (.int (v1 &&& (2147483647 : Int32)))])) t
      refine own_irem X139 hx rfl (hb hby at_110) rfl hz110 ?_
      exact k
    obtain ⟨x141, hx141, hF⟩ := own_lt_e hF
    rw [← hx141]
    refine own_Goes.via (B := T139.setTop (mkF m 117 #[d0, .val (.int v1), .val (.long v2), .second, .val (.long v4), .second, .val (.int v6), .val (.ref b1), .val (.long v8), .second, .val (.long v10), .second, .val (.int v12), .val (.int r138), .val (.int x140), .val (.int x141), d16, d17, d18, d19, d20] [(.int x141), (.ref b1)])) (fun t k => ?_) ?_
    · show Steps p.tables e below (T139.setTop (mkF m 111 #[d0, .val (.int v1), .val (.long v2), .second, .val (.long v4), .second, .val (.int v6), .val (.ref b1), .val (.long v8), .second, .val (.long v10), .second, .val (.int v12), .val (.int r138), .val (.int x140), d15, d16, d17, d18, d19, d20] [(.int x141)])) t
      refine XS.istoreS X139.here hx rfl (hb hby at_111) rfl rfl o_d15 ?_
      show Steps p.tables e below (T139.setTop (mkF m 113 #[d0, .val (.int v1), .val (.long v2), .second, .val (.long v4), .second, .val (.int v6), .val (.ref b1), .val (.long v8), .second, .val (.long v10), .second, .val (.int v12), .val (.int r138), .val (.int x140), .val (.int x141), d16, d17, d18, d19, d20] [])) t
      refine XS.aload X139.here hx rfl (hb hby at_113) rfl rfl ?_
      show Steps p.tables e below (T139.setTop (mkF m 115 #[d0, .val (.int v1), .val (.long v2), .second, .val (.long v4), .second, .val (.int v6), .val (.ref b1), .val (.long v8), .second, .val (.long v10), .second, .val (.int v12), .val (.int r138), .val (.int x140), .val (.int x141), d16, d17, d18, d19, d20] [(.ref b1)])) t
      refine XS.iload X139.here hx rfl (hb hby at_115) rfl ?_
      exact k
    obtain ⟨r142, hr142, hF⟩ := own_bd_e hF
    obtain ⟨cq142, kq142, q142a, q142b, q142c⟩ := isOf hZ e139 E_b1
    obtain ⟨_, _, ⟨T142, L142, k142, n142⟩, -, X142, ⟨Lc142, hQ142, l142, y142, z142⟩, st142⟩ := X139.virtualBack hx (y := (⟨"com/example/expire/expire/BatchSize", "holding", "(I)I"⟩ : MethodName)) (z := (⟨"com/example/expire/expire/BatchSize", "holding", "(I)I"⟩ : MethodName)) hown (mvT hZ (w31 hw)) (mvT hZ (w32 hw)) (notFace_of_selects (args := #[]) (mvT hZ (w34 hw))) (mvT hZ (w34 hw)) (mvT hZ (w33 hw)) (by decide) (backOf (W := 0) (rm_BatchSize_holding l Z a0 hw [] h n0 z b1 x141 f_b1_examined f_b1_removed f_b1_rows E_b1 F_b1_examined F_b1_removed F_b1_rows g_b1 r142 hr142) hZ (w35 hw) (w2 hw) (by decide) (by decide)) q142a q142c (g := (mkF m 117 #[d0, .val (.int v1), .val (.long v2), .second, .val (.long v4), .second, .val (.int v6), .val (.ref b1), .val (.long v8), .second, .val (.long v10), .second, .val (.int v12), .val (.int r138), .val (.int x140), .val (.int x141), d16, d17, d18, d19, d20] [(.int x141), (.ref b1)])) rfl (by rw [hml]; rfl) (Steps.refl _) (argsL := [(.int x141)]) (rest := []) (lenOf pd_4 rfl) rfl (by show 2 * 0 + _ ≤ _; exact Nat.le_of_eq rfl) (hb hby at_117) (fun _ _ => ⟨rfl, e139, (by decide : 1 + 0 ≤ _), (by decide : 3 + 0 ≤ _)⟩)
    dsimp only [Pt.U, Pt.locs, Pt.cells, Pt.slots] at X142 l142 y142 z142 st142 hQ142
    subst l142 y142 z142
    obtain ⟨rfl, N142q, e142⟩ := hQ142
    have N142 := Fr.app N139 N142q
    refine own_Goes.tr st142 ?_
    show own_Goes _ _ _ _ _ _ _ (T142.setTop (mkF m 120 #[d0, .val (.int v1), .val (.long v2), .second, .val (.long v4), .second, .val (.int v6), .val (.ref b1), .val (.long v8), .second, .val (.long v10), .second, .val (.int v12), .val (.int r138), .val (.int x140), .val (.int x141), d16, d17, d18, d19, d20] [(.int r142)]))
    refine own_Goes.via (B := T142.setTop (mkF m 124 #[d0, .val (.int v1), .val (.long v2), .second, .val (.long v4), .second, .val (.int v6), .val (.ref b1), .val (.long v8), .second, .val (.long v10), .second, .val (.int v12), .val (.int r138), .val (.int x140), .val (.int x141), .val (.int r142), d17, d18, d19, d20] [(.int v12)])) (fun t k => ?_) ?_
    · show Steps p.tables e below (T142.setTop (mkF m 120 #[d0, .val (.int v1), .val (.long v2), .second, .val (.long v4), .second, .val (.int v6), .val (.ref b1), .val (.long v8), .second, .val (.long v10), .second, .val (.int v12), .val (.int r138), .val (.int x140), .val (.int x141), d16, d17, d18, d19, d20] [(.int r142)])) t
      refine XS.istoreS X142.here hx rfl (hb hby at_120) rfl rfl o_d16 ?_
      show Steps p.tables e below (T142.setTop (mkF m 122 #[d0, .val (.int v1), .val (.long v2), .second, .val (.long v4), .second, .val (.int v6), .val (.ref b1), .val (.long v8), .second, .val (.long v10), .second, .val (.int v12), .val (.int r138), .val (.int x140), .val (.int x141), .val (.int r142), d17, d18, d19, d20] [])) t
      refine XS.iload X142.here hx rfl (hb hby at_122) rfl ?_
      exact k
    by_cases hc124 : v12 = (0 : Int32)
    · rw [if_pos hc124] at hF
      refine own_Goes.via (B := T142.setTop (mkF m 133 #[d0, .val (.int v1), .val (.long v2), .second, .val (.long v4), .second, .val (.int v6), .val (.ref b1), .val (.long v8), .second, .val (.long v10), .second, .val (.int v12), .val (.int r138), .val (.int x140), .val (.int x141), .val (.int r142), d17, d18, d19, d20] [(.long (0 : Int64))])) (fun t k => ?_) ?_
      · show Steps p.tables e below (T142.setTop (mkF m 124 #[d0, .val (.int v1), .val (.long v2), .second, .val (.long v4), .second, .val (.int v6), .val (.ref b1), .val (.long v8), .second, .val (.long v10), .second, .val (.int v12), .val (.int r138), .val (.int x140), .val (.int x141), .val (.int r142), d17, d18, d19, d20] [(.int v12)])) t
        refine XS.ifYes X142.here hx rfl (pc0 := 124) (pc' := 132) rfl (hb hby at_124) rfl ((if0 _ _).trans (teq hc124).1) (by decide) (by decide) ?_
        show Steps p.tables e below (T142.setTop (mkF m 132 #[d0, .val (.int v1), .val (.long v2), .second, .val (.long v4), .second, .val (.int v6), .val (.ref b1), .val (.long v8), .second, .val (.long v10), .second, .val (.int v12), .val (.int r138), .val (.int x140), .val (.int x141), .val (.int r142), d17, d18, d19, d20] [])) t
        refine XS.lconst X142.here hx rfl (hb hby at_132) ?_
        exact k
      exact b_law_133 cx X142 e142 N142 K z v8 r138 x141 r142 (0 : Int64) d0 (.val (.int v1)) v2 v4 (.val (.int v6)) (.val (.ref b1)) v10 (.val (.int v12)) (.val (.int x140)) d17 d18 d19 d20 o_d0 (One.val rfl) (One.val rfl) (One.val rfl) (One.val rfl) (One.val rfl) o_d17 o_d18 o_d19 o_d20 _ hF
    · rw [if_neg hc124] at hF
      refine own_Goes.via (B := T142.setTop (mkF m 133 #[d0, .val (.int v1), .val (.long v2), .second, .val (.long v4), .second, .val (.int v6), .val (.ref b1), .val (.long v8), .second, .val (.long v10), .second, .val (.int v12), .val (.int r138), .val (.int x140), .val (.int x141), .val (.int r142), d17, d18, d19, d20] [(.long v10)])) (fun t k => ?_) ?_
      · show Steps p.tables e below (T142.setTop (mkF m 124 #[d0, .val (.int v1), .val (.long v2), .second, .val (.long v4), .second, .val (.int v6), .val (.ref b1), .val (.long v8), .second, .val (.long v10), .second, .val (.int v12), .val (.int r138), .val (.int x140), .val (.int x141), .val (.int r142), d17, d18, d19, d20] [(.int v12)])) t
        refine XS.ifNo X142.here hx rfl (hb hby at_124) rfl ((if0 _ _).trans (feq hc124).1) ?_
        show Steps p.tables e below (T142.setTop (mkF m 127 #[d0, .val (.int v1), .val (.long v2), .second, .val (.long v4), .second, .val (.int v6), .val (.ref b1), .val (.long v8), .second, .val (.long v10), .second, .val (.int v12), .val (.int r138), .val (.int x140), .val (.int x141), .val (.int r142), d17, d18, d19, d20] [])) t
        refine XS.lload X142.here hx rfl (hb hby at_127) rfl ?_
        show Steps p.tables e below (T142.setTop (mkF m 129 #[d0, .val (.int v1), .val (.long v2), .second, .val (.long v4), .second, .val (.int v6), .val (.ref b1), .val (.long v8), .second, .val (.long v10), .second, .val (.int v12), .val (.int r138), .val (.int x140), .val (.int x141), .val (.int r142), d17, d18, d19, d20] [(.long v10)])) t
        refine XS.goto X142.here hx rfl (pc0 := 129) (pc' := 133) rfl (hb hby at_129) (by decide) (by decide) ?_
        exact k
      exact b_law_133 cx X142 e142 N142 K z v8 r138 x141 r142 v10 d0 (.val (.int v1)) v2 v4 (.val (.int v6)) (.val (.ref b1)) v10 (.val (.int v12)) (.val (.int x140)) d17 d18 d19 d20 o_d0 (One.val rfl) (One.val rfl) (One.val rfl) (One.val rfl) (One.val rfl) o_d17 o_d18 o_d19 o_d20 _ hF
  · rw [if_neg hc94] at hF
    refine own_Goes.via (B := T139.setTop (mkF m 111 #[d0, .val (.int v1), .val (.long v2), .second, .val (.long v4), .second, .val (.int v6), .val (.ref b1), .val (.long v8), .second, .val (.long v10), .second, .val (.int v12), .val (.int r138), .val (.int x140), d15, d16, d17, d18, d19, d20] [(.int (v1 &&& (2147483647 : Int32)))])) (fun t k => ?_) ?_
    · show Steps p.tables e below (T139.setTop (mkF m 94 #[d0, .val (.int v1), .val (.long v2), .second, .val (.long v4), .second, .val (.int v6), .val (.ref b1), .val (.long v8), .second, .val (.long v10), .second, .val (.int v12), .val (.int r138), .val (.int x140), d15, d16, d17, d18, d19, d20] [(.int (v6 &&& (4 : Int32)))])) t
      refine XS.ifNo X139.here hx rfl (hb hby at_94) rfl ((if0 _ _).trans (feq hc94).1) ?_
      show Steps p.tables e below (T139.setTop (mkF m 97 #[d0, .val (.int v1), .val (.long v2), .second, .val (.long v4), .second, .val (.int v6), .val (.ref b1), .val (.long v8), .second, .val (.long v10), .second, .val (.int v12), .val (.int r138), .val (.int x140), d15, d16, d17, d18, d19, d20] [])) t
      refine XS.iloadN X139.here hx rfl (hb hby at_97) rfl ?_
      show Steps p.tables e below (T139.setTop (mkF m 98 #[d0, .val (.int v1), .val (.long v2), .second, .val (.long v4), .second, .val (.int v6), .val (.ref b1), .val (.long v8), .second, .val (.long v10), .second, .val (.int v12), .val (.int r138), .val (.int x140), d15, d16, d17, d18, d19, d20] [(.int v1)])) t
      refine X139.ldcInt hx hown (mvT hZ (w30 hw)) (g := (mkF m 98 #[d0, .val (.int v1), .val (.long v2), .second, .val (.long v4), .second, .val (.int v6), .val (.ref b1), .val (.long v8), .second, .val (.long v10), .second, .val (.int v12), .val (.int r138), .val (.int x140), d15, d16, d17, d18, d19, d20] [(.int v1)])) rfl (hb hby at_98) _ ?_
      show Steps p.tables e below (T139.setTop (mkF m 100 #[d0, .val (.int v1), .val (.long v2), .second, .val (.long v4), .second, .val (.int v6), .val (.ref b1), .val (.long v8), .second, .val (.long v10), .second, .val (.int v12), .val (.int r138), .val (.int x140), d15, d16, d17, d18, d19, d20] [(.int (2147483647 : Int32)), (.int v1)])) t
      refine XS.iand X139.here hx rfl (hb hby at_100) rfl ?_
      show Steps p.tables e below (T139.setTop (mkF m 101 #[d0, .val (.int v1), .val (.long v2), .second, .val (.long v4), .second, .val (.int v6), .val (.ref b1), .val (.long v8), .second, .val (.long v10), .second, .val (.int v12), .val (.int r138), .val (.int x140), d15, d16, d17, d18, d19, d20] [(.int (v1 &&& (2147483647 : Int32)))])) t
      refine XS.goto X139.here hx rfl (pc0 := 101) (pc' := 111) rfl (hb hby at_101) (by decide) (by decide) ?_
      exact k
    obtain ⟨x143, hx143, hF⟩ := own_lt_e hF
    rw [← hx143]
    refine own_Goes.via (B := T139.setTop (mkF m 117 #[d0, .val (.int v1), .val (.long v2), .second, .val (.long v4), .second, .val (.int v6), .val (.ref b1), .val (.long v8), .second, .val (.long v10), .second, .val (.int v12), .val (.int r138), .val (.int x140), .val (.int x143), d16, d17, d18, d19, d20] [(.int x143), (.ref b1)])) (fun t k => ?_) ?_
    · show Steps p.tables e below (T139.setTop (mkF m 111 #[d0, .val (.int v1), .val (.long v2), .second, .val (.long v4), .second, .val (.int v6), .val (.ref b1), .val (.long v8), .second, .val (.long v10), .second, .val (.int v12), .val (.int r138), .val (.int x140), d15, d16, d17, d18, d19, d20] [(.int x143)])) t
      refine XS.istoreS X139.here hx rfl (hb hby at_111) rfl rfl o_d15 ?_
      show Steps p.tables e below (T139.setTop (mkF m 113 #[d0, .val (.int v1), .val (.long v2), .second, .val (.long v4), .second, .val (.int v6), .val (.ref b1), .val (.long v8), .second, .val (.long v10), .second, .val (.int v12), .val (.int r138), .val (.int x140), .val (.int x143), d16, d17, d18, d19, d20] [])) t
      refine XS.aload X139.here hx rfl (hb hby at_113) rfl rfl ?_
      show Steps p.tables e below (T139.setTop (mkF m 115 #[d0, .val (.int v1), .val (.long v2), .second, .val (.long v4), .second, .val (.int v6), .val (.ref b1), .val (.long v8), .second, .val (.long v10), .second, .val (.int v12), .val (.int r138), .val (.int x140), .val (.int x143), d16, d17, d18, d19, d20] [(.ref b1)])) t
      refine XS.iload X139.here hx rfl (hb hby at_115) rfl ?_
      exact k
    obtain ⟨r144, hr144, hF⟩ := own_bd_e hF
    obtain ⟨cq144, kq144, q144a, q144b, q144c⟩ := isOf hZ e139 E_b1
    obtain ⟨_, _, ⟨T144, L144, k144, n144⟩, -, X144, ⟨Lc144, hQ144, l144, y144, z144⟩, st144⟩ := X139.virtualBack hx (y := (⟨"com/example/expire/expire/BatchSize", "holding", "(I)I"⟩ : MethodName)) (z := (⟨"com/example/expire/expire/BatchSize", "holding", "(I)I"⟩ : MethodName)) hown (mvT hZ (w31 hw)) (mvT hZ (w32 hw)) (notFace_of_selects (args := #[]) (mvT hZ (w34 hw))) (mvT hZ (w34 hw)) (mvT hZ (w33 hw)) (by decide) (backOf (W := 0) (rm_BatchSize_holding l Z a0 hw [] h n0 z b1 x143 f_b1_examined f_b1_removed f_b1_rows E_b1 F_b1_examined F_b1_removed F_b1_rows g_b1 r144 hr144) hZ (w35 hw) (w2 hw) (by decide) (by decide)) q144a q144c (g := (mkF m 117 #[d0, .val (.int v1), .val (.long v2), .second, .val (.long v4), .second, .val (.int v6), .val (.ref b1), .val (.long v8), .second, .val (.long v10), .second, .val (.int v12), .val (.int r138), .val (.int x140), .val (.int x143), d16, d17, d18, d19, d20] [(.int x143), (.ref b1)])) rfl (by rw [hml]; rfl) (Steps.refl _) (argsL := [(.int x143)]) (rest := []) (lenOf pd_4 rfl) rfl (by show 2 * 0 + _ ≤ _; exact Nat.le_of_eq rfl) (hb hby at_117) (fun _ _ => ⟨rfl, e139, (by decide : 1 + 0 ≤ _), (by decide : 3 + 0 ≤ _)⟩)
    dsimp only [Pt.U, Pt.locs, Pt.cells, Pt.slots] at X144 l144 y144 z144 st144 hQ144
    subst l144 y144 z144
    obtain ⟨rfl, N144q, e144⟩ := hQ144
    have N144 := Fr.app N139 N144q
    refine own_Goes.tr st144 ?_
    show own_Goes _ _ _ _ _ _ _ (T144.setTop (mkF m 120 #[d0, .val (.int v1), .val (.long v2), .second, .val (.long v4), .second, .val (.int v6), .val (.ref b1), .val (.long v8), .second, .val (.long v10), .second, .val (.int v12), .val (.int r138), .val (.int x140), .val (.int x143), d16, d17, d18, d19, d20] [(.int r144)]))
    refine own_Goes.via (B := T144.setTop (mkF m 124 #[d0, .val (.int v1), .val (.long v2), .second, .val (.long v4), .second, .val (.int v6), .val (.ref b1), .val (.long v8), .second, .val (.long v10), .second, .val (.int v12), .val (.int r138), .val (.int x140), .val (.int x143), .val (.int r144), d17, d18, d19, d20] [(.int v12)])) (fun t k => ?_) ?_
    · show Steps p.tables e below (T144.setTop (mkF m 120 #[d0, .val (.int v1), .val (.long v2), .second, .val (.long v4), .second, .val (.int v6), .val (.ref b1), .val (.long v8), .second, .val (.long v10), .second, .val (.int v12), .val (.int r138), .val (.int x140), .val (.int x143), d16, d17, d18, d19, d20] [(.int r144)])) t
      refine XS.istoreS X144.here hx rfl (hb hby at_120) rfl rfl o_d16 ?_
      show Steps p.tables e below (T144.setTop (mkF m 122 #[d0, .val (.int v1), .val (.long v2), .second, .val (.long v4), .second, .val (.int v6), .val (.ref b1), .val (.long v8), .second, .val (.long v10), .second, .val (.int v12), .val (.int r138), .val (.int x140), .val (.int x143), .val (.int r144), d17, d18, d19, d20] [])) t
      refine XS.iload X144.here hx rfl (hb hby at_122) rfl ?_
      exact k
    by_cases hc124 : v12 = (0 : Int32)
    · rw [if_pos hc124] at hF
      refine own_Goes.via (B := T144.setTop (mkF m 133 #[d0, .val (.int v1), .val (.long v2), .second, .val (.long v4), .second, .val (.int v6), .val (.ref b1), .val (.long v8), .second, .val (.long v10), .second, .val (.int v12), .val (.int r138), .val (.int x140), .val (.int x143), .val (.int r144), d17, d18, d19, d20] [(.long (0 : Int64))])) (fun t k => ?_) ?_
      · show Steps p.tables e below (T144.setTop (mkF m 124 #[d0, .val (.int v1), .val (.long v2), .second, .val (.long v4), .second, .val (.int v6), .val (.ref b1), .val (.long v8), .second, .val (.long v10), .second, .val (.int v12), .val (.int r138), .val (.int x140), .val (.int x143), .val (.int r144), d17, d18, d19, d20] [(.int v12)])) t
        refine XS.ifYes X144.here hx rfl (pc0 := 124) (pc' := 132) rfl (hb hby at_124) rfl ((if0 _ _).trans (teq hc124).1) (by decide) (by decide) ?_
        show Steps p.tables e below (T144.setTop (mkF m 132 #[d0, .val (.int v1), .val (.long v2), .second, .val (.long v4), .second, .val (.int v6), .val (.ref b1), .val (.long v8), .second, .val (.long v10), .second, .val (.int v12), .val (.int r138), .val (.int x140), .val (.int x143), .val (.int r144), d17, d18, d19, d20] [])) t
        refine XS.lconst X144.here hx rfl (hb hby at_132) ?_
        exact k
      exact b_law_133 cx X144 e144 N144 K z v8 r138 x143 r144 (0 : Int64) d0 (.val (.int v1)) v2 v4 (.val (.int v6)) (.val (.ref b1)) v10 (.val (.int v12)) (.val (.int x140)) d17 d18 d19 d20 o_d0 (One.val rfl) (One.val rfl) (One.val rfl) (One.val rfl) (One.val rfl) o_d17 o_d18 o_d19 o_d20 _ hF
    · rw [if_neg hc124] at hF
      refine own_Goes.via (B := T144.setTop (mkF m 133 #[d0, .val (.int v1), .val (.long v2), .second, .val (.long v4), .second, .val (.int v6), .val (.ref b1), .val (.long v8), .second, .val (.long v10), .second, .val (.int v12), .val (.int r138), .val (.int x140), .val (.int x143), .val (.int r144), d17, d18, d19, d20] [(.long v10)])) (fun t k => ?_) ?_
      · show Steps p.tables e below (T144.setTop (mkF m 124 #[d0, .val (.int v1), .val (.long v2), .second, .val (.long v4), .second, .val (.int v6), .val (.ref b1), .val (.long v8), .second, .val (.long v10), .second, .val (.int v12), .val (.int r138), .val (.int x140), .val (.int x143), .val (.int r144), d17, d18, d19, d20] [(.int v12)])) t
        refine XS.ifNo X144.here hx rfl (hb hby at_124) rfl ((if0 _ _).trans (feq hc124).1) ?_
        show Steps p.tables e below (T144.setTop (mkF m 127 #[d0, .val (.int v1), .val (.long v2), .second, .val (.long v4), .second, .val (.int v6), .val (.ref b1), .val (.long v8), .second, .val (.long v10), .second, .val (.int v12), .val (.int r138), .val (.int x140), .val (.int x143), .val (.int r144), d17, d18, d19, d20] [])) t
        refine XS.lload X144.here hx rfl (hb hby at_127) rfl ?_
        show Steps p.tables e below (T144.setTop (mkF m 129 #[d0, .val (.int v1), .val (.long v2), .second, .val (.long v4), .second, .val (.int v6), .val (.ref b1), .val (.long v8), .second, .val (.long v10), .second, .val (.int v12), .val (.int r138), .val (.int x140), .val (.int x143), .val (.int r144), d17, d18, d19, d20] [(.long v10)])) t
        refine XS.goto X144.here hx rfl (pc0 := 129) (pc' := 133) rfl (hb hby at_129) (by decide) (by decide) ?_
        exact k
      exact b_law_133 cx X144 e144 N144 K z v8 r138 x143 r144 v10 d0 (.val (.int v1)) v2 v4 (.val (.int v6)) (.val (.ref b1)) v10 (.val (.int v12)) (.val (.int x140)) d17 d18 d19 d20 o_d0 (One.val rfl) (One.val rfl) (One.val rfl) (One.val rfl) (One.val rfl) o_d17 o_d18 o_d19 o_d20 _ hF
set_option maxRecDepth 65536 in
set_option maxHeartbeats 4000000 in
theorem b_law_25 {p : Program} {l : Launch} {e : Env} {s : State} {m : MethodId} {args : Array Value} {below : List Frame} {meth : Method} {c : Code} {Z : State} {a0 : Array Value} {n0 : Nat} {hE : Heap} (cx : Cx_law p s m meth c Z a0) :
    ∀ {T : State} {locs : List Loc} {h : Heap} (X : Stand p l e room_1 s m args below meth c T locs 1 3) (eT : T.heap = h) (N : Fr n0 locs) (K : Keep hE h []) (z : n0 ≤ h.size) (b1 : Addr) (v1 : Int32) (v2 : Int64) (v4 : Int64) (v6 : Int32) (f_b1_examined : Int64) (f_b1_removed : Int64) (f_b1_rows : Int32) (d0 : Slot) (d8 : Slot) (d9 : Slot) (d10 : Slot) (d11 : Slot) (d12 : Slot) (d13 : Slot) (d14 : Slot) (d15 : Slot) (d16 : Slot) (d17 : Slot) (d18 : Slot) (d19 : Slot) (d20 : Slot) (o_d0 : One d0) (o_d8 : One d8) (o_d9 : One d9) (o_d10 : One d10) (o_d11 : One d11) (o_d12 : One d12) (o_d13 : One d13) (o_d14 : One d14) (o_d15 : One d15) (o_d16 : One d16) (o_d17 : One d17) (o_d18 : One d18) (o_d19 : One d19) (o_d20 : One d20) (E_b1 : Exa Z h b1 "com/example/expire/expire/BatchSize") (F_b1_examined : Fld Z h b1 "com/example/expire/expire/BatchSize" "examined" "J" (.long f_b1_examined)) (F_b1_removed : Fld Z h b1 "com/example/expire/expire/BatchSize" "removed" "J" (.long f_b1_removed)) (F_b1_rows : Fld Z h b1 "com/example/expire/expire/BatchSize" "rows" "I" (.int f_b1_rows)) (g_b1 : n0 ≤ b1) (nE_b1 : hE.size ≤ b1) (r : Int32), f_law_25 v1 v2 v4 v6 f_b1_examined f_b1_removed f_b1_rows = some r → own_Goes p e below s (Q_law Z hE n0 r) 1 3 (T.setTop (mkF m 25 #[d0, .val (.int v1), .val (.long v2), .second, .val (.long v4), .second, .val (.int v6), .val (.ref b1), d8, d9, d10, d11, d12, d13, d14, d15, d16, d17, d18, d19, d20] [])) := by
  have cx' := cx
  obtain ⟨hx, hZ, hw, hby, hml, hown, hret, hlk, hnm⟩ := cx'
  intro T locs h X eT N K z b1 v1 v2 v4 v6 f_b1_examined f_b1_removed f_b1_rows d0 d8 d9 d10 d11 d12 d13 d14 d15 d16 d17 d18 d19 d20 o_d0 o_d8 o_d9 o_d10 o_d11 o_d12 o_d13 o_d14 o_d15 o_d16 o_d17 o_d18 o_d19 o_d20 E_b1 F_b1_examined F_b1_removed F_b1_rows g_b1 nE_b1 r hF
  unfold f_law_25 at hF
  refine own_Goes.via (B := T.setTop (mkF m 30 #[d0, .val (.int v1), .val (.long v2), .second, .val (.long v4), .second, .val (.int v6), .val (.ref b1), d8, d9, d10, d11, d12, d13, d14, d15, d16, d17, d18, d19, d20] [(.long (v2 &&& (2147483647 : Int64)))])) (fun t k => ?_) ?_
  · show Steps p.tables e below (T.setTop (mkF m 25 #[d0, .val (.int v1), .val (.long v2), .second, .val (.long v4), .second, .val (.int v6), .val (.ref b1), d8, d9, d10, d11, d12, d13, d14, d15, d16, d17, d18, d19, d20] [])) t
    refine XS.lloadN X.here hx rfl (hb hby at_25) rfl ?_
    show Steps p.tables e below (T.setTop (mkF m 26 #[d0, .val (.int v1), .val (.long v2), .second, .val (.long v4), .second, .val (.int v6), .val (.ref b1), d8, d9, d10, d11, d12, d13, d14, d15, d16, d17, d18, d19, d20] [(.long v2)])) t
    refine X.ldc2Long hx hown (mvT hZ (w11 hw)) (g := (mkF m 26 #[d0, .val (.int v1), .val (.long v2), .second, .val (.long v4), .second, .val (.int v6), .val (.ref b1), d8, d9, d10, d11, d12, d13, d14, d15, d16, d17, d18, d19, d20] [(.long v2)])) rfl (hb hby at_26) _ ?_
    show Steps p.tables e below (T.setTop (mkF m 29 #[d0, .val (.int v1), .val (.long v2), .second, .val (.long v4), .second, .val (.int v6), .val (.ref b1), d8, d9, d10, d11, d12, d13, d14, d15, d16, d17, d18, d19, d20] [(.long (2147483647 : Int64)), (.long v2)])) t
    refine XS.land X.here hx rfl (hb hby at_29) rfl ?_
    exact k
  obtain ⟨x146, hx146, hF⟩ := own_lt_e hF
  rw [← hx146]
  refine own_Goes.via (B := T.setTop (mkF m 42 #[d0, .val (.int v1), .val (.long v2), .second, .val (.long v4), .second, .val (.int v6), .val (.ref b1), .val (.long x146), .second, d10, d11, d12, d13, d14, d15, d16, d17, d18, d19, d20] [(.long (x146 + (1 : Int64))), (.long (v4 &&& (2147483647 : Int64)))])) (fun t k => ?_) ?_
  · show Steps p.tables e below (T.setTop (mkF m 30 #[d0, .val (.int v1), .val (.long v2), .second, .val (.long v4), .second, .val (.int v6), .val (.ref b1), d8, d9, d10, d11, d12, d13, d14, d15, d16, d17, d18, d19, d20] [(.long x146)])) t
    refine XS.lstore X.here hx rfl (hb hby at_30) rfl (l' := #[d0, .val (.int v1), .val (.long v2), .second, .val (.long v4), .second, .val (.int v6), .val (.ref b1), .val (.long x146), .second, d10, d11, d12, d13, d14, d15, d16, d17, d18, d19, d20]) (own_st2 rfl rfl o_d8 o_d9 rfl) ?_
    show Steps p.tables e below (T.setTop (mkF m 32 #[d0, .val (.int v1), .val (.long v2), .second, .val (.long v4), .second, .val (.int v6), .val (.ref b1), .val (.long x146), .second, d10, d11, d12, d13, d14, d15, d16, d17, d18, d19, d20] [])) t
    refine XS.lload X.here hx rfl (hb hby at_32) rfl ?_
    show Steps p.tables e below (T.setTop (mkF m 34 #[d0, .val (.int v1), .val (.long v2), .second, .val (.long v4), .second, .val (.int v6), .val (.ref b1), .val (.long x146), .second, d10, d11, d12, d13, d14, d15, d16, d17, d18, d19, d20] [(.long v4)])) t
    refine X.ldc2Long hx hown (mvT hZ (w11 hw)) (g := (mkF m 34 #[d0, .val (.int v1), .val (.long v2), .second, .val (.long v4), .second, .val (.int v6), .val (.ref b1), .val (.long x146), .second, d10, d11, d12, d13, d14, d15, d16, d17, d18, d19, d20] [(.long v4)])) rfl (hb hby at_34) _ ?_
    show Steps p.tables e below (T.setTop (mkF m 37 #[d0, .val (.int v1), .val (.long v2), .second, .val (.long v4), .second, .val (.int v6), .val (.ref b1), .val (.long x146), .second, d10, d11, d12, d13, d14, d15, d16, d17, d18, d19, d20] [(.long (2147483647 : Int64)), (.long v4)])) t
    refine XS.land X.here hx rfl (hb hby at_37) rfl ?_
    show Steps p.tables e below (T.setTop (mkF m 38 #[d0, .val (.int v1), .val (.long v2), .second, .val (.long v4), .second, .val (.int v6), .val (.ref b1), .val (.long x146), .second, d10, d11, d12, d13, d14, d15, d16, d17, d18, d19, d20] [(.long (v4 &&& (2147483647 : Int64)))])) t
    refine XS.lload X.here hx rfl (hb hby at_38) rfl ?_
    show Steps p.tables e below (T.setTop (mkF m 40 #[d0, .val (.int v1), .val (.long v2), .second, .val (.long v4), .second, .val (.int v6), .val (.ref b1), .val (.long x146), .second, d10, d11, d12, d13, d14, d15, d16, d17, d18, d19, d20] [(.long x146), (.long (v4 &&& (2147483647 : Int64)))])) t
    refine XS.lconst X.here hx rfl (hb hby at_40) ?_
    show Steps p.tables e below (T.setTop (mkF m 41 #[d0, .val (.int v1), .val (.long v2), .second, .val (.long v4), .second, .val (.int v6), .val (.ref b1), .val (.long x146), .second, d10, d11, d12, d13, d14, d15, d16, d17, d18, d19, d20] [(.long (1 : Int64)), (.long x146), (.long (v4 &&& (2147483647 : Int64)))])) t
    refine XS.ladd X.here hx rfl (hb hby at_41) rfl ?_
    exact k
  obtain ⟨hz42, hF⟩ := own_ck_e hF
  refine own_Goes.via (B := T.setTop (mkF m 43 #[d0, .val (.int v1), .val (.long v2), .second, .val (.long v4), .second, .val (.int v6), .val (.ref b1), .val (.long x146), .second, d10, d11, d12, d13, d14, d15, d16, d17, d18, d19, d20] [(.long ((v4 &&& (2147483647 : Int64)) % (x146 + (1 : Int64))))])) (fun t k => ?_) ?_
  · show Steps p.tables e below (T.setTop (mkF m 42 #[d0, .val (.int v1), .val (.long v2), .second, .val (.long v4), .second, .val (.int v6), .val (.ref b1), .val (.long x146), .second, d10, d11, d12, d13, d14, d15, d16, d17, d18, d19, d20] [(.long (x146 + (1 : Int64))), (.long (v4 &&& (2147483647 : Int64)))])) t
    refine own_lrem X hx rfl (hb hby at_42) rfl hz42 ?_
    exact k
  obtain ⟨x147, hx147, hF⟩ := own_lt_e hF
  rw [← hx147]
  refine own_Goes.via (B := T.setTop (mkF m 49 #[d0, .val (.int v1), .val (.long v2), .second, .val (.long v4), .second, .val (.int v6), .val (.ref b1), .val (.long x146), .second, .val (.long x147), .second, d12, d13, d14, d15, d16, d17, d18, d19, d20] [(.int (v6 &&& (2 : Int32)))])) (fun t k => ?_) ?_
  · show Steps p.tables e below (T.setTop (mkF m 43 #[d0, .val (.int v1), .val (.long v2), .second, .val (.long v4), .second, .val (.int v6), .val (.ref b1), .val (.long x146), .second, d10, d11, d12, d13, d14, d15, d16, d17, d18, d19, d20] [(.long x147)])) t
    refine XS.lstore X.here hx rfl (hb hby at_43) rfl (l' := #[d0, .val (.int v1), .val (.long v2), .second, .val (.long v4), .second, .val (.int v6), .val (.ref b1), .val (.long x146), .second, .val (.long x147), .second, d12, d13, d14, d15, d16, d17, d18, d19, d20]) (own_st2 rfl rfl o_d10 o_d11 rfl) ?_
    show Steps p.tables e below (T.setTop (mkF m 45 #[d0, .val (.int v1), .val (.long v2), .second, .val (.long v4), .second, .val (.int v6), .val (.ref b1), .val (.long x146), .second, .val (.long x147), .second, d12, d13, d14, d15, d16, d17, d18, d19, d20] [])) t
    refine XS.iload X.here hx rfl (hb hby at_45) rfl ?_
    show Steps p.tables e below (T.setTop (mkF m 47 #[d0, .val (.int v1), .val (.long v2), .second, .val (.long v4), .second, .val (.int v6), .val (.ref b1), .val (.long x146), .second, .val (.long x147), .second, d12, d13, d14, d15, d16, d17, d18, d19, d20] [(.int v6)])) t
    refine XS.iconst X.here hx rfl (hb hby at_47) ?_
    show Steps p.tables e below (T.setTop (mkF m 48 #[d0, .val (.int v1), .val (.long v2), .second, .val (.long v4), .second, .val (.int v6), .val (.ref b1), .val (.long x146), .second, .val (.long x147), .second, d12, d13, d14, d15, d16, d17, d18, d19, d20] [(.int (2 : Int32)), (.int v6)])) t
    refine XS.iand X.here hx rfl (hb hby at_48) rfl ?_
    exact k
  by_cases hc49 : (v6 &&& (2 : Int32)) = (0 : Int32)
  · rw [if_pos hc49] at hF
    refine own_Goes.via (B := T.setTop (mkF m 73 #[d0, .val (.int v1), .val (.long v2), .second, .val (.long v4), .second, .val (.int v6), .val (.ref b1), .val (.long x146), .second, .val (.long x147), .second, .val (.int (0 : Int32)), d13, d14, d15, d16, d17, d18, d19, d20] [])) (fun t k => ?_) ?_
    · show Steps p.tables e below (T.setTop (mkF m 49 #[d0, .val (.int v1), .val (.long v2), .second, .val (.long v4), .second, .val (.int v6), .val (.ref b1), .val (.long x146), .second, .val (.long x147), .second, d12, d13, d14, d15, d16, d17, d18, d19, d20] [(.int (v6 &&& (2 : Int32)))])) t
      refine XS.ifYes X.here hx rfl (pc0 := 49) (pc' := 56) rfl (hb hby at_49) rfl ((if0 _ _).trans (teq hc49).1) (by decide) (by decide) ?_
      show Steps p.tables e below (T.setTop (mkF m 56 #[d0, .val (.int v1), .val (.long v2), .second, .val (.long v4), .second, .val (.int v6), .val (.ref b1), .val (.long x146), .second, .val (.long x147), .second, d12, d13, d14, d15, d16, d17, d18, d19, d20] [])) t
      refine XS.iconst X.here hx rfl (hb hby at_56) ?_
      show Steps p.tables e below (T.setTop (mkF m 57 #[d0, .val (.int v1), .val (.long v2), .second, .val (.long v4), .second, .val (.int v6), .val (.ref b1), .val (.long x146), .second, .val (.long x147), .second, d12, d13, d14, d15, d16, d17, d18, d19, d20] [(.int (0 : Int32))])) t
      refine XS.istoreS X.here hx rfl (hb hby at_57) rfl rfl o_d12 ?_
      show Steps p.tables e below (T.setTop (mkF m 59 #[d0, .val (.int v1), .val (.long v2), .second, .val (.long v4), .second, .val (.int v6), .val (.ref b1), .val (.long x146), .second, .val (.long x147), .second, .val (.int (0 : Int32)), d13, d14, d15, d16, d17, d18, d19, d20] [])) t
      refine XS.iload X.here hx rfl (hb hby at_59) rfl ?_
      show Steps p.tables e below (T.setTop (mkF m 61 #[d0, .val (.int v1), .val (.long v2), .second, .val (.long v4), .second, .val (.int v6), .val (.ref b1), .val (.long x146), .second, .val (.long x147), .second, .val (.int (0 : Int32)), d13, d14, d15, d16, d17, d18, d19, d20] [(.int (0 : Int32))])) t
      refine XS.ifYes X.here hx rfl (pc0 := 61) (pc' := 73) rfl (hb hby at_61) rfl ((if0 _ _).trans (teq (by decide : (0 : Int32) = (0 : Int32))).1) (by decide) (by decide) ?_
      exact k
    exact b_law_73 cx X eT N K z b1 v1 v6 x146 x147 (0 : Int32) f_b1_examined f_b1_removed f_b1_rows d0 v2 v4 d13 d14 d15 d16 d17 d18 d19 d20 o_d0 o_d13 o_d14 o_d15 o_d16 o_d17 o_d18 o_d19 o_d20 E_b1 F_b1_examined F_b1_removed F_b1_rows g_b1 nE_b1 _ hF
  · rw [if_neg hc49] at hF
    refine own_Goes.via (B := T.setTop (mkF m 70 #[d0, .val (.int v1), .val (.long v2), .second, .val (.long v4), .second, .val (.int v6), .val (.ref b1), .val (.long x146), .second, .val (.long x147), .second, .val (.int (1 : Int32)), d13, d14, d15, d16, d17, d18, d19, d20] [(.long x147), (.long x146), (.ref b1)])) (fun t k => ?_) ?_
    · show Steps p.tables e below (T.setTop (mkF m 49 #[d0, .val (.int v1), .val (.long v2), .second, .val (.long v4), .second, .val (.int v6), .val (.ref b1), .val (.long x146), .second, .val (.long x147), .second, d12, d13, d14, d15, d16, d17, d18, d19, d20] [(.int (v6 &&& (2 : Int32)))])) t
      refine XS.ifNo X.here hx rfl (hb hby at_49) rfl ((if0 _ _).trans (feq hc49).1) ?_
      show Steps p.tables e below (T.setTop (mkF m 52 #[d0, .val (.int v1), .val (.long v2), .second, .val (.long v4), .second, .val (.int v6), .val (.ref b1), .val (.long x146), .second, .val (.long x147), .second, d12, d13, d14, d15, d16, d17, d18, d19, d20] [])) t
      refine XS.iconst X.here hx rfl (hb hby at_52) ?_
      show Steps p.tables e below (T.setTop (mkF m 53 #[d0, .val (.int v1), .val (.long v2), .second, .val (.long v4), .second, .val (.int v6), .val (.ref b1), .val (.long x146), .second, .val (.long x147), .second, d12, d13, d14, d15, d16, d17, d18, d19, d20] [(.int (1 : Int32))])) t
      refine XS.goto X.here hx rfl (pc0 := 53) (pc' := 57) rfl (hb hby at_53) (by decide) (by decide) ?_
      show Steps p.tables e below (T.setTop (mkF m 57 #[d0, .val (.int v1), .val (.long v2), .second, .val (.long v4), .second, .val (.int v6), .val (.ref b1), .val (.long x146), .second, .val (.long x147), .second, d12, d13, d14, d15, d16, d17, d18, d19, d20] [(.int (1 : Int32))])) t
      refine XS.istoreS X.here hx rfl (hb hby at_57) rfl rfl o_d12 ?_
      show Steps p.tables e below (T.setTop (mkF m 59 #[d0, .val (.int v1), .val (.long v2), .second, .val (.long v4), .second, .val (.int v6), .val (.ref b1), .val (.long x146), .second, .val (.long x147), .second, .val (.int (1 : Int32)), d13, d14, d15, d16, d17, d18, d19, d20] [])) t
      refine XS.iload X.here hx rfl (hb hby at_59) rfl ?_
      show Steps p.tables e below (T.setTop (mkF m 61 #[d0, .val (.int v1), .val (.long v2), .second, .val (.long v4), .second, .val (.int v6), .val (.ref b1), .val (.long x146), .second, .val (.long x147), .second, .val (.int (1 : Int32)), d13, d14, d15, d16, d17, d18, d19, d20] [(.int (1 : Int32))])) t
      refine XS.ifNo X.here hx rfl (hb hby at_61) rfl ((if0 _ _).trans (feq (by decide : ¬ (1 : Int32) = (0 : Int32))).1) ?_
      show Steps p.tables e below (T.setTop (mkF m 64 #[d0, .val (.int v1), .val (.long v2), .second, .val (.long v4), .second, .val (.int v6), .val (.ref b1), .val (.long x146), .second, .val (.long x147), .second, .val (.int (1 : Int32)), d13, d14, d15, d16, d17, d18, d19, d20] [])) t
      refine XS.aload X.here hx rfl (hb hby at_64) rfl rfl ?_
      show Steps p.tables e below (T.setTop (mkF m 66 #[d0, .val (.int v1), .val (.long v2), .second, .val (.long v4), .second, .val (.int v6), .val (.ref b1), .val (.long x146), .second, .val (.long x147), .second, .val (.int (1 : Int32)), d13, d14, d15, d16, d17, d18, d19, d20] [(.ref b1)])) t
      refine XS.lload X.here hx rfl (hb hby at_66) rfl ?_
      show Steps p.tables e below (T.setTop (mkF m 68 #[d0, .val (.int v1), .val (.long v2), .second, .val (.long v4), .second, .val (.int v6), .val (.ref b1), .val (.long x146), .second, .val (.long x147), .second, .val (.int (1 : Int32)), d13, d14, d15, d16, d17, d18, d19, d20] [(.long x146), (.ref b1)])) t
      refine XS.lload X.here hx rfl (hb hby at_68) rfl ?_
      exact k
    obtain ⟨r148, hr148, hF⟩ := own_bd_e hF
    obtain ⟨cq148, kq148, q148a, q148b, q148c⟩ := isOf hZ eT E_b1
    obtain ⟨_, _, ⟨T148, L148, k148, n148⟩, -, X148, ⟨Lc148, hQ148, l148, y148, z148⟩, st148⟩ := X.virtualBack hx (y := (⟨"com/example/expire/expire/BatchSize", "found", "(JJ)V"⟩ : MethodName)) (z := (⟨"com/example/expire/expire/BatchSize", "found", "(JJ)V"⟩ : MethodName)) hown (mvT hZ (w12 hw)) (mvT hZ (w13 hw)) (notFace_of_selects (args := #[]) (mvT hZ (w15 hw))) (mvT hZ (w15 hw)) (mvT hZ (w14 hw)) (by decide) (backOf (W := 0) (rm_BatchSize_found l Z a0 hw [] h n0 z b1 x146 x147 f_b1_examined f_b1_removed f_b1_rows E_b1 F_b1_examined F_b1_removed F_b1_rows g_b1 r148 hr148) hZ (w16 hw) (w2 hw) (by decide) (by decide)) q148a q148c (g := (mkF m 70 #[d0, .val (.int v1), .val (.long v2), .second, .val (.long v4), .second, .val (.int v6), .val (.ref b1), .val (.long x146), .second, .val (.long x147), .second, .val (.int (1 : Int32)), d13, d14, d15, d16, d17, d18, d19, d20] [(.long x147), (.long x146), (.ref b1)])) rfl (by rw [hml]; rfl) (Steps.refl _) (argsL := [(.long x146), (.long x147)]) (rest := []) (lenOf pd_5 rfl) rfl (by show 2 * 0 + _ ≤ _; exact Nat.le_of_eq rfl) (hb hby at_70) (fun _ _ => ⟨rfl, eT, (by decide : 1 + 0 ≤ _), (by decide : 3 + 0 ≤ _)⟩)
    dsimp only [Pt.U, Pt.locs, Pt.cells, Pt.slots] at X148 l148 y148 z148 st148 hQ148
    subst l148 y148 z148
    obtain ⟨rfl, N148q, K148, E148_b1, F148_b1_examined, F148_b1_removed, F148_b1_rows⟩ := hQ148
    have N148 := Fr.app N N148q
    have K148_ := K.trans K148 (allS (Or.inr nE_b1) all0)
    have z148_ := Nat.le_trans z K148.1
    refine own_Goes.tr st148 ?_
    show own_Goes _ _ _ _ _ _ _ (T148.setTop (mkF m 73 #[d0, .val (.int v1), .val (.long v2), .second, .val (.long v4), .second, .val (.int v6), .val (.ref b1), .val (.long x146), .second, .val (.long x147), .second, .val (.int (1 : Int32)), d13, d14, d15, d16, d17, d18, d19, d20] []))
    exact b_law_73 cx X148 rfl N148 K148_ z148_ b1 v1 v6 x146 x147 (1 : Int32) r148.1 r148.2.1 r148.2.2 d0 v2 v4 d13 d14 d15 d16 d17 d18 d19 d20 o_d0 o_d13 o_d14 o_d15 o_d16 o_d17 o_d18 o_d19 o_d20 E148_b1 F148_b1_examined F148_b1_removed F148_b1_rows g_b1 nE_b1 _ hF
set_option maxRecDepth 65536 in
set_option maxHeartbeats 4000000 in
theorem b_law {p : Program} {l : Launch} {e : Env} {s : State} {m : MethodId} {args : Array Value} {below : List Frame} {meth : Method} {c : Code} {Z : State} {a0 : Array Value} {n0 : Nat} {hE : Heap} (cx : Cx_law p s m meth c Z a0) :
    ∀ {T : State} {locs : List Loc} {h : Heap} (X : Stand p l e room_1 s m args below meth c T locs 0 0) (eT : T.heap = h) (N : Fr n0 locs) (K : Keep hE h []) (z : n0 ≤ h.size) (v0 : Int32) (v1 : Int32) (v2 : Int64) (v4 : Int64) (v6 : Int32) (r : Int32), f_law v0 v1 v2 v4 v6 = some r → own_Goes p e below s (Q_law Z hE n0 r) 1 3 (T.setTop (mkF m 0 #[.val (.int v0), .val (.int v1), .val (.long v2), .second, .val (.long v4), .second, .val (.int v6), .unset, .unset, .unset, .unset, .unset, .unset, .unset, .unset, .unset, .unset, .unset, .unset, .unset, .unset] [])) := by
  have cx' := cx
  obtain ⟨hx, hZ, hw, hby, hml, hown, hret, hlk, hnm⟩ := cx'
  intro T locs h X eT N K z v0 v1 v2 v4 v6 r hF
  unfold f_law at hF
  obtain ⟨T150, h150, X150, e150, E150, A150, D150, -, st150⟩ := newO X hx hZ hown (w0 hw) (w1 hw) (w2 hw) eT (g := (mkF m 0 #[.val (.int v0), .val (.int v1), .val (.long v2), .second, .val (.long v4), .second, .val (.int v6), .unset, .unset, .unset, .unset, .unset, .unset, .unset, .unset, .unset, .unset, .unset, .unset, .unset, .unset] [])) rfl (hb hby at_0) (by decide) (by decide)
  obtain ⟨c150, q150⟩ : ∃ z, z = h.size := ⟨_, rfl⟩
  rw [← q150] at A150 D150 st150
  have F150_c150_rows : Fld Z h150 c150 "com/example/expire/expire/BatchSize" "rows" "I" (.int (0 : Int32)) := D150 (Or.inl (w10 hw)) (ty := .int) (by decide)
  have F150_c150_examined : Fld Z h150 c150 "com/example/expire/expire/BatchSize" "examined" "J" (.long (0 : Int64)) := D150 (Or.inl (w18 hw)) (ty := .long) (by decide)
  have F150_c150_removed : Fld Z h150 c150 "com/example/expire/expire/BatchSize" "removed" "J" (.long (0 : Int64)) := D150 (Or.inl (w20 hw)) (ty := .long) (by decide)
  have g150_c150 : n0 ≤ c150 := Nat.le_trans z (Nat.le_of_eq q150.symm)
  have nE150_c150 : hE.size ≤ c150 := Nat.le_trans K.1 (Nat.le_of_eq q150.symm)
  have z150 := Nat.le_trans z E150.1
  have K150_ := K.ext E150
  refine own_Goes.via st150 ?_
  show own_Goes _ _ _ _ _ _ _ (T150.setTop (mkF m 3 #[.val (.int v0), .val (.int v1), .val (.long v2), .second, .val (.long v4), .second, .val (.int v6), .unset, .unset, .unset, .unset, .unset, .unset, .unset, .unset, .unset, .unset, .unset, .unset, .unset, .unset] [(.ref c150)]))
  refine own_Goes.via (B := T150.setTop (mkF m 4 #[.val (.int v0), .val (.int v1), .val (.long v2), .second, .val (.long v4), .second, .val (.int v6), .unset, .unset, .unset, .unset, .unset, .unset, .unset, .unset, .unset, .unset, .unset, .unset, .unset, .unset] [(.ref c150), (.ref c150)])) (fun t k => ?_) ?_
  · show Steps p.tables e below (T150.setTop (mkF m 3 #[.val (.int v0), .val (.int v1), .val (.long v2), .second, .val (.long v4), .second, .val (.int v6), .unset, .unset, .unset, .unset, .unset, .unset, .unset, .unset, .unset, .unset, .unset, .unset, .unset, .unset] [(.ref c150)])) t
    refine XS.dup X150.here hx rfl (hb hby at_3) rfl rfl ?_
    exact k
  obtain ⟨r151, hr151, hF⟩ := own_bd_e hF
  obtain ⟨_, _, ⟨T151, L151, k151, n151⟩, -, X151, ⟨Lc151, hQ151, l151, y151, z151⟩, st151⟩ := X150.specialBack hx (y := (⟨"com/example/expire/expire/BatchSize", "<init>", "()V"⟩ : MethodName)) rfl hown (mvT hZ (w3 hw)) (mvT hZ (w4 hw)) (mvT hZ (w5 hw)) (by decide) (backOf (W := 1) (rm_BatchSize_mk l Z a0 hw [] h150 n0 z150 c150 (0 : Int64) (0 : Int64) (0 : Int32) A150 F150_c150_examined F150_c150_removed F150_c150_rows g150_c150 r151 hr151) hZ (w5 hw) (w2 hw) (by decide) (by decide)) (g := (mkF m 4 #[.val (.int v0), .val (.int v1), .val (.long v2), .second, .val (.long v4), .second, .val (.int v6), .unset, .unset, .unset, .unset, .unset, .unset, .unset, .unset, .unset, .unset, .unset, .unset, .unset, .unset] [(.ref c150), (.ref c150)])) rfl (by rw [hml]; rfl) (Steps.refl _) (a := c150) (argsL := []) (rest := [(.ref c150)]) (lenOf pd_0 rfl) rfl (by show 2 * 0 + _ ≤ _; exact Nat.le_of_eq rfl) (hb hby at_4) (fun _ _ => ⟨rfl, e150, (by decide : 1 + 0 ≤ _), (by decide : 3 + 0 ≤ _)⟩)
  dsimp only [Pt.U, Pt.locs, Pt.cells, Pt.slots] at X151 l151 y151 z151 st151 hQ151
  subst l151 y151 z151
  obtain ⟨rfl, N151q, K151, E151_c150, F151_c150_examined, F151_c150_removed, F151_c150_rows⟩ := hQ151
  have N151 := Fr.app N N151q
  have K151_ := K150_.trans K151 (allS (Or.inr nE150_c150) all0)
  have z151_ := Nat.le_trans z150 K151.1
  refine own_Goes.tr st151 ?_
  show own_Goes _ _ _ _ _ _ _ (T151.setTop (mkF m 7 #[.val (.int v0), .val (.int v1), .val (.long v2), .second, .val (.long v4), .second, .val (.int v6), .unset, .unset, .unset, .unset, .unset, .unset, .unset, .unset, .unset, .unset, .unset, .unset, .unset, .unset] [(.ref c150)]))
  refine own_Goes.via (B := T151.setTop (mkF m 13 #[.val (.int v0), .val (.int v1), .val (.long v2), .second, .val (.long v4), .second, .val (.int v6), .val (.ref c150), .unset, .unset, .unset, .unset, .unset, .unset, .unset, .unset, .unset, .unset, .unset, .unset, .unset] [(.int (v6 &&& (1 : Int32)))])) (fun t k => ?_) ?_
  · show Steps p.tables e below (T151.setTop (mkF m 7 #[.val (.int v0), .val (.int v1), .val (.long v2), .second, .val (.long v4), .second, .val (.int v6), .unset, .unset, .unset, .unset, .unset, .unset, .unset, .unset, .unset, .unset, .unset, .unset, .unset, .unset] [(.ref c150)])) t
    refine XS.astore X151.here hx rfl (hb hby at_7) rfl rfl (l' := #[.val (.int v0), .val (.int v1), .val (.long v2), .second, .val (.long v4), .second, .val (.int v6), .val (.ref c150), .unset, .unset, .unset, .unset, .unset, .unset, .unset, .unset, .unset, .unset, .unset, .unset, .unset]) rfl ?_
    show Steps p.tables e below (T151.setTop (mkF m 9 #[.val (.int v0), .val (.int v1), .val (.long v2), .second, .val (.long v4), .second, .val (.int v6), .val (.ref c150), .unset, .unset, .unset, .unset, .unset, .unset, .unset, .unset, .unset, .unset, .unset, .unset, .unset] [])) t
    refine XS.iload X151.here hx rfl (hb hby at_9) rfl ?_
    show Steps p.tables e below (T151.setTop (mkF m 11 #[.val (.int v0), .val (.int v1), .val (.long v2), .second, .val (.long v4), .second, .val (.int v6), .val (.ref c150), .unset, .unset, .unset, .unset, .unset, .unset, .unset, .unset, .unset, .unset, .unset, .unset, .unset] [(.int v6)])) t
    refine XS.iconst X151.here hx rfl (hb hby at_11) ?_
    show Steps p.tables e below (T151.setTop (mkF m 12 #[.val (.int v0), .val (.int v1), .val (.long v2), .second, .val (.long v4), .second, .val (.int v6), .val (.ref c150), .unset, .unset, .unset, .unset, .unset, .unset, .unset, .unset, .unset, .unset, .unset, .unset, .unset] [(.int (1 : Int32)), (.int v6)])) t
    refine XS.iand X151.here hx rfl (hb hby at_12) rfl ?_
    exact k
  by_cases hc13 : (v6 &&& (1 : Int32)) = (0 : Int32)
  · rw [if_pos hc13] at hF
    refine own_Goes.via (B := T151.setTop (mkF m 25 #[.val (.int v0), .val (.int v1), .val (.long v2), .second, .val (.long v4), .second, .val (.int v6), .val (.ref c150), .unset, .unset, .unset, .unset, .unset, .unset, .unset, .unset, .unset, .unset, .unset, .unset, .unset] [])) (fun t k => ?_) ?_
    · show Steps p.tables e below (T151.setTop (mkF m 13 #[.val (.int v0), .val (.int v1), .val (.long v2), .second, .val (.long v4), .second, .val (.int v6), .val (.ref c150), .unset, .unset, .unset, .unset, .unset, .unset, .unset, .unset, .unset, .unset, .unset, .unset, .unset] [(.int (v6 &&& (1 : Int32)))])) t
      refine XS.ifYes X151.here hx rfl (pc0 := 13) (pc' := 25) rfl (hb hby at_13) rfl ((if0 _ _).trans (teq hc13).1) (by decide) (by decide) ?_
      exact k
    exact b_law_25 cx X151 rfl N151 K151_ z151_ c150 v1 v2 v4 v6 r151.1 r151.2.1 r151.2.2 (.val (.int v0)) (.unset) (.unset) (.unset) (.unset) (.unset) (.unset) (.unset) (.unset) (.unset) (.unset) (.unset) (.unset) (.unset) (One.val rfl) One.u One.u One.u One.u One.u One.u One.u One.u One.u One.u One.u One.u One.u E151_c150 F151_c150_examined F151_c150_removed F151_c150_rows g150_c150 nE150_c150 _ hF
  · rw [if_neg hc13] at hF
    refine own_Goes.via (B := T151.setTop (mkF m 22 #[.val (.int v0), .val (.int v1), .val (.long v2), .second, .val (.long v4), .second, .val (.int v6), .val (.ref c150), .unset, .unset, .unset, .unset, .unset, .unset, .unset, .unset, .unset, .unset, .unset, .unset, .unset] [(.long (25000000 : Int64)), (.int v0), (.ref c150)])) (fun t k => ?_) ?_
    · show Steps p.tables e below (T151.setTop (mkF m 13 #[.val (.int v0), .val (.int v1), .val (.long v2), .second, .val (.long v4), .second, .val (.int v6), .val (.ref c150), .unset, .unset, .unset, .unset, .unset, .unset, .unset, .unset, .unset, .unset, .unset, .unset, .unset] [(.int (v6 &&& (1 : Int32)))])) t
      refine XS.ifNo X151.here hx rfl (hb hby at_13) rfl ((if0 _ _).trans (feq hc13).1) ?_
      show Steps p.tables e below (T151.setTop (mkF m 16 #[.val (.int v0), .val (.int v1), .val (.long v2), .second, .val (.long v4), .second, .val (.int v6), .val (.ref c150), .unset, .unset, .unset, .unset, .unset, .unset, .unset, .unset, .unset, .unset, .unset, .unset, .unset] [])) t
      refine XS.aload X151.here hx rfl (hb hby at_16) rfl rfl ?_
      show Steps p.tables e below (T151.setTop (mkF m 18 #[.val (.int v0), .val (.int v1), .val (.long v2), .second, .val (.long v4), .second, .val (.int v6), .val (.ref c150), .unset, .unset, .unset, .unset, .unset, .unset, .unset, .unset, .unset, .unset, .unset, .unset, .unset] [(.ref c150)])) t
      refine XS.iloadN X151.here hx rfl (hb hby at_18) rfl ?_
      show Steps p.tables e below (T151.setTop (mkF m 19 #[.val (.int v0), .val (.int v1), .val (.long v2), .second, .val (.long v4), .second, .val (.int v6), .val (.ref c150), .unset, .unset, .unset, .unset, .unset, .unset, .unset, .unset, .unset, .unset, .unset, .unset, .unset] [(.int v0), (.ref c150)])) t
      refine X151.ldc2Long hx hown (mvT hZ (w36 hw)) (g := (mkF m 19 #[.val (.int v0), .val (.int v1), .val (.long v2), .second, .val (.long v4), .second, .val (.int v6), .val (.ref c150), .unset, .unset, .unset, .unset, .unset, .unset, .unset, .unset, .unset, .unset, .unset, .unset, .unset] [(.int v0), (.ref c150)])) rfl (hb hby at_19) _ ?_
      exact k
    obtain ⟨r152, hr152, hF⟩ := own_bd_e hF
    obtain ⟨cq152, kq152, q152a, q152b, q152c⟩ := isOf hZ rfl E151_c150
    obtain ⟨_, _, ⟨T152, L152, k152, n152⟩, -, X152, ⟨Lc152, hQ152, l152, y152, z152⟩, st152⟩ := X151.virtualBack hx (y := (⟨"com/example/expire/expire/BatchSize", "took", "(IJ)V"⟩ : MethodName)) (z := (⟨"com/example/expire/expire/BatchSize", "took", "(IJ)V"⟩ : MethodName)) hown (mvT hZ (w37 hw)) (mvT hZ (w38 hw)) (notFace_of_selects (args := #[]) (mvT hZ (w40 hw))) (mvT hZ (w40 hw)) (mvT hZ (w39 hw)) (by decide) (backOf (W := 0) (rm_BatchSize_took l Z a0 hw [] T151.heap n0 z151_ c150 v0 (25000000 : Int64) r151.1 r151.2.1 r151.2.2 E151_c150 F151_c150_examined F151_c150_removed F151_c150_rows g150_c150 r152 hr152) hZ (w41 hw) (w2 hw) (by decide) (by decide)) q152a q152c (g := (mkF m 22 #[.val (.int v0), .val (.int v1), .val (.long v2), .second, .val (.long v4), .second, .val (.int v6), .val (.ref c150), .unset, .unset, .unset, .unset, .unset, .unset, .unset, .unset, .unset, .unset, .unset, .unset, .unset] [(.long (25000000 : Int64)), (.int v0), (.ref c150)])) rfl (by rw [hml]; rfl) (Steps.refl _) (argsL := [(.int v0), (.long (25000000 : Int64))]) (rest := []) (lenOf pd_6 rfl) rfl (by show 2 * 0 + _ ≤ _; exact Nat.le_of_eq rfl) (hb hby at_22) (fun _ _ => ⟨rfl, rfl, (by decide : 1 + 0 ≤ _), (by decide : 3 + 0 ≤ _)⟩)
    dsimp only [Pt.U, Pt.locs, Pt.cells, Pt.slots] at X152 l152 y152 z152 st152 hQ152
    subst l152 y152 z152
    obtain ⟨rfl, N152q, K152, E152_c150, F152_c150_examined, F152_c150_removed, F152_c150_rows⟩ := hQ152
    have N152 := Fr.app N151 N152q
    have K152_ := K151_.trans K152 (allS (Or.inr nE150_c150) all0)
    have z152_ := Nat.le_trans z151_ K152.1
    refine own_Goes.tr st152 ?_
    show own_Goes _ _ _ _ _ _ _ (T152.setTop (mkF m 25 #[.val (.int v0), .val (.int v1), .val (.long v2), .second, .val (.long v4), .second, .val (.int v6), .val (.ref c150), .unset, .unset, .unset, .unset, .unset, .unset, .unset, .unset, .unset, .unset, .unset, .unset, .unset] []))
    exact b_law_25 cx X152 rfl N152 K152_ z152_ c150 v1 v2 v4 v6 r152.1 r152.2.1 r152.2.2 (.val (.int v0)) (.unset) (.unset) (.unset) (.unset) (.unset) (.unset) (.unset) (.unset) (.unset) (.unset) (.unset) (.unset) (.unset) (One.val rfl) One.u One.u One.u One.u One.u One.u One.u One.u One.u One.u One.u One.u One.u E152_c150 F152_c150_examined F152_c150_removed F152_c150_rows g150_c150 nE150_c150 _ hF
theorem ef_law (m : MethodId) (x0 : Int32) (x1 : Int32) (x2 : Int64) (x3 : Int64) (x4 : Int32) : entryFrame m #[(.int x0), (.int x1), (.long x2), (.long x3), (.int x4)] maxLocals = mkF m 0 #[.val (.int x0), .val (.int x1), .val (.long x2), .second, .val (.long x3), .second, .val (.int x4), .unset, .unset, .unset, .unset, .unset, .unset, .unset, .unset, .unset, .unset, .unset, .unset, .unset, .unset] [] := by first | (simp [entryFrame, mkF, argsToLocals, Value.category, maxLocals]; done) | rfl
set_option maxRecDepth 65536 in
set_option maxHeartbeats 4000000 in
theorem rm_law (l : Launch) (Z : State) (a0 : Array Value) (hw : ∀ d ∈ tables_1, d.before a0 Z = true) (ws : List Jvm.Cond) (hE : Heap) (n0 : Nat) (z : n0 ≤ hE.size)  (v0 : Int32) (v1 : Int32) (v2 : Int64) (v4 : Int64) (v6 : Int32) (r : Int32) (hF : (f_law v0 v1 v2 v4 v6) = some r) :
    MetFree l x (head1 (Jvm.Cond.code x code maxLocals ret :: ws) room_1) (fun a U => a = #[(.int v0), (.int v1), (.long v2), (.long v4), (.int v6)] ∧ Z.Warmed39 U.vm ∧ U.heap = hE) (fun _ _ _ _ _ => True) (fun _ U o U' => ∃ v L, o = .returned v ∧ (Q_law Z hE n0 r) v U'.heap L ∧ FrameEnd U o U' L 1 3) := by
  refine MetFree.of_bodySF (plainFor_of_name pn_com_example_expire_expire_BatchSizeHoldingPinLaw) hisR ?_
  intro p e s m args below meth c s₁ Bd hml0 hP hK
  obtain ⟨rfl, hZ, hh⟩ := hP
  have X0 : Stand p l e room_1 s m #[(.int v0), (.int v1), (.long v2), (.long v4), (.int v6)] below meth c s₁ [] 0 0 := Stand.of_body Bd
  have e0 : s₁.heap = hE := by rw [← hh, Bd.state]; rfl
  have cx : Cx_law p s m meth c Z a0 := ⟨Bd.exec, hZ, hw, Bd.bytes, hml0, findClass_of_methodNamed Bd.named, Bd.returns, Bd.notSynchronized, (name_of_methodNamed Bd.named Bd.method).1⟩
  show own_Goes p e below s (Q_law Z hE n0 r) 1 3 (s₁.setTop (entryFrame m #[(.int v0), (.int v1), (.long v2), (.long v4), (.int v6)] maxLocals))
  rw [ef_law]
  exact b_law cx X0 e0 (Fr.nil n0) (Keep.refl _ _) z v0 v1 v2 v4 v6 _ hF
/-! the words of the mirrors -/
theorem own_bs {α β : Type} (x : α) (f : α → Option β) : own_bd (some x) f = f x := by unfold own_bd; exact rfl
theorem own_ls {α β : Type} (x : α) (f : α → Option β) : own_lt x f = f x := by unfold own_lt; exact rfl
theorem own_bn {α : Type} (x : Option α) : own_bd x (fun y => some y) = x := by cases x <;> exact rfl
theorem own_ct {β : Type} {P : Prop} [Decidable P] (x : Option β) (h : P) : own_ck P x = x := by unfold own_ck; exact if_pos h
/-! numbers: ints and longs as integers -/
theorem own_i1 (x : Int32) : -2147483648 ≤ x.toInt := Int32.le_toInt x
theorem own_i2 (x : Int32) : x.toInt < 2147483648 := Int32.toInt_lt x
theorem own_j1 (x : Int64) : -9223372036854775808 ≤ x.toInt := Int64.le_toInt x
theorem own_j2 (x : Int64) : x.toInt < 9223372036854775808 := Int64.toInt_lt x
theorem own_iadd {a b : Int32} (h1 : -2147483648 ≤ a.toInt + b.toInt) (h2 : a.toInt + b.toInt < 2147483648) : (a + b).toInt = a.toInt + b.toInt := by
  rw [Int32.toInt_add]; exact Int.bmod_eq_of_le (by omega) (by omega)
theorem own_isub {a b : Int32} (h1 : -2147483648 ≤ a.toInt - b.toInt) (h2 : a.toInt - b.toInt < 2147483648) : (a - b).toInt = a.toInt - b.toInt := by
  rw [Int32.toInt_sub]; exact Int.bmod_eq_of_le (by omega) (by omega)
theorem own_imul {a b : Int32} (h1 : -2147483648 ≤ a.toInt * b.toInt) (h2 : a.toInt * b.toInt < 2147483648) : (a * b).toInt = a.toInt * b.toInt := by
  rw [Int32.toInt_mul]; exact Int.bmod_eq_of_le (by omega) (by omega)
theorem own_ladd {a b : Int64} (h1 : -9223372036854775808 ≤ a.toInt + b.toInt) (h2 : a.toInt + b.toInt < 9223372036854775808) : (a + b).toInt = a.toInt + b.toInt := by
  rw [Int64.toInt_add]; exact Int.bmod_eq_of_le (by omega) (by omega)
theorem own_lsub {a b : Int64} (h1 : -9223372036854775808 ≤ a.toInt - b.toInt) (h2 : a.toInt - b.toInt < 9223372036854775808) : (a - b).toInt = a.toInt - b.toInt := by
  rw [Int64.toInt_sub]; exact Int.bmod_eq_of_le (by omega) (by omega)
theorem own_lmul {a b : Int64} (h1 : -9223372036854775808 ≤ a.toInt * b.toInt) (h2 : a.toInt * b.toInt < 9223372036854775808) : (a * b).toInt = a.toInt * b.toInt := by
  rw [Int64.toInt_mul]; exact Int.bmod_eq_of_le (by omega) (by omega)
theorem own_imask {x m : Int32} (k : Nat) (hk : k ≤ 31) (hm : m.toBitVec.toNat = 2 ^ k - 1) : (x &&& m).toInt = x.toInt % 2 ^ k := by
  have h1 : (x &&& m).toBitVec.toNat = x.toBitVec.toNat % 2 ^ k := by rw [Int32.toBitVec_and, BitVec.toNat_and, hm, Nat.and_two_pow_sub_one_eq_mod]
  have h3 : x.toBitVec.toNat % 2 ^ k < 2 ^ k := Nat.mod_lt _ (Nat.pow_pos (by decide))
  have h4 : (2 : Nat) ^ k ≤ 2 ^ 31 := Nat.pow_le_pow_right (by decide) hk
  have h2 : (x &&& m).toInt = ((x.toBitVec.toNat % 2 ^ k : Nat) : Int) := by
    show (x &&& m).toBitVec.toInt = _
    rw [BitVec.toInt_eq_toNat_of_lt (by rw [h1]; omega), h1]
  rw [h2]
  have h5 : x.toInt = x.toBitVec.toInt := rfl
  have h6 : ((2 : Int) ^ k) ∣ 4294967296 := by
    have : (4294967296 : Int) = 2 ^ k * 2 ^ (32 - k) := by rw [← Int.pow_add, show k + (32 - k) = 32 by omega]; rfl
    exact ⟨_, this⟩
  rw [h5, BitVec.toInt_eq_toNat_cond]
  split
  · exact Int.natCast_emod _ _
  · rw [Int.natCast_emod, show (((2 ^ 32 : Nat) : Int)) = 4294967296 from rfl, Int.sub_emod, Int.emod_eq_zero_of_dvd h6]; simp
theorem own_lmask {x m : Int64} (k : Nat) (hk : k ≤ 63) (hm : m.toBitVec.toNat = 2 ^ k - 1) : (x &&& m).toInt = x.toInt % 2 ^ k := by
  have h1 : (x &&& m).toBitVec.toNat = x.toBitVec.toNat % 2 ^ k := by rw [Int64.toBitVec_and, BitVec.toNat_and, hm, Nat.and_two_pow_sub_one_eq_mod]
  have h3 : x.toBitVec.toNat % 2 ^ k < 2 ^ k := Nat.mod_lt _ (Nat.pow_pos (by decide))
  have h4 : (2 : Nat) ^ k ≤ 2 ^ 63 := Nat.pow_le_pow_right (by decide) hk
  have h2 : (x &&& m).toInt = ((x.toBitVec.toNat % 2 ^ k : Nat) : Int) := by
    show (x &&& m).toBitVec.toInt = _
    rw [BitVec.toInt_eq_toNat_of_lt (by rw [h1]; omega), h1]
  rw [h2]
  have h5 : x.toInt = x.toBitVec.toInt := rfl
  have h6 : ((2 : Int) ^ k) ∣ 18446744073709551616 := by
    have : (18446744073709551616 : Int) = 2 ^ k * 2 ^ (64 - k) := by rw [← Int.pow_add, show k + (64 - k) = 64 by omega]; rfl
    exact ⟨_, this⟩
  rw [h5, BitVec.toInt_eq_toNat_cond]
  split
  · exact Int.natCast_emod _ _
  · rw [Int.natCast_emod, show (((2 ^ 64 : Nat) : Int)) = 18446744073709551616 from rfl, Int.sub_emod, Int.emod_eq_zero_of_dvd h6]; simp
theorem own_bm32 (x : Int) : x.bmod 4294967296 = (x + 2147483648) % 4294967296 - 2147483648 := by
  unfold Int.bmod; dsimp only; split <;> omega
theorem own_bm64 (x : Int) : x.bmod 18446744073709551616 = (x + 9223372036854775808) % 18446744073709551616 - 9223372036854775808 := by
  unfold Int.bmod; dsimp only; split <;> omega
theorem own_bm8 (x : Int) : x.bmod 256 = (x + 128) % 256 - 128 := by
  unfold Int.bmod; dsimp only; split <;> omega
theorem own_bm16 (x : Int) : x.bmod 65536 = (x + 32768) % 65536 - 32768 := by
  unfold Int.bmod; dsimp only; split <;> omega
theorem own_b8 (x : Int32) : x.toInt8.toInt32.toInt = (x.toInt + 128) % 256 - 128 := by rw [Int8.toInt_toInt32, Int32.toInt_toInt8]; exact own_bm8 _
theorem own_s16 (x : Int32) : x.toInt16.toInt32.toInt = (x.toInt + 32768) % 65536 - 32768 := by rw [Int16.toInt_toInt32, Int32.toInt_toInt16]; exact own_bm16 _
theorem own_l2i (x : Int64) : x.toInt32.toInt = (x.toInt + 2147483648) % 4294967296 - 2147483648 := by rw [Int64.toInt_toInt32]; exact own_bm32 _
theorem own_i2l (x : Int32) : x.toInt64.toInt = x.toInt := Int32.toInt_toInt64 x
theorem own_idiv {a b : Int32} (h1 : 0 ≤ a.toInt) (h2 : 0 < b.toInt) : (a / b).toInt = a.toInt / b.toInt := by
  rw [Int32.toInt_div_of_ne_right a b (fun q => by rw [q] at h2; exact absurd h2 (by decide)), Int.tdiv_eq_ediv_of_nonneg h1]
theorem own_ldiv {a b : Int64} (h1 : 0 ≤ a.toInt) (h2 : 0 < b.toInt) : (a / b).toInt = a.toInt / b.toInt := by
  rw [Int64.toInt_div_of_ne_right a b (fun q => by rw [q] at h2; exact absurd h2 (by decide)), Int.tdiv_eq_ediv_of_nonneg h1]
theorem own_imod {a b : Int32} (h1 : 0 ≤ a.toInt) : (a % b).toInt = a.toInt % b.toInt := by rw [Int32.toInt_mod, Int.tmod_eq_emod_of_nonneg h1]
theorem own_lmod {a b : Int64} (h1 : 0 ≤ a.toInt) : (a % b).toInt = a.toInt % b.toInt := by rw [Int64.toInt_mod, Int.tmod_eq_emod_of_nonneg h1]
theorem own_uI (x : Int32) : (x.toUInt32.toNat : Int) = x.toInt % 4294967296 := by
  have h : x.toInt = x.toBitVec.toInt := rfl
  have q : x.toUInt32.toNat = x.toBitVec.toNat := rfl
  have b := x.toBitVec.isLt
  rw [h, q, BitVec.toInt_eq_toNat_cond]
  split <;> omega
theorem own_uJ (x : Int64) : (x.toUInt64.toNat : Int) = x.toInt % 18446744073709551616 := by
  have h : x.toInt = x.toBitVec.toInt := rfl
  have q : x.toUInt64.toNat = x.toBitVec.toNat := rfl
  have b := x.toBitVec.isLt
  rw [h, q, BitVec.toInt_eq_toNat_cond]
  split <;> omega
theorem own_ofU (u : UInt32) (h : u.toNat < 2147483648) : u.toInt32.toInt = u.toNat := by
  show u.toBitVec.toInt = _
  exact BitVec.toInt_eq_toNat_of_lt (by show 2 * u.toNat < 2 ^ 32; omega)
theorem own_ofUJ (u : UInt64) (h : u.toNat < 9223372036854775808) : u.toInt64.toInt = u.toNat := by
  show u.toBitVec.toInt = _
  exact BitVec.toInt_eq_toNat_of_lt (by show 2 * u.toNat < 2 ^ 64; omega)
/-- Java's >>> on ints by a constant from 1 to 31 -/
theorem own_iushr (x s : Int32) (n : Nat) (h0 : 1 ≤ n) (hn : n < 32) (hs : (s &&& 31).toUInt32.toNat = n) : ((x.toUInt32 >>> (s &&& 31).toUInt32).toInt32).toInt = (x.toInt % 4294967296) / (2 ^ n : Nat) := by
  have e : (x.toUInt32 >>> (s &&& 31).toUInt32).toNat = x.toUInt32.toNat / 2 ^ n := by rw [UInt32.toNat_shiftRight, hs, Nat.mod_eq_of_lt hn, Nat.shiftRight_eq_div_pow]
  have b : x.toUInt32.toNat < 4294967296 := x.toUInt32.toNat_lt
  have c : x.toUInt32.toNat / 2 ^ n ≤ x.toUInt32.toNat / 2 ^ 1 := Nat.div_le_div_left (Nat.pow_le_pow_right (by decide) h0) (by decide)
  rw [own_ofU _ (by rw [e]; omega), e, Int.natCast_ediv, own_uI]
theorem own_lushr (x : Int64) (s : Int32) (n : Nat) (h0 : 1 ≤ n) (hn : n < 64) (hs : (s &&& 0x3f).toInt64.toUInt64.toNat = n) : ((x.toUInt64 >>> (s &&& 0x3f).toInt64.toUInt64).toInt64).toInt = (x.toInt % 18446744073709551616) / (2 ^ n : Nat) := by
  have e : (x.toUInt64 >>> (s &&& 0x3f).toInt64.toUInt64).toNat = x.toUInt64.toNat / 2 ^ n := by rw [UInt64.toNat_shiftRight, hs, Nat.mod_eq_of_lt hn, Nat.shiftRight_eq_div_pow]
  have b : x.toUInt64.toNat < 18446744073709551616 := x.toUInt64.toNat_lt
  have c : x.toUInt64.toNat / 2 ^ n ≤ x.toUInt64.toNat / 2 ^ 1 := Nat.div_le_div_left (Nat.pow_le_pow_right (by decide) h0) (by decide)
  rw [own_ofUJ _ (by rw [e]; omega), e, Int.natCast_ediv, own_uJ]
theorem own_ishl {x s : Int32} (n : Nat) (hs : (s.toBitVec.smod 32).toNat = n) (h0 : 0 ≤ x.toInt) (h1 : x.toInt * (2 ^ n : Nat) < 2147483648) : (x <<< s).toInt = x.toInt * (2 ^ n : Nat) := by
  have h : x.toInt = x.toBitVec.toInt := rfl
  have hx : x.toInt = x.toBitVec.toNat := by
    have b := x.toBitVec.isLt
    rw [h, BitVec.toInt_eq_toNat_cond]; rw [h, BitVec.toInt_eq_toNat_cond] at h0
    split at h0 <;> rename_i q
    · rw [if_pos q]
    · omega
  have e : (x <<< s).toBitVec.toNat = x.toBitVec.toNat * 2 ^ n := by
    rw [Int32.toBitVec_shiftLeft, BitVec.shiftLeft_eq', hs, BitVec.toNat_shiftLeft, Nat.shiftLeft_eq]
    apply Nat.mod_eq_of_lt
    rw [hx] at h1
    omega
  show (x <<< s).toBitVec.toInt = _
  rw [BitVec.toInt_eq_toNat_of_lt (by rw [e]; rw [hx] at h1; omega), e, hx]
  simp
theorem own_lshl {x s : Int64} (n : Nat) (hs : (s.toBitVec.smod 64).toNat = n) (h0 : 0 ≤ x.toInt) (h1 : x.toInt * (2 ^ n : Nat) < 9223372036854775808) : (x <<< s).toInt = x.toInt * (2 ^ n : Nat) := by
  have h : x.toInt = x.toBitVec.toInt := rfl
  have hx : x.toInt = x.toBitVec.toNat := by
    have b := x.toBitVec.isLt
    rw [h, BitVec.toInt_eq_toNat_cond]; rw [h, BitVec.toInt_eq_toNat_cond] at h0
    split at h0 <;> rename_i q
    · rw [if_pos q]
    · omega
  have e : (x <<< s).toBitVec.toNat = x.toBitVec.toNat * 2 ^ n := by
    rw [Int64.toBitVec_shiftLeft, BitVec.shiftLeft_eq', hs, BitVec.toNat_shiftLeft, Nat.shiftLeft_eq]
    apply Nat.mod_eq_of_lt
    rw [hx] at h1
    omega
  show (x <<< s).toBitVec.toInt = _
  rw [BitVec.toInt_eq_toNat_of_lt (by rw [e]; rw [hx] at h1; omega), e, hx]
  simp
theorem own_ishr (x s : Int32) (n : Nat) (hs : (s.toBitVec.smod 32).toNat = n) : (x >>> s).toInt = x.toInt / (2 ^ n : Nat) := by
  show (x >>> s).toBitVec.toInt = _
  rw [Int32.toBitVec_shiftRight, BitVec.sshiftRight', hs, BitVec.toInt_sshiftRight, Int.shiftRight_eq_div_pow]
  rfl
theorem own_lshr (x s : Int64) (n : Nat) (hs : (s.toBitVec.smod 64).toNat = n) : (x >>> s).toInt = x.toInt / (2 ^ n : Nat) := by
  show (x >>> s).toBitVec.toInt = _
  rw [Int64.toBitVec_shiftRight, BitVec.sshiftRight', hs, BitVec.toInt_sshiftRight, Int.shiftRight_eq_div_pow]
  rfl
theorem own_natbit (x k : Nat) : x &&& 2 ^ k = 0 ↔ x / 2 ^ k % 2 = 0 := by
  constructor
  · intro h
    have q : (x &&& 2 ^ k).testBit k = false := by rw [h]; exact Nat.zero_testBit k
    rw [Nat.testBit_and, Nat.testBit_two_pow_self, Bool.and_true, Nat.testBit_eq_decide_div_mod_eq] at q
    have q := of_decide_eq_false q
    omega
  · intro h
    apply Nat.eq_of_testBit_eq
    intro i
    rw [Nat.testBit_and, Nat.zero_testBit, Nat.testBit_two_pow]
    by_cases e : k = i
    · subst e
      rw [Nat.testBit_eq_decide_div_mod_eq, h]; rfl
    · simp [e]
/-- one bit of an int -/
theorem own_ibit (x m : Int32) (k : Nat) (hm : m.toBitVec.toNat = 2 ^ k) : (x &&& m = 0) ↔ x.toInt % 4294967296 / (2 ^ k : Nat) % 2 = 0 := by
  have u : (x.toBitVec.toNat : Int) = x.toInt % 4294967296 := own_uI x
  have z : (0 : Int32).toBitVec.toNat = 0 := rfl
  rw [← u, ← Int.natCast_ediv, ← Int32.toBitVec_inj, ← BitVec.toNat_inj, Int32.toBitVec_and, BitVec.toNat_and, hm, z, own_natbit]
  omega
theorem own_k0 : (0 : Int32).toNatClampNeg = 0 := by decide
theorem own_k1 : (1 : Int32).toNatClampNeg = 1 := by decide
theorem own_k2 : (2 : Int32).toNatClampNeg = 2 := by decide
theorem own_k3 : (3 : Int32).toNatClampNeg = 3 := by decide
theorem own_k4 : (4 : Int32).toNatClampNeg = 4 := by decide
theorem own_k5 : (5 : Int32).toNatClampNeg = 5 := by decide
theorem own_k6 : (6 : Int32).toNatClampNeg = 6 := by decide
theorem own_k7 : (7 : Int32).toNatClampNeg = 7 := by decide
/-- a byte, and what a property of the 256 of them says -/
theorem own_byte {P : Int32 → Prop} (h : ∀ n : Nat, n < 256 → P (Int32.ofNat n)) (x : Int32) (h1 : 0 ≤ x.toInt) (h2 : x.toInt < 256) : P x := by
  have e : x = Int32.ofNat x.toInt.toNat := by
    apply Int32.toInt_inj.mp
    rw [Int32.toInt_ofNat_of_lt (by omega)]; omega
  rw [e]; exact h _ (by omega)
theorem own_192 (x : Int32) (h1 : 0 ≤ x.toInt) (h2 : x.toInt < 256) : (x &&& 192).toInt = x.toInt / 64 * 64 :=
  own_byte (P := fun x => (x &&& 192).toInt = x.toInt / 64 * 64) (by decide +kernel) x h1 h2
/-- the or of two numbers that share no bit -/
theorem own_ior {x y : Int32} (k : Nat) (q : Int) (hq : 0 ≤ q) (hx : x.toInt = (2 ^ k : Nat) * q) (hy : 0 ≤ y.toInt) (hy2 : y.toInt < (2 ^ k : Nat)) : (x ||| y).toInt = x.toInt + y.toInt := by
  have x0 : 0 ≤ x.toInt := by rw [hx]; exact Int.mul_nonneg (Int.natCast_nonneg _) hq
  have ux := own_uI x
  have uy := own_uI y
  have x2 := own_i2 x
  have y2 := own_i2 y
  have nx : x.toUInt32.toNat = 2 ^ k * q.toNat := by
    have : ((2 ^ k * q.toNat : Nat) : Int) = (2 ^ k : Nat) * q := by rw [Int.natCast_mul, Int.toNat_of_nonneg hq]
    omega
  have e : (x ||| y).toBitVec.toNat = x.toUInt32.toNat + y.toUInt32.toNat := by
    rw [Int32.toBitVec_or, BitVec.toNat_or]
    show x.toUInt32.toNat ||| y.toUInt32.toNat = _
    rw [nx]
    exact (Nat.two_pow_add_eq_or_of_lt (by omega) _).symm
  have lt : x.toInt + y.toInt < 2147483648 := by
    by_cases k31 : k ≤ 31
    · have d : (2 ^ 31 : Nat) = 2 ^ k * 2 ^ (31 - k) := by rw [← Nat.pow_add]; congr 1; omega
      have z1 : q.toNat < 2 ^ (31 - k) := by
        apply Nat.lt_of_mul_lt_mul_left (a := 2 ^ k)
        rw [← d, ← nx]; omega
      have z2 : 2 ^ k * (q.toNat + 1) ≤ 2 ^ k * 2 ^ (31 - k) := Nat.mul_le_mul_left _ z1
      rw [← d, Nat.mul_add, ← nx] at z2
      omega
    · have z0 : q = 0 := by
        have z1 : (2 ^ 32 : Nat) ≤ 2 ^ k := Nat.pow_le_pow_right (by decide) (by omega)
        by_cases q0 : q = 0
        · exact q0
        · have z3 : (2 ^ k : Nat) * 1 ≤ ((2 ^ k : Nat) : Int) * q := Int.mul_le_mul_of_nonneg_left (by omega) (Int.natCast_nonneg _)
          omega
      rw [hx, z0]; omega
  show (x ||| y).toBitVec.toInt = _
  rw [BitVec.toInt_eq_toNat_of_lt (by rw [e]; omega), e]
  omega
theorem own_max (a b : Int64) : ∃ k, f_Math_max2 a b = some k ∧ k.toInt = max a.toInt b.toInt := by
  unfold f_Math_max2
  split
  · rename_i h; rw [Int64.lt_iff_toInt_lt] at h; exact ⟨_, rfl, by omega⟩
  · rename_i h; rw [Int64.lt_iff_toInt_lt] at h; exact ⟨_, rfl, by omega⟩
theorem own_min (a b : Int64) : ∃ k, f_Math_min a b = some k ∧ k.toInt = min a.toInt b.toInt := by
  unfold f_Math_min
  split
  · rename_i h; rw [Int64.lt_iff_toInt_lt] at h; exact ⟨_, rfl, by omega⟩
  · rename_i h; rw [Int64.lt_iff_toInt_lt] at h; exact ⟨_, rfl, by omega⟩
theorem own_maxI (a b : Int32) : ∃ k, f_Math_max a b = some k ∧ k.toInt = max a.toInt b.toInt := by
  unfold f_Math_max
  split
  · rename_i h; rw [Int32.lt_iff_toInt_lt] at h; exact ⟨_, rfl, by omega⟩
  · rename_i h; rw [Int32.lt_iff_toInt_lt] at h; exact ⟨_, rfl, by omega⟩
theorem own_t20 (t : Int32) (x a b : Int64) (w : Int32) : ∃ r, f_BatchSize_took_20 t x a b w = some (a, b, r) ∧ 100 ≤ r.toInt ∧ r.toInt ≤ 20000 := by
  have lh : (100 : Int64).toInt = 100 := rfl
  have lm : (20000 : Int64).toInt = 20000 := rfl
  unfold f_BatchSize_took_20
  rw [own_ls]
  obtain ⟨k1, h1, g1⟩ := own_min 20000 (2 * t.toInt64)
  obtain ⟨k2, h2, g2⟩ := own_min k1 x
  obtain ⟨k3, h3, g3⟩ := own_max 100 k2
  rw [lm] at g1
  rw [lh] at g3
  have e : k3.toInt32.toInt = k3.toInt := by rw [own_l2i]; omega
  refine ⟨k3.toInt32, ?_, by omega, by omega⟩
  rw [h1, own_bs, h2, own_bs, h3, own_bs, own_ls]
theorem own_took (t : Int32) (n a b : Int64) (w : Int32) : ∃ r, f_BatchSize_took t n a b w = some (a, b, r) ∧ 100 ≤ r.toInt ∧ r.toInt ≤ 20000 := by
  have l0 : (0 : Int64).toInt = 0 := rfl
  unfold f_BatchSize_took
  by_cases hn : (0 : Int64) < n
  · rw [if_pos hn]
    rw [Int64.lt_iff_toInt_lt, l0] at hn
    rw [own_ct _ (by rw [← Int64.toInt_inj, l0]; omega)]
    exact own_t20 _ _ _ _ _
  · rw [if_neg hn]
    exact own_t20 _ _ _ _ _
/-- the law's last part: h answers to holding(e) for a batch of r rows, ex examined, rem removed -/
theorem own_hold (ex rem : Int64) (r e : Int32) (h1 : 100 ≤ r.toInt) (h2 : r.toInt ≤ 20000) (h3 : 0 ≤ e.toInt) (h4 : 0 ≤ ex.toInt) (h5 : ex.toInt < 2147483648) (h6 : 0 ≤ rem.toInt) (h7 : rem.toInt ≤ ex.toInt) :
    ∃ k, f_BatchSize_holding e ex rem r = some k ∧ f_law_133 ex r e k rem = some 1 := by
  have l0 : (0 : Int64).toInt = 0 := rfl
  have l1 : (1 : Int64).toInt = 1 := rfl
  have l2 : (2 : Int64).toInt = 2 := rfl
  have i1 : (1 : Int32).toInt = 1 := rfl
  unfold f_BatchSize_holding f_law_133
  by_cases c1 : e < r
  · rw [if_pos c1]
    rw [Int32.lt_iff_toInt_lt] at c1
    by_cases c2 : rem = 0
    · rw [if_pos c2]
      refine ⟨r, rfl, ?_⟩
      rw [if_pos (by rw [Int32.lt_iff_toInt_lt]; exact c1), if_pos c2, if_pos rfl]
    · rw [if_neg c2]
      have c2' : 0 < rem.toInt := by rw [← Int64.toInt_inj, l0] at c2; omega
      have e2 : ((2 : Int64) * rem).toInt = 2 * rem.toInt := by rw [own_lmul (by rw [l2]; omega) (by rw [l2]; omega), l2]
      by_cases c3 : (2 : Int64) * rem < ex
      · rw [if_pos c3, own_ct _ c2, own_ls, own_ls]
        -- the products
        have b1 : 0 ≤ e.toInt * ex.toInt := Int.mul_nonneg h3 h4
        have b2 : e.toInt * ex.toInt ≤ 20000 * ex.toInt := Int.mul_le_mul_of_nonneg_right (by omega) h4
        have w1 : (e.toInt64 * ex).toInt = e.toInt * ex.toInt := by rw [own_lmul (by rw [own_i2l]; omega) (by rw [own_i2l]; omega), own_i2l]
        generalize hN : e.toInt * ex.toInt = N at *
        have w2 : (e.toInt64 * ex + rem).toInt = N + rem.toInt := by rw [own_ladd (by rw [w1]; omega) (by rw [w1]; omega), w1]
        have w3 : (e.toInt64 * ex + rem - 1).toInt = N + rem.toInt - 1 := by rw [own_lsub (by rw [w2, l1]; omega) (by rw [w2, l1]; omega), w2, l1]
        have w4 : ((e.toInt64 * ex + rem - 1) / rem).toInt = (N + rem.toInt - 1) / rem.toInt := by rw [own_ldiv (by rw [w3]; omega) c2', w3]
        obtain ⟨k, hk, gk⟩ := own_min r.toInt64 ((e.toInt64 * ex + rem - 1) / rem)
        rw [own_i2l, w4] at gk
        have d1 : (N + rem.toInt - 1) / rem.toInt * rem.toInt ≤ N + rem.toInt - 1 := Int.ediv_mul_le _ (by omega)
        have d2 : N + rem.toInt - 1 < ((N + rem.toInt - 1) / rem.toInt + 1) * rem.toInt := Int.lt_ediv_add_one_mul_self _ c2'
        have d3 : 0 ≤ (N + rem.toInt - 1) / rem.toInt := Int.ediv_nonneg (by omega) (by omega)
        generalize hq : (N + rem.toInt - 1) / rem.toInt = q at *
        have ek : k.toInt32.toInt = min r.toInt q := by rw [own_l2i]; omega
        refine ⟨k.toInt32, by rw [hk, own_bs], ?_⟩
        generalize k.toInt32 = v at *
        rw [if_pos (by rw [Int32.lt_iff_toInt_lt]; exact c1), if_neg c2, if_pos c3, own_ls, if_neg (by rw [Int32.lt_iff_toInt_lt]; omega)]
        have m1 : ((r - 1).toInt64 * rem).toInt = (r.toInt - 1) * rem.toInt := by
          have x : (r - 1).toInt = r.toInt - 1 := by rw [own_isub (by omega) (by omega), i1]
          have y1 : 0 ≤ (r.toInt - 1) * rem.toInt := Int.mul_nonneg (by omega) h6
          have y2 : (r.toInt - 1) * rem.toInt ≤ 20000 * rem.toInt := Int.mul_le_mul_of_nonneg_right (by omega) h6
          rw [own_lmul (by rw [own_i2l, x]; omega) (by rw [own_i2l, x]; omega), own_i2l, x]
        have m2 : (v.toInt64 * rem).toInt = v.toInt * rem.toInt := by
          have y1 : 0 ≤ v.toInt * rem.toInt := Int.mul_nonneg (by omega) h6
          have y2 : v.toInt * rem.toInt ≤ 20000 * rem.toInt := Int.mul_le_mul_of_nonneg_right (by omega) h6
          rw [own_lmul (by rw [own_i2l]; omega) (by rw [own_i2l]; omega), own_i2l]
        have m3 : ((v - 1).toInt64 * rem).toInt = (v.toInt - 1) * rem.toInt := by
          have x : (v - 1).toInt = v.toInt - 1 := by rw [own_isub (by omega) (by omega), i1]
          have y1 : (-1) * rem.toInt ≤ (v.toInt - 1) * rem.toInt := Int.mul_le_mul_of_nonneg_right (by omega) h6
          have y2 : (v.toInt - 1) * rem.toInt ≤ 20000 * rem.toInt := Int.mul_le_mul_of_nonneg_right (by omega) h6
          rw [own_lmul (by rw [own_i2l, x]; omega) (by rw [own_i2l, x]; omega), own_i2l, x]
        by_cases c4 : v = r
        · rw [if_pos c4, if_pos]
          rw [Int64.lt_iff_toInt_lt, m1, w1]
          have c5 : v.toInt = r.toInt := by rw [c4]
          have y : (r.toInt - 1) * rem.toInt ≤ (q - 1) * rem.toInt := Int.mul_le_mul_of_nonneg_right (by omega) h6
          have y2 : (q - 1) * rem.toInt = q * rem.toInt - rem.toInt := by rw [Int.sub_mul, Int.one_mul]
          omega
        · rw [if_neg c4]
          have c5 : v.toInt ≠ r.toInt := fun z => c4 (Int32.toInt_inj.mp z)
          have c6 : v.toInt = q := by omega
          rw [c6] at m2 m3
          have y1 : (q + 1) * rem.toInt = q * rem.toInt + rem.toInt := by rw [Int.add_mul, Int.one_mul]
          have y2 : (q - 1) * rem.toInt = q * rem.toInt - rem.toInt := by rw [Int.sub_mul, Int.one_mul]
          rw [if_neg (by rw [Int64.lt_iff_toInt_lt, m2, w1]; omega), if_pos (by rw [Int64.lt_iff_toInt_lt, m3, w1]; omega)]
      · rw [if_neg c3]
        refine ⟨e, rfl, ?_⟩
        rw [if_pos (by rw [Int32.lt_iff_toInt_lt]; exact c1), if_neg c2, if_neg c3, if_pos rfl]
  · rw [if_neg c1]
    refine ⟨r, rfl, ?_⟩
    rw [if_neg c1, if_pos rfl]
theorem own_73 (e0 f : Int32) (ex rem : Int64) (r : Int32) (a : Int64) (b : Int64) (fnd : Int32) (h1 : 100 ≤ r.toInt) (h2 : r.toInt ≤ 20000) (h4 : 0 ≤ ex.toInt) (h5 : ex.toInt < 2147483648) (h6 : 0 ≤ rem.toInt) (h7 : rem.toInt ≤ ex.toInt)
    (hf : (fnd = 0 ∧ b = 0) ∨ (¬ fnd = 0 ∧ a = ex ∧ b = rem)) : f_law_73 e0 f ex rem fnd a b r = some 1 := by
  have i0 : (0 : Int32).toInt = 0 := rfl
  have i2 : (2 : Int32).toInt = 2 := rfl
  have l0 : (0 : Int64).toInt = 0 := rfl
  have m1 : (e0 &&& (2147483647 : Int32)).toInt = e0.toInt % 2 ^ 31 := own_imask 31 (by decide) (by decide)
  have fin : ∀ e : Int32, 0 ≤ e.toInt → (own_bd (f_BatchSize_holding e a b r) fun k => if fnd = 0 then f_law_133 ex r e k 0 else f_law_133 ex r e k rem) = some 1 := by
    intro e he
    rcases hf with ⟨q1, q2⟩ | ⟨q1, q2, q3⟩
    · subst q2
      unfold f_BatchSize_holding f_law_133
      by_cases c1 : e < r
      · rw [if_pos c1, if_pos rfl, own_bs, if_pos q1, if_pos c1, if_pos rfl, if_pos rfl]
      · rw [if_neg c1, own_bs, if_pos q1, if_neg c1, if_pos rfl]
    · subst q2 q3
      obtain ⟨k, hk, gk⟩ := own_hold a b r e h1 h2 he h4 h5 h6 h7
      rw [hk, own_bs, if_neg q1]; exact gk
  obtain ⟨k, hk, gk⟩ := own_maxI r 0
  rw [i0] at gk
  have e1 : (k + 2).toInt = r.toInt + 2 := by rw [own_iadd (by omega) (by omega), i2]; omega
  unfold f_law_73 f_BatchSize_rows
  rw [own_bs, hk, own_bs, own_ls]
  split
  · rw [own_ct _ (by rw [← Int32.toInt_inj, e1, i0]; omega), own_ls]
    exact fin _ (by rw [own_imod (by omega), e1]; exact Int.emod_nonneg _ (by omega))
  · rw [own_ls]
    exact fin _ (by omega)
theorem own_25 (e0 : Int32) (x y : Int64) (f r : Int32) (h1 : 100 ≤ r.toInt) (h2 : r.toInt ≤ 20000) : f_law_25 e0 x y f 0 0 r = some 1 := by
  have l0 : (0 : Int64).toInt = 0 := rfl
  have l1 : (1 : Int64).toInt = 1 := rfl
  have m1 : (x &&& (2147483647 : Int64)).toInt = x.toInt % 2 ^ 31 := own_lmask 31 (by decide) (by decide)
  have m2 : (y &&& (2147483647 : Int64)).toInt = y.toInt % 2 ^ 31 := own_lmask 31 (by decide) (by decide)
  unfold f_law_25 f_BatchSize_found
  rw [own_ls]
  generalize x &&& (2147483647 : Int64) = ex at *
  generalize y &&& (2147483647 : Int64) = yy at *
  have e : (ex + 1).toInt = ex.toInt + 1 := by rw [own_ladd (by omega) (by omega), l1]
  rw [own_ct _ (by rw [← Int64.toInt_inj, e, l0]; omega), own_ls]
  have e2 : (yy % (ex + 1)).toInt = yy.toInt % (ex.toInt + 1) := by rw [own_lmod (by omega), e]
  have p1 : 0 ≤ yy.toInt % (ex.toInt + 1) := Int.emod_nonneg _ (by omega)
  have p2 : yy.toInt % (ex.toInt + 1) < ex.toInt + 1 := Int.emod_lt_of_pos _ (by omega)
  split
  · exact own_73 _ _ _ _ _ _ _ _ h1 h2 (by omega) (by omega) (by omega) (by omega) (Or.inl ⟨rfl, rfl⟩)
  · rw [own_bs]
    exact own_73 _ _ _ _ _ _ _ _ h1 h2 (by omega) (by omega) (by omega) (by omega) (Or.inr ⟨by decide, rfl, rfl⟩)
theorem own_law (t e : Int32) (x y : Int64) (f : Int32) : f_law t e x y f = some 1 := by
  unfold f_law f_BatchSize_mk
  rw [own_bs]
  dsimp only
  split
  · exact own_25 _ _ _ _ _ (by decide) (by decide)
  · obtain ⟨r, hr, h1, h2⟩ := own_took t 25000000 0 0 1000
    rw [hr, own_bs]
    exact own_25 _ _ _ _ _ h1 h2

set_option maxRecDepth 65536 in
set_option maxHeartbeats 4000000 in
theorem comes_1 {Post : Tables → Env → Array Value → State → Outcome → State → Prop} (hpost : ∀ tb e args s v u, (limb_1_1.after args s (.returned v) u = true ∧ limb_1_2.after args s (.returned v) u = true ∧ True) → FrameEnd s (.returned v) u (Jvm.fieldLocs frame_1_writes args s ++ Jvm.arrayLocs frame_1_arrays args s ++ Jvm.staticLocs frame_1_statics s) 16 128 → Post tb e args s (.returned v) u) :
    ArmFor flags0 classFile x code maxLocals ret World_1 tables_1 room_1 Calls_1 rest_1 Pre_1 Post := by
  intro l hfl _ _ p e ha hc hk s m args below hf hA hF happ hP
  obtain ⟨hcalls, hrest, hpre⟩ := hP
  obtain ⟨-, -, -, hnamed, -, -, -, hat⟩ := (Spec.applies_iff hf).mp happ
  obtain ⟨hg, hn⟩ := and_e (Cond.before_iff.mp (show (Jvm.Cond.and given_1 narrow_1).before args s = true from hpre))
  obtain ⟨gc, g0⟩ := and_e hg
  obtain ⟨ga0, g1⟩ := and_e g0
  obtain ⟨ga1, g2⟩ := and_e g1
  obtain ⟨ga2, g3⟩ := and_e g2
  obtain ⟨ga3, g4⟩ := and_e g3
  have ga4 := g4
  obtain ⟨w0, w1, w2, w3, w4, rfl⟩ : ∃ w0 w1 w2 w3 w4 : Value, args = #[w0, w1, w2, w3, w4] := by
    have hs : args.size = 5 := by simpa [Cond.value, given_1] using gc
    obtain ⟨L⟩ := args
    match L, hs with
    | [w0, w1, w2, w3, w4], _ => exact ⟨w0, w1, w2, w3, w4, rfl⟩
  have hw := fun d (hd : d ∈ tables_1) => atoms_spec (ws := Jvm.Cond.code x code maxLocals ret :: tables_1) hat d (List.mem_cons_of_mem _ hd)
  obtain ⟨i0, ei0⟩ := is_v ga0
  obtain rfl : w0 = (.int i0) := Option.some.inj ei0
  obtain ⟨i1, ei1⟩ := is_v ga1
  obtain rfl : w1 = (.int i1) := Option.some.inj ei1
  obtain ⟨i2, ei2⟩ := isL_v ga2
  obtain rfl : w2 = (.long i2) := Option.some.inj ei2
  obtain ⟨i3, ei3⟩ := isL_v ga3
  obtain rfl : w3 = (.long i3) := Option.some.inj ei3
  obtain ⟨i4, ei4⟩ := is_v ga4
  obtain rfl : w4 = (.int i4) := Option.some.inj ei4
  obtain ⟨n, o, h1, h2, h3, _, L, rfl, hQ, hq⟩ := rm_law l s _ hw tables_1 s.heap s.heap.size (Nat.le_refl _) i0 i1 i2 i3 i4 1 (own_law i0 i1 i2 i3 i4) p e ha hc hk s m _ below hf ((Spec.applies_iff_loose hf).mp happ).1 ⟨rfl, State.Warmed39.refl s, rfl⟩ trivial
  obtain ⟨rfl, N, -⟩ := hQ
  refine ⟨n, _, h1, h2, h3, hpost _ _ _ _ _ _ ⟨Cond.after_iff.mpr rfl, Cond.after_iff.mpr (eq_i res_at (Term.int_eval (1)) rfl), trivial⟩ ⟨hq.1, hq.2.1, (hq.2.2.sift fun y hy => Or.inr (N y hy)).mono (by decide) (by decide)⟩⟩
theorem main_1_1 : Claimed_1_1 := comes_1 fun _ _ _ _ _ _ h hF => ⟨h.1, hF⟩
theorem main_1_2 : Claimed_1_2 := comes_1 fun _ _ _ _ _ _ h hF => ⟨h.2.1, hF⟩
end Jvm.Pilot.@@N@@
namespace Jvm.Pilot.@@N@@
open Jvm Jvm.ClassFile Sem Op Lib Jvm.Free Jvm.Stand Jvm.Pilot.@@N@@.Jvm.D
/-! MADE BY PROGRAM (witnessworld.py) out of the Statement's table words and the real class files: 10 classes; the members and pool entries that the words name. The judged class is class 1, her method 1. -/
namespace start1
open Jvm.ClassFile
def u (s : String) : CpInfo := .utf8 (stringToUtf16 s)
/-- a pool by its gaps: so many unusable entries, then the entry; so many at the end -/
def gap : Nat → List CpInfo → List CpInfo
  | 0, r => r
  | n + 1, r => .unusable :: gap n r
def poolList (es : List (Nat × CpInfo)) (last : Nat) : List CpInfo := es.foldr (fun e r => gap e.1 (e.2 :: r)) (gap last [])
def pool (es : List (Nat × CpInfo)) (last : Nat) : Array CpInfo := ⟨poolList es last⟩
def fileOf (pool : Array CpInfo) (this : Nat) (attrs : Array Attribute := #[]) (ms : Array MethodInfo := #[]) (fl : Nat := 33) (sup : Nat := 0) (ifs : Array Nat := #[]) (fds : Array FieldInfo := #[]) : ClassFile where
  minorVersion := 0
  majorVersion := 65
  constantPool := pool
  accessFlags := fl
  thisClass := this
  superClass := sup
  interfaces := ifs
  fields := fds
  methods := ms
  attributes := attrs
def plain (name : String) (sup : Option ClassId) : Class where
  name := name
  kind := .ordinary
  loader := none
  accessFlags := 33
  super := sup
  interfaces := #[]
  cf := none
  fields := #[]
  methods := #[]
  instanceTypes := #[]
  staticTypes := #[]
  resolved := #[]
  callSites := []
  init := .initialized
  statics := none
  mirror := none

def pool0 : Array CpInfo := pool [(5, u "<init>"), (0, u "()V"), (1, .class_ 10), (1, u "java/lang/Object")] 113

def k0c0 : Code := { maxStack := 0, maxLocals := 1, code := object_method_1_code, exceptionTable := #[], attributes := #[] }
def k0m0 : Method := { name := "<init>", desc := "()V", sig := { parameters := [], returnType := none }, accessFlags := 1, code := some k0c0 }
/-- java/lang/Object -/
def k0 : Class := { plain "java/lang/Object" none with
  accessFlags := 33
  interfaces := #[]
  cf := some (fileOf pool0 8 #[] #[{ accessFlags := 1, nameIndex := 5, descriptorIndex := 6, attributes := #[] }] 33 0 #[] #[])
  fields := #[]
  methods := #[k0m0]
  instanceTypes := #[]
  staticTypes := #[]
  resolved := Array.replicate 124 none
  statics := none }

def pool1 : Array CpInfo := pool [(2, .class_ 4), (0, .nameAndType 5 6), (0, u "java/lang/Object"), (0, u "<init>"), (0, u "()V"), (0, .class_ 8), (0, u "com/example/expire/expire/BatchSize"), (0, .methodref 7 3), (0, .long 25000000), (1, .methodref 7 13), (0, .nameAndType 14 15), (0, u "took"), (0, u "(IJ)V"), (0, .long 2147483647), (1, .methodref 7 19), (0, .nameAndType 20 21), (0, u "found"), (0, u "(JJ)V"), (0, .methodref 7 23), (0, .nameAndType 24 25), (0, u "rows"), (0, u "()I"), (0, .methodref 27 28), (0, .class_ 29), (0, .nameAndType 30 31), (0, u "java/lang/Math"), (0, u "max"), (0, u "(II)I"), (0, .integer 2147483647), (0, .methodref 7 34), (0, .nameAndType 35 36), (0, u "holding"), (0, u "(I)I"), (0, .long 2), (1, .class_ 40), (0, u "com/example/expire/expire/BatchSizeHoldingPinLaw"), (2, u "law"), (0, u "(IIJJI)Z")] 3

def k1m0 : Method := { name := "<init>", desc := "()V", sig := { parameters := [], returnType := none }, accessFlags := 1, code := none }
def k1c1 : Code := { maxStack := 6, maxLocals := 21, code := code, exceptionTable := #[], attributes := #[] }
def k1m1 : Method := { name := "law", desc := "(IIJJI)Z", sig := { parameters := [.int, .int, .long, .long, .int], returnType := some .boolean }, accessFlags := 9, code := some k1c1 }
/-- com/example/expire/expire/BatchSizeHoldingPinLaw -/
def k1 : Class := { plain "com/example/expire/expire/BatchSizeHoldingPinLaw" (some 0) with
  accessFlags := 49
  interfaces := #[]
  cf := some (fileOf pool1 39 #[] #[{ accessFlags := 1, nameIndex := 5, descriptorIndex := 6, attributes := #[] }, { accessFlags := 9, nameIndex := 43, descriptorIndex := 44, attributes := #[] }] 49 2 #[] #[])
  fields := #[]
  methods := #[k1m0, k1m1]
  instanceTypes := #[]
  staticTypes := #[]
  resolved := Array.replicate 48 none
  statics := none }

def pool2 : Array CpInfo := pool [(1, .class_ 2), (0, u "com/example/expire/expire/BatchSize"), (0, .methodref 4 5), (0, .class_ 6), (0, .nameAndType 7 8), (0, u "java/lang/Object"), (0, u "<init>"), (0, u "()V"), (0, .fieldref 1 10), (0, .nameAndType 11 12), (0, u "rows"), (0, u "I"), (0, .fieldref 1 14), (0, .nameAndType 15 16), (0, u "removed"), (0, u "J"), (0, .long 2), (1, .fieldref 1 20), (0, .nameAndType 21 16), (0, u "examined"), (0, .methodref 23 24), (0, .class_ 25), (0, .nameAndType 26 27), (0, u "java/lang/Math"), (0, u "min"), (0, u "(JJ)J"), (0, .long 25000000), (1, .long 20000), (1, .long 100), (1, .methodref 23 35), (0, .nameAndType 36 27), (0, u "max"), (0, u "FIRST_ROWS"), (2, u "FEWEST_ROWS"), (1, u "MOST_ROWS"), (1, u "TARGET_MILLIS"), (2, u "TARGET_NANOS"), (2, u "()I"), (0, u "holding"), (0, u "(I)I"), (1, u "took"), (0, u "(IJ)V"), (0, u "found"), (0, u "(JJ)V")] 2

def k2c0 : Code := { maxStack := 2, maxLocals := 1, code := prog_2_method_1_code, exceptionTable := #[], attributes := #[] }
def k2m0 : Method := { name := "<init>", desc := "()V", sig := { parameters := [], returnType := none }, accessFlags := 0, code := some k2c0 }
def k2c1 : Code := { maxStack := 1, maxLocals := 1, code := prog_2_method_2_code, exceptionTable := #[], attributes := #[] }
def k2m1 : Method := { name := "rows", desc := "()I", sig := { parameters := [], returnType := some .int }, accessFlags := 0, code := some k2c1 }
def k2c2 : Code := { maxStack := 4, maxLocals := 4, code := prog_2_method_3_code, exceptionTable := #[], attributes := #[] }
def k2m2 : Method := { name := "holding", desc := "(I)I", sig := { parameters := [.int], returnType := some .int }, accessFlags := 0, code := some k2c2 }
def k2c3 : Code := { maxStack := 9, maxLocals := 6, code := prog_2_method_4_code, exceptionTable := #[], attributes := #[] }
def k2m3 : Method := { name := "took", desc := "(IJ)V", sig := { parameters := [.int, .long], returnType := none }, accessFlags := 0, code := some k2c3 }
def k2c4 : Code := { maxStack := 3, maxLocals := 5, code := prog_2_method_5_code, exceptionTable := #[], attributes := #[] }
def k2m4 : Method := { name := "found", desc := "(JJ)V", sig := { parameters := [.long, .long], returnType := none }, accessFlags := 0, code := some k2c4 }
/-- com/example/expire/expire/BatchSize -/
def k2 : Class := { plain "com/example/expire/expire/BatchSize" (some 0) with
  accessFlags := 48
  interfaces := #[]
  cf := some (fileOf pool2 1 #[] #[{ accessFlags := 0, nameIndex := 7, descriptorIndex := 8, attributes := #[] }, { accessFlags := 0, nameIndex := 11, descriptorIndex := 50, attributes := #[] }, { accessFlags := 0, nameIndex := 51, descriptorIndex := 52, attributes := #[] }, { accessFlags := 0, nameIndex := 54, descriptorIndex := 55, attributes := #[] }, { accessFlags := 0, nameIndex := 56, descriptorIndex := 57, attributes := #[] }] 48 4 #[] #[{ accessFlags := 24, nameIndex := 37, descriptorIndex := 12, attributes := #[] }, { accessFlags := 24, nameIndex := 40, descriptorIndex := 12, attributes := #[] }, { accessFlags := 24, nameIndex := 42, descriptorIndex := 12, attributes := #[] }, { accessFlags := 24, nameIndex := 44, descriptorIndex := 16, attributes := #[] }, { accessFlags := 26, nameIndex := 47, descriptorIndex := 16, attributes := #[] }, { accessFlags := 2, nameIndex := 11, descriptorIndex := 12, attributes := #[] }, { accessFlags := 2, nameIndex := 21, descriptorIndex := 16, attributes := #[] }, { accessFlags := 2, nameIndex := 15, descriptorIndex := 16, attributes := #[] }])
  fields := #[{ name := "FIRST_ROWS", type := .int, accessFlags := 24, slot := 0, constantValue := 0 }, { name := "FEWEST_ROWS", type := .int, accessFlags := 24, slot := 1, constantValue := 0 }, { name := "MOST_ROWS", type := .int, accessFlags := 24, slot := 2, constantValue := 0 }, { name := "TARGET_MILLIS", type := .long, accessFlags := 24, slot := 3, constantValue := 0 }, { name := "TARGET_NANOS", type := .long, accessFlags := 26, slot := 4, constantValue := 0 }, { name := "rows", type := .int, accessFlags := 2, slot := 0, constantValue := 0 }, { name := "examined", type := .long, accessFlags := 2, slot := 1, constantValue := 0 }, { name := "removed", type := .long, accessFlags := 2, slot := 2, constantValue := 0 }]
  methods := #[k2m0, k2m1, k2m2, k2m3, k2m4]
  instanceTypes := #[.int, .long, .long]
  staticTypes := #[.int, .int, .int, .long, .long]
  resolved := Array.replicate 60 none
  statics := none }

def pool3 : Array CpInfo := pool [(1, .class_ 2), (0, u "java/lang/Math"), (1, .class_ 6), (1, u "java/lang/Object"), (0, u "<init>"), (0, u "()V"), (89, .class_ 100), (1, u "java/lang/Math$RandomNumberGeneratorHolder"), (20, u "(JJ)J"), (50, u "negativeZeroFloatBits"), (0, u "J"), (2, u "negativeZeroDoubleBits"), (21, u "max"), (2, u "min"), (43, u "$assertionsDisabled"), (0, u "Z"), (88, u "(II)I"), (2, u "twoToTheDoubleScaleDown"), (0, u "D"), (4, u "twoToTheDoubleScaleUp"), (9, u "E"), (3, u "PI"), (2, u "TAU"), (2, u "DEGREES_TO_RADIANS"), (0, u "RADIANS_TO_DEGREES")] 94

def k3m0 : Method := { name := "<init>", desc := "()V", sig := { parameters := [], returnType := none }, accessFlags := 2, code := none }
def k3c1 : Code := { maxStack := 2, maxLocals := 2, code := jdk_29_method_65_code, exceptionTable := #[], attributes := #[] }
def k3m1 : Method := { name := "max", desc := "(II)I", sig := { parameters := [.int, .int], returnType := some .int }, accessFlags := 9, code := some k3c1 }
def k3c2 : Code := { maxStack := 4, maxLocals := 4, code := jdk_29_method_66_code, exceptionTable := #[], attributes := #[] }
def k3m2 : Method := { name := "max", desc := "(JJ)J", sig := { parameters := [.long, .long], returnType := some .long }, accessFlags := 9, code := some k3c2 }
def k3c3 : Code := { maxStack := 4, maxLocals := 4, code := jdk_29_method_70_code, exceptionTable := #[], attributes := #[] }
def k3m3 : Method := { name := "min", desc := "(JJ)J", sig := { parameters := [.long, .long], returnType := some .long }, accessFlags := 9, code := some k3c3 }
/-- java/lang/Math -/
def k3 : Class := { plain "java/lang/Math" (some 0) with
  accessFlags := 49
  interfaces := #[]
  cf := some (fileOf pool3 1 #[.nestMembers #[98]] #[{ accessFlags := 2, nameIndex := 7, descriptorIndex := 8, attributes := #[] }, { accessFlags := 9, nameIndex := 198, descriptorIndex := 335, attributes := #[] }, { accessFlags := 9, nameIndex := 198, descriptorIndex := 121, attributes := #[] }, { accessFlags := 9, nameIndex := 201, descriptorIndex := 121, attributes := #[] }] 49 4 #[] #[{ accessFlags := 25, nameIndex := 354, descriptorIndex := 339, attributes := #[] }, { accessFlags := 25, nameIndex := 358, descriptorIndex := 339, attributes := #[] }, { accessFlags := 25, nameIndex := 361, descriptorIndex := 339, attributes := #[] }, { accessFlags := 26, nameIndex := 364, descriptorIndex := 339, attributes := #[] }, { accessFlags := 26, nameIndex := 365, descriptorIndex := 339, attributes := #[] }, { accessFlags := 26, nameIndex := 172, descriptorIndex := 173, attributes := #[] }, { accessFlags := 26, nameIndex := 176, descriptorIndex := 173, attributes := #[] }, { accessFlags := 8, nameIndex := 344, descriptorIndex := 339, attributes := #[] }, { accessFlags := 8, nameIndex := 338, descriptorIndex := 339, attributes := #[] }, { accessFlags := 4120, nameIndex := 245, descriptorIndex := 246, attributes := #[] }])
  fields := #[{ name := "E", type := .double, accessFlags := 25, slot := 0, constantValue := 0 }, { name := "PI", type := .double, accessFlags := 25, slot := 1, constantValue := 0 }, { name := "TAU", type := .double, accessFlags := 25, slot := 2, constantValue := 0 }, { name := "DEGREES_TO_RADIANS", type := .double, accessFlags := 26, slot := 3, constantValue := 0 }, { name := "RADIANS_TO_DEGREES", type := .double, accessFlags := 26, slot := 4, constantValue := 0 }, { name := "negativeZeroFloatBits", type := .long, accessFlags := 26, slot := 5, constantValue := 0 }, { name := "negativeZeroDoubleBits", type := .long, accessFlags := 26, slot := 6, constantValue := 0 }, { name := "twoToTheDoubleScaleUp", type := .double, accessFlags := 8, slot := 7, constantValue := 0 }, { name := "twoToTheDoubleScaleDown", type := .double, accessFlags := 8, slot := 8, constantValue := 0 }, { name := "$assertionsDisabled", type := .boolean, accessFlags := 4120, slot := 9, constantValue := 0 }]
  methods := #[k3m0, k3m1, k3m2, k3m3]
  instanceTypes := #[]
  staticTypes := #[.double, .double, .double, .double, .double, .long, .long, .double, .double, .boolean]
  resolved := Array.replicate 460 none
  statics := none }

def pool4 : Array CpInfo := pool [(1, u "java/lang/Cloneable"), (0, .class_ 1), (0, u "java/lang/Object"), (0, .class_ 3)] 3

/-- java/lang/Cloneable -/
def k4 : Class := { plain "java/lang/Cloneable" (some 0) with
  accessFlags := 1537
  interfaces := #[]
  cf := some (fileOf pool4 2 #[] #[] 1537 4 #[] #[])
  fields := #[]
  methods := #[]
  instanceTypes := #[]
  staticTypes := #[]
  resolved := Array.replicate 8 none
  statics := none }

def pool5 : Array CpInfo := pool [(1, u "java/io/Serializable"), (0, .class_ 1), (0, u "java/lang/Object"), (0, .class_ 3)] 3

/-- java/io/Serializable -/
def k5 : Class := { plain "java/io/Serializable" (some 0) with
  accessFlags := 1537
  interfaces := #[]
  cf := some (fileOf pool5 2 #[] #[] 1537 4 #[] #[])
  fields := #[]
  methods := #[]
  instanceTypes := #[]
  staticTypes := #[]
  resolved := Array.replicate 8 none
  statics := none }

/-- the primitive byte -/
def k6 : Class := { plain "byte" none with kind := .primitive 'B', accessFlags := 0x411 }
/-- [B -/
def k7 : Class := { plain "[B" (some 0) with kind := .array 6 .byte, interfaces := #[4, 5], accessFlags := 1041 }

/-- the primitive int -/
def k8 : Class := { plain "int" none with kind := .primitive 'I', accessFlags := 0x411 }
/-- [I -/
def k9 : Class := { plain "[I" (some 0) with kind := .array 8 .int, interfaces := #[4, 5], accessFlags := 1041 }

def heap : Heap := #[]
def classes : Array Class := #[k0, k1, k2, k3, k4, k5, k6, k7, k8, k9]
def interned : List (Array UInt16 × Addr) := []
def slotsUsed : Nat := 0
def theMethod : MethodId := ⟨1, 1⟩
def args0 : Array Value := #[.int 5, .int 5, .long 5, .long 5, .int 5]
def aboutOver (below : List Frame) : State where
  vm := { classes := classes, interned := interned.toArray }
  heap := heap
  slotsUsed := slotsUsed
  threads := #[{ frames := .invoking theMethod args0 :: below }]
def below0 : List Frame := [.native { method := ⟨0, 0⟩, args := #[] }]
def about1 : State := aboutOver below0
def p0 : Program := .bare "" "" ""
def e0 : Env := launch0.env 0 0 0
theorem w_frames : about1.frames = Frame.invoking theMethod args0 :: below0 := rfl
set_option maxRecDepth 65536 in
theorem w_args : argsFit about1.vm theMethod args0 = true := by decide +kernel
set_option maxRecDepth 65536 in
theorem w_heap : heapFits about1 = true := by decide +kernel
set_option maxRecDepth 65536 in
theorem w_runnable : about1.curStatus? = some .runnable := by decide +kernel
set_option maxRecDepth 65536 in
theorem w_alone : about1.alone = true := by decide +kernel
set_option maxRecDepth 65536 in
theorem w_named : about1.methodNamed? x = some theMethod := by decide +kernel
set_option maxRecDepth 65536 in
theorem w_hears : about1.hears theMethod below0 = true := by decide +kernel
set_option maxRecDepth 65536 in
theorem w_ripe : about1.ripe theMethod args0 below0 = true := by decide +kernel
theorem w_running : about1.status = .running := rfl
set_option maxRecDepth 65536 in
theorem w_room : about1.hasRoom e0.platform room_1 = true :=
  launch0.hasRoom_least _ room_1 (by decide +kernel) (by decide +kernel) (by decide +kernel) (by decide +kernel) (by decide +kernel) (by decide +kernel)
theorem allAtoms_all (ts : List Jvm.Cond) (a : Array Jvm.Value) (st : Jvm.State) : (allAtoms ts).before a st = ts.all (fun c => c.before a st) := by
  induction ts with
  | nil => rfl
  | cons c t ih =>
    show (Jvm.Cond.and c (allAtoms t)).before a st = _
    rw [Jvm.Cond.before_and, ih, List.all_cons]
def words1 : List Jvm.Cond := Jvm.Cond.code x code maxLocals ret :: tables_1
/-- a 'code' word, met by the world's own term for the bytes: nothing is compared byte by byte -/
theorem code_word {y : MethodName} {bytes : ByteArray} {mx : Nat} {rt : Option FieldType} {a : Array Value} {s : State} {m : MethodId} {meth : Method} {c : Code} (h1 : s.methodNamed? y = some m) (h2 : s.vm.method? m = some meth) (h3 : meth.code = some c) (h4 : c.code = bytes)
    (h5 : (c.maxLocals == mx && c.exceptionTable.isEmpty && decide (c.maxStack ≤ mostOperands) && decide (meth.sig.returnType = rt) && !meth.locks && decide (parseMethodDescriptor y.desc = some meth.sig)) = true) : (Jvm.Cond.code y bytes mx rt).before a s = true := by
  simp only [Bool.and_eq_true, beq_iff_eq, Bool.not_eq_true', decide_eq_true_eq] at h5
  obtain ⟨⟨⟨⟨⟨g1, g2⟩, g3⟩, g4⟩, g5⟩, g6⟩ := h5
  simp [Cond.before, Cond.holds, Cond.value, h1, h2, h3, h4, g1, g2, g3, g4, g5, g6]
def isCode : Jvm.Cond → Bool
  | .code _ _ _ _ => true
  | _ => false
theorem all_split {L : List Jvm.Cond} {P : Jvm.Cond → Bool} (h1 : L.all (fun c => isCode c || P c) = true) (h2 : ∀ c ∈ L.filter isCode, P c = true) : L.all P = true := by
  refine List.all_eq_true.mpr fun c hc => ?_
  have h := List.all_eq_true.mp h1 c hc
  rcases Bool.eq_false_or_eq_true (isCode c) with hi | hi
  · exact h2 c (List.mem_filter.mpr ⟨hc, hi⟩)
  · simpa [hi] using h
set_option maxRecDepth 65536 in
theorem w_c0 : (Jvm.Cond.code x code maxLocals ret).before args0 about1 = true := code_word (m := ⟨1, 1⟩) (meth := k1m1) (c := k1c1) (by decide +kernel) rfl rfl rfl (by decide +kernel)
set_option maxRecDepth 65536 in
theorem w_c1 : (Jvm.Cond.code ({ cls := "com/example/expire/expire/BatchSize", name := "<init>", desc := "()V" } : Jvm.MethodName) prog_2_method_1_code (1 : Nat) (Option.none : Option Jvm.ClassFile.FieldType)).before args0 about1 = true := code_word (m := ⟨2, 0⟩) (meth := k2m0) (c := k2c0) (by decide +kernel) rfl rfl rfl (by decide +kernel)
set_option maxRecDepth 65536 in
theorem w_c2 : (Jvm.Cond.code ({ cls := "java/lang/Object", name := "<init>", desc := "()V" } : Jvm.MethodName) object_method_1_code (1 : Nat) (Option.none : Option Jvm.ClassFile.FieldType)).before args0 about1 = true := code_word (m := ⟨0, 0⟩) (meth := k0m0) (c := k0c0) (by decide +kernel) rfl rfl rfl (by decide +kernel)
set_option maxRecDepth 65536 in
theorem w_c3 : (Jvm.Cond.code ({ cls := "com/example/expire/expire/BatchSize", name := "found", desc := "(JJ)V" } : Jvm.MethodName) prog_2_method_5_code (5 : Nat) (Option.none : Option Jvm.ClassFile.FieldType)).before args0 about1 = true := code_word (m := ⟨2, 4⟩) (meth := k2m4) (c := k2c4) (by decide +kernel) rfl rfl rfl (by decide +kernel)
set_option maxRecDepth 65536 in
theorem w_c4 : (Jvm.Cond.code ({ cls := "com/example/expire/expire/BatchSize", name := "rows", desc := "()I" } : Jvm.MethodName) prog_2_method_2_code (1 : Nat) (Option.some Jvm.ClassFile.FieldType.int)).before args0 about1 = true := code_word (m := ⟨2, 1⟩) (meth := k2m1) (c := k2c1) (by decide +kernel) rfl rfl rfl (by decide +kernel)
set_option maxRecDepth 65536 in
theorem w_c5 : (Jvm.Cond.code ({ cls := "java/lang/Math", name := "max", desc := "(II)I" } : Jvm.MethodName) jdk_29_method_65_code (2 : Nat) (Option.some Jvm.ClassFile.FieldType.int)).before args0 about1 = true := code_word (m := ⟨3, 1⟩) (meth := k3m1) (c := k3c1) (by decide +kernel) rfl rfl rfl (by decide +kernel)
set_option maxRecDepth 65536 in
theorem w_c6 : (Jvm.Cond.code ({ cls := "com/example/expire/expire/BatchSize", name := "holding", desc := "(I)I" } : Jvm.MethodName) prog_2_method_3_code (4 : Nat) (Option.some Jvm.ClassFile.FieldType.int)).before args0 about1 = true := code_word (m := ⟨2, 2⟩) (meth := k2m2) (c := k2c2) (by decide +kernel) rfl rfl rfl (by decide +kernel)
set_option maxRecDepth 65536 in
theorem w_c7 : (Jvm.Cond.code ({ cls := "com/example/expire/expire/BatchSize", name := "took", desc := "(IJ)V" } : Jvm.MethodName) prog_2_method_4_code (6 : Nat) (Option.none : Option Jvm.ClassFile.FieldType)).before args0 about1 = true := code_word (m := ⟨2, 3⟩) (meth := k2m3) (c := k2c3) (by decide +kernel) rfl rfl rfl (by decide +kernel)
set_option maxRecDepth 65536 in
theorem w_c8 : (Jvm.Cond.code ({ cls := "java/lang/Math", name := "min", desc := "(JJ)J" } : Jvm.MethodName) jdk_29_method_70_code (4 : Nat) (Option.some Jvm.ClassFile.FieldType.long)).before args0 about1 = true := code_word (m := ⟨3, 3⟩) (meth := k3m3) (c := k3c3) (by decide +kernel) rfl rfl rfl (by decide +kernel)
set_option maxRecDepth 65536 in
theorem w_c9 : (Jvm.Cond.code ({ cls := "java/lang/Math", name := "max", desc := "(JJ)J" } : Jvm.MethodName) jdk_29_method_66_code (4 : Nat) (Option.some Jvm.ClassFile.FieldType.long)).before args0 about1 = true := code_word (m := ⟨3, 2⟩) (meth := k3m2) (c := k3c2) (by decide +kernel) rfl rfl rfl (by decide +kernel)
def codes1 : List Jvm.Cond := [Jvm.Cond.code x code maxLocals ret, Jvm.Cond.code ({ cls := "com/example/expire/expire/BatchSize", name := "<init>", desc := "()V" } : Jvm.MethodName) prog_2_method_1_code (1 : Nat) (Option.none : Option Jvm.ClassFile.FieldType), Jvm.Cond.code ({ cls := "java/lang/Object", name := "<init>", desc := "()V" } : Jvm.MethodName) object_method_1_code (1 : Nat) (Option.none : Option Jvm.ClassFile.FieldType), Jvm.Cond.code ({ cls := "com/example/expire/expire/BatchSize", name := "found", desc := "(JJ)V" } : Jvm.MethodName) prog_2_method_5_code (5 : Nat) (Option.none : Option Jvm.ClassFile.FieldType), Jvm.Cond.code ({ cls := "com/example/expire/expire/BatchSize", name := "rows", desc := "()I" } : Jvm.MethodName) prog_2_method_2_code (1 : Nat) (Option.some Jvm.ClassFile.FieldType.int), Jvm.Cond.code ({ cls := "java/lang/Math", name := "max", desc := "(II)I" } : Jvm.MethodName) jdk_29_method_65_code (2 : Nat) (Option.some Jvm.ClassFile.FieldType.int), Jvm.Cond.code ({ cls := "com/example/expire/expire/BatchSize", name := "holding", desc := "(I)I" } : Jvm.MethodName) prog_2_method_3_code (4 : Nat) (Option.some Jvm.ClassFile.FieldType.int), Jvm.Cond.code ({ cls := "com/example/expire/expire/BatchSize", name := "took", desc := "(IJ)V" } : Jvm.MethodName) prog_2_method_4_code (6 : Nat) (Option.none : Option Jvm.ClassFile.FieldType), Jvm.Cond.code ({ cls := "java/lang/Math", name := "min", desc := "(JJ)J" } : Jvm.MethodName) jdk_29_method_70_code (4 : Nat) (Option.some Jvm.ClassFile.FieldType.long), Jvm.Cond.code ({ cls := "java/lang/Math", name := "max", desc := "(JJ)J" } : Jvm.MethodName) jdk_29_method_66_code (4 : Nat) (Option.some Jvm.ClassFile.FieldType.long)]
set_option maxRecDepth 65536 in
theorem codes_eq : words1.filter isCode = codes1 := rfl
theorem w_codes : ∀ c ∈ words1.filter isCode, c.before args0 about1 = true := by
  rw [codes_eq]
  intro c hc
  simp only [codes1, List.mem_cons, List.not_mem_nil, or_false] at hc
  rcases hc with rfl | rfl | rfl | rfl | rfl | rfl | rfl | rfl | rfl | rfl
  · exact w_c0
  · exact w_c1
  · exact w_c2
  · exact w_c3
  · exact w_c4
  · exact w_c5
  · exact w_c6
  · exact w_c7
  · exact w_c8
  · exact w_c9
set_option maxRecDepth 65536 in
theorem w_t1 : (words1.take 24).all (fun c => isCode c || c.before args0 about1) = true := by decide +kernel
set_option maxRecDepth 65536 in
theorem w_t2 : ((words1.drop 24).take 24).all (fun c => isCode c || c.before args0 about1) = true := by decide +kernel
set_option maxRecDepth 65536 in
theorem w_t3 : ((words1.drop 24).drop 24).all (fun c => isCode c || c.before args0 about1) = true := by decide +kernel
theorem w_tables : (allAtoms (Jvm.Cond.code x code maxLocals ret :: tables_1)).before args0 about1 = true := by
  rw [allAtoms_all]
  show words1.all (fun c => c.before args0 about1) = true
  refine all_split ?_ w_codes
  rw [← List.take_append_drop 24 words1, List.all_append, w_t1, ← List.take_append_drop 24 (words1.drop 24), List.all_append, w_t2, w_t3]
  rfl
set_option maxRecDepth 65536 in
theorem w_case : (Jvm.Cond.and given_1 narrow_1).before args0 about1 = true := by decide +kernel
theorem w_applies : (headSpec (Jvm.Cond.code x code maxLocals ret :: tables_1) room_1).applies x e0.platform about1 = true :=
  (Spec.applies_iff w_frames).mpr ⟨w_running, w_runnable, w_alone, w_named, w_hears, w_ripe, w_room, w_tables⟩
theorem atStart : AtStart classFile x code maxLocals ret World_1 tables_1 room_1 Calls_1 rest_1 Pre_1 launch0 p0 e0 about1 theMethod args0 below0 :=
  ⟨lists_1, trivial, launch0.admits_env _ _ _, launch0.least_env, fairChoices_fair.cas, fairChoices_fair.clock, w_frames, w_args, w_heap, w_applies, trivial, trivial, w_case⟩
end start1
theorem witness_1 : WitnessClaimed_1 := ⟨start1.p0, start1.e0, start1.about1, start1.theMethod, start1.args0, start1.below0, start1.atStart⟩
end Jvm.Pilot.@@N@@
