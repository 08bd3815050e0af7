import JvmDerived
import JvmDerived.Pilot.@@N@@Statement
import JvmDerived.Pilot.@@N@@Code
set_option linter.unusedVariables false
set_option linter.unusedSimpArgs false
namespace Jvm.Pilot.@@N@@
open Jvm Jvm.ClassFile Sem Op Lib Jvm.Free Jvm.Stand Jvm.LawKit Jvm.RoadKit Bundle Jvm.Pilot.@@N@@.Jvm.D
/-! 1. the words of the mirrors: a named value, a check, a call -/
def own_lt {α β : Type} (x : α) (f : α → Option β) : Option β := f x
def own_ck {β : Type} (P : Prop) [Decidable P] (x : Option β) : Option β := if P then x else none
def own_bd {α β : Type} (x : Option α) (f : α → Option β) : Option β := x.bind f
theorem own_lt_e {α β : Type} {x : α} {f : α → Option β} {r : β} (h : own_lt x f = some r) : ∃ v, v = x ∧ f v = some r := ⟨x, rfl, h⟩
theorem own_ck_e {β : Type} {P : Prop} [Decidable P] {x : Option β} {r : β} (h : own_ck P x = some r) : P ∧ x = some r := by
  unfold own_ck at h
  by_cases q : P
  · rw [if_pos q] at h; exact ⟨q, h⟩
  · rw [if_neg q] at h; cases h
theorem own_bd_e {α β : Type} {x : Option α} {f : α → Option β} {r : β} (h : own_bd x f = some r) : ∃ v, x = some v ∧ f v = some r := by
  unfold own_bd at h
  cases x with
  | none => cases h
  | some v => exact ⟨v, rfl, h⟩
abbrev own_inb {α : Type} (bs : List α) (j : Int32) : Prop := ¬ j < 0 ∧ j.toNatClampNeg < bs.length
def own_rd {α : Type} [OfNat α 0] (bs : List α) (j : Int32) : α := bs.getD j.toNatClampNeg 0
def own_wr {α : Type} (bs : List α) (j : Int32) (v : α) : List α := bs.set j.toNatClampNeg v
def own_sz {α : Type} (bs : List α) : Int32 := bs.length.toInt32
/-! 2. a run that comes to an end as Q says -/
def own_Goes (p : Program) (e : Env) (below : List Frame) (s : State) (Q : Option Value → Heap → List Loc → Prop) (ce sl : Nat) (A : State) : Prop :=
  ∃ s₂ o, Steps p.tables e below A s₂ ∧ s₂.status = .running ∧ Ended s₂ below o ∧ ∃ v L, o = .returned v ∧ Q v s₂.heap L ∧ FrameEnd s o s₂ L ce sl
section Own
variable {p : Program} {l : Launch} {e : Env} {R : Room} {s : State} {m : MethodId} {args : Array Value} {below : List Frame} {meth : Method} {c : Code} {T : State} {locs : List Loc} {cells slots : Nat} {Z : State} {h h' : Heap} {Q : Option Value → Heap → List Loc → Prop} {ce sl : Nat}
theorem own_Goes.via {A B : State} (q : ∀ t, Steps p.tables e below B t → Steps p.tables e below A t) (g : own_Goes p e below s Q ce sl B) : own_Goes p e below s Q ce sl A := by
  obtain ⟨s₂, o, h1, r⟩ := g
  exact ⟨s₂, o, q _ h1, r⟩
theorem own_Goes.tr {A B : State} (q : Steps p.tables e below A B) (g : own_Goes p e below s Q ce sl B) : own_Goes p e below s Q ce sl A := g.via fun _ k => q.trans k
theorem own_retV (X : Stand p l e R s m args below meth c T locs cells slots) (hx : p.tables.exec = Jvm.exec) {pc : Nat} {Ls : Array Slot} (hret : meth.sig.returnType = none) (hlk : meth.locks = false) (hd : decode c.code pc = .ok (.return_, 1)) (eT : T.heap = h) (hQ : Q none h locs) (hc : cells ≤ ce) (hs : slots ≤ sl) :
    own_Goes p e below s Q ce sl (T.setTop (mkF m pc Ls [])) := by
  obtain ⟨fs, hr, hrun, hended, hW, hsame⟩ := X.leave (v := none) (fun _ => rfl) hlk
  refine ⟨_, _, ?_, hrun, hended, _, _, rfl, ?_, ⟨_, rfl⟩, hW, hsame.mono hc hs⟩
  · exact X.returnOut hx hret hd hr
  · show Q none T.heap locs
    rw [eT]; exact hQ
theorem own_retI (X : Stand p l e R s m args below meth c T locs cells slots) (hx : p.tables.exec = Jvm.exec) {pc : Nat} {Ls : Array Slot} {z : Int32} {rest : List Value} (hret : meth.sig.returnType = some .int) (hlk : meth.locks = false) (hd : decode c.code pc = .ok (.ireturn, 1)) (eT : T.heap = h) (hQ : Q (some (.int z)) h locs) (hc : cells ≤ ce) (hs : slots ≤ sl) :
    own_Goes p e below s Q ce sl (T.setTop (mkF m pc Ls (.int z :: rest))) := by
  obtain ⟨fs, hr, hrun, hended, hW, hsame⟩ := X.leave (v := some (.int z)) (fun h => by rw [hret] at h; cases h) hlk
  refine ⟨_, _, ?_, hrun, hended, _, _, rfl, ?_, ⟨_, rfl⟩, hW, hsame.mono hc hs⟩
  · exact retOut X hx hret rfl (Or.inl ⟨rfl, Or.inl rfl, z, rfl⟩) hd hr
  · show Q _ T.heap locs
    rw [eT]; exact hQ
theorem own_retJ (X : Stand p l e R s m args below meth c T locs cells slots) (hx : p.tables.exec = Jvm.exec) {pc : Nat} {Ls : Array Slot} {z : Int64} {rest : List Value} (hret : meth.sig.returnType = some .long) (hlk : meth.locks = false) (hd : decode c.code pc = .ok (.lreturn, 1)) (eT : T.heap = h) (hQ : Q (some (.long z)) h locs) (hc : cells ≤ ce) (hs : slots ≤ sl) :
    own_Goes p e below s Q ce sl (T.setTop (mkF m pc Ls (.long z :: rest))) := by
  obtain ⟨fs, hr, hrun, hended, hW, hsame⟩ := X.leave (v := some (.long z)) (fun h => by rw [hret] at h; cases h) hlk
  refine ⟨_, _, ?_, hrun, hended, _, _, rfl, ?_, ⟨_, rfl⟩, hW, hsame.mono hc hs⟩
  · exact retOut X hx hret rfl (Or.inr (Or.inl ⟨rfl, rfl, z, rfl⟩)) hd hr
  · show Q _ T.heap locs
    rw [eT]; exact hQ
theorem own_retR (X : Stand p l e R s m args below meth c T locs cells slots) (hx : p.tables.exec = Jvm.exec) {pc : Nat} {Ls : Array Slot} {t : FieldType} {w : Value} {rest : List Value} (hret : meth.sig.returnType = some t) (hlk : meth.locks = false) (hd : decode c.code pc = .ok (.areturn, 1)) (ht : t.isReference = true) (eT : T.heap = h) (hw : w.isRef = true) (hQ : Q (some w) h locs) (hc : cells ≤ ce) (hs : slots ≤ sl) :
    own_Goes p e below s Q ce sl (T.setTop (mkF m pc Ls (w :: rest))) := by
  obtain ⟨fs, hr, hrun, hended, hW, hsame⟩ := X.leave (v := some w) (fun h => by rw [hret] at h; cases h) hlk
  refine ⟨_, _, ?_, hrun, hended, _, _, rfl, ?_, ⟨_, rfl⟩, hW, hsame.mono hc hs⟩
  · exact retOut X hx hret (by cases t <;> first | (cases ht; done) | rfl) (Or.inr (Or.inr (Or.inr (Or.inr ⟨rfl, ht, hw⟩)))) hd hr
  · show Q _ T.heap locs
    rw [eT]; exact hQ
theorem own_retN (X : Stand p l e R s m args below meth c T locs cells slots) (hx : p.tables.exec = Jvm.exec) {pc : Nat} {Ls : Array Slot} {z v : Int32} {t : FieldType} {rest : List Value} (hret : meth.sig.returnType = some t) (hlk : meth.locks = false) (ht : t = .boolean ∨ t = .byte ∨ t = .char ∨ t = .short) (hd : decode c.code pc = .ok (.ireturn, 1)) (eT : T.heap = h) (hv : nar t z = v) (hQ : Q (some (.int v)) h locs) (hc : cells ≤ ce) (hs : slots ≤ sl) :
    own_Goes p e below s Q ce sl (T.setTop (mkF m pc Ls (.int z :: rest))) := by
  subst hv
  obtain ⟨fs, hr, hrun, hended, hW, hsame⟩ := X.leave (v := some (.int (nar t z))) (fun h => by rw [hret] at h; cases h) hlk
  refine ⟨_, _, ?_, hrun, hended, _, _, rfl, ?_, ⟨_, rfl⟩, hW, hsame.mono hc hs⟩
  · exact retN X hx hret ht hd hr
  · show Q _ T.heap locs
    rw [eT]; exact hQ
/-! 3. single steps -/
theorem own_irem {g : JFrame} {target : State} (X : Stand p l e R s m args below meth c T locs cells slots) (hx : p.tables.exec = Jvm.exec) (hg : g.method = m) {x y : Int32} {rest : List Value} (hd : decode c.code g.pc = .ok (.irem, 1)) (hs : g.stack = .int y :: .int x :: rest) (hy : y ≠ 0)
    (hr : Steps p.tables e below (T.setTop { g with pc := g.pc + 1, stack := .int (x % y) :: rest }) target) : Steps p.tables e below (T.setTop g) target := iremM X hx hg hd hs hy hr
theorem own_lrem {g : JFrame} {target : State} (X : Stand p l e R s m args below meth c T locs cells slots) (hx : p.tables.exec = Jvm.exec) (hg : g.method = m) {x y : Int64} {rest : List Value} (hd : decode c.code g.pc = .ok (.lrem, 1)) (hs : g.stack = .long y :: .long x :: rest) (hy : y ≠ 0)
    (hr : Steps p.tables e below (T.setTop { g with pc := g.pc + 1, stack := .long (x % y) :: rest }) target) : Steps p.tables e below (T.setTop g) target :=
  XS.lrem X.here hx hg hd hs hy (by rw [lrem_mod]; exact hr)
theorem own_tltL {x y : Int64} (q : x < y) : ifCond.holds .lt (lcmpW x y) = true ∧ ifCond.holds .ge (lcmpW x y) = false := by
  rw [if0, if0]; exact ⟨(tlt ((lw_lt x y).mpr q)).1, (tlt ((lw_lt x y).mpr q)).2.1⟩
theorem own_fltL {x y : Int64} (q : ¬ x < y) : ifCond.holds .lt (lcmpW x y) = false ∧ ifCond.holds .ge (lcmpW x y) = true := by
  rw [if0, if0]; exact ⟨(flt fun z => q ((lw_lt x y).mp z)).1, (flt fun z => q ((lw_lt x y).mp z)).2.1⟩
theorem own_tgtL {x y : Int64} (q : y < x) : ifCond.holds .gt (lcmpW x y) = true ∧ ifCond.holds .le (lcmpW x y) = false := by
  rw [if0, if0]; exact ⟨(tlt ((lw_gt x y).mpr q)).2.2.1, (tlt ((lw_gt x y).mpr q)).2.2.2⟩
theorem own_fgtL {x y : Int64} (q : ¬ y < x) : ifCond.holds .gt (lcmpW x y) = false ∧ ifCond.holds .le (lcmpW x y) = true := by
  rw [if0, if0]; exact ⟨(flt fun z => q ((lw_gt x y).mp z)).2.2.1, (flt fun z => q ((lw_gt x y).mp z)).2.2.2⟩
theorem own_teqL {x y : Int64} (q : x = y) : ifCond.holds .eq (lcmpW x y) = true ∧ ifCond.holds .ne (lcmpW x y) = false := by
  rw [if0, if0]; exact ⟨(teq ((lw_eq x y).mpr q)).1, (teq ((lw_eq x y).mpr q)).2⟩
theorem own_feqL {x y : Int64} (q : ¬ x = y) : ifCond.holds .eq (lcmpW x y) = false ∧ ifCond.holds .ne (lcmpW x y) = true := by
  rw [if0, if0]; exact ⟨(feq fun z => q ((lw_eq x y).mp z)).1, (feq fun z => q ((lw_eq x y).mp z)).2⟩
theorem own_st1 {L : Array Slot} {i : Nat} {v : Value} {o : Slot} {L' : Array Slot} (hold : L[i]? = some o) (ho : One o) (hv : v.category = 1) (hL : L.setIfInBounds i (.val v) = L' := by rfl) : storeLocals L i v = some L' := hL ▸ XS.store1 hold ho hv
theorem own_privSel {s : State} {args : Array Value} {y : MethodName} {n : Nat} (wi : (Cond.instantiable y.cls n).before args s = true) (hp : s.PrivateAt y) (hinst : (Cond.instanceMethod y).before args s = true) (hy : y.cls ≠ "java/lang/invoke/MethodHandle" ∧ y.cls ≠ "java/lang/invoke/VarHandle") : (Cond.selects y.cls y y).before args s = true := by
  obtain ⟨c, k, h1, h2, -, h3, -⟩ := Cond.instantiable_spec wi
  exact selects_self_of_private h1 h2 (Bool.or_eq_false_iff.mp h3).1 hp hinst hy
theorem own_st2 {L L' : Array Slot} {i : Nat} {x : Int64} {o1 o2 : Slot} (h1 : L[i]? = some o1) (h2 : L[i + 1]? = some o2) (q1 : One o1) (q2 : One o2) (hL : (L.setIfInBounds i (.val (.long x))).setIfInBounds (i + 1) .second = L' := by rfl) : storeLocals L i (.long x) = some L' := by
  subst hL
  obtain ⟨b1, g1⟩ := Array.getElem?_eq_some_iff.mp h1
  obtain ⟨b2, g2⟩ := Array.getElem?_eq_some_iff.mp h2
  have hc : (Value.long x).category = 2 := rfl
  rcases q1 with rfl | ⟨w, rfl, hw⟩ <;> rcases q2 with rfl | ⟨w', rfl, hw'⟩ <;> simp [storeLocals, storeSelf, setAt, hc, *]
/-! 4. arrays: what lies in them, as a list -/
def own_Ar (Z : State) (h : Heap) (a : Addr) (ty : FieldType) (vs : List Value) : Prop := ∃ c : Cell, Arr Z h a c ty ∧ c.slots.toList = vs ∧ vs.length < 2 ^ 31 ∧ ∀ v ∈ vs, fits ty v = true
variable {a b : Addr} {ty : FieldType} {vs : List Value}
theorem own_Ar.lt (F : own_Ar Z h a ty vs) : a < h.size := by obtain ⟨c, A, -⟩ := F; exact A.lt
theorem own_Ar.ext (F : own_Ar Z h a ty vs) (E : Ext h h') : own_Ar Z h' a ty vs := by obtain ⟨c, A, r⟩ := F; exact ⟨c, A.ext E, r⟩
theorem own_Ar.other {k : Nat} {v : Value} (F : own_Ar Z h b ty vs) (W : Wr h h' a k v) (q : b ≠ a) : own_Ar Z h' b ty vs := by obtain ⟨c, A, r⟩ := F; exact ⟨c, A.other W q, r⟩
theorem own_Ar.keep {ws : List Addr} (F : own_Ar Z h a ty vs) (K : Keep h h' ws) (q : a ∉ ws) : own_Ar Z h' a ty vs := by obtain ⟨c, A, r⟩ := F; exact ⟨c, ⟨K.2.1 a c A.1 q, A.2⟩, r⟩
theorem own_Ar.size {c : Cell} (q : c.slots.toList = vs) : c.slots.size = vs.length := by rw [← q]; simp
theorem own_in {c : Cell} {j : Int32} (q : c.slots.toList = vs) (hj : own_inb vs j) : ¬ (j < 0 ∨ c.slots.size ≤ j.toNatClampNeg) := by
  rw [own_Ar.size q]
  rintro (r | r)
  · exact hj.1 r
  · exact absurd hj.2 (Nat.not_lt.mpr r)
theorem own_get {c : Cell} {i : Nat} (q : c.slots.toList = vs) (d : Value) (hi : i < vs.length) : c.slots[i]? = some (vs.getD i d) := by
  have e : c.slots = vs.toArray := by rw [← q]
  rw [e]
  simp [List.getD, hi]
theorem own_set {c : Cell} {i : Nat} {v : Value} (q : c.slots.toList = vs) : (c.setSlot i v).slots.toList = vs.set i v := by
  have e : c.slots = vs.toArray := by rw [← q]
  simp [Cell.setSlot, e]
theorem own_fits {i : Nat} {v : Value} (q : ∀ v ∈ vs, fits ty v = true) (hv : fits ty v = true) : ∀ u ∈ vs.set i v, fits ty u = true := fun u hu => by
  rcases List.mem_or_eq_of_mem_set hu with r | r
  · exact q u r
  · rw [r]; exact hv
theorem own_mapGet {bs : List Int32} {i : Nat} (hi : i < bs.length) : (bs.map Value.int).getD i (.int 0) = .int (bs.getD i 0) := by simp [List.getD, hi]
theorem own_mapGetJ {bs : List Int64} {i : Nat} (hi : i < bs.length) : (bs.map Value.long).getD i (.long 0) = .long (bs.getD i 0) := by simp [List.getD, hi]
theorem own_mapSet {bs : List Int32} {i : Nat} {v : Int32} : (bs.map Value.int).set i (.int v) = (bs.set i v).map Value.int := by simp
theorem own_mapSetJ {bs : List Int64} {i : Nat} {v : Int64} : (bs.map Value.long).set i (.long v) = (bs.set i v).map Value.long := by simp
theorem own_inbM {α : Type} {f : α → Value} {bs : List α} {j : Int32} (q : own_inb bs j) : own_inb (bs.map f) j := ⟨q.1, by rw [List.length_map]; exact q.2⟩
theorem own_wrk {α : Type} {bs : List α} {j : Int32} {v : α} (k : Nat) (hk : j.toNatClampNeg = k) : own_wr bs j v = bs.set k v := by rw [own_wr, hk]
theorem own_rdk {α : Type} [OfNat α 0] {bs : List α} {j : Int32} (k : Nat) (hk : j.toNatClampNeg = k) : own_rd bs j = bs.getD k 0 := by rw [own_rd, hk]
theorem own_inbk {α : Type} {bs : List α} {j : Int32} (k n : Nat) (h0 : ¬ j < 0) (hk : j.toNatClampNeg = k) (hl : bs.length = n) (hkn : k < n) : own_inb bs j := ⟨h0, by rw [hk, hl]; exact hkn⟩
theorem own_len {α : Type} {f : α → Value} {bs : List α} (X : Stand p l e R s m args below meth c T locs cells slots) (hx : p.tables.exec = Jvm.exec) (hZ : Z.Warmed39 s.vm) (eT : T.heap = h) (A : own_Ar Z h a ty (bs.map f)) {g : JFrame} (hg : g.method = m) {rest : List Value} (hs : g.stack = .ref a :: rest) (hd : decode c.code g.pc = .ok (.arraylength, 1)) {target : State}
    (hr : Steps p.tables e below (T.setTop { g with pc := g.pc + 1, stack := .int (own_sz bs) :: rest }) target) : Steps p.tables e below (T.setTop g) target := by
  obtain ⟨cl, A, q, -⟩ := A
  refine X.arraylength hx (by rw [eT]; exact A.1) (State.isArrayOf_alike hZ.alike A.2.1) hg hs hd _ ?_
  rw [own_Ar.size q, List.length_map]; exact hr
theorem own_ldI {bs : List Int32} {j v : Int32} (X : Stand p l e R s m args below meth c T locs cells slots) (hx : p.tables.exec = Jvm.exec) (hZ : Z.Warmed39 s.vm) (eT : T.heap = h) (A : own_Ar Z h a .int (bs.map Value.int)) (hj : own_inb bs j) (hv : own_rd bs j = v) {g : JFrame} (hg : g.method = m) {rest : List Value} (hs : g.stack = .int j :: .ref a :: rest) (hd : decode c.code g.pc = .ok (.iaload, 1)) {target : State}
    (hr : Steps p.tables e below (T.setTop { g with pc := g.pc + 1, stack := .int v :: rest }) target) : Steps p.tables e below (T.setTop g) target := by
  subst hv
  obtain ⟨cl, A, q, -⟩ := A
  exact X.iaload hx (by rw [eT]; exact A.1) (State.isArrayOf_alike hZ.alike A.2.1) A.2.2 (own_in q (own_inbM hj)) ((own_get q (.int 0) (own_inbM hj).2).trans (congrArg some (own_mapGet hj.2))) hg hs hd _ hr
theorem own_ldB {bs : List Int32} {j v : Int32} (X : Stand p l e R s m args below meth c T locs cells slots) (hx : p.tables.exec = Jvm.exec) (hZ : Z.Warmed39 s.vm) (eT : T.heap = h) (A : own_Ar Z h a .byte (bs.map Value.int)) (hj : own_inb bs j) (hv : own_rd bs j = v) {g : JFrame} (hg : g.method = m) {rest : List Value} (hs : g.stack = .int j :: .ref a :: rest) (hd : decode c.code g.pc = .ok (.baload, 1)) {target : State}
    (hr : Steps p.tables e below (T.setTop { g with pc := g.pc + 1, stack := .int v :: rest }) target) : Steps p.tables e below (T.setTop g) target := by
  subst hv
  obtain ⟨cl, A, q, -⟩ := A
  exact X.baloadBytes hx (by rw [eT]; exact A.1) (State.isArrayOf_alike hZ.alike A.2.1) A.2.2 (own_in q (own_inbM hj)) ((own_get q (.int 0) (own_inbM hj).2).trans (congrArg some (own_mapGet hj.2))) hg hs hd _ hr
theorem own_ldZ {bs : List Int32} {j v : Int32} (X : Stand p l e R s m args below meth c T locs cells slots) (hx : p.tables.exec = Jvm.exec) (hZ : Z.Warmed39 s.vm) (eT : T.heap = h) (A : own_Ar Z h a .boolean (bs.map Value.int)) (hj : own_inb bs j) (hv : own_rd bs j = v) {g : JFrame} (hg : g.method = m) {rest : List Value} (hs : g.stack = .int j :: .ref a :: rest) (hd : decode c.code g.pc = .ok (.baload, 1)) {target : State}
    (hr : Steps p.tables e below (T.setTop { g with pc := g.pc + 1, stack := .int v :: rest }) target) : Steps p.tables e below (T.setTop g) target := by
  subst hv
  obtain ⟨cl, A, q, -⟩ := A
  exact X.baloadBooleans hx (by rw [eT]; exact A.1) (State.isArrayOf_alike hZ.alike A.2.1) A.2.2 (own_in q (own_inbM hj)) ((own_get q (.int 0) (own_inbM hj).2).trans (congrArg some (own_mapGet hj.2))) hg hs hd _ hr
theorem own_ldJ {bs : List Int64} {j : Int32} {v : Int64} (X : Stand p l e R s m args below meth c T locs cells slots) (hx : p.tables.exec = Jvm.exec) (hZ : Z.Warmed39 s.vm) (eT : T.heap = h) (A : own_Ar Z h a .long (bs.map Value.long)) (hj : own_inb bs j) (hv : own_rd bs j = v) {g : JFrame} (hg : g.method = m) {rest : List Value} (hs : g.stack = .int j :: .ref a :: rest) (hd : decode c.code g.pc = .ok (.laload, 1)) {target : State}
    (hr : Steps p.tables e below (T.setTop { g with pc := g.pc + 1, stack := .long v :: rest }) target) : Steps p.tables e below (T.setTop g) target := by
  subst hv
  obtain ⟨cl, A, q, -⟩ := A
  exact X.laload hx (by rw [eT]; exact A.1) (State.isArrayOf_alike hZ.alike A.2.1) A.2.2 (own_in q (own_inbM hj)) ((own_get q (.long 0) (own_inbM hj).2).trans (congrArg some (own_mapGetJ hj.2))) hg hs hd _ hr
theorem own_stI {bs : List Int32} {j x : Int32} (X : Stand p l e R s m args below meth c T locs cells slots) (hx : p.tables.exec = Jvm.exec) (hZ : Z.Warmed39 s.vm) (eT : T.heap = h) (A : own_Ar Z h a .int (bs.map Value.int)) (hj : own_inb bs j) {g : JFrame} (hg : g.method = m) {rest : List Value} (hs : g.stack = .int x :: .int j :: .ref a :: rest) (hd : decode c.code g.pc = .ok (.iastore, 1)) :
    ∃ T' h', Stand p l e R s m args below meth c T' (locs ++ [⟨a, j.toNatClampNeg⟩]) cells slots ∧ T'.heap = h' ∧ Wr h h' a j.toNatClampNeg (.int x) ∧ own_Ar Z h' a .int ((own_wr bs j x).map Value.int) ∧ ∀ target, Steps p.tables e below (T'.setTop { g with pc := g.pc + 1, stack := rest }) target → Steps p.tables e below (T.setTop g) target := by
  obtain ⟨cl, A, q, r, ft⟩ := A
  obtain ⟨T', h', X', e', W, st⟩ := stI X hx hZ eT A (own_in q (own_inbM hj)) hg hs hd
  exact ⟨T', h', X', e', W, ⟨_, A.same W, (own_set q).trans own_mapSet, by simpa [own_wr] using r, own_mapSet ▸ own_fits ft rfl⟩, st⟩
theorem own_stB {bs : List Int32} {j x : Int32} (X : Stand p l e R s m args below meth c T locs cells slots) (hx : p.tables.exec = Jvm.exec) (hZ : Z.Warmed39 s.vm) (eT : T.heap = h) (A : own_Ar Z h a .byte (bs.map Value.int)) (hj : own_inb bs j) {g : JFrame} (hg : g.method = m) {rest : List Value} (hs : g.stack = .int x :: .int j :: .ref a :: rest) (hd : decode c.code g.pc = .ok (.bastore, 1)) :
    ∃ T' h', Stand p l e R s m args below meth c T' (locs ++ [⟨a, j.toNatClampNeg⟩]) cells slots ∧ T'.heap = h' ∧ Wr h h' a j.toNatClampNeg (.int x.toInt8.toInt32) ∧ own_Ar Z h' a .byte ((own_wr bs j x.toInt8.toInt32).map Value.int) ∧ ∀ target, Steps p.tables e below (T'.setTop { g with pc := g.pc + 1, stack := rest }) target → Steps p.tables e below (T.setTop g) target := by
  obtain ⟨cl, A, q, r, ft⟩ := A
  obtain ⟨T', h', X', e', W, st⟩ := stB X hx hZ eT A (own_in q (own_inbM hj)) hg hs hd
  exact ⟨T', h', X', e', W, ⟨_, A.same W, (own_set q).trans own_mapSet, by simpa [own_wr] using r, own_mapSet ▸ own_fits ft (fits_nar_byte _)⟩, st⟩
theorem own_stZ {bs : List Int32} {j x : Int32} (X : Stand p l e R s m args below meth c T locs cells slots) (hx : p.tables.exec = Jvm.exec) (hZ : Z.Warmed39 s.vm) (eT : T.heap = h) (A : own_Ar Z h a .boolean (bs.map Value.int)) (hj : own_inb bs j) {g : JFrame} (hg : g.method = m) {rest : List Value} (hs : g.stack = .int x :: .int j :: .ref a :: rest) (hd : decode c.code g.pc = .ok (.bastore, 1)) :
    ∃ T' h', Stand p l e R s m args below meth c T' (locs ++ [⟨a, j.toNatClampNeg⟩]) cells slots ∧ T'.heap = h' ∧ Wr h h' a j.toNatClampNeg (.int (x &&& 1)) ∧ own_Ar Z h' a .boolean ((own_wr bs j (x &&& 1)).map Value.int) ∧ ∀ target, Steps p.tables e below (T'.setTop { g with pc := g.pc + 1, stack := rest }) target → Steps p.tables e below (T.setTop g) target := by
  obtain ⟨cl, A, q, r, ft⟩ := A
  obtain ⟨T', h', X', e', W, st⟩ := stZ X hx hZ eT A (own_in q (own_inbM hj)) hg hs hd
  exact ⟨T', h', X', e', W, ⟨_, A.same W, (own_set q).trans own_mapSet, by simpa [own_wr] using r, own_mapSet ▸ own_fits ft (fits_nar_bool _)⟩, st⟩
theorem own_stJ {bs : List Int64} {j : Int32} {x : Int64} (X : Stand p l e R s m args below meth c T locs cells slots) (hx : p.tables.exec = Jvm.exec) (hZ : Z.Warmed39 s.vm) (eT : T.heap = h) (A : own_Ar Z h a .long (bs.map Value.long)) (hj : own_inb bs j) {g : JFrame} (hg : g.method = m) {rest : List Value} (hs : g.stack = .long x :: .int j :: .ref a :: rest) (hd : decode c.code g.pc = .ok (.lastore, 1)) :
    ∃ T' h', Stand p l e R s m args below meth c T' (locs ++ [⟨a, j.toNatClampNeg⟩]) cells slots ∧ T'.heap = h' ∧ Wr h h' a j.toNatClampNeg (.long x) ∧ own_Ar Z h' a .long ((own_wr bs j x).map Value.long) ∧ ∀ target, Steps p.tables e below (T'.setTop { g with pc := g.pc + 1, stack := rest }) target → Steps p.tables e below (T.setTop g) target := by
  obtain ⟨cl, A, q, r, ft⟩ := A
  obtain ⟨T', h', X', e', W, st⟩ := stJ X hx hZ eT A (own_in q (own_inbM hj)) hg hs hd
  exact ⟨T', h', X', e', W, ⟨_, A.same W, (own_set q).trans own_mapSetJ, by simpa [own_wr] using r, own_mapSetJ ▸ own_fits ft rfl⟩, st⟩
theorem own_newI {k : ClassId} {n : Int32} {kk : Nat} (A : Arr Z h a (newA k ty n) ty) (q : ¬ n < 0) (hd : defaultValue ty = .int 0) (hk : n.toNatClampNeg = kk) : own_Ar Z h a ty ((List.replicate kk (0 : Int32)).map Value.int) := hk ▸
  ⟨_, A, by simp [newA, hd], by rw [List.length_map, List.length_replicate]; exact (back32 q).2, fun v hv => by
    rw [List.map_replicate] at hv
    rw [(List.mem_replicate.mp hv).2, ← hd]; cases ty <;> rfl⟩
theorem own_newJ {k : ClassId} {n : Int32} {kk : Nat} (A : Arr Z h a (newA k ty n) ty) (q : ¬ n < 0) (hd : defaultValue ty = .long 0) (hk : n.toNatClampNeg = kk) : own_Ar Z h a ty ((List.replicate kk (0 : Int64)).map Value.long) := hk ▸
  ⟨_, A, by simp [newA, hd], by rw [List.length_map, List.length_replicate]; exact (back32 q).2, fun v hv => by
    rw [List.map_replicate] at hv
    rw [(List.mem_replicate.mp hv).2, ← hd]; cases ty <;> rfl⟩
end Own
theorem w0 {a0 : Array Value} {Z : State} (hw : ∀ d ∈ tables_1, d.before a0 Z = true) : ((Jvm.Cond.classLink "com/example/expire/expire/BatchSizeTookPinLaw" (7 : Nat) "com/example/expire/expire/BatchSize")).before a0 Z = true := hw _ (List.mem_of_getElem? (i := 0) rfl)
theorem w1 {a0 : Array Value} {Z : State} (hw : ∀ d ∈ tables_1, d.before a0 Z = true) : ((Jvm.Cond.instantiable "com/example/expire/expire/BatchSize" (3 : Nat))).before a0 Z = true := hw _ (List.mem_of_getElem? (i := 1) rfl)
theorem w2 {a0 : Array Value} {Z : State} (hw : ∀ d ∈ tables_1, d.before a0 Z = true) : ((Jvm.Cond.initialized "com/example/expire/expire/BatchSize")).before a0 Z = true := hw _ (List.mem_of_getElem? (i := 2) rfl)
theorem w3 {a0 : Array Value} {Z : State} (hw : ∀ d ∈ tables_1, d.before a0 Z = true) : ((Jvm.Cond.methodLink "com/example/expire/expire/BatchSizeTookPinLaw" (9 : Nat) ({ cls := "com/example/expire/expire/BatchSize", name := "<init>", desc := "()V" } : Jvm.MethodName))).before a0 Z = true := hw _ (List.mem_of_getElem? (i := 3) rfl)
theorem w4 {a0 : Array Value} {Z : State} (hw : ∀ d ∈ tables_1, d.before a0 Z = true) : ((Jvm.Cond.instanceMethod ({ cls := "com/example/expire/expire/BatchSize", name := "<init>", desc := "()V" } : Jvm.MethodName))).before a0 Z = true := hw _ (List.mem_of_getElem? (i := 4) rfl)
theorem w5 {a0 : Array Value} {Z : State} (hw : ∀ d ∈ tables_1, d.before a0 Z = true) : ((Jvm.Cond.code ({ cls := "com/example/expire/expire/BatchSize", name := "<init>", desc := "()V" } : Jvm.MethodName) prog_2_method_1_code (1 : Nat) (Option.none : Option Jvm.ClassFile.FieldType))).before a0 Z = true := hw _ (List.mem_of_getElem? (i := 5) rfl)
theorem w6 {a0 : Array Value} {Z : State} (hw : ∀ d ∈ tables_1, d.before a0 Z = true) : ((Jvm.Cond.methodLink "com/example/expire/expire/BatchSize" (3 : Nat) ({ cls := "java/lang/Object", name := "<init>", desc := "()V" } : Jvm.MethodName))).before a0 Z = true := hw _ (List.mem_of_getElem? (i := 6) rfl)
theorem w7 {a0 : Array Value} {Z : State} (hw : ∀ d ∈ tables_1, d.before a0 Z = true) : ((Jvm.Cond.instanceMethod ({ cls := "java/lang/Object", name := "<init>", desc := "()V" } : Jvm.MethodName))).before a0 Z = true := hw _ (List.mem_of_getElem? (i := 7) rfl)
theorem w8 {a0 : Array Value} {Z : State} (hw : ∀ d ∈ tables_1, d.before a0 Z = true) : ((Jvm.Cond.code ({ cls := "java/lang/Object", name := "<init>", desc := "()V" } : Jvm.MethodName) object_method_1_code (1 : Nat) (Option.none : Option Jvm.ClassFile.FieldType))).before a0 Z = true := hw _ (List.mem_of_getElem? (i := 8) rfl)
theorem w9 {a0 : Array Value} {Z : State} (hw : ∀ d ∈ tables_1, d.before a0 Z = true) : ((Jvm.Cond.fieldLink "com/example/expire/expire/BatchSize" (9 : Nat) "com/example/expire/expire/BatchSize" "rows" "I")).before a0 Z = true := hw _ (List.mem_of_getElem? (i := 9) rfl)
theorem w10 {a0 : Array Value} {Z : State} (hw : ∀ d ∈ tables_1, d.before a0 Z = true) : ((Jvm.Cond.lays "com/example/expire/expire/BatchSize" "com/example/expire/expire/BatchSize" "rows" "I")).before a0 Z = true := hw _ (List.mem_of_getElem? (i := 10) rfl)
theorem w11 {a0 : Array Value} {Z : State} (hw : ∀ d ∈ tables_1, d.before a0 Z = true) : ((Jvm.Cond.methodLink "com/example/expire/expire/BatchSizeTookPinLaw" (10 : Nat) ({ cls := "com/example/expire/expire/BatchSize", name := "took", desc := "(IJ)V" } : Jvm.MethodName))).before a0 Z = true := hw _ (List.mem_of_getElem? (i := 11) rfl)
theorem w12 {a0 : Array Value} {Z : State} (hw : ∀ d ∈ tables_1, d.before a0 Z = true) : ((Jvm.Cond.declares ({ cls := "com/example/expire/expire/BatchSize", name := "took", desc := "(IJ)V" } : Jvm.MethodName))).before a0 Z = true := hw _ (List.mem_of_getElem? (i := 12) rfl)
theorem w13 {a0 : Array Value} {Z : State} (hw : ∀ d ∈ tables_1, d.before a0 Z = true) : ((Jvm.Cond.instanceMethod ({ cls := "com/example/expire/expire/BatchSize", name := "took", desc := "(IJ)V" } : Jvm.MethodName))).before a0 Z = true := hw _ (List.mem_of_getElem? (i := 13) rfl)
theorem w14 {a0 : Array Value} {Z : State} (hw : ∀ d ∈ tables_1, d.before a0 Z = true) : ((Jvm.Cond.selects "com/example/expire/expire/BatchSize" ({ cls := "com/example/expire/expire/BatchSize", name := "took", desc := "(IJ)V" } : Jvm.MethodName) ({ cls := "com/example/expire/expire/BatchSize", name := "took", desc := "(IJ)V" } : Jvm.MethodName))).before a0 Z = true := hw _ (List.mem_of_getElem? (i := 14) rfl)
theorem w15 {a0 : Array Value} {Z : State} (hw : ∀ d ∈ tables_1, d.before a0 Z = true) : ((Jvm.Cond.code ({ cls := "com/example/expire/expire/BatchSize", name := "took", desc := "(IJ)V" } : Jvm.MethodName) prog_2_method_4_code (6 : Nat) (Option.none : Option Jvm.ClassFile.FieldType))).before a0 Z = true := hw _ (List.mem_of_getElem? (i := 15) rfl)
theorem w16 {a0 : Array Value} {Z : State} (hw : ∀ d ∈ tables_1, d.before a0 Z = true) : ((Jvm.Cond.constantLong "com/example/expire/expire/BatchSize" (28 : Nat) (25000000 : Int64))).before a0 Z = true := hw _ (List.mem_of_getElem? (i := 16) rfl)
theorem w17 {a0 : Array Value} {Z : State} (hw : ∀ d ∈ tables_1, d.before a0 Z = true) : ((Jvm.Cond.constantLong "com/example/expire/expire/BatchSize" (32 : Nat) (100 : Int64))).before a0 Z = true := hw _ (List.mem_of_getElem? (i := 17) rfl)
theorem w18 {a0 : Array Value} {Z : State} (hw : ∀ d ∈ tables_1, d.before a0 Z = true) : ((Jvm.Cond.constantLong "com/example/expire/expire/BatchSize" (30 : Nat) (20000 : Int64))).before a0 Z = true := hw _ (List.mem_of_getElem? (i := 18) rfl)
theorem w19 {a0 : Array Value} {Z : State} (hw : ∀ d ∈ tables_1, d.before a0 Z = true) : ((Jvm.Cond.constantLong "com/example/expire/expire/BatchSize" (17 : Nat) (2 : Int64))).before a0 Z = true := hw _ (List.mem_of_getElem? (i := 19) rfl)
theorem w20 {a0 : Array Value} {Z : State} (hw : ∀ d ∈ tables_1, d.before a0 Z = true) : ((Jvm.Cond.methodLink "com/example/expire/expire/BatchSize" (22 : Nat) ({ cls := "java/lang/Math", name := "min", desc := "(JJ)J" } : Jvm.MethodName))).before a0 Z = true := hw _ (List.mem_of_getElem? (i := 20) rfl)
theorem w21 {a0 : Array Value} {Z : State} (hw : ∀ d ∈ tables_1, d.before a0 Z = true) : ((Jvm.Cond.static ({ cls := "java/lang/Math", name := "min", desc := "(JJ)J" } : Jvm.MethodName))).before a0 Z = true := hw _ (List.mem_of_getElem? (i := 21) rfl)
theorem w22 {a0 : Array Value} {Z : State} (hw : ∀ d ∈ tables_1, d.before a0 Z = true) : ((Jvm.Cond.initialized "java/lang/Math")).before a0 Z = true := hw _ (List.mem_of_getElem? (i := 22) rfl)
theorem w23 {a0 : Array Value} {Z : State} (hw : ∀ d ∈ tables_1, d.before a0 Z = true) : ((Jvm.Cond.code ({ cls := "java/lang/Math", name := "min", desc := "(JJ)J" } : Jvm.MethodName) jdk_29_method_70_code (4 : Nat) (Option.some Jvm.ClassFile.FieldType.long))).before a0 Z = true := hw _ (List.mem_of_getElem? (i := 23) rfl)
theorem w24 {a0 : Array Value} {Z : State} (hw : ∀ d ∈ tables_1, d.before a0 Z = true) : ((Jvm.Cond.methodLink "com/example/expire/expire/BatchSize" (34 : Nat) ({ cls := "java/lang/Math", name := "max", desc := "(JJ)J" } : Jvm.MethodName))).before a0 Z = true := hw _ (List.mem_of_getElem? (i := 24) rfl)
theorem w25 {a0 : Array Value} {Z : State} (hw : ∀ d ∈ tables_1, d.before a0 Z = true) : ((Jvm.Cond.static ({ cls := "java/lang/Math", name := "max", desc := "(JJ)J" } : Jvm.MethodName))).before a0 Z = true := hw _ (List.mem_of_getElem? (i := 25) rfl)
theorem w26 {a0 : Array Value} {Z : State} (hw : ∀ d ∈ tables_1, d.before a0 Z = true) : ((Jvm.Cond.code ({ cls := "java/lang/Math", name := "max", desc := "(JJ)J" } : Jvm.MethodName) jdk_29_method_66_code (4 : Nat) (Option.some Jvm.ClassFile.FieldType.long))).before a0 Z = true := hw _ (List.mem_of_getElem? (i := 26) rfl)
theorem w27 {a0 : Array Value} {Z : State} (hw : ∀ d ∈ tables_1, d.before a0 Z = true) : ((Jvm.Cond.methodLink "com/example/expire/expire/BatchSizeTookPinLaw" (14 : Nat) ({ cls := "com/example/expire/expire/BatchSize", name := "rows", desc := "()I" } : Jvm.MethodName))).before a0 Z = true := hw _ (List.mem_of_getElem? (i := 27) rfl)
theorem w28 {a0 : Array Value} {Z : State} (hw : ∀ d ∈ tables_1, d.before a0 Z = true) : ((Jvm.Cond.declares ({ cls := "com/example/expire/expire/BatchSize", name := "rows", desc := "()I" } : Jvm.MethodName))).before a0 Z = true := hw _ (List.mem_of_getElem? (i := 28) rfl)
theorem w29 {a0 : Array Value} {Z : State} (hw : ∀ d ∈ tables_1, d.before a0 Z = true) : ((Jvm.Cond.instanceMethod ({ cls := "com/example/expire/expire/BatchSize", name := "rows", desc := "()I" } : Jvm.MethodName))).before a0 Z = true := hw _ (List.mem_of_getElem? (i := 29) rfl)
theorem w30 {a0 : Array Value} {Z : State} (hw : ∀ d ∈ tables_1, d.before a0 Z = true) : ((Jvm.Cond.selects "com/example/expire/expire/BatchSize" ({ cls := "com/example/expire/expire/BatchSize", name := "rows", desc := "()I" } : Jvm.MethodName) ({ cls := "com/example/expire/expire/BatchSize", name := "rows", desc := "()I" } : Jvm.MethodName))).before a0 Z = true := hw _ (List.mem_of_getElem? (i := 30) rfl)
theorem w31 {a0 : Array Value} {Z : State} (hw : ∀ d ∈ tables_1, d.before a0 Z = true) : ((Jvm.Cond.code ({ cls := "com/example/expire/expire/BatchSize", name := "rows", desc := "()I" } : Jvm.MethodName) prog_2_method_2_code (1 : Nat) (Option.some Jvm.ClassFile.FieldType.int))).before a0 Z = true := hw _ (List.mem_of_getElem? (i := 31) rfl)
theorem w32 {a0 : Array Value} {Z : State} (hw : ∀ d ∈ tables_1, d.before a0 Z = true) : ((Jvm.Cond.constantLong "com/example/expire/expire/BatchSizeTookPinLaw" (18 : Nat) (20000 : Int64))).before a0 Z = true := hw _ (List.mem_of_getElem? (i := 32) rfl)
theorem w33 {a0 : Array Value} {Z : State} (hw : ∀ d ∈ tables_1, d.before a0 Z = true) : ((Jvm.Cond.constantLong "com/example/expire/expire/BatchSizeTookPinLaw" (20 : Nat) (2 : Int64))).before a0 Z = true := hw _ (List.mem_of_getElem? (i := 33) rfl)
theorem w34 {a0 : Array Value} {Z : State} (hw : ∀ d ∈ tables_1, d.before a0 Z = true) : ((Jvm.Cond.methodLink "com/example/expire/expire/BatchSizeTookPinLaw" (22 : Nat) ({ cls := "java/lang/Math", name := "min", desc := "(JJ)J" } : Jvm.MethodName))).before a0 Z = true := hw _ (List.mem_of_getElem? (i := 34) rfl)
theorem w35 {a0 : Array Value} {Z : State} (hw : ∀ d ∈ tables_1, d.before a0 Z = true) : ((Jvm.Cond.constantLong "com/example/expire/expire/BatchSizeTookPinLaw" (28 : Nat) (100 : Int64))).before a0 Z = true := hw _ (List.mem_of_getElem? (i := 35) rfl)
theorem w36 {a0 : Array Value} {Z : State} (hw : ∀ d ∈ tables_1, d.before a0 Z = true) : ((Jvm.Cond.methodLink "com/example/expire/expire/BatchSizeTookPinLaw" (30 : Nat) ({ cls := "java/lang/Math", name := "max", desc := "(JJ)J" } : Jvm.MethodName))).before a0 Z = true := hw _ (List.mem_of_getElem? (i := 36) rfl)
theorem w37 {a0 : Array Value} {Z : State} (hw : ∀ d ∈ tables_1, d.before a0 Z = true) : ((Jvm.Cond.constantLong "com/example/expire/expire/BatchSizeTookPinLaw" (35 : Nat) (25000000 : Int64))).before a0 Z = true := hw _ (List.mem_of_getElem? (i := 37) rfl)
theorem w38 {a0 : Array Value} {Z : State} (hw : ∀ d ∈ tables_1, d.before a0 Z = true) : ((Jvm.Cond.methodLink "com/example/expire/expire/BatchSizeTookPinLaw" (39 : Nat) ({ cls := "com/example/expire/expire/BatchSizeTookPinLaw", name := "paced", desc := "(JJJ)Z" } : Jvm.MethodName))).before a0 Z = true := hw _ (List.mem_of_getElem? (i := 38) rfl)
theorem w39 {a0 : Array Value} {Z : State} (hw : ∀ d ∈ tables_1, d.before a0 Z = true) : ((Jvm.Cond.static ({ cls := "com/example/expire/expire/BatchSizeTookPinLaw", name := "paced", desc := "(JJJ)Z" } : Jvm.MethodName))).before a0 Z = true := hw _ (List.mem_of_getElem? (i := 39) rfl)
theorem w40 {a0 : Array Value} {Z : State} (hw : ∀ d ∈ tables_1, d.before a0 Z = true) : ((Jvm.Cond.initialized "com/example/expire/expire/BatchSizeTookPinLaw")).before a0 Z = true := hw _ (List.mem_of_getElem? (i := 40) rfl)
theorem w41 {a0 : Array Value} {Z : State} (hw : ∀ d ∈ tables_1, d.before a0 Z = true) : ((Jvm.Cond.code ({ cls := "com/example/expire/expire/BatchSizeTookPinLaw", name := "paced", desc := "(JJJ)Z" } : Jvm.MethodName) method_2_code (6 : Nat) (Option.some Jvm.ClassFile.FieldType.boolean))).before a0 Z = true := hw _ (List.mem_of_getElem? (i := 41) rfl)
theorem w42 {a0 : Array Value} {Z : State} (hw : ∀ d ∈ tables_1, d.before a0 Z = true) : ((Jvm.Cond.constantLong "com/example/expire/expire/BatchSizeTookPinLaw" (37 : Nat) (101 : Int64))).before a0 Z = true := hw _ (List.mem_of_getElem? (i := 42) rfl)
theorem pn_com_example_expire_expire_BatchSize : plainName "com/example/expire/expire/BatchSize" = true := by first | (simp [plainName, overriddenIn]; done) | decide +kernel
theorem pn_com_example_expire_expire_BatchSizeTookPinLaw : plainName "com/example/expire/expire/BatchSizeTookPinLaw" = true := by first | (simp [plainName, overriddenIn]; done) | decide +kernel
theorem pd_0 : parseMethodDescriptor "()V" = some ⟨[], none⟩ := by decide +kernel
theorem pd_1 : parseMethodDescriptor "(JJ)J" = some ⟨[.long, .long], some .long⟩ := by decide +kernel
theorem pd_2 : parseMethodDescriptor "(IJ)V" = some ⟨[.int, .long], none⟩ := by decide +kernel
theorem pd_3 : parseMethodDescriptor "()I" = some ⟨[], some .int⟩ := by decide +kernel
theorem pd_4 : parseMethodDescriptor "(JJJ)Z" = some ⟨[.long, .long, .long], some .boolean⟩ := by decide +kernel
theorem dBatchSize_mk_0 : decode prog_2_method_1_code 0 = .ok (.aload_n 0, 1) := by decide +kernel
theorem dBatchSize_mk_1 : decode prog_2_method_1_code 1 = .ok (.invokespecial 3, 3) := by decide +kernel
theorem dBatchSize_mk_4 : decode prog_2_method_1_code 4 = .ok (.aload_n 0, 1) := by decide +kernel
theorem dBatchSize_mk_5 : decode prog_2_method_1_code 5 = .ok (.sipush 1000, 3) := by decide +kernel
theorem dBatchSize_mk_8 : decode prog_2_method_1_code 8 = .ok (.putfield 9, 3) := by decide +kernel
theorem dBatchSize_mk_11 : decode prog_2_method_1_code 11 = .ok (.return_, 1) := by decide +kernel
theorem dBatchSize_took_0 : decode prog_2_method_4_code 0 = .ok (.lload_n 2, 1) := by decide +kernel
theorem dBatchSize_took_1 : decode prog_2_method_4_code 1 = .ok (.lconst 0, 1) := by decide +kernel
theorem dBatchSize_took_2 : decode prog_2_method_4_code 2 = .ok (.lcmp, 1) := by decide +kernel
theorem dBatchSize_took_3 : decode prog_2_method_4_code 3 = .ok (.ifCond .le 14, 3) := by decide +kernel
theorem dBatchSize_took_6 : decode prog_2_method_4_code 6 = .ok (.iload_n 1, 1) := by decide +kernel
theorem dBatchSize_took_7 : decode prog_2_method_4_code 7 = .ok (.i2l, 1) := by decide +kernel
theorem dBatchSize_took_8 : decode prog_2_method_4_code 8 = .ok (.ldc2_w 28, 3) := by decide +kernel
theorem dBatchSize_took_11 : decode prog_2_method_4_code 11 = .ok (.lmul, 1) := by decide +kernel
theorem dBatchSize_took_12 : decode prog_2_method_4_code 12 = .ok (.lload_n 2, 1) := by decide +kernel
theorem dBatchSize_took_13 : decode prog_2_method_4_code 13 = .ok (.ldiv, 1) := by decide +kernel
theorem dBatchSize_took_14 : decode prog_2_method_4_code 14 = .ok (.goto 6, 3) := by decide +kernel
theorem dBatchSize_took_17 : decode prog_2_method_4_code 17 = .ok (.ldc2_w 30, 3) := by decide +kernel
theorem dBatchSize_took_20 : decode prog_2_method_4_code 20 = .ok (.lstore 4, 2) := by decide +kernel
theorem dBatchSize_took_22 : decode prog_2_method_4_code 22 = .ok (.aload_n 0, 1) := by decide +kernel
theorem dBatchSize_took_23 : decode prog_2_method_4_code 23 = .ok (.ldc2_w 32, 3) := by decide +kernel
theorem dBatchSize_took_26 : decode prog_2_method_4_code 26 = .ok (.ldc2_w 30, 3) := by decide +kernel
theorem dBatchSize_took_29 : decode prog_2_method_4_code 29 = .ok (.ldc2_w 17, 3) := by decide +kernel
theorem dBatchSize_took_32 : decode prog_2_method_4_code 32 = .ok (.iload_n 1, 1) := by decide +kernel
theorem dBatchSize_took_33 : decode prog_2_method_4_code 33 = .ok (.i2l, 1) := by decide +kernel
theorem dBatchSize_took_34 : decode prog_2_method_4_code 34 = .ok (.lmul, 1) := by decide +kernel
theorem dBatchSize_took_35 : decode prog_2_method_4_code 35 = .ok (.invokestatic 22, 3) := by decide +kernel
theorem dBatchSize_took_38 : decode prog_2_method_4_code 38 = .ok (.lload 4, 2) := by decide +kernel
theorem dBatchSize_took_40 : decode prog_2_method_4_code 40 = .ok (.invokestatic 22, 3) := by decide +kernel
theorem dBatchSize_took_43 : decode prog_2_method_4_code 43 = .ok (.invokestatic 34, 3) := by decide +kernel
theorem dBatchSize_took_46 : decode prog_2_method_4_code 46 = .ok (.l2i, 1) := by decide +kernel
theorem dBatchSize_took_47 : decode prog_2_method_4_code 47 = .ok (.putfield 9, 3) := by decide +kernel
theorem dBatchSize_took_50 : decode prog_2_method_4_code 50 = .ok (.return_, 1) := by decide +kernel
theorem dMath_min_0 : decode jdk_29_method_70_code 0 = .ok (.lload_n 0, 1) := by decide +kernel
theorem dMath_min_1 : decode jdk_29_method_70_code 1 = .ok (.lload_n 2, 1) := by decide +kernel
theorem dMath_min_2 : decode jdk_29_method_70_code 2 = .ok (.lcmp, 1) := by decide +kernel
theorem dMath_min_3 : decode jdk_29_method_70_code 3 = .ok (.ifCond .gt 7, 3) := by decide +kernel
theorem dMath_min_6 : decode jdk_29_method_70_code 6 = .ok (.lload_n 0, 1) := by decide +kernel
theorem dMath_min_7 : decode jdk_29_method_70_code 7 = .ok (.goto 4, 3) := by decide +kernel
theorem dMath_min_10 : decode jdk_29_method_70_code 10 = .ok (.lload_n 2, 1) := by decide +kernel
theorem dMath_min_11 : decode jdk_29_method_70_code 11 = .ok (.lreturn, 1) := by decide +kernel
theorem dMath_max_0 : decode jdk_29_method_66_code 0 = .ok (.lload_n 0, 1) := by decide +kernel
theorem dMath_max_1 : decode jdk_29_method_66_code 1 = .ok (.lload_n 2, 1) := by decide +kernel
theorem dMath_max_2 : decode jdk_29_method_66_code 2 = .ok (.lcmp, 1) := by decide +kernel
theorem dMath_max_3 : decode jdk_29_method_66_code 3 = .ok (.ifCond .lt 7, 3) := by decide +kernel
theorem dMath_max_6 : decode jdk_29_method_66_code 6 = .ok (.lload_n 0, 1) := by decide +kernel
theorem dMath_max_7 : decode jdk_29_method_66_code 7 = .ok (.goto 4, 3) := by decide +kernel
theorem dMath_max_10 : decode jdk_29_method_66_code 10 = .ok (.lload_n 2, 1) := by decide +kernel
theorem dMath_max_11 : decode jdk_29_method_66_code 11 = .ok (.lreturn, 1) := by decide +kernel
theorem dBatchSize_rows_0 : decode prog_2_method_2_code 0 = .ok (.aload_n 0, 1) := by decide +kernel
theorem dBatchSize_rows_1 : decode prog_2_method_2_code 1 = .ok (.getfield 9, 3) := by decide +kernel
theorem dBatchSize_rows_4 : decode prog_2_method_2_code 4 = .ok (.ireturn, 1) := by decide +kernel
theorem dBatchSizeTookPinLaw_paced_0 : decode method_2_code 0 = .ok (.lload_n 2, 1) := by decide +kernel
theorem dBatchSizeTookPinLaw_paced_1 : decode method_2_code 1 = .ok (.lload 4, 2) := by decide +kernel
theorem dBatchSizeTookPinLaw_paced_3 : decode method_2_code 3 = .ok (.lload_n 0, 1) := by decide +kernel
theorem dBatchSizeTookPinLaw_paced_4 : decode method_2_code 4 = .ok (.ldiv, 1) := by decide +kernel
theorem dBatchSizeTookPinLaw_paced_5 : decode method_2_code 5 = .ok (.lcmp, 1) := by decide +kernel
theorem dBatchSizeTookPinLaw_paced_6 : decode method_2_code 6 = .ok (.ifCond .gt 7, 3) := by decide +kernel
theorem dBatchSizeTookPinLaw_paced_9 : decode method_2_code 9 = .ok (.iconst 1, 1) := by decide +kernel
theorem dBatchSizeTookPinLaw_paced_10 : decode method_2_code 10 = .ok (.goto 4, 3) := by decide +kernel
theorem dBatchSizeTookPinLaw_paced_13 : decode method_2_code 13 = .ok (.iconst 0, 1) := by decide +kernel
theorem dBatchSizeTookPinLaw_paced_14 : decode method_2_code 14 = .ok (.ireturn, 1) := by decide +kernel
/-! com/example/expire/expire/BatchSize.<init>:()V -/
def f_BatchSize_mk (f_a1_rows : Int32) : Option (Int32) :=
  some (1000 : Int32)
def Q_BatchSize_mk (Z : State) (hE : Heap) (n0 : Nat) (a1 : Addr) (r : Int32) (v : Option Value) (h : Heap) (L : List Loc) : Prop := v = none ∧ Fr n0 L ∧ Keep hE h [a1] ∧ Exa Z h a1 "com/example/expire/expire/BatchSize" ∧ Fld Z h a1 "com/example/expire/expire/BatchSize" "rows" "I" (.int r)
def Cx_BatchSize_mk (p : Program) (s : State) (m : MethodId) (meth : Method) (c : Code) (Z : State) (a0 : Array Value) : Prop := p.tables.exec = Jvm.exec ∧ Z.Warmed39 s.vm ∧ (∀ d ∈ tables_1, d.before a0 Z = true) ∧ c.code = prog_2_method_1_code ∧ c.maxLocals = 1 ∧ s.vm.findClass "com/example/expire/expire/BatchSize" = some m.cls ∧ meth.sig.returnType = none ∧ meth.locks = false ∧ meth.name = "<init>"
set_option maxRecDepth 65536 in
set_option maxHeartbeats 4000000 in
theorem b_BatchSize_mk {p : Program} {l : Launch} {e : Env} {s : State} {m : MethodId} {args : Array Value} {below : List Frame} {meth : Method} {c : Code} {Z : State} {a0 : Array Value} {n0 : Nat} {hE : Heap} (cx : Cx_BatchSize_mk p s m meth c Z a0) (a1 : Addr) :
    ∀ {T : State} {locs : List Loc} {h : Heap} (X : Stand p l e ({ frames := 1, cells := 0, slots := 0, locals := 12 } : Room) s m args below meth c T locs 0 0) (eT : T.heap = h) (N : Fr n0 locs) (K : Keep hE h [a1]) (z : n0 ≤ h.size) (f_a1_rows : Int32) (E_a1 : Exa Z h a1 "com/example/expire/expire/BatchSize") (F_a1_rows : Fld Z h a1 "com/example/expire/expire/BatchSize" "rows" "I" (.int f_a1_rows)) (g_a1 : n0 ≤ a1) (r : Int32), f_BatchSize_mk f_a1_rows = some r → own_Goes p e below s (Q_BatchSize_mk Z hE n0 a1 r) 0 0 (T.setTop (mkF m 0 #[.val (.ref a1)] [])) := by
  have cx' := cx
  obtain ⟨hx, hZ, hw, hby, hml, hown, hret, hlk, hnm⟩ := cx'
  intro T locs h X eT N K z f_a1_rows E_a1 F_a1_rows g_a1 r hF
  unfold f_BatchSize_mk at hF
  refine own_Goes.via (B := T.setTop (mkF m 1 #[.val (.ref a1)] [(.ref a1)])) (fun t k => ?_) ?_
  · show Steps p.tables e below (T.setTop (mkF m 0 #[.val (.ref a1)] [])) t
    refine XS.aloadN X.here hx rfl (hb hby dBatchSize_mk_0) rfl rfl ?_
    exact k
  obtain ⟨T8, X8, e8, st8⟩ := initO X hx hZ hown (w6 hw) (w7 hw) (w8 hw) eT (g := (mkF m 1 #[.val (.ref a1)] [(.ref a1)])) rfl (by rw [hml]; rfl) rfl (hb hby dBatchSize_mk_1) (by decide) (W := 0) (by show 2 * 0 + _ ≤ _; exact Nat.le_of_eq rfl) (by decide)
  refine own_Goes.via st8 ?_
  show own_Goes _ _ _ _ _ _ _ (T8.setTop (mkF m 4 #[.val (.ref a1)] []))
  refine own_Goes.via (B := T8.setTop (mkF m 8 #[.val (.ref a1)] [(.int (1000 : Int32)), (.ref a1)])) (fun t k => ?_) ?_
  · show Steps p.tables e below (T8.setTop (mkF m 4 #[.val (.ref a1)] [])) t
    refine XS.aloadN X8.here hx rfl (hb hby dBatchSize_mk_4) rfl rfl ?_
    show Steps p.tables e below (T8.setTop (mkF m 5 #[.val (.ref a1)] [(.ref a1)])) t
    refine XS.sipush X8.here hx rfl (hb hby dBatchSize_mk_5) ?_
    exact k
  obtain ⟨T9, h9, X9, e9, W9, st9⟩ := putF X8 hx hZ hown (host := "") (Or.inl (w9 hw)) Via.refl e8 F_a1_rows E_a1 (Or.inl (w10 hw)) (w1 hw) (ty := .int) (by decide) rfl rfl (g := (mkF m 8 #[.val (.ref a1)] [(.int (1000 : Int32)), (.ref a1)])) rfl rfl (hb hby dBatchSize_mk_8)
  refine own_Goes.via st9 ?_
  have E9_a1 := E_a1.wr W9
  have F9_a1_rows := F_a1_rows.same W9
  have z9 := Nat.le_trans z (Keep.of_wr W9).1
  have K9_ := K.wr W9 (Or.inl (List.mem_of_getElem? (i := 0) rfl))
  have N9 := Fr.snoc X9 N g_a1
  show own_Goes _ _ _ _ _ _ _ (T9.setTop (mkF m 11 #[.val (.ref a1)] []))
  obtain rfl : (1000 : Int32) = r := Option.some.inj hF
  exact own_retV X9 hx hret hlk (hb hby dBatchSize_mk_11) e9 ⟨rfl, N9, K9_, E9_a1, F9_a1_rows⟩ (by decide) (by decide)
theorem ef_BatchSize_mk (m : MethodId) (x0 : Addr) : entryFrame m #[(.ref x0)] 1 = mkF m 0 #[.val (.ref x0)] [] := by first | (simp [entryFrame, mkF, argsToLocals, Value.category]; done) | rfl
set_option maxRecDepth 65536 in
set_option maxHeartbeats 4000000 in
theorem rm_BatchSize_mk (l : Launch) (Z : State) (a0 : Array Value) (hw : ∀ d ∈ tables_1, d.before a0 Z = true) (ws : List Jvm.Cond) (hE : Heap) (n0 : Nat) (z : n0 ≤ hE.size) (a1 : Addr) (f_a1_rows : Int32) (E_a1 : Exa Z hE a1 "com/example/expire/expire/BatchSize") (F_a1_rows : Fld Z hE a1 "com/example/expire/expire/BatchSize" "rows" "I" (.int f_a1_rows)) (g_a1 : n0 ≤ a1) (r : Int32) (hF : (f_BatchSize_mk f_a1_rows) = some r) :
    MetFree l (⟨"com/example/expire/expire/BatchSize", "<init>", "()V"⟩ : MethodName) (head1 (Jvm.Cond.code (⟨"com/example/expire/expire/BatchSize", "<init>", "()V"⟩ : MethodName) prog_2_method_1_code 1 none :: ws) ({ frames := 1, cells := 0, slots := 0, locals := 12 } : Room)) (fun a U => a = #[(.ref a1)] ∧ Z.Warmed39 U.vm ∧ U.heap = hE) (fun _ _ _ _ _ => True) (fun _ U o U' => ∃ v L, o = .returned v ∧ (Q_BatchSize_mk Z hE n0 a1 r) v U'.heap L ∧ FrameEnd U o U' L ({ frames := 1, cells := 0, slots := 0, locals := 12 } : Room).cells ({ frames := 1, cells := 0, slots := 0, locals := 12 } : Room).slots) := by
  refine MetFree.of_bodySF (plainFor_of_name pn_com_example_expire_expire_BatchSize) hisR ?_
  intro p e s m args below meth c s₁ Bd hml0 hP hK
  obtain ⟨rfl, hZ, hh⟩ := hP
  have X0 : Stand p l e ({ frames := 1, cells := 0, slots := 0, locals := 12 } : Room) s m #[(.ref a1)] below meth c s₁ [] 0 0 := Stand.of_body Bd
  have e0 : s₁.heap = hE := by rw [← hh, Bd.state]; rfl
  have cx : Cx_BatchSize_mk p s m meth c Z a0 := ⟨Bd.exec, hZ, hw, Bd.bytes, hml0, findClass_of_methodNamed Bd.named, Bd.returns, Bd.notSynchronized, (name_of_methodNamed Bd.named Bd.method).1⟩
  show own_Goes p e below s (Q_BatchSize_mk Z hE n0 a1 r) ({ frames := 1, cells := 0, slots := 0, locals := 12 } : Room).cells ({ frames := 1, cells := 0, slots := 0, locals := 12 } : Room).slots (s₁.setTop (entryFrame m #[(.ref a1)] 1))
  rw [ef_BatchSize_mk]
  exact b_BatchSize_mk cx a1 X0 e0 (Fr.nil n0) (Keep.refl _ _) z f_a1_rows E_a1 F_a1_rows g_a1 _ hF
/-! java/lang/Math.min:(JJ)J -/
def f_Math_min (v0 : Int64) (v2 : Int64) : Option (Int64) :=
  if v2 < v0 then
    some v2
  else
    some v0
def Q_Math_min (Z : State) (hE : Heap) (n0 : Nat)  (r : Int64) (v : Option Value) (h : Heap) (L : List Loc) : Prop := v = some (.long r) ∧ Fr n0 L ∧ h = hE
def Cx_Math_min (p : Program) (s : State) (m : MethodId) (meth : Method) (c : Code) (Z : State) (a0 : Array Value) : Prop := p.tables.exec = Jvm.exec ∧ Z.Warmed39 s.vm ∧ (∀ d ∈ tables_1, d.before a0 Z = true) ∧ c.code = jdk_29_method_70_code ∧ c.maxLocals = 4 ∧ s.vm.findClass "java/lang/Math" = some m.cls ∧ meth.sig.returnType = some .long ∧ meth.locks = false ∧ meth.name = "min"
set_option maxRecDepth 65536 in
set_option maxHeartbeats 4000000 in
theorem b_Math_min {p : Program} {l : Launch} {e : Env} {s : State} {m : MethodId} {args : Array Value} {below : List Frame} {meth : Method} {c : Code} {Z : State} {a0 : Array Value} {n0 : Nat} {hE : Heap} (cx : Cx_Math_min p s m meth c Z a0) :
    ∀ {T : State} {locs : List Loc} (X : Stand p l e ({ frames := 0, cells := 0, slots := 0, locals := 0 } : Room) s m args below meth c T locs 0 0) (eT : T.heap = hE) (N : Fr n0 locs) (z : n0 ≤ hE.size) (v0 : Int64) (v2 : Int64) (r : Int64), f_Math_min v0 v2 = some r → own_Goes p e below s (Q_Math_min Z hE n0 r) 0 0 (T.setTop (mkF m 0 #[.val (.long v0), .second, .val (.long v2), .second] [])) := by
  have cx' := cx
  obtain ⟨hx, hZ, hw, hby, hml, hown, hret, hlk, hnm⟩ := cx'
  intro T locs X eT N z v0 v2 r hF
  unfold f_Math_min at hF
  refine own_Goes.via (B := T.setTop (mkF m 3 #[.val (.long v0), .second, .val (.long v2), .second] [(.int (lcmpW v0 v2))])) (fun t k => ?_) ?_
  · show Steps p.tables e below (T.setTop (mkF m 0 #[.val (.long v0), .second, .val (.long v2), .second] [])) t
    refine XS.lloadN X.here hx rfl (hb hby dMath_min_0) rfl ?_
    show Steps p.tables e below (T.setTop (mkF m 1 #[.val (.long v0), .second, .val (.long v2), .second] [(.long v0)])) t
    refine XS.lloadN X.here hx rfl (hb hby dMath_min_1) rfl ?_
    show Steps p.tables e below (T.setTop (mkF m 2 #[.val (.long v0), .second, .val (.long v2), .second] [(.long v2), (.long v0)])) t
    refine XS.lcmp X.here hx rfl (hb hby dMath_min_2) rfl ?_
    exact k
  by_cases hc3 : v2 < v0
  · rw [if_pos hc3] at hF
    refine own_Goes.via (B := T.setTop (mkF m 11 #[.val (.long v0), .second, .val (.long v2), .second] [(.long v2)])) (fun t k => ?_) ?_
    · show Steps p.tables e below (T.setTop (mkF m 3 #[.val (.long v0), .second, .val (.long v2), .second] [(.int (lcmpW v0 v2))])) t
      refine XS.ifYes X.here hx rfl (pc0 := 3) (pc' := 10) rfl (hb hby dMath_min_3) rfl (own_tgtL hc3).1 (by decide) (by decide) ?_
      show Steps p.tables e below (T.setTop (mkF m 10 #[.val (.long v0), .second, .val (.long v2), .second] [])) t
      refine XS.lloadN X.here hx rfl (hb hby dMath_min_10) rfl ?_
      exact k
    obtain rfl : v2 = r := Option.some.inj hF
    exact own_retJ X hx hret hlk (hb hby dMath_min_11) eT ⟨rfl, N, rfl⟩ (by decide) (by decide)
  · rw [if_neg hc3] at hF
    refine own_Goes.via (B := T.setTop (mkF m 11 #[.val (.long v0), .second, .val (.long v2), .second] [(.long v0)])) (fun t k => ?_) ?_
    · show Steps p.tables e below (T.setTop (mkF m 3 #[.val (.long v0), .second, .val (.long v2), .second] [(.int (lcmpW v0 v2))])) t
      refine XS.ifNo X.here hx rfl (hb hby dMath_min_3) rfl (own_fgtL hc3).1 ?_
      show Steps p.tables e below (T.setTop (mkF m 6 #[.val (.long v0), .second, .val (.long v2), .second] [])) t
      refine XS.lloadN X.here hx rfl (hb hby dMath_min_6) rfl ?_
      show Steps p.tables e below (T.setTop (mkF m 7 #[.val (.long v0), .second, .val (.long v2), .second] [(.long v0)])) t
      refine XS.goto X.here hx rfl (pc0 := 7) (pc' := 11) rfl (hb hby dMath_min_7) (by decide) (by decide) ?_
      exact k
    obtain rfl : v0 = r := Option.some.inj hF
    exact own_retJ X hx hret hlk (hb hby dMath_min_11) eT ⟨rfl, N, rfl⟩ (by decide) (by decide)
theorem ef_Math_min (m : MethodId) (x0 : Int64) (x1 : Int64) : entryFrame m #[(.long x0), (.long x1)] 4 = mkF m 0 #[.val (.long x0), .second, .val (.long x1), .second] [] := by first | (simp [entryFrame, mkF, argsToLocals, Value.category]; done) | rfl
set_option maxRecDepth 65536 in
set_option maxHeartbeats 4000000 in
theorem rm_Math_min (l : Launch) (Z : State) (a0 : Array Value) (hw : ∀ d ∈ tables_1, d.before a0 Z = true) (ws : List Jvm.Cond) (hE : Heap) (n0 : Nat) (z : n0 ≤ hE.size)  (v0 : Int64) (v2 : Int64) (r : Int64) (hF : (f_Math_min v0 v2) = some r) :
    MetFree l (⟨"java/lang/Math", "min", "(JJ)J"⟩ : MethodName) (head1 (Jvm.Cond.code (⟨"java/lang/Math", "min", "(JJ)J"⟩ : MethodName) jdk_29_method_70_code 4 (some .long) :: ws) ({ frames := 0, cells := 0, slots := 0, locals := 0 } : Room)) (fun a U => a = #[(.long v0), (.long v2)] ∧ Z.Warmed39 U.vm ∧ U.heap = hE) (fun _ _ _ _ _ => True) (fun _ U o U' => ∃ v L, o = .returned v ∧ (Q_Math_min Z hE n0 r) v U'.heap L ∧ FrameEnd U o U' L ({ frames := 0, cells := 0, slots := 0, locals := 0 } : Room).cells ({ frames := 0, cells := 0, slots := 0, locals := 0 } : Room).slots) := by
  refine MetFree.of_bodySF (Jvm.Free.JP.mathPlain rfl (by decide +kernel)) hisR ?_
  intro p e s m args below meth c s₁ Bd hml0 hP hK
  obtain ⟨rfl, hZ, hh⟩ := hP
  have X0 : Stand p l e ({ frames := 0, cells := 0, slots := 0, locals := 0 } : Room) s m #[(.long v0), (.long v2)] below meth c s₁ [] 0 0 := Stand.of_body Bd
  have e0 : s₁.heap = hE := by rw [← hh, Bd.state]; rfl
  have cx : Cx_Math_min p s m meth c Z a0 := ⟨Bd.exec, hZ, hw, Bd.bytes, hml0, findClass_of_methodNamed Bd.named, Bd.returns, Bd.notSynchronized, (name_of_methodNamed Bd.named Bd.method).1⟩
  show own_Goes p e below s (Q_Math_min Z hE n0 r) ({ frames := 0, cells := 0, slots := 0, locals := 0 } : Room).cells ({ frames := 0, cells := 0, slots := 0, locals := 0 } : Room).slots (s₁.setTop (entryFrame m #[(.long v0), (.long v2)] 4))
  rw [ef_Math_min]
  exact b_Math_min cx X0 e0 (Fr.nil n0) z v0 v2 _ hF
/-! java/lang/Math.max:(JJ)J -/
def f_Math_max (v0 : Int64) (v2 : Int64) : Option (Int64) :=
  if v0 < v2 then
    some v2
  else
    some v0
def Q_Math_max (Z : State) (hE : Heap) (n0 : Nat)  (r : Int64) (v : Option Value) (h : Heap) (L : List Loc) : Prop := v = some (.long r) ∧ Fr n0 L ∧ h = hE
def Cx_Math_max (p : Program) (s : State) (m : MethodId) (meth : Method) (c : Code) (Z : State) (a0 : Array Value) : Prop := p.tables.exec = Jvm.exec ∧ Z.Warmed39 s.vm ∧ (∀ d ∈ tables_1, d.before a0 Z = true) ∧ c.code = jdk_29_method_66_code ∧ c.maxLocals = 4 ∧ s.vm.findClass "java/lang/Math" = some m.cls ∧ meth.sig.returnType = some .long ∧ meth.locks = false ∧ meth.name = "max"
set_option maxRecDepth 65536 in
set_option maxHeartbeats 4000000 in
theorem b_Math_max {p : Program} {l : Launch} {e : Env} {s : State} {m : MethodId} {args : Array Value} {below : List Frame} {meth : Method} {c : Code} {Z : State} {a0 : Array Value} {n0 : Nat} {hE : Heap} (cx : Cx_Math_max p s m meth c Z a0) :
    ∀ {T : State} {locs : List Loc} (X : Stand p l e ({ frames := 0, cells := 0, slots := 0, locals := 0 } : Room) s m args below meth c T locs 0 0) (eT : T.heap = hE) (N : Fr n0 locs) (z : n0 ≤ hE.size) (v0 : Int64) (v2 : Int64) (r : Int64), f_Math_max v0 v2 = some r → own_Goes p e below s (Q_Math_max Z hE n0 r) 0 0 (T.setTop (mkF m 0 #[.val (.long v0), .second, .val (.long v2), .second] [])) := by
  have cx' := cx
  obtain ⟨hx, hZ, hw, hby, hml, hown, hret, hlk, hnm⟩ := cx'
  intro T locs X eT N z v0 v2 r hF
  unfold f_Math_max at hF
  refine own_Goes.via (B := T.setTop (mkF m 3 #[.val (.long v0), .second, .val (.long v2), .second] [(.int (lcmpW v0 v2))])) (fun t k => ?_) ?_
  · show Steps p.tables e below (T.setTop (mkF m 0 #[.val (.long v0), .second, .val (.long v2), .second] [])) t
    refine XS.lloadN X.here hx rfl (hb hby dMath_max_0) rfl ?_
    show Steps p.tables e below (T.setTop (mkF m 1 #[.val (.long v0), .second, .val (.long v2), .second] [(.long v0)])) t
    refine XS.lloadN X.here hx rfl (hb hby dMath_max_1) rfl ?_
    show Steps p.tables e below (T.setTop (mkF m 2 #[.val (.long v0), .second, .val (.long v2), .second] [(.long v2), (.long v0)])) t
    refine XS.lcmp X.here hx rfl (hb hby dMath_max_2) rfl ?_
    exact k
  by_cases hc3 : v0 < v2
  · rw [if_pos hc3] at hF
    refine own_Goes.via (B := T.setTop (mkF m 11 #[.val (.long v0), .second, .val (.long v2), .second] [(.long v2)])) (fun t k => ?_) ?_
    · show Steps p.tables e below (T.setTop (mkF m 3 #[.val (.long v0), .second, .val (.long v2), .second] [(.int (lcmpW v0 v2))])) t
      refine XS.ifYes X.here hx rfl (pc0 := 3) (pc' := 10) rfl (hb hby dMath_max_3) rfl (own_tltL hc3).1 (by decide) (by decide) ?_
      show Steps p.tables e below (T.setTop (mkF m 10 #[.val (.long v0), .second, .val (.long v2), .second] [])) t
      refine XS.lloadN X.here hx rfl (hb hby dMath_max_10) rfl ?_
      exact k
    obtain rfl : v2 = r := Option.some.inj hF
    exact own_retJ X hx hret hlk (hb hby dMath_max_11) eT ⟨rfl, N, rfl⟩ (by decide) (by decide)
  · rw [if_neg hc3] at hF
    refine own_Goes.via (B := T.setTop (mkF m 11 #[.val (.long v0), .second, .val (.long v2), .second] [(.long v0)])) (fun t k => ?_) ?_
    · show Steps p.tables e below (T.setTop (mkF m 3 #[.val (.long v0), .second, .val (.long v2), .second] [(.int (lcmpW v0 v2))])) t
      refine XS.ifNo X.here hx rfl (hb hby dMath_max_3) rfl (own_fltL hc3).1 ?_
      show Steps p.tables e below (T.setTop (mkF m 6 #[.val (.long v0), .second, .val (.long v2), .second] [])) t
      refine XS.lloadN X.here hx rfl (hb hby dMath_max_6) rfl ?_
      show Steps p.tables e below (T.setTop (mkF m 7 #[.val (.long v0), .second, .val (.long v2), .second] [(.long v0)])) t
      refine XS.goto X.here hx rfl (pc0 := 7) (pc' := 11) rfl (hb hby dMath_max_7) (by decide) (by decide) ?_
      exact k
    obtain rfl : v0 = r := Option.some.inj hF
    exact own_retJ X hx hret hlk (hb hby dMath_max_11) eT ⟨rfl, N, rfl⟩ (by decide) (by decide)
theorem ef_Math_max (m : MethodId) (x0 : Int64) (x1 : Int64) : entryFrame m #[(.long x0), (.long x1)] 4 = mkF m 0 #[.val (.long x0), .second, .val (.long x1), .second] [] := by first | (simp [entryFrame, mkF, argsToLocals, Value.category]; done) | rfl
set_option maxRecDepth 65536 in
set_option maxHeartbeats 4000000 in
theorem rm_Math_max (l : Launch) (Z : State) (a0 : Array Value) (hw : ∀ d ∈ tables_1, d.before a0 Z = true) (ws : List Jvm.Cond) (hE : Heap) (n0 : Nat) (z : n0 ≤ hE.size)  (v0 : Int64) (v2 : Int64) (r : Int64) (hF : (f_Math_max v0 v2) = some r) :
    MetFree l (⟨"java/lang/Math", "max", "(JJ)J"⟩ : MethodName) (head1 (Jvm.Cond.code (⟨"java/lang/Math", "max", "(JJ)J"⟩ : MethodName) jdk_29_method_66_code 4 (some .long) :: ws) ({ frames := 0, cells := 0, slots := 0, locals := 0 } : Room)) (fun a U => a = #[(.long v0), (.long v2)] ∧ Z.Warmed39 U.vm ∧ U.heap = hE) (fun _ _ _ _ _ => True) (fun _ U o U' => ∃ v L, o = .returned v ∧ (Q_Math_max Z hE n0 r) v U'.heap L ∧ FrameEnd U o U' L ({ frames := 0, cells := 0, slots := 0, locals := 0 } : Room).cells ({ frames := 0, cells := 0, slots := 0, locals := 0 } : Room).slots) := by
  refine MetFree.of_bodySF (Jvm.Free.JP.mathPlain rfl (by decide +kernel)) hisR ?_
  intro p e s m args below meth c s₁ Bd hml0 hP hK
  obtain ⟨rfl, hZ, hh⟩ := hP
  have X0 : Stand p l e ({ frames := 0, cells := 0, slots := 0, locals := 0 } : Room) s m #[(.long v0), (.long v2)] below meth c s₁ [] 0 0 := Stand.of_body Bd
  have e0 : s₁.heap = hE := by rw [← hh, Bd.state]; rfl
  have cx : Cx_Math_max p s m meth c Z a0 := ⟨Bd.exec, hZ, hw, Bd.bytes, hml0, findClass_of_methodNamed Bd.named, Bd.returns, Bd.notSynchronized, (name_of_methodNamed Bd.named Bd.method).1⟩
  show own_Goes p e below s (Q_Math_max Z hE n0 r) ({ frames := 0, cells := 0, slots := 0, locals := 0 } : Room).cells ({ frames := 0, cells := 0, slots := 0, locals := 0 } : Room).slots (s₁.setTop (entryFrame m #[(.long v0), (.long v2)] 4))
  rw [ef_Math_max]
  exact b_Math_max cx X0 e0 (Fr.nil n0) z v0 v2 _ hF
/-! com/example/expire/expire/BatchSize.took:(IJ)V -/
def f_BatchSize_took_20 (v1 : Int32) (t0 : Int64) (f_a1_rows : Int32) : Option (Int32) :=
  own_lt ((2 : Int64) * (v1.toInt64)) fun x29 =>
  own_bd (f_Math_min (20000 : Int64) x29) fun r30 =>
  own_bd (f_Math_min r30 t0) fun r31 =>
  own_bd (f_Math_max (100 : Int64) r31) fun r32 =>
  own_lt (r32.toInt32) fun x33 =>
  some x33
def f_BatchSize_took (v1 : Int32) (v2 : Int64) (f_a1_rows : Int32) : Option (Int32) :=
  if (0 : Int64) < v2 then
    own_ck (¬ v2 = (0 : Int64)) <|
    (f_BatchSize_took_20 v1 (((v1.toInt64) * (25000000 : Int64)) / v2) f_a1_rows)
  else
    (f_BatchSize_took_20 v1 (20000 : Int64) f_a1_rows)
def Q_BatchSize_took (Z : State) (hE : Heap) (n0 : Nat) (a1 : Addr) (r : Int32) (v : Option Value) (h : Heap) (L : List Loc) : Prop := v = none ∧ Fr n0 L ∧ Keep hE h [a1] ∧ Exa Z h a1 "com/example/expire/expire/BatchSize" ∧ Fld Z h a1 "com/example/expire/expire/BatchSize" "rows" "I" (.int r)
def Cx_BatchSize_took (p : Program) (s : State) (m : MethodId) (meth : Method) (c : Code) (Z : State) (a0 : Array Value) : Prop := p.tables.exec = Jvm.exec ∧ Z.Warmed39 s.vm ∧ (∀ d ∈ tables_1, d.before a0 Z = true) ∧ c.code = prog_2_method_4_code ∧ c.maxLocals = 6 ∧ s.vm.findClass "com/example/expire/expire/BatchSize" = some m.cls ∧ meth.sig.returnType = none ∧ meth.locks = false ∧ meth.name = "took"
set_option maxRecDepth 65536 in
set_option maxHeartbeats 4000000 in
theorem b_BatchSize_took_20 {p : Program} {l : Launch} {e : Env} {s : State} {m : MethodId} {args : Array Value} {below : List Frame} {meth : Method} {c : Code} {Z : State} {a0 : Array Value} {n0 : Nat} {hE : Heap} (cx : Cx_BatchSize_took p s m meth c Z a0) (a1 : Addr) :
    ∀ {T : State} {locs : List Loc} {h : Heap} (X : Stand p l e ({ frames := 1, cells := 0, slots := 0, locals := 18 } : Room) s m args below meth c T locs 0 0) (eT : T.heap = h) (N : Fr n0 locs) (K : Keep hE h [a1]) (z : n0 ≤ h.size) (v1 : Int32) (t0 : Int64) (f_a1_rows : Int32) (v2 : Int64) (d4 : Slot) (d5 : Slot) (o_d4 : One d4) (o_d5 : One d5) (E_a1 : Exa Z h a1 "com/example/expire/expire/BatchSize") (F_a1_rows : Fld Z h a1 "com/example/expire/expire/BatchSize" "rows" "I" (.int f_a1_rows)) (g_a1 : n0 ≤ a1) (r : Int32), f_BatchSize_took_20 v1 t0 f_a1_rows = some r → own_Goes p e below s (Q_BatchSize_took Z hE n0 a1 r) 0 0 (T.setTop (mkF m 20 #[.val (.ref a1), .val (.int v1), .val (.long v2), .second, d4, d5] [(.long t0)])) := by
  have cx' := cx
  obtain ⟨hx, hZ, hw, hby, hml, hown, hret, hlk, hnm⟩ := cx'
  intro T locs h X eT N K z v1 t0 f_a1_rows v2 d4 d5 o_d4 o_d5 E_a1 F_a1_rows g_a1 r hF
  unfold f_BatchSize_took_20 at hF
  refine own_Goes.via (B := T.setTop (mkF m 35 #[.val (.ref a1), .val (.int v1), .val (.long v2), .second, .val (.long t0), .second] [(.long ((2 : Int64) * (v1.toInt64))), (.long (20000 : Int64)), (.long (100 : Int64)), (.ref a1)])) (fun t k => ?_) ?_
  · show Steps p.tables e below (T.setTop (mkF m 20 #[.val (.ref a1), .val (.int v1), .val (.long v2), .second, d4, d5] [(.long t0)])) t
    refine XS.lstore X.here hx rfl (hb hby dBatchSize_took_20) rfl (l' := #[.val (.ref a1), .val (.int v1), .val (.long v2), .second, .val (.long t0), .second]) (own_st2 rfl rfl o_d4 o_d5 rfl) ?_
    show Steps p.tables e below (T.setTop (mkF m 22 #[.val (.ref a1), .val (.int v1), .val (.long v2), .second, .val (.long t0), .second] [])) t
    refine XS.aloadN X.here hx rfl (hb hby dBatchSize_took_22) rfl rfl ?_
    show Steps p.tables e below (T.setTop (mkF m 23 #[.val (.ref a1), .val (.int v1), .val (.long v2), .second, .val (.long t0), .second] [(.ref a1)])) t
    refine X.ldc2Long hx hown (mvT hZ (w17 hw)) (g := (mkF m 23 #[.val (.ref a1), .val (.int v1), .val (.long v2), .second, .val (.long t0), .second] [(.ref a1)])) rfl (hb hby dBatchSize_took_23) _ ?_
    show Steps p.tables e below (T.setTop (mkF m 26 #[.val (.ref a1), .val (.int v1), .val (.long v2), .second, .val (.long t0), .second] [(.long (100 : Int64)), (.ref a1)])) t
    refine X.ldc2Long hx hown (mvT hZ (w18 hw)) (g := (mkF m 26 #[.val (.ref a1), .val (.int v1), .val (.long v2), .second, .val (.long t0), .second] [(.long (100 : Int64)), (.ref a1)])) rfl (hb hby dBatchSize_took_26) _ ?_
    show Steps p.tables e below (T.setTop (mkF m 29 #[.val (.ref a1), .val (.int v1), .val (.long v2), .second, .val (.long t0), .second] [(.long (20000 : Int64)), (.long (100 : Int64)), (.ref a1)])) t
    refine X.ldc2Long hx hown (mvT hZ (w19 hw)) (g := (mkF m 29 #[.val (.ref a1), .val (.int v1), .val (.long v2), .second, .val (.long t0), .second] [(.long (20000 : Int64)), (.long (100 : Int64)), (.ref a1)])) rfl (hb hby dBatchSize_took_29) _ ?_
    show Steps p.tables e below (T.setTop (mkF m 32 #[.val (.ref a1), .val (.int v1), .val (.long v2), .second, .val (.long t0), .second] [(.long (2 : Int64)), (.long (20000 : Int64)), (.long (100 : Int64)), (.ref a1)])) t
    refine XS.iloadN X.here hx rfl (hb hby dBatchSize_took_32) rfl ?_
    show Steps p.tables e below (T.setTop (mkF m 33 #[.val (.ref a1), .val (.int v1), .val (.long v2), .second, .val (.long t0), .second] [(.int v1), (.long (2 : Int64)), (.long (20000 : Int64)), (.long (100 : Int64)), (.ref a1)])) t
    refine XS.i2l X.here hx rfl (hb hby dBatchSize_took_33) rfl ?_
    show Steps p.tables e below (T.setTop (mkF m 34 #[.val (.ref a1), .val (.int v1), .val (.long v2), .second, .val (.long t0), .second] [(.long (v1.toInt64)), (.long (2 : Int64)), (.long (20000 : Int64)), (.long (100 : Int64)), (.ref a1)])) t
    refine XS.lmul X.here hx rfl (hb hby dBatchSize_took_34) rfl ?_
    exact k
  obtain ⟨x29, hx29, hF⟩ := own_lt_e hF
  rw [← hx29]
  obtain ⟨r30, hr30, hF⟩ := own_bd_e hF
  obtain ⟨_, _, ⟨T30, L30, k30, n30⟩, -, X30, ⟨Lc30, hQ30, l30, y30, z30⟩, st30⟩ := Jvm.LawKit.callS X hx (y := (⟨"java/lang/Math", "min", "(JJ)J"⟩ : MethodName)) hown (mvT hZ (w20 hw)) (mvT hZ (w21 hw)) (mvT hZ (w22 hw)) (mvT hZ (w23 hw)) (by decide) (backOf (W := 3) (rm_Math_min l Z a0 hw [] h n0 z (20000 : Int64) x29 r30 hr30) hZ (w23 hw) (w22 hw) (by decide) (by decide)) (g := (mkF m 35 #[.val (.ref a1), .val (.int v1), .val (.long v2), .second, .val (.long t0), .second] [(.long x29), (.long (20000 : Int64)), (.long (100 : Int64)), (.ref a1)])) rfl (by rw [hml]; rfl) (argsL := [(.long (20000 : Int64)), (.long x29)]) (rest := [(.long (100 : Int64)), (.ref a1)]) (lenOf pd_1 rfl) rfl (by show 2 * 0 + _ ≤ _; exact Nat.le_of_eq rfl) (hb hby dBatchSize_took_35) (fun _ _ => ⟨rfl, eT, (by decide : 0 + 0 ≤ _), (by decide : 0 + 0 ≤ _)⟩)
  dsimp only [Pt.U, Pt.locs, Pt.cells, Pt.slots] at X30 l30 y30 z30 st30 hQ30
  subst l30 y30 z30
  obtain ⟨rfl, N30q, e30⟩ := hQ30
  have N30 := Fr.app N N30q
  refine own_Goes.via st30 ?_
  show own_Goes _ _ _ _ _ _ _ (T30.setTop (mkF m 38 #[.val (.ref a1), .val (.int v1), .val (.long v2), .second, .val (.long t0), .second] [(.long r30), (.long (100 : Int64)), (.ref a1)]))
  refine own_Goes.via (B := T30.setTop (mkF m 40 #[.val (.ref a1), .val (.int v1), .val (.long v2), .second, .val (.long t0), .second] [(.long t0), (.long r30), (.long (100 : Int64)), (.ref a1)])) (fun t k => ?_) ?_
  · show Steps p.tables e below (T30.setTop (mkF m 38 #[.val (.ref a1), .val (.int v1), .val (.long v2), .second, .val (.long t0), .second] [(.long r30), (.long (100 : Int64)), (.ref a1)])) t
    refine XS.lload X30.here hx rfl (hb hby dBatchSize_took_38) rfl ?_
    exact k
  obtain ⟨r31, hr31, hF⟩ := own_bd_e hF
  obtain ⟨_, _, ⟨T31, L31, k31, n31⟩, -, X31, ⟨Lc31, hQ31, l31, y31, z31⟩, st31⟩ := Jvm.LawKit.callS X30 hx (y := (⟨"java/lang/Math", "min", "(JJ)J"⟩ : MethodName)) hown (mvT hZ (w20 hw)) (mvT hZ (w21 hw)) (mvT hZ (w22 hw)) (mvT hZ (w23 hw)) (by decide) (backOf (W := 3) (rm_Math_min l Z a0 hw [] h n0 z r30 t0 r31 hr31) hZ (w23 hw) (w22 hw) (by decide) (by decide)) (g := (mkF m 40 #[.val (.ref a1), .val (.int v1), .val (.long v2), .second, .val (.long t0), .second] [(.long t0), (.long r30), (.long (100 : Int64)), (.ref a1)])) rfl (by rw [hml]; rfl) (argsL := [(.long r30), (.long t0)]) (rest := [(.long (100 : Int64)), (.ref a1)]) (lenOf pd_1 rfl) rfl (by show 2 * 0 + _ ≤ _; exact Nat.le_of_eq rfl) (hb hby dBatchSize_took_40) (fun _ _ => ⟨rfl, e30, (by decide : 0 + 0 ≤ _), (by decide : 0 + 0 ≤ _)⟩)
  dsimp only [Pt.U, Pt.locs, Pt.cells, Pt.slots] at X31 l31 y31 z31 st31 hQ31
  subst l31 y31 z31
  obtain ⟨rfl, N31q, e31⟩ := hQ31
  have N31 := Fr.app N30 N31q
  refine own_Goes.via st31 ?_
  show own_Goes _ _ _ _ _ _ _ (T31.setTop (mkF m 43 #[.val (.ref a1), .val (.int v1), .val (.long v2), .second, .val (.long t0), .second] [(.long r31), (.long (100 : Int64)), (.ref a1)]))
  obtain ⟨r32, hr32, hF⟩ := own_bd_e hF
  obtain ⟨_, _, ⟨T32, L32, k32, n32⟩, -, X32, ⟨Lc32, hQ32, l32, y32, z32⟩, st32⟩ := Jvm.LawKit.callS X31 hx (y := (⟨"java/lang/Math", "max", "(JJ)J"⟩ : MethodName)) hown (mvT hZ (w24 hw)) (mvT hZ (w25 hw)) (mvT hZ (w22 hw)) (mvT hZ (w26 hw)) (by decide) (backOf (W := 1) (rm_Math_max l Z a0 hw [] h n0 z (100 : Int64) r31 r32 hr32) hZ (w26 hw) (w22 hw) (by decide) (by decide)) (g := (mkF m 43 #[.val (.ref a1), .val (.int v1), .val (.long v2), .second, .val (.long t0), .second] [(.long r31), (.long (100 : Int64)), (.ref a1)])) rfl (by rw [hml]; rfl) (argsL := [(.long (100 : Int64)), (.long r31)]) (rest := [(.ref a1)]) (lenOf pd_1 rfl) rfl (by show 2 * 0 + _ ≤ _; exact Nat.le_of_eq rfl) (hb hby dBatchSize_took_43) (fun _ _ => ⟨rfl, e31, (by decide : 0 + 0 ≤ _), (by decide : 0 + 0 ≤ _)⟩)
  dsimp only [Pt.U, Pt.locs, Pt.cells, Pt.slots] at X32 l32 y32 z32 st32 hQ32
  subst l32 y32 z32
  obtain ⟨rfl, N32q, e32⟩ := hQ32
  have N32 := Fr.app N31 N32q
  refine own_Goes.via st32 ?_
  show own_Goes _ _ _ _ _ _ _ (T32.setTop (mkF m 46 #[.val (.ref a1), .val (.int v1), .val (.long v2), .second, .val (.long t0), .second] [(.long r32), (.ref a1)]))
  refine own_Goes.via (B := T32.setTop (mkF m 47 #[.val (.ref a1), .val (.int v1), .val (.long v2), .second, .val (.long t0), .second] [(.int (r32.toInt32)), (.ref a1)])) (fun t k => ?_) ?_
  · show Steps p.tables e below (T32.setTop (mkF m 46 #[.val (.ref a1), .val (.int v1), .val (.long v2), .second, .val (.long t0), .second] [(.long r32), (.ref a1)])) t
    refine XS.l2i X32.here hx rfl (hb hby dBatchSize_took_46) rfl ?_
    exact k
  obtain ⟨x33, hx33, hF⟩ := own_lt_e hF
  rw [← hx33]
  obtain ⟨T34, h34, X34, e34, W34, st34⟩ := putF X32 hx hZ hown (host := "") (Or.inl (w9 hw)) Via.refl e32 F_a1_rows E_a1 (Or.inl (w10 hw)) (w1 hw) (ty := .int) (by decide) rfl rfl (g := (mkF m 47 #[.val (.ref a1), .val (.int v1), .val (.long v2), .second, .val (.long t0), .second] [(.int x33), (.ref a1)])) rfl rfl (hb hby dBatchSize_took_47)
  refine own_Goes.via st34 ?_
  have E34_a1 := E_a1.wr W34
  have F34_a1_rows := F_a1_rows.same W34
  have z34 := Nat.le_trans z (Keep.of_wr W34).1
  have K34_ := K.wr W34 (Or.inl (List.mem_of_getElem? (i := 0) rfl))
  have N34 := Fr.snoc X34 N32 g_a1
  show own_Goes _ _ _ _ _ _ _ (T34.setTop (mkF m 50 #[.val (.ref a1), .val (.int v1), .val (.long v2), .second, .val (.long t0), .second] []))
  obtain rfl : x33 = r := Option.some.inj hF
  exact own_retV X34 hx hret hlk (hb hby dBatchSize_took_50) e34 ⟨rfl, N34, K34_, E34_a1, F34_a1_rows⟩ (by decide) (by decide)
set_option maxRecDepth 65536 in
set_option maxHeartbeats 4000000 in
theorem b_BatchSize_took {p : Program} {l : Launch} {e : Env} {s : State} {m : MethodId} {args : Array Value} {below : List Frame} {meth : Method} {c : Code} {Z : State} {a0 : Array Value} {n0 : Nat} {hE : Heap} (cx : Cx_BatchSize_took p s m meth c Z a0) (a1 : Addr) :
    ∀ {T : State} {locs : List Loc} {h : Heap} (X : Stand p l e ({ frames := 1, cells := 0, slots := 0, locals := 18 } : Room) s m args below meth c T locs 0 0) (eT : T.heap = h) (N : Fr n0 locs) (K : Keep hE h [a1]) (z : n0 ≤ h.size) (v1 : Int32) (v2 : Int64) (f_a1_rows : Int32) (E_a1 : Exa Z h a1 "com/example/expire/expire/BatchSize") (F_a1_rows : Fld Z h a1 "com/example/expire/expire/BatchSize" "rows" "I" (.int f_a1_rows)) (g_a1 : n0 ≤ a1) (r : Int32), f_BatchSize_took v1 v2 f_a1_rows = some r → own_Goes p e below s (Q_BatchSize_took Z hE n0 a1 r) 0 0 (T.setTop (mkF m 0 #[.val (.ref a1), .val (.int v1), .val (.long v2), .second, .unset, .unset] [])) := by
  have cx' := cx
  obtain ⟨hx, hZ, hw, hby, hml, hown, hret, hlk, hnm⟩ := cx'
  intro T locs h X eT N K z v1 v2 f_a1_rows E_a1 F_a1_rows g_a1 r hF
  unfold f_BatchSize_took at hF
  refine own_Goes.via (B := T.setTop (mkF m 3 #[.val (.ref a1), .val (.int v1), .val (.long v2), .second, .unset, .unset] [(.int (lcmpW v2 (0 : Int64)))])) (fun t k => ?_) ?_
  · show Steps p.tables e below (T.setTop (mkF m 0 #[.val (.ref a1), .val (.int v1), .val (.long v2), .second, .unset, .unset] [])) t
    refine XS.lloadN X.here hx rfl (hb hby dBatchSize_took_0) rfl ?_
    show Steps p.tables e below (T.setTop (mkF m 1 #[.val (.ref a1), .val (.int v1), .val (.long v2), .second, .unset, .unset] [(.long v2)])) t
    refine XS.lconst X.here hx rfl (hb hby dBatchSize_took_1) ?_
    show Steps p.tables e below (T.setTop (mkF m 2 #[.val (.ref a1), .val (.int v1), .val (.long v2), .second, .unset, .unset] [(.long (0 : Int64)), (.long v2)])) t
    refine XS.lcmp X.here hx rfl (hb hby dBatchSize_took_2) rfl ?_
    exact k
  by_cases hc3 : (0 : Int64) < v2
  · rw [if_pos hc3] at hF
    refine own_Goes.via (B := T.setTop (mkF m 13 #[.val (.ref a1), .val (.int v1), .val (.long v2), .second, .unset, .unset] [(.long v2), (.long ((v1.toInt64) * (25000000 : Int64)))])) (fun t k => ?_) ?_
    · show Steps p.tables e below (T.setTop (mkF m 3 #[.val (.ref a1), .val (.int v1), .val (.long v2), .second, .unset, .unset] [(.int (lcmpW v2 (0 : Int64)))])) t
      refine XS.ifNo X.here hx rfl (hb hby dBatchSize_took_3) rfl (own_tgtL hc3).2 ?_
      show Steps p.tables e below (T.setTop (mkF m 6 #[.val (.ref a1), .val (.int v1), .val (.long v2), .second, .unset, .unset] [])) t
      refine XS.iloadN X.here hx rfl (hb hby dBatchSize_took_6) rfl ?_
      show Steps p.tables e below (T.setTop (mkF m 7 #[.val (.ref a1), .val (.int v1), .val (.long v2), .second, .unset, .unset] [(.int v1)])) t
      refine XS.i2l X.here hx rfl (hb hby dBatchSize_took_7) rfl ?_
      show Steps p.tables e below (T.setTop (mkF m 8 #[.val (.ref a1), .val (.int v1), .val (.long v2), .second, .unset, .unset] [(.long (v1.toInt64))])) t
      refine X.ldc2Long hx hown (mvT hZ (w16 hw)) (g := (mkF m 8 #[.val (.ref a1), .val (.int v1), .val (.long v2), .second, .unset, .unset] [(.long (v1.toInt64))])) rfl (hb hby dBatchSize_took_8) _ ?_
      show Steps p.tables e below (T.setTop (mkF m 11 #[.val (.ref a1), .val (.int v1), .val (.long v2), .second, .unset, .unset] [(.long (25000000 : Int64)), (.long (v1.toInt64))])) t
      refine XS.lmul X.here hx rfl (hb hby dBatchSize_took_11) rfl ?_
      show Steps p.tables e below (T.setTop (mkF m 12 #[.val (.ref a1), .val (.int v1), .val (.long v2), .second, .unset, .unset] [(.long ((v1.toInt64) * (25000000 : Int64)))])) t
      refine XS.lloadN X.here hx rfl (hb hby dBatchSize_took_12) rfl ?_
      exact k
    obtain ⟨hz13, hF⟩ := own_ck_e hF
    refine own_Goes.via (B := T.setTop (mkF m 20 #[.val (.ref a1), .val (.int v1), .val (.long v2), .second, .unset, .unset] [(.long (((v1.toInt64) * (25000000 : Int64)) / v2))])) (fun t k => ?_) ?_
    · show Steps p.tables e below (T.setTop (mkF m 13 #[.val (.ref a1), .val (.int v1), .val (.long v2), .second, .unset, .unset] [(.long v2), (.long ((v1.toInt64) * (25000000 : Int64)))])) t
      refine XS.ldiv X.here hx rfl (hb hby dBatchSize_took_13) rfl hz13 ?_
      show Steps p.tables e below (T.setTop (mkF m 14 #[.val (.ref a1), .val (.int v1), .val (.long v2), .second, .unset, .unset] [(.long (((v1.toInt64) * (25000000 : Int64)) / v2))])) t
      refine XS.goto X.here hx rfl (pc0 := 14) (pc' := 20) rfl (hb hby dBatchSize_took_14) (by decide) (by decide) ?_
      exact k
    exact b_BatchSize_took_20 cx a1 X eT N K z v1 (((v1.toInt64) * (25000000 : Int64)) / v2) f_a1_rows v2 (.unset) (.unset) One.u One.u E_a1 F_a1_rows g_a1 _ hF
  · rw [if_neg hc3] at hF
    refine own_Goes.via (B := T.setTop (mkF m 20 #[.val (.ref a1), .val (.int v1), .val (.long v2), .second, .unset, .unset] [(.long (20000 : Int64))])) (fun t k => ?_) ?_
    · show Steps p.tables e below (T.setTop (mkF m 3 #[.val (.ref a1), .val (.int v1), .val (.long v2), .second, .unset, .unset] [(.int (lcmpW v2 (0 : Int64)))])) t
      refine XS.ifYes X.here hx rfl (pc0 := 3) (pc' := 17) rfl (hb hby dBatchSize_took_3) rfl (own_fgtL hc3).2 (by decide) (by decide) ?_
      show Steps p.tables e below (T.setTop (mkF m 17 #[.val (.ref a1), .val (.int v1), .val (.long v2), .second, .unset, .unset] [])) t
      refine X.ldc2Long hx hown (mvT hZ (w18 hw)) (g := (mkF m 17 #[.val (.ref a1), .val (.int v1), .val (.long v2), .second, .unset, .unset] [])) rfl (hb hby dBatchSize_took_17) _ ?_
      exact k
    exact b_BatchSize_took_20 cx a1 X eT N K z v1 (20000 : Int64) f_a1_rows v2 (.unset) (.unset) One.u One.u E_a1 F_a1_rows g_a1 _ hF
theorem ef_BatchSize_took (m : MethodId) (x0 : Addr) (x1 : Int32) (x2 : Int64) : entryFrame m #[(.ref x0), (.int x1), (.long x2)] 6 = mkF m 0 #[.val (.ref x0), .val (.int x1), .val (.long x2), .second, .unset, .unset] [] := by first | (simp [entryFrame, mkF, argsToLocals, Value.category]; done) | rfl
set_option maxRecDepth 65536 in
set_option maxHeartbeats 4000000 in
theorem rm_BatchSize_took (l : Launch) (Z : State) (a0 : Array Value) (hw : ∀ d ∈ tables_1, d.before a0 Z = true) (ws : List Jvm.Cond) (hE : Heap) (n0 : Nat) (z : n0 ≤ hE.size) (a1 : Addr) (v1 : Int32) (v2 : Int64) (f_a1_rows : Int32) (E_a1 : Exa Z hE a1 "com/example/expire/expire/BatchSize") (F_a1_rows : Fld Z hE a1 "com/example/expire/expire/BatchSize" "rows" "I" (.int f_a1_rows)) (g_a1 : n0 ≤ a1) (r : Int32) (hF : (f_BatchSize_took v1 v2 f_a1_rows) = some r) :
    MetFree l (⟨"com/example/expire/expire/BatchSize", "took", "(IJ)V"⟩ : MethodName) (head1 (Jvm.Cond.code (⟨"com/example/expire/expire/BatchSize", "took", "(IJ)V"⟩ : MethodName) prog_2_method_4_code 6 none :: ws) ({ frames := 1, cells := 0, slots := 0, locals := 18 } : Room)) (fun a U => a = #[(.ref a1), (.int v1), (.long v2)] ∧ Z.Warmed39 U.vm ∧ U.heap = hE) (fun _ _ _ _ _ => True) (fun _ U o U' => ∃ v L, o = .returned v ∧ (Q_BatchSize_took Z hE n0 a1 r) v U'.heap L ∧ FrameEnd U o U' L ({ frames := 1, cells := 0, slots := 0, locals := 18 } : Room).cells ({ frames := 1, cells := 0, slots := 0, locals := 18 } : Room).slots) := by
  refine MetFree.of_bodySF (plainFor_of_name pn_com_example_expire_expire_BatchSize) hisR ?_
  intro p e s m args below meth c s₁ Bd hml0 hP hK
  obtain ⟨rfl, hZ, hh⟩ := hP
  have X0 : Stand p l e ({ frames := 1, cells := 0, slots := 0, locals := 18 } : Room) s m #[(.ref a1), (.int v1), (.long v2)] below meth c s₁ [] 0 0 := Stand.of_body Bd
  have e0 : s₁.heap = hE := by rw [← hh, Bd.state]; rfl
  have cx : Cx_BatchSize_took p s m meth c Z a0 := ⟨Bd.exec, hZ, hw, Bd.bytes, hml0, findClass_of_methodNamed Bd.named, Bd.returns, Bd.notSynchronized, (name_of_methodNamed Bd.named Bd.method).1⟩
  show own_Goes p e below s (Q_BatchSize_took Z hE n0 a1 r) ({ frames := 1, cells := 0, slots := 0, locals := 18 } : Room).cells ({ frames := 1, cells := 0, slots := 0, locals := 18 } : Room).slots (s₁.setTop (entryFrame m #[(.ref a1), (.int v1), (.long v2)] 6))
  rw [ef_BatchSize_took]
  exact b_BatchSize_took cx a1 X0 e0 (Fr.nil n0) (Keep.refl _ _) z v1 v2 f_a1_rows E_a1 F_a1_rows g_a1 _ hF
/-! com/example/expire/expire/BatchSize.rows:()I -/
def f_BatchSize_rows (f_a1_rows : Int32) : Option (Int32) :=
  some f_a1_rows
def Q_BatchSize_rows (Z : State) (hE : Heap) (n0 : Nat) (a1 : Addr) (r : Int32) (v : Option Value) (h : Heap) (L : List Loc) : Prop := v = some (.int r) ∧ Fr n0 L ∧ h = hE
def Cx_BatchSize_rows (p : Program) (s : State) (m : MethodId) (meth : Method) (c : Code) (Z : State) (a0 : Array Value) : Prop := p.tables.exec = Jvm.exec ∧ Z.Warmed39 s.vm ∧ (∀ d ∈ tables_1, d.before a0 Z = true) ∧ c.code = prog_2_method_2_code ∧ c.maxLocals = 1 ∧ s.vm.findClass "com/example/expire/expire/BatchSize" = some m.cls ∧ meth.sig.returnType = some .int ∧ meth.locks = false ∧ meth.name = "rows"
set_option maxRecDepth 65536 in
set_option maxHeartbeats 4000000 in
theorem b_BatchSize_rows {p : Program} {l : Launch} {e : Env} {s : State} {m : MethodId} {args : Array Value} {below : List Frame} {meth : Method} {c : Code} {Z : State} {a0 : Array Value} {n0 : Nat} {hE : Heap} (cx : Cx_BatchSize_rows p s m meth c Z a0) (a1 : Addr) :
    ∀ {T : State} {locs : List Loc} (X : Stand p l e ({ frames := 0, cells := 0, slots := 0, locals := 0 } : Room) s m args below meth c T locs 0 0) (eT : T.heap = hE) (N : Fr n0 locs) (z : n0 ≤ hE.size) (f_a1_rows : Int32) (E_a1 : Exa Z hE a1 "com/example/expire/expire/BatchSize") (F_a1_rows : Fld Z hE a1 "com/example/expire/expire/BatchSize" "rows" "I" (.int f_a1_rows)) (g_a1 : n0 ≤ a1) (r : Int32), f_BatchSize_rows f_a1_rows = some r → own_Goes p e below s (Q_BatchSize_rows Z hE n0 a1 r) 0 0 (T.setTop (mkF m 0 #[.val (.ref a1)] [])) := by
  have cx' := cx
  obtain ⟨hx, hZ, hw, hby, hml, hown, hret, hlk, hnm⟩ := cx'
  intro T locs X eT N z f_a1_rows E_a1 F_a1_rows g_a1 r hF
  unfold f_BatchSize_rows at hF
  refine own_Goes.via (B := T.setTop (mkF m 1 #[.val (.ref a1)] [(.ref a1)])) (fun t k => ?_) ?_
  · show Steps p.tables e below (T.setTop (mkF m 0 #[.val (.ref a1)] [])) t
    refine XS.aloadN X.here hx rfl (hb hby dBatchSize_rows_0) rfl rfl ?_
    exact k
  obtain ⟨T40, X40, e40, st40⟩ := getF X hx hZ hown (host := "") (Or.inl (w9 hw)) Via.refl eT F_a1_rows (g := (mkF m 1 #[.val (.ref a1)] [(.ref a1)])) rfl rfl (hb hby dBatchSize_rows_1)
  refine own_Goes.via st40 ?_
  show own_Goes _ _ _ _ _ _ _ (T40.setTop (mkF m 4 #[.val (.ref a1)] [(.int f_a1_rows)]))
  obtain rfl : f_a1_rows = r := Option.some.inj hF
  exact own_retI X40 hx hret hlk (hb hby dBatchSize_rows_4) e40 ⟨rfl, N, rfl⟩ (by decide) (by decide)
theorem ef_BatchSize_rows (m : MethodId) (x0 : Addr) : entryFrame m #[(.ref x0)] 1 = mkF m 0 #[.val (.ref x0)] [] := by first | (simp [entryFrame, mkF, argsToLocals, Value.category]; done) | rfl
set_option maxRecDepth 65536 in
set_option maxHeartbeats 4000000 in
theorem rm_BatchSize_rows (l : Launch) (Z : State) (a0 : Array Value) (hw : ∀ d ∈ tables_1, d.before a0 Z = true) (ws : List Jvm.Cond) (hE : Heap) (n0 : Nat) (z : n0 ≤ hE.size) (a1 : Addr) (f_a1_rows : Int32) (E_a1 : Exa Z hE a1 "com/example/expire/expire/BatchSize") (F_a1_rows : Fld Z hE a1 "com/example/expire/expire/BatchSize" "rows" "I" (.int f_a1_rows)) (g_a1 : n0 ≤ a1) (r : Int32) (hF : (f_BatchSize_rows f_a1_rows) = some r) :
    MetFree l (⟨"com/example/expire/expire/BatchSize", "rows", "()I"⟩ : MethodName) (head1 (Jvm.Cond.code (⟨"com/example/expire/expire/BatchSize", "rows", "()I"⟩ : MethodName) prog_2_method_2_code 1 (some .int) :: ws) ({ frames := 0, cells := 0, slots := 0, locals := 0 } : Room)) (fun a U => a = #[(.ref a1)] ∧ Z.Warmed39 U.vm ∧ U.heap = hE) (fun _ _ _ _ _ => True) (fun _ U o U' => ∃ v L, o = .returned v ∧ (Q_BatchSize_rows Z hE n0 a1 r) v U'.heap L ∧ FrameEnd U o U' L ({ frames := 0, cells := 0, slots := 0, locals := 0 } : Room).cells ({ frames := 0, cells := 0, slots := 0, locals := 0 } : Room).slots) := by
  refine MetFree.of_bodySF (plainFor_of_name pn_com_example_expire_expire_BatchSize) hisR ?_
  intro p e s m args below meth c s₁ Bd hml0 hP hK
  obtain ⟨rfl, hZ, hh⟩ := hP
  have X0 : Stand p l e ({ frames := 0, cells := 0, slots := 0, locals := 0 } : Room) s m #[(.ref a1)] below meth c s₁ [] 0 0 := Stand.of_body Bd
  have e0 : s₁.heap = hE := by rw [← hh, Bd.state]; rfl
  have cx : Cx_BatchSize_rows p s m meth c Z a0 := ⟨Bd.exec, hZ, hw, Bd.bytes, hml0, findClass_of_methodNamed Bd.named, Bd.returns, Bd.notSynchronized, (name_of_methodNamed Bd.named Bd.method).1⟩
  show own_Goes p e below s (Q_BatchSize_rows Z hE n0 a1 r) ({ frames := 0, cells := 0, slots := 0, locals := 0 } : Room).cells ({ frames := 0, cells := 0, slots := 0, locals := 0 } : Room).slots (s₁.setTop (entryFrame m #[(.ref a1)] 1))
  rw [ef_BatchSize_rows]
  exact b_BatchSize_rows cx a1 X0 e0 (Fr.nil n0) z f_a1_rows E_a1 F_a1_rows g_a1 _ hF
/-! com/example/expire/expire/BatchSizeTookPinLaw.paced:(JJJ)Z -/
def f_BatchSizeTookPinLaw_paced (v0 : Int64) (v2 : Int64) (v4 : Int64) : Option (Int32) :=
  own_ck (¬ v0 = (0 : Int64)) <|
  if (v4 / v0) < v2 then
    some (0 : Int32)
  else
    some (1 : Int32)
def Q_BatchSizeTookPinLaw_paced (Z : State) (hE : Heap) (n0 : Nat)  (r : Int32) (v : Option Value) (h : Heap) (L : List Loc) : Prop := v = some (.int r) ∧ Fr n0 L ∧ h = hE
def Cx_BatchSizeTookPinLaw_paced (p : Program) (s : State) (m : MethodId) (meth : Method) (c : Code) (Z : State) (a0 : Array Value) : Prop := p.tables.exec = Jvm.exec ∧ Z.Warmed39 s.vm ∧ (∀ d ∈ tables_1, d.before a0 Z = true) ∧ c.code = method_2_code ∧ c.maxLocals = 6 ∧ s.vm.findClass "com/example/expire/expire/BatchSizeTookPinLaw" = some m.cls ∧ meth.sig.returnType = some .boolean ∧ meth.locks = false ∧ meth.name = "paced"
set_option maxRecDepth 65536 in
set_option maxHeartbeats 4000000 in
theorem b_BatchSizeTookPinLaw_paced {p : Program} {l : Launch} {e : Env} {s : State} {m : MethodId} {args : Array Value} {below : List Frame} {meth : Method} {c : Code} {Z : State} {a0 : Array Value} {n0 : Nat} {hE : Heap} (cx : Cx_BatchSizeTookPinLaw_paced p s m meth c Z a0) :
    ∀ {T : State} {locs : List Loc} (X : Stand p l e ({ frames := 0, cells := 0, slots := 0, locals := 0 } : Room) s m args below meth c T locs 0 0) (eT : T.heap = hE) (N : Fr n0 locs) (z : n0 ≤ hE.size) (v0 : Int64) (v2 : Int64) (v4 : Int64) (r : Int32), f_BatchSizeTookPinLaw_paced v0 v2 v4 = some r → own_Goes p e below s (Q_BatchSizeTookPinLaw_paced Z hE n0 r) 0 0 (T.setTop (mkF m 0 #[.val (.long v0), .second, .val (.long v2), .second, .val (.long v4), .second] [])) := by
  have cx' := cx
  obtain ⟨hx, hZ, hw, hby, hml, hown, hret, hlk, hnm⟩ := cx'
  intro T locs X eT N z v0 v2 v4 r hF
  unfold f_BatchSizeTookPinLaw_paced at hF
  refine own_Goes.via (B := T.setTop (mkF m 4 #[.val (.long v0), .second, .val (.long v2), .second, .val (.long v4), .second] [(.long v0), (.long v4), (.long v2)])) (fun t k => ?_) ?_
  · show Steps p.tables e below (T.setTop (mkF m 0 #[.val (.long v0), .second, .val (.long v2), .second, .val (.long v4), .second] [])) t
    refine XS.lloadN X.here hx rfl (hb hby dBatchSizeTookPinLaw_paced_0) rfl ?_
    show Steps p.tables e below (T.setTop (mkF m 1 #[.val (.long v0), .second, .val (.long v2), .second, .val (.long v4), .second] [(.long v2)])) t
    refine XS.lload X.here hx rfl (hb hby dBatchSizeTookPinLaw_paced_1) rfl ?_
    show Steps p.tables e below (T.setTop (mkF m 3 #[.val (.long v0), .second, .val (.long v2), .second, .val (.long v4), .second] [(.long v4), (.long v2)])) t
    refine XS.lloadN X.here hx rfl (hb hby dBatchSizeTookPinLaw_paced_3) rfl ?_
    exact k
  obtain ⟨hz4, hF⟩ := own_ck_e hF
  refine own_Goes.via (B := T.setTop (mkF m 6 #[.val (.long v0), .second, .val (.long v2), .second, .val (.long v4), .second] [(.int (lcmpW v2 (v4 / v0)))])) (fun t k => ?_) ?_
  · show Steps p.tables e below (T.setTop (mkF m 4 #[.val (.long v0), .second, .val (.long v2), .second, .val (.long v4), .second] [(.long v0), (.long v4), (.long v2)])) t
    refine XS.ldiv X.here hx rfl (hb hby dBatchSizeTookPinLaw_paced_4) rfl hz4 ?_
    show Steps p.tables e below (T.setTop (mkF m 5 #[.val (.long v0), .second, .val (.long v2), .second, .val (.long v4), .second] [(.long (v4 / v0)), (.long v2)])) t
    refine XS.lcmp X.here hx rfl (hb hby dBatchSizeTookPinLaw_paced_5) rfl ?_
    exact k
  by_cases hc6 : (v4 / v0) < v2
  · rw [if_pos hc6] at hF
    refine own_Goes.via (B := T.setTop (mkF m 14 #[.val (.long v0), .second, .val (.long v2), .second, .val (.long v4), .second] [(.int (0 : Int32))])) (fun t k => ?_) ?_
    · show Steps p.tables e below (T.setTop (mkF m 6 #[.val (.long v0), .second, .val (.long v2), .second, .val (.long v4), .second] [(.int (lcmpW v2 (v4 / v0)))])) t
      refine XS.ifYes X.here hx rfl (pc0 := 6) (pc' := 13) rfl (hb hby dBatchSizeTookPinLaw_paced_6) rfl (own_tgtL hc6).1 (by decide) (by decide) ?_
      show Steps p.tables e below (T.setTop (mkF m 13 #[.val (.long v0), .second, .val (.long v2), .second, .val (.long v4), .second] [])) t
      refine XS.iconst X.here hx rfl (hb hby dBatchSizeTookPinLaw_paced_13) ?_
      exact k
    obtain rfl : (0 : Int32) = r := Option.some.inj hF
    exact own_retN X hx (t := .boolean) hret hlk (by simp) (hb hby dBatchSizeTookPinLaw_paced_14) eT (v := (0 : Int32)) (by decide) ⟨rfl, N, rfl⟩ (by decide) (by decide)
  · rw [if_neg hc6] at hF
    refine own_Goes.via (B := T.setTop (mkF m 14 #[.val (.long v0), .second, .val (.long v2), .second, .val (.long v4), .second] [(.int (1 : Int32))])) (fun t k => ?_) ?_
    · show Steps p.tables e below (T.setTop (mkF m 6 #[.val (.long v0), .second, .val (.long v2), .second, .val (.long v4), .second] [(.int (lcmpW v2 (v4 / v0)))])) t
      refine XS.ifNo X.here hx rfl (hb hby dBatchSizeTookPinLaw_paced_6) rfl (own_fgtL hc6).1 ?_
      show Steps p.tables e below (T.setTop (mkF m 9 #[.val (.long v0), .second, .val (.long v2), .second, .val (.long v4), .second] [])) t
      refine XS.iconst X.here hx rfl (hb hby dBatchSizeTookPinLaw_paced_9) ?_
      show Steps p.tables e below (T.setTop (mkF m 10 #[.val (.long v0), .second, .val (.long v2), .second, .val (.long v4), .second] [(.int (1 : Int32))])) t
      refine XS.goto X.here hx rfl (pc0 := 10) (pc' := 14) rfl (hb hby dBatchSizeTookPinLaw_paced_10) (by decide) (by decide) ?_
      exact k
    obtain rfl : (1 : Int32) = r := Option.some.inj hF
    exact own_retN X hx (t := .boolean) hret hlk (by simp) (hb hby dBatchSizeTookPinLaw_paced_14) eT (v := (1 : Int32)) (by decide) ⟨rfl, N, rfl⟩ (by decide) (by decide)
theorem ef_BatchSizeTookPinLaw_paced (m : MethodId) (x0 : Int64) (x1 : Int64) (x2 : Int64) : entryFrame m #[(.long x0), (.long x1), (.long x2)] 6 = mkF m 0 #[.val (.long x0), .second, .val (.long x1), .second, .val (.long x2), .second] [] := by first | (simp [entryFrame, mkF, argsToLocals, Value.category]; done) | rfl
set_option maxRecDepth 65536 in
set_option maxHeartbeats 4000000 in
theorem rm_BatchSizeTookPinLaw_paced (l : Launch) (Z : State) (a0 : Array Value) (hw : ∀ d ∈ tables_1, d.before a0 Z = true) (ws : List Jvm.Cond) (hE : Heap) (n0 : Nat) (z : n0 ≤ hE.size)  (v0 : Int64) (v2 : Int64) (v4 : Int64) (r : Int32) (hF : (f_BatchSizeTookPinLaw_paced v0 v2 v4) = some r) :
    MetFree l (⟨"com/example/expire/expire/BatchSizeTookPinLaw", "paced", "(JJJ)Z"⟩ : MethodName) (head1 (Jvm.Cond.code (⟨"com/example/expire/expire/BatchSizeTookPinLaw", "paced", "(JJJ)Z"⟩ : MethodName) method_2_code 6 (some .boolean) :: ws) ({ frames := 0, cells := 0, slots := 0, locals := 0 } : Room)) (fun a U => a = #[(.long v0), (.long v2), (.long v4)] ∧ Z.Warmed39 U.vm ∧ U.heap = hE) (fun _ _ _ _ _ => True) (fun _ U o U' => ∃ v L, o = .returned v ∧ (Q_BatchSizeTookPinLaw_paced Z hE n0 r) v U'.heap L ∧ FrameEnd U o U' L ({ frames := 0, cells := 0, slots := 0, locals := 0 } : Room).cells ({ frames := 0, cells := 0, slots := 0, locals := 0 } : Room).slots) := by
  refine MetFree.of_bodySF (plainFor_of_name pn_com_example_expire_expire_BatchSizeTookPinLaw) hisR ?_
  intro p e s m args below meth c s₁ Bd hml0 hP hK
  obtain ⟨rfl, hZ, hh⟩ := hP
  have X0 : Stand p l e ({ frames := 0, cells := 0, slots := 0, locals := 0 } : Room) s m #[(.long v0), (.long v2), (.long v4)] below meth c s₁ [] 0 0 := Stand.of_body Bd
  have e0 : s₁.heap = hE := by rw [← hh, Bd.state]; rfl
  have cx : Cx_BatchSizeTookPinLaw_paced p s m meth c Z a0 := ⟨Bd.exec, hZ, hw, Bd.bytes, hml0, findClass_of_methodNamed Bd.named, Bd.returns, Bd.notSynchronized, (name_of_methodNamed Bd.named Bd.method).1⟩
  show own_Goes p e below s (Q_BatchSizeTookPinLaw_paced Z hE n0 r) ({ frames := 0, cells := 0, slots := 0, locals := 0 } : Room).cells ({ frames := 0, cells := 0, slots := 0, locals := 0 } : Room).slots (s₁.setTop (entryFrame m #[(.long v0), (.long v2), (.long v4)] 6))
  rw [ef_BatchSizeTookPinLaw_paced]
  exact b_BatchSizeTookPinLaw_paced cx X0 e0 (Fr.nil n0) z v0 v2 v4 _ hF
/-! com/example/expire/expire/BatchSizeTookPinLaw.law:(IJIJ)Z -/
def f_law (v0 : Int32) (v1 : Int64) (v3 : Int32) (v4 : Int64) : Option (Int32) :=
  own_bd (f_BatchSize_mk (0 : Int32)) fun r80 =>
  own_bd (f_BatchSize_took v0 v1 r80) fun r81 =>
  own_bd (f_BatchSize_took v3 v4 r81) fun r82 =>
  own_bd (f_BatchSize_rows r82) fun r83 =>
  if r83 < (100 : Int32) then
    some (0 : Int32)
  else
    if (20000 : Int32) < r83 then
      some (0 : Int32)
    else
      own_lt ((2 : Int64) * (v3.toInt64)) fun x84 =>
      own_bd (f_Math_min (20000 : Int64) x84) fun r85 =>
      if (0 : Int64) < v4 then
        if (100 : Int64) < r85 then
          own_lt ((v3.toInt64) * (25000000 : Int64)) fun x86 =>
          if r83 = (100 : Int32) then
            own_bd (f_BatchSizeTookPinLaw_paced (101 : Int64) v4 x86) fun r87 =>
            if r87 = (0 : Int32) then
              some (1 : Int32)
            else
              some (0 : Int32)
          else
            if r85 < (r83.toInt64) then
              some (0 : Int32)
            else
              own_lt (r83.toInt64) fun x88 =>
              own_bd (f_BatchSizeTookPinLaw_paced x88 v4 x86) fun r89 =>
              if r89 = (0 : Int32) then
                some (0 : Int32)
              else
                if (r83.toInt64) = r85 then
                  some (1 : Int32)
                else
                  own_lt ((r83.toInt64) + (1 : Int64)) fun x90 =>
                  own_bd (f_BatchSizeTookPinLaw_paced x90 v4 x86) fun r91 =>
                  if r91 = (0 : Int32) then
                    some (1 : Int32)
                  else
                    some (0 : Int32)
        else
          if r83 = (100 : Int32) then
            some (1 : Int32)
          else
            some (0 : Int32)
      else
        own_bd (f_Math_max (100 : Int64) r85) fun r92 =>
        if (r83.toInt64) = r92 then
          some (1 : Int32)
        else
          some (0 : Int32)
def Q_law (Z : State) (hE : Heap) (n0 : Nat)  (r : Int32) (v : Option Value) (h : Heap) (L : List Loc) : Prop := v = some (.int r) ∧ Fr n0 L ∧ Keep hE h []
def Cx_law (p : Program) (s : State) (m : MethodId) (meth : Method) (c : Code) (Z : State) (a0 : Array Value) : Prop := p.tables.exec = Jvm.exec ∧ Z.Warmed39 s.vm ∧ (∀ d ∈ tables_1, d.before a0 Z = true) ∧ c.code = code ∧ c.maxLocals = 12 ∧ s.vm.findClass "com/example/expire/expire/BatchSizeTookPinLaw" = some m.cls ∧ meth.sig.returnType = some .boolean ∧ meth.locks = false ∧ meth.name = "law"
set_option maxRecDepth 65536 in
set_option maxHeartbeats 4000000 in
theorem b_law {p : Program} {l : Launch} {e : Env} {s : State} {m : MethodId} {args : Array Value} {below : List Frame} {meth : Method} {c : Code} {Z : State} {a0 : Array Value} {n0 : Nat} {hE : Heap} (cx : Cx_law p s m meth c Z a0) :
    ∀ {T : State} {locs : List Loc} {h : Heap} (X : Stand p l e room_1 s m args below meth c T locs 0 0) (eT : T.heap = h) (N : Fr n0 locs) (K : Keep hE h []) (z : n0 ≤ h.size) (v0 : Int32) (v1 : Int64) (v3 : Int32) (v4 : Int64) (r : Int32), f_law v0 v1 v3 v4 = some r → own_Goes p e below s (Q_law Z hE n0 r) 1 3 (T.setTop (mkF m 0 #[.val (.int v0), .val (.long v1), .second, .val (.int v3), .val (.long v4), .second, .unset, .unset, .unset, .unset, .unset, .unset] [])) := by
  have cx' := cx
  obtain ⟨hx, hZ, hw, hby, hml, hown, hret, hlk, hnm⟩ := cx'
  intro T locs h X eT N K z v0 v1 v3 v4 r hF
  unfold f_law at hF
  obtain ⟨T79, h79, X79, e79, E79, A79, D79, -, st79⟩ := newO X hx hZ hown (w0 hw) (w1 hw) (w2 hw) eT (g := (mkF m 0 #[.val (.int v0), .val (.long v1), .second, .val (.int v3), .val (.long v4), .second, .unset, .unset, .unset, .unset, .unset, .unset] [])) rfl (hb hby at_0) (by decide) (by decide)
  obtain ⟨c79, q79⟩ : ∃ z, z = h.size := ⟨_, rfl⟩
  rw [← q79] at A79 D79 st79
  have F79_c79_rows : Fld Z h79 c79 "com/example/expire/expire/BatchSize" "rows" "I" (.int (0 : Int32)) := D79 (Or.inl (w10 hw)) (ty := .int) (by decide)
  have g79_c79 : n0 ≤ c79 := Nat.le_trans z (Nat.le_of_eq q79.symm)
  have nE79_c79 : hE.size ≤ c79 := Nat.le_trans K.1 (Nat.le_of_eq q79.symm)
  have z79 := Nat.le_trans z E79.1
  have K79_ := K.ext E79
  refine own_Goes.via st79 ?_
  show own_Goes _ _ _ _ _ _ _ (T79.setTop (mkF m 3 #[.val (.int v0), .val (.long v1), .second, .val (.int v3), .val (.long v4), .second, .unset, .unset, .unset, .unset, .unset, .unset] [(.ref c79)]))
  refine own_Goes.via (B := T79.setTop (mkF m 4 #[.val (.int v0), .val (.long v1), .second, .val (.int v3), .val (.long v4), .second, .unset, .unset, .unset, .unset, .unset, .unset] [(.ref c79), (.ref c79)])) (fun t k => ?_) ?_
  · show Steps p.tables e below (T79.setTop (mkF m 3 #[.val (.int v0), .val (.long v1), .second, .val (.int v3), .val (.long v4), .second, .unset, .unset, .unset, .unset, .unset, .unset] [(.ref c79)])) t
    refine XS.dup X79.here hx rfl (hb hby at_3) rfl rfl ?_
    exact k
  obtain ⟨r80, hr80, hF⟩ := own_bd_e hF
  obtain ⟨_, _, ⟨T80, L80, k80, n80⟩, -, X80, ⟨Lc80, hQ80, l80, y80, z80⟩, st80⟩ := X79.specialBack hx (y := (⟨"com/example/expire/expire/BatchSize", "<init>", "()V"⟩ : MethodName)) rfl hown (mvT hZ (w3 hw)) (mvT hZ (w4 hw)) (mvT hZ (w5 hw)) (by decide) (backOf (W := 1) (rm_BatchSize_mk l Z a0 hw [] h79 n0 z79 c79 (0 : Int32) A79 F79_c79_rows g79_c79 r80 hr80) hZ (w5 hw) (w2 hw) (by decide) (by decide)) (g := (mkF m 4 #[.val (.int v0), .val (.long v1), .second, .val (.int v3), .val (.long v4), .second, .unset, .unset, .unset, .unset, .unset, .unset] [(.ref c79), (.ref c79)])) rfl (by rw [hml]; rfl) (Steps.refl _) (a := c79) (argsL := []) (rest := [(.ref c79)]) (lenOf pd_0 rfl) rfl (by show 2 * 0 + _ ≤ _; exact Nat.le_of_eq rfl) (hb hby at_4) (fun _ _ => ⟨rfl, e79, (by decide : 1 + 0 ≤ _), (by decide : 3 + 0 ≤ _)⟩)
  dsimp only [Pt.U, Pt.locs, Pt.cells, Pt.slots] at X80 l80 y80 z80 st80 hQ80
  subst l80 y80 z80
  obtain ⟨rfl, N80q, K80, E80_c79, F80_c79_rows⟩ := hQ80
  have N80 := Fr.app N N80q
  have K80_ := K79_.trans K80 (allS (Or.inr nE79_c79) all0)
  have z80_ := Nat.le_trans z79 K80.1
  refine own_Goes.tr st80 ?_
  show own_Goes _ _ _ _ _ _ _ (T80.setTop (mkF m 7 #[.val (.int v0), .val (.long v1), .second, .val (.int v3), .val (.long v4), .second, .unset, .unset, .unset, .unset, .unset, .unset] [(.ref c79)]))
  refine own_Goes.via (B := T80.setTop (mkF m 13 #[.val (.int v0), .val (.long v1), .second, .val (.int v3), .val (.long v4), .second, .val (.ref c79), .unset, .unset, .unset, .unset, .unset] [(.long v1), (.int v0), (.ref c79)])) (fun t k => ?_) ?_
  · show Steps p.tables e below (T80.setTop (mkF m 7 #[.val (.int v0), .val (.long v1), .second, .val (.int v3), .val (.long v4), .second, .unset, .unset, .unset, .unset, .unset, .unset] [(.ref c79)])) t
    refine XS.astore X80.here hx rfl (hb hby at_7) rfl rfl (l' := #[.val (.int v0), .val (.long v1), .second, .val (.int v3), .val (.long v4), .second, .val (.ref c79), .unset, .unset, .unset, .unset, .unset]) rfl ?_
    show Steps p.tables e below (T80.setTop (mkF m 9 #[.val (.int v0), .val (.long v1), .second, .val (.int v3), .val (.long v4), .second, .val (.ref c79), .unset, .unset, .unset, .unset, .unset] [])) t
    refine XS.aload X80.here hx rfl (hb hby at_9) rfl rfl ?_
    show Steps p.tables e below (T80.setTop (mkF m 11 #[.val (.int v0), .val (.long v1), .second, .val (.int v3), .val (.long v4), .second, .val (.ref c79), .unset, .unset, .unset, .unset, .unset] [(.ref c79)])) t
    refine XS.iloadN X80.here hx rfl (hb hby at_11) rfl ?_
    show Steps p.tables e below (T80.setTop (mkF m 12 #[.val (.int v0), .val (.long v1), .second, .val (.int v3), .val (.long v4), .second, .val (.ref c79), .unset, .unset, .unset, .unset, .unset] [(.int v0), (.ref c79)])) t
    refine XS.lloadN X80.here hx rfl (hb hby at_12) rfl ?_
    exact k
  obtain ⟨r81, hr81, hF⟩ := own_bd_e hF
  obtain ⟨cq81, kq81, q81a, q81b, q81c⟩ := isOf hZ rfl E80_c79
  obtain ⟨_, _, ⟨T81, L81, k81, n81⟩, -, X81, ⟨Lc81, hQ81, l81, y81, z81⟩, st81⟩ := X80.virtualBack hx (y := (⟨"com/example/expire/expire/BatchSize", "took", "(IJ)V"⟩ : MethodName)) (z := (⟨"com/example/expire/expire/BatchSize", "took", "(IJ)V"⟩ : MethodName)) hown (mvT hZ (w11 hw)) (mvT hZ (w12 hw)) (notFace_of_selects (args := #[]) (mvT hZ (w14 hw))) (mvT hZ (w14 hw)) (mvT hZ (w13 hw)) (by decide) (backOf (W := 0) (rm_BatchSize_took l Z a0 hw [] T80.heap n0 z80_ c79 v0 v1 r80 E80_c79 F80_c79_rows g79_c79 r81 hr81) hZ (w15 hw) (w2 hw) (by decide) (by decide)) q81a q81c (g := (mkF m 13 #[.val (.int v0), .val (.long v1), .second, .val (.int v3), .val (.long v4), .second, .val (.ref c79), .unset, .unset, .unset, .unset, .unset] [(.long v1), (.int v0), (.ref c79)])) rfl (by rw [hml]; rfl) (Steps.refl _) (argsL := [(.int v0), (.long v1)]) (rest := []) (lenOf pd_2 rfl) rfl (by show 2 * 0 + _ ≤ _; exact Nat.le_of_eq rfl) (hb hby at_13) (fun _ _ => ⟨rfl, rfl, (by decide : 1 + 0 ≤ _), (by decide : 3 + 0 ≤ _)⟩)
  dsimp only [Pt.U, Pt.locs, Pt.cells, Pt.slots] at X81 l81 y81 z81 st81 hQ81
  subst l81 y81 z81
  obtain ⟨rfl, N81q, K81, E81_c79, F81_c79_rows⟩ := hQ81
  have N81 := Fr.app N80 N81q
  have K81_ := K80_.trans K81 (allS (Or.inr nE79_c79) all0)
  have z81_ := Nat.le_trans z80_ K81.1
  refine own_Goes.tr st81 ?_
  show own_Goes _ _ _ _ _ _ _ (T81.setTop (mkF m 16 #[.val (.int v0), .val (.long v1), .second, .val (.int v3), .val (.long v4), .second, .val (.ref c79), .unset, .unset, .unset, .unset, .unset] []))
  refine own_Goes.via (B := T81.setTop (mkF m 21 #[.val (.int v0), .val (.long v1), .second, .val (.int v3), .val (.long v4), .second, .val (.ref c79), .unset, .unset, .unset, .unset, .unset] [(.long v4), (.int v3), (.ref c79)])) (fun t k => ?_) ?_
  · show Steps p.tables e below (T81.setTop (mkF m 16 #[.val (.int v0), .val (.long v1), .second, .val (.int v3), .val (.long v4), .second, .val (.ref c79), .unset, .unset, .unset, .unset, .unset] [])) t
    refine XS.aload X81.here hx rfl (hb hby at_16) rfl rfl ?_
    show Steps p.tables e below (T81.setTop (mkF m 18 #[.val (.int v0), .val (.long v1), .second, .val (.int v3), .val (.long v4), .second, .val (.ref c79), .unset, .unset, .unset, .unset, .unset] [(.ref c79)])) t
    refine XS.iloadN X81.here hx rfl (hb hby at_18) rfl ?_
    show Steps p.tables e below (T81.setTop (mkF m 19 #[.val (.int v0), .val (.long v1), .second, .val (.int v3), .val (.long v4), .second, .val (.ref c79), .unset, .unset, .unset, .unset, .unset] [(.int v3), (.ref c79)])) t
    refine XS.lload X81.here hx rfl (hb hby at_19) rfl ?_
    exact k
  obtain ⟨r82, hr82, hF⟩ := own_bd_e hF
  obtain ⟨cq82, kq82, q82a, q82b, q82c⟩ := isOf hZ rfl E81_c79
  obtain ⟨_, _, ⟨T82, L82, k82, n82⟩, -, X82, ⟨Lc82, hQ82, l82, y82, z82⟩, st82⟩ := X81.virtualBack hx (y := (⟨"com/example/expire/expire/BatchSize", "took", "(IJ)V"⟩ : MethodName)) (z := (⟨"com/example/expire/expire/BatchSize", "took", "(IJ)V"⟩ : MethodName)) hown (mvT hZ (w11 hw)) (mvT hZ (w12 hw)) (notFace_of_selects (args := #[]) (mvT hZ (w14 hw))) (mvT hZ (w14 hw)) (mvT hZ (w13 hw)) (by decide) (backOf (W := 0) (rm_BatchSize_took l Z a0 hw [] T81.heap n0 z81_ c79 v3 v4 r81 E81_c79 F81_c79_rows g79_c79 r82 hr82) hZ (w15 hw) (w2 hw) (by decide) (by decide)) q82a q82c (g := (mkF m 21 #[.val (.int v0), .val (.long v1), .second, .val (.int v3), .val (.long v4), .second, .val (.ref c79), .unset, .unset, .unset, .unset, .unset] [(.long v4), (.int v3), (.ref c79)])) rfl (by rw [hml]; rfl) (Steps.refl _) (argsL := [(.int v3), (.long v4)]) (rest := []) (lenOf pd_2 rfl) rfl (by show 2 * 0 + _ ≤ _; exact Nat.le_of_eq rfl) (hb hby at_21) (fun _ _ => ⟨rfl, rfl, (by decide : 1 + 0 ≤ _), (by decide : 3 + 0 ≤ _)⟩)
  dsimp only [Pt.U, Pt.locs, Pt.cells, Pt.slots] at X82 l82 y82 z82 st82 hQ82
  subst l82 y82 z82
  obtain ⟨rfl, N82q, K82, E82_c79, F82_c79_rows⟩ := hQ82
  have N82 := Fr.app N81 N82q
  have K82_ := K81_.trans K82 (allS (Or.inr nE79_c79) all0)
  have z82_ := Nat.le_trans z81_ K82.1
  refine own_Goes.tr st82 ?_
  show own_Goes _ _ _ _ _ _ _ (T82.setTop (mkF m 24 #[.val (.int v0), .val (.long v1), .second, .val (.int v3), .val (.long v4), .second, .val (.ref c79), .unset, .unset, .unset, .unset, .unset] []))
  refine own_Goes.via (B := T82.setTop (mkF m 26 #[.val (.int v0), .val (.long v1), .second, .val (.int v3), .val (.long v4), .second, .val (.ref c79), .unset, .unset, .unset, .unset, .unset] [(.ref c79)])) (fun t k => ?_) ?_
  · show Steps p.tables e below (T82.setTop (mkF m 24 #[.val (.int v0), .val (.long v1), .second, .val (.int v3), .val (.long v4), .second, .val (.ref c79), .unset, .unset, .unset, .unset, .unset] [])) t
    refine XS.aload X82.here hx rfl (hb hby at_24) rfl rfl ?_
    exact k
  obtain ⟨r83, hr83, hF⟩ := own_bd_e hF
  obtain ⟨cq83, kq83, q83a, q83b, q83c⟩ := isOf hZ rfl E82_c79
  obtain ⟨_, _, ⟨T83, L83, k83, n83⟩, -, X83, ⟨Lc83, hQ83, l83, y83, z83⟩, st83⟩ := X82.virtualBack hx (y := (⟨"com/example/expire/expire/BatchSize", "rows", "()I"⟩ : MethodName)) (z := (⟨"com/example/expire/expire/BatchSize", "rows", "()I"⟩ : MethodName)) hown (mvT hZ (w27 hw)) (mvT hZ (w28 hw)) (notFace_of_selects (args := #[]) (mvT hZ (w30 hw))) (mvT hZ (w30 hw)) (mvT hZ (w29 hw)) (by decide) (backOf (W := 0) (rm_BatchSize_rows l Z a0 hw [] T82.heap n0 z82_ c79 r82 E82_c79 F82_c79_rows g79_c79 r83 hr83) hZ (w31 hw) (w2 hw) (by decide) (by decide)) q83a q83c (g := (mkF m 26 #[.val (.int v0), .val (.long v1), .second, .val (.int v3), .val (.long v4), .second, .val (.ref c79), .unset, .unset, .unset, .unset, .unset] [(.ref c79)])) rfl (by rw [hml]; rfl) (Steps.refl _) (argsL := []) (rest := []) (lenOf pd_3 rfl) rfl (by show 2 * 0 + _ ≤ _; exact Nat.le_of_eq rfl) (hb hby at_26) (fun _ _ => ⟨rfl, rfl, (by decide : 1 + 0 ≤ _), (by decide : 3 + 0 ≤ _)⟩)
  dsimp only [Pt.U, Pt.locs, Pt.cells, Pt.slots] at X83 l83 y83 z83 st83 hQ83
  subst l83 y83 z83
  obtain ⟨rfl, N83q, e83⟩ := hQ83
  have N83 := Fr.app N82 N83q
  refine own_Goes.tr st83 ?_
  show own_Goes _ _ _ _ _ _ _ (T83.setTop (mkF m 29 #[.val (.int v0), .val (.long v1), .second, .val (.int v3), .val (.long v4), .second, .val (.ref c79), .unset, .unset, .unset, .unset, .unset] [(.int r83)]))
  refine own_Goes.via (B := T83.setTop (mkF m 35 #[.val (.int v0), .val (.long v1), .second, .val (.int v3), .val (.long v4), .second, .val (.ref c79), .val (.int r83), .unset, .unset, .unset, .unset] [(.int (100 : Int32)), (.int r83)])) (fun t k => ?_) ?_
  · show Steps p.tables e below (T83.setTop (mkF m 29 #[.val (.int v0), .val (.long v1), .second, .val (.int v3), .val (.long v4), .second, .val (.ref c79), .unset, .unset, .unset, .unset, .unset] [(.int r83)])) t
    refine XS.istore X83.here hx rfl (hb hby at_29) rfl (l' := #[.val (.int v0), .val (.long v1), .second, .val (.int v3), .val (.long v4), .second, .val (.ref c79), .val (.int r83), .unset, .unset, .unset, .unset]) rfl ?_
    show Steps p.tables e below (T83.setTop (mkF m 31 #[.val (.int v0), .val (.long v1), .second, .val (.int v3), .val (.long v4), .second, .val (.ref c79), .val (.int r83), .unset, .unset, .unset, .unset] [])) t
    refine XS.iload X83.here hx rfl (hb hby at_31) rfl ?_
    show Steps p.tables e below (T83.setTop (mkF m 33 #[.val (.int v0), .val (.long v1), .second, .val (.int v3), .val (.long v4), .second, .val (.ref c79), .val (.int r83), .unset, .unset, .unset, .unset] [(.int r83)])) t
    refine XS.bipush X83.here hx rfl (hb hby at_33) ?_
    exact k
  by_cases hc35 : r83 < (100 : Int32)
  · rw [if_pos hc35] at hF
    refine own_Goes.via (B := T83.setTop (mkF m 47 #[.val (.int v0), .val (.long v1), .second, .val (.int v3), .val (.long v4), .second, .val (.ref c79), .val (.int r83), .unset, .unset, .unset, .unset] [(.int (0 : Int32))])) (fun t k => ?_) ?_
    · show Steps p.tables e below (T83.setTop (mkF m 35 #[.val (.int v0), .val (.long v1), .second, .val (.int v3), .val (.long v4), .second, .val (.ref c79), .val (.int r83), .unset, .unset, .unset, .unset] [(.int (100 : Int32)), (.int r83)])) t
      refine XS.icmpYes X83.here hx rfl (pc0 := 35) (pc' := 46) rfl (hb hby at_35) rfl (tlt hc35).1 (by decide) (by decide) ?_
      show Steps p.tables e below (T83.setTop (mkF m 46 #[.val (.int v0), .val (.long v1), .second, .val (.int v3), .val (.long v4), .second, .val (.ref c79), .val (.int r83), .unset, .unset, .unset, .unset] [])) t
      refine XS.iconst X83.here hx rfl (hb hby at_46) ?_
      exact k
    obtain rfl : (0 : Int32) = r := Option.some.inj hF
    exact own_retN X83 hx (t := .boolean) hret hlk (by simp) (hb hby at_47) e83 (v := (0 : Int32)) (by decide) ⟨rfl, N83, K82_⟩ (by decide) (by decide)
  · rw [if_neg hc35] at hF
    refine own_Goes.via (B := T83.setTop (mkF m 43 #[.val (.int v0), .val (.long v1), .second, .val (.int v3), .val (.long v4), .second, .val (.ref c79), .val (.int r83), .unset, .unset, .unset, .unset] [(.int (20000 : Int32)), (.int r83)])) (fun t k => ?_) ?_
    · show Steps p.tables e below (T83.setTop (mkF m 35 #[.val (.int v0), .val (.long v1), .second, .val (.int v3), .val (.long v4), .second, .val (.ref c79), .val (.int r83), .unset, .unset, .unset, .unset] [(.int (100 : Int32)), (.int r83)])) t
      refine XS.icmpNo X83.here hx rfl (hb hby at_35) rfl (flt hc35).1 ?_
      show Steps p.tables e below (T83.setTop (mkF m 38 #[.val (.int v0), .val (.long v1), .second, .val (.int v3), .val (.long v4), .second, .val (.ref c79), .val (.int r83), .unset, .unset, .unset, .unset] [])) t
      refine XS.iload X83.here hx rfl (hb hby at_38) rfl ?_
      show Steps p.tables e below (T83.setTop (mkF m 40 #[.val (.int v0), .val (.long v1), .second, .val (.int v3), .val (.long v4), .second, .val (.ref c79), .val (.int r83), .unset, .unset, .unset, .unset] [(.int r83)])) t
      refine XS.sipush X83.here hx rfl (hb hby at_40) ?_
      exact k
    by_cases hc43 : (20000 : Int32) < r83
    · rw [if_pos hc43] at hF
      refine own_Goes.via (B := T83.setTop (mkF m 47 #[.val (.int v0), .val (.long v1), .second, .val (.int v3), .val (.long v4), .second, .val (.ref c79), .val (.int r83), .unset, .unset, .unset, .unset] [(.int (0 : Int32))])) (fun t k => ?_) ?_
      · show Steps p.tables e below (T83.setTop (mkF m 43 #[.val (.int v0), .val (.long v1), .second, .val (.int v3), .val (.long v4), .second, .val (.ref c79), .val (.int r83), .unset, .unset, .unset, .unset] [(.int (20000 : Int32)), (.int r83)])) t
        refine XS.icmpNo X83.here hx rfl (hb hby at_43) rfl (tlt hc43).2.2.2 ?_
        show Steps p.tables e below (T83.setTop (mkF m 46 #[.val (.int v0), .val (.long v1), .second, .val (.int v3), .val (.long v4), .second, .val (.ref c79), .val (.int r83), .unset, .unset, .unset, .unset] [])) t
        refine XS.iconst X83.here hx rfl (hb hby at_46) ?_
        exact k
      obtain rfl : (0 : Int32) = r := Option.some.inj hF
      exact own_retN X83 hx (t := .boolean) hret hlk (by simp) (hb hby at_47) e83 (v := (0 : Int32)) (by decide) ⟨rfl, N83, K82_⟩ (by decide) (by decide)
    · rw [if_neg hc43] at hF
      refine own_Goes.via (B := T83.setTop (mkF m 57 #[.val (.int v0), .val (.long v1), .second, .val (.int v3), .val (.long v4), .second, .val (.ref c79), .val (.int r83), .unset, .unset, .unset, .unset] [(.long ((2 : Int64) * (v3.toInt64))), (.long (20000 : Int64))])) (fun t k => ?_) ?_
      · show Steps p.tables e below (T83.setTop (mkF m 43 #[.val (.int v0), .val (.long v1), .second, .val (.int v3), .val (.long v4), .second, .val (.ref c79), .val (.int r83), .unset, .unset, .unset, .unset] [(.int (20000 : Int32)), (.int r83)])) t
        refine XS.icmpYes X83.here hx rfl (pc0 := 43) (pc' := 48) rfl (hb hby at_43) rfl (flt hc43).2.2.2 (by decide) (by decide) ?_
        show Steps p.tables e below (T83.setTop (mkF m 48 #[.val (.int v0), .val (.long v1), .second, .val (.int v3), .val (.long v4), .second, .val (.ref c79), .val (.int r83), .unset, .unset, .unset, .unset] [])) t
        refine X83.ldc2Long hx hown (mvT hZ (w32 hw)) (g := (mkF m 48 #[.val (.int v0), .val (.long v1), .second, .val (.int v3), .val (.long v4), .second, .val (.ref c79), .val (.int r83), .unset, .unset, .unset, .unset] [])) rfl (hb hby at_48) _ ?_
        show Steps p.tables e below (T83.setTop (mkF m 51 #[.val (.int v0), .val (.long v1), .second, .val (.int v3), .val (.long v4), .second, .val (.ref c79), .val (.int r83), .unset, .unset, .unset, .unset] [(.long (20000 : Int64))])) t
        refine X83.ldc2Long hx hown (mvT hZ (w33 hw)) (g := (mkF m 51 #[.val (.int v0), .val (.long v1), .second, .val (.int v3), .val (.long v4), .second, .val (.ref c79), .val (.int r83), .unset, .unset, .unset, .unset] [(.long (20000 : Int64))])) rfl (hb hby at_51) _ ?_
        show Steps p.tables e below (T83.setTop (mkF m 54 #[.val (.int v0), .val (.long v1), .second, .val (.int v3), .val (.long v4), .second, .val (.ref c79), .val (.int r83), .unset, .unset, .unset, .unset] [(.long (2 : Int64)), (.long (20000 : Int64))])) t
        refine XS.iloadN X83.here hx rfl (hb hby at_54) rfl ?_
        show Steps p.tables e below (T83.setTop (mkF m 55 #[.val (.int v0), .val (.long v1), .second, .val (.int v3), .val (.long v4), .second, .val (.ref c79), .val (.int r83), .unset, .unset, .unset, .unset] [(.int v3), (.long (2 : Int64)), (.long (20000 : Int64))])) t
        refine XS.i2l X83.here hx rfl (hb hby at_55) rfl ?_
        show Steps p.tables e below (T83.setTop (mkF m 56 #[.val (.int v0), .val (.long v1), .second, .val (.int v3), .val (.long v4), .second, .val (.ref c79), .val (.int r83), .unset, .unset, .unset, .unset] [(.long (v3.toInt64)), (.long (2 : Int64)), (.long (20000 : Int64))])) t
        refine XS.lmul X83.here hx rfl (hb hby at_56) rfl ?_
        exact k
      obtain ⟨x84, hx84, hF⟩ := own_lt_e hF
      rw [← hx84]
      obtain ⟨r85, hr85, hF⟩ := own_bd_e hF
      obtain ⟨_, _, ⟨T85, L85, k85, n85⟩, -, X85, ⟨Lc85, hQ85, l85, y85, z85⟩, st85⟩ := Jvm.LawKit.callS X83 hx (y := (⟨"java/lang/Math", "min", "(JJ)J"⟩ : MethodName)) hown (mvT hZ (w34 hw)) (mvT hZ (w21 hw)) (mvT hZ (w22 hw)) (mvT hZ (w23 hw)) (by decide) (backOf (W := 0) (rm_Math_min l Z a0 hw [] T82.heap n0 z82_ (20000 : Int64) x84 r85 hr85) hZ (w23 hw) (w22 hw) (by decide) (by decide)) (g := (mkF m 57 #[.val (.int v0), .val (.long v1), .second, .val (.int v3), .val (.long v4), .second, .val (.ref c79), .val (.int r83), .unset, .unset, .unset, .unset] [(.long x84), (.long (20000 : Int64))])) rfl (by rw [hml]; rfl) (argsL := [(.long (20000 : Int64)), (.long x84)]) (rest := []) (lenOf pd_1 rfl) rfl (by show 2 * 0 + _ ≤ _; exact Nat.le_of_eq rfl) (hb hby at_57) (fun _ _ => ⟨rfl, e83, (by decide : 1 + 0 ≤ _), (by decide : 3 + 0 ≤ _)⟩)
      dsimp only [Pt.U, Pt.locs, Pt.cells, Pt.slots] at X85 l85 y85 z85 st85 hQ85
      subst l85 y85 z85
      obtain ⟨rfl, N85q, e85⟩ := hQ85
      have N85 := Fr.app N83 N85q
      refine own_Goes.via st85 ?_
      show own_Goes _ _ _ _ _ _ _ (T85.setTop (mkF m 60 #[.val (.int v0), .val (.long v1), .second, .val (.int v3), .val (.long v4), .second, .val (.ref c79), .val (.int r83), .unset, .unset, .unset, .unset] [(.long r85)]))
      refine own_Goes.via (B := T85.setTop (mkF m 66 #[.val (.int v0), .val (.long v1), .second, .val (.int v3), .val (.long v4), .second, .val (.ref c79), .val (.int r83), .val (.long r85), .second, .unset, .unset] [(.int (lcmpW v4 (0 : Int64)))])) (fun t k => ?_) ?_
      · show Steps p.tables e below (T85.setTop (mkF m 60 #[.val (.int v0), .val (.long v1), .second, .val (.int v3), .val (.long v4), .second, .val (.ref c79), .val (.int r83), .unset, .unset, .unset, .unset] [(.long r85)])) t
        refine XS.lstore X85.here hx rfl (hb hby at_60) rfl (l' := #[.val (.int v0), .val (.long v1), .second, .val (.int v3), .val (.long v4), .second, .val (.ref c79), .val (.int r83), .val (.long r85), .second, .unset, .unset]) rfl ?_
        show Steps p.tables e below (T85.setTop (mkF m 62 #[.val (.int v0), .val (.long v1), .second, .val (.int v3), .val (.long v4), .second, .val (.ref c79), .val (.int r83), .val (.long r85), .second, .unset, .unset] [])) t
        refine XS.lload X85.here hx rfl (hb hby at_62) rfl ?_
        show Steps p.tables e below (T85.setTop (mkF m 64 #[.val (.int v0), .val (.long v1), .second, .val (.int v3), .val (.long v4), .second, .val (.ref c79), .val (.int r83), .val (.long r85), .second, .unset, .unset] [(.long v4)])) t
        refine XS.lconst X85.here hx rfl (hb hby at_64) ?_
        show Steps p.tables e below (T85.setTop (mkF m 65 #[.val (.int v0), .val (.long v1), .second, .val (.int v3), .val (.long v4), .second, .val (.ref c79), .val (.int r83), .val (.long r85), .second, .unset, .unset] [(.long (0 : Int64)), (.long v4)])) t
        refine XS.lcmp X85.here hx rfl (hb hby at_65) rfl ?_
        exact k
      by_cases hc66 : (0 : Int64) < v4
      · rw [if_pos hc66] at hF
        refine own_Goes.via (B := T85.setTop (mkF m 96 #[.val (.int v0), .val (.long v1), .second, .val (.int v3), .val (.long v4), .second, .val (.ref c79), .val (.int r83), .val (.long r85), .second, .unset, .unset] [(.int (lcmpW r85 (100 : Int64)))])) (fun t k => ?_) ?_
        · show Steps p.tables e below (T85.setTop (mkF m 66 #[.val (.int v0), .val (.long v1), .second, .val (.int v3), .val (.long v4), .second, .val (.ref c79), .val (.int r83), .val (.long r85), .second, .unset, .unset] [(.int (lcmpW v4 (0 : Int64)))])) t
          refine XS.ifYes X85.here hx rfl (pc0 := 66) (pc' := 90) rfl (hb hby at_66) rfl (own_tgtL hc66).1 (by decide) (by decide) ?_
          show Steps p.tables e below (T85.setTop (mkF m 90 #[.val (.int v0), .val (.long v1), .second, .val (.int v3), .val (.long v4), .second, .val (.ref c79), .val (.int r83), .val (.long r85), .second, .unset, .unset] [])) t
          refine XS.lload X85.here hx rfl (hb hby at_90) rfl ?_
          show Steps p.tables e below (T85.setTop (mkF m 92 #[.val (.int v0), .val (.long v1), .second, .val (.int v3), .val (.long v4), .second, .val (.ref c79), .val (.int r83), .val (.long r85), .second, .unset, .unset] [(.long r85)])) t
          refine X85.ldc2Long hx hown (mvT hZ (w35 hw)) (g := (mkF m 92 #[.val (.int v0), .val (.long v1), .second, .val (.int v3), .val (.long v4), .second, .val (.ref c79), .val (.int r83), .val (.long r85), .second, .unset, .unset] [(.long r85)])) rfl (hb hby at_92) _ ?_
          show Steps p.tables e below (T85.setTop (mkF m 95 #[.val (.int v0), .val (.long v1), .second, .val (.int v3), .val (.long v4), .second, .val (.ref c79), .val (.int r83), .val (.long r85), .second, .unset, .unset] [(.long (100 : Int64)), (.long r85)])) t
          refine XS.lcmp X85.here hx rfl (hb hby at_95) rfl ?_
          exact k
        by_cases hc96 : (100 : Int64) < r85
        · rw [if_pos hc96] at hF
          refine own_Goes.via (B := T85.setTop (mkF m 118 #[.val (.int v0), .val (.long v1), .second, .val (.int v3), .val (.long v4), .second, .val (.ref c79), .val (.int r83), .val (.long r85), .second, .unset, .unset] [(.long ((v3.toInt64) * (25000000 : Int64)))])) (fun t k => ?_) ?_
          · show Steps p.tables e below (T85.setTop (mkF m 96 #[.val (.int v0), .val (.long v1), .second, .val (.int v3), .val (.long v4), .second, .val (.ref c79), .val (.int r83), .val (.long r85), .second, .unset, .unset] [(.int (lcmpW r85 (100 : Int64)))])) t
            refine XS.ifYes X85.here hx rfl (pc0 := 96) (pc' := 112) rfl (hb hby at_96) rfl (own_tgtL hc96).1 (by decide) (by decide) ?_
            show Steps p.tables e below (T85.setTop (mkF m 112 #[.val (.int v0), .val (.long v1), .second, .val (.int v3), .val (.long v4), .second, .val (.ref c79), .val (.int r83), .val (.long r85), .second, .unset, .unset] [])) t
            refine XS.iloadN X85.here hx rfl (hb hby at_112) rfl ?_
            show Steps p.tables e below (T85.setTop (mkF m 113 #[.val (.int v0), .val (.long v1), .second, .val (.int v3), .val (.long v4), .second, .val (.ref c79), .val (.int r83), .val (.long r85), .second, .unset, .unset] [(.int v3)])) t
            refine XS.i2l X85.here hx rfl (hb hby at_113) rfl ?_
            show Steps p.tables e below (T85.setTop (mkF m 114 #[.val (.int v0), .val (.long v1), .second, .val (.int v3), .val (.long v4), .second, .val (.ref c79), .val (.int r83), .val (.long r85), .second, .unset, .unset] [(.long (v3.toInt64))])) t
            refine X85.ldc2Long hx hown (mvT hZ (w37 hw)) (g := (mkF m 114 #[.val (.int v0), .val (.long v1), .second, .val (.int v3), .val (.long v4), .second, .val (.ref c79), .val (.int r83), .val (.long r85), .second, .unset, .unset] [(.long (v3.toInt64))])) rfl (hb hby at_114) _ ?_
            show Steps p.tables e below (T85.setTop (mkF m 117 #[.val (.int v0), .val (.long v1), .second, .val (.int v3), .val (.long v4), .second, .val (.ref c79), .val (.int r83), .val (.long r85), .second, .unset, .unset] [(.long (25000000 : Int64)), (.long (v3.toInt64))])) t
            refine XS.lmul X85.here hx rfl (hb hby at_117) rfl ?_
            exact k
          obtain ⟨x86, hx86, hF⟩ := own_lt_e hF
          rw [← hx86]
          refine own_Goes.via (B := T85.setTop (mkF m 124 #[.val (.int v0), .val (.long v1), .second, .val (.int v3), .val (.long v4), .second, .val (.ref c79), .val (.int r83), .val (.long r85), .second, .val (.long x86), .second] [(.int (100 : Int32)), (.int r83)])) (fun t k => ?_) ?_
          · show Steps p.tables e below (T85.setTop (mkF m 118 #[.val (.int v0), .val (.long v1), .second, .val (.int v3), .val (.long v4), .second, .val (.ref c79), .val (.int r83), .val (.long r85), .second, .unset, .unset] [(.long x86)])) t
            refine XS.lstore X85.here hx rfl (hb hby at_118) rfl (l' := #[.val (.int v0), .val (.long v1), .second, .val (.int v3), .val (.long v4), .second, .val (.ref c79), .val (.int r83), .val (.long r85), .second, .val (.long x86), .second]) rfl ?_
            show Steps p.tables e below (T85.setTop (mkF m 120 #[.val (.int v0), .val (.long v1), .second, .val (.int v3), .val (.long v4), .second, .val (.ref c79), .val (.int r83), .val (.long r85), .second, .val (.long x86), .second] [])) t
            refine XS.iload X85.here hx rfl (hb hby at_120) rfl ?_
            show Steps p.tables e below (T85.setTop (mkF m 122 #[.val (.int v0), .val (.long v1), .second, .val (.int v3), .val (.long v4), .second, .val (.ref c79), .val (.int r83), .val (.long r85), .second, .val (.long x86), .second] [(.int r83)])) t
            refine XS.bipush X85.here hx rfl (hb hby at_122) ?_
            exact k
          by_cases hc124 : r83 = (100 : Int32)
          · rw [if_pos hc124] at hF
            refine own_Goes.via (B := T85.setTop (mkF m 134 #[.val (.int v0), .val (.long v1), .second, .val (.int v3), .val (.long v4), .second, .val (.ref c79), .val (.int r83), .val (.long r85), .second, .val (.long x86), .second] [(.long x86), (.long v4), (.long (101 : Int64))])) (fun t k => ?_) ?_
            · show Steps p.tables e below (T85.setTop (mkF m 124 #[.val (.int v0), .val (.long v1), .second, .val (.int v3), .val (.long v4), .second, .val (.ref c79), .val (.int r83), .val (.long r85), .second, .val (.long x86), .second] [(.int (100 : Int32)), (.int r83)])) t
              refine XS.icmpNo X85.here hx rfl (hb hby at_124) rfl (teq hc124).2 ?_
              show Steps p.tables e below (T85.setTop (mkF m 127 #[.val (.int v0), .val (.long v1), .second, .val (.int v3), .val (.long v4), .second, .val (.ref c79), .val (.int r83), .val (.long r85), .second, .val (.long x86), .second] [])) t
              refine X85.ldc2Long hx hown (mvT hZ (w42 hw)) (g := (mkF m 127 #[.val (.int v0), .val (.long v1), .second, .val (.int v3), .val (.long v4), .second, .val (.ref c79), .val (.int r83), .val (.long r85), .second, .val (.long x86), .second] [])) rfl (hb hby at_127) _ ?_
              show Steps p.tables e below (T85.setTop (mkF m 130 #[.val (.int v0), .val (.long v1), .second, .val (.int v3), .val (.long v4), .second, .val (.ref c79), .val (.int r83), .val (.long r85), .second, .val (.long x86), .second] [(.long (101 : Int64))])) t
              refine XS.lload X85.here hx rfl (hb hby at_130) rfl ?_
              show Steps p.tables e below (T85.setTop (mkF m 132 #[.val (.int v0), .val (.long v1), .second, .val (.int v3), .val (.long v4), .second, .val (.ref c79), .val (.int r83), .val (.long r85), .second, .val (.long x86), .second] [(.long v4), (.long (101 : Int64))])) t
              refine XS.lload X85.here hx rfl (hb hby at_132) rfl ?_
              exact k
            obtain ⟨r87, hr87, hF⟩ := own_bd_e hF
            obtain ⟨_, _, ⟨T87, L87, k87, n87⟩, -, X87, ⟨Lc87, hQ87, l87, y87, z87⟩, st87⟩ := Jvm.LawKit.callS X85 hx (y := (⟨"com/example/expire/expire/BatchSizeTookPinLaw", "paced", "(JJJ)Z"⟩ : MethodName)) hown (mvT hZ (w38 hw)) (mvT hZ (w39 hw)) (mvT hZ (w40 hw)) (mvT hZ (w41 hw)) (by decide) (backOf (W := 0) (rm_BatchSizeTookPinLaw_paced l Z a0 hw [] T82.heap n0 z82_ (101 : Int64) v4 x86 r87 hr87) hZ (w41 hw) (w40 hw) (by decide) (by decide)) (g := (mkF m 134 #[.val (.int v0), .val (.long v1), .second, .val (.int v3), .val (.long v4), .second, .val (.ref c79), .val (.int r83), .val (.long r85), .second, .val (.long x86), .second] [(.long x86), (.long v4), (.long (101 : Int64))])) rfl (by rw [hml]; rfl) (argsL := [(.long (101 : Int64)), (.long v4), (.long x86)]) (rest := []) (lenOf pd_4 rfl) rfl (by show 2 * 0 + _ ≤ _; exact Nat.le_of_eq rfl) (hb hby at_134) (fun _ _ => ⟨rfl, e85, (by decide : 1 + 0 ≤ _), (by decide : 3 + 0 ≤ _)⟩)
            dsimp only [Pt.U, Pt.locs, Pt.cells, Pt.slots] at X87 l87 y87 z87 st87 hQ87
            subst l87 y87 z87
            obtain ⟨rfl, N87q, e87⟩ := hQ87
            have N87 := Fr.app N85 N87q
            refine own_Goes.via st87 ?_
            show own_Goes _ _ _ _ _ _ _ (T87.setTop (mkF m 137 #[.val (.int v0), .val (.long v1), .second, .val (.int v3), .val (.long v4), .second, .val (.ref c79), .val (.int r83), .val (.long r85), .second, .val (.long x86), .second] [(.int r87)]))
            by_cases hc137 : r87 = (0 : Int32)
            · rw [if_pos hc137] at hF
              refine own_Goes.via (B := T87.setTop (mkF m 145 #[.val (.int v0), .val (.long v1), .second, .val (.int v3), .val (.long v4), .second, .val (.ref c79), .val (.int r83), .val (.long r85), .second, .val (.long x86), .second] [(.int (1 : Int32))])) (fun t k => ?_) ?_
              · show Steps p.tables e below (T87.setTop (mkF m 137 #[.val (.int v0), .val (.long v1), .second, .val (.int v3), .val (.long v4), .second, .val (.ref c79), .val (.int r83), .val (.long r85), .second, .val (.long x86), .second] [(.int r87)])) t
                refine XS.ifNo X87.here hx rfl (hb hby at_137) rfl ((if0 _ _).trans (teq hc137).2) ?_
                show Steps p.tables e below (T87.setTop (mkF m 140 #[.val (.int v0), .val (.long v1), .second, .val (.int v3), .val (.long v4), .second, .val (.ref c79), .val (.int r83), .val (.long r85), .second, .val (.long x86), .second] [])) t
                refine XS.iconst X87.here hx rfl (hb hby at_140) ?_
                show Steps p.tables e below (T87.setTop (mkF m 141 #[.val (.int v0), .val (.long v1), .second, .val (.int v3), .val (.long v4), .second, .val (.ref c79), .val (.int r83), .val (.long r85), .second, .val (.long x86), .second] [(.int (1 : Int32))])) t
                refine XS.goto X87.here hx rfl (pc0 := 141) (pc' := 145) rfl (hb hby at_141) (by decide) (by decide) ?_
                exact k
              obtain rfl : (1 : Int32) = r := Option.some.inj hF
              exact own_retN X87 hx (t := .boolean) hret hlk (by simp) (hb hby at_145) e87 (v := (1 : Int32)) (by decide) ⟨rfl, N87, K82_⟩ (by decide) (by decide)
            · rw [if_neg hc137] at hF
              refine own_Goes.via (B := T87.setTop (mkF m 145 #[.val (.int v0), .val (.long v1), .second, .val (.int v3), .val (.long v4), .second, .val (.ref c79), .val (.int r83), .val (.long r85), .second, .val (.long x86), .second] [(.int (0 : Int32))])) (fun t k => ?_) ?_
              · show Steps p.tables e below (T87.setTop (mkF m 137 #[.val (.int v0), .val (.long v1), .second, .val (.int v3), .val (.long v4), .second, .val (.ref c79), .val (.int r83), .val (.long r85), .second, .val (.long x86), .second] [(.int r87)])) t
                refine XS.ifYes X87.here hx rfl (pc0 := 137) (pc' := 144) rfl (hb hby at_137) rfl ((if0 _ _).trans (feq hc137).2) (by decide) (by decide) ?_
                show Steps p.tables e below (T87.setTop (mkF m 144 #[.val (.int v0), .val (.long v1), .second, .val (.int v3), .val (.long v4), .second, .val (.ref c79), .val (.int r83), .val (.long r85), .second, .val (.long x86), .second] [])) t
                refine XS.iconst X87.here hx rfl (hb hby at_144) ?_
                exact k
              obtain rfl : (0 : Int32) = r := Option.some.inj hF
              exact own_retN X87 hx (t := .boolean) hret hlk (by simp) (hb hby at_145) e87 (v := (0 : Int32)) (by decide) ⟨rfl, N87, K82_⟩ (by decide) (by decide)
          · rw [if_neg hc124] at hF
            refine own_Goes.via (B := T85.setTop (mkF m 152 #[.val (.int v0), .val (.long v1), .second, .val (.int v3), .val (.long v4), .second, .val (.ref c79), .val (.int r83), .val (.long r85), .second, .val (.long x86), .second] [(.int (lcmpW (r83.toInt64) r85))])) (fun t k => ?_) ?_
            · show Steps p.tables e below (T85.setTop (mkF m 124 #[.val (.int v0), .val (.long v1), .second, .val (.int v3), .val (.long v4), .second, .val (.ref c79), .val (.int r83), .val (.long r85), .second, .val (.long x86), .second] [(.int (100 : Int32)), (.int r83)])) t
              refine XS.icmpYes X85.here hx rfl (pc0 := 124) (pc' := 146) rfl (hb hby at_124) rfl (feq hc124).2 (by decide) (by decide) ?_
              show Steps p.tables e below (T85.setTop (mkF m 146 #[.val (.int v0), .val (.long v1), .second, .val (.int v3), .val (.long v4), .second, .val (.ref c79), .val (.int r83), .val (.long r85), .second, .val (.long x86), .second] [])) t
              refine XS.iload X85.here hx rfl (hb hby at_146) rfl ?_
              show Steps p.tables e below (T85.setTop (mkF m 148 #[.val (.int v0), .val (.long v1), .second, .val (.int v3), .val (.long v4), .second, .val (.ref c79), .val (.int r83), .val (.long r85), .second, .val (.long x86), .second] [(.int r83)])) t
              refine XS.i2l X85.here hx rfl (hb hby at_148) rfl ?_
              show Steps p.tables e below (T85.setTop (mkF m 149 #[.val (.int v0), .val (.long v1), .second, .val (.int v3), .val (.long v4), .second, .val (.ref c79), .val (.int r83), .val (.long r85), .second, .val (.long x86), .second] [(.long (r83.toInt64))])) t
              refine XS.lload X85.here hx rfl (hb hby at_149) rfl ?_
              show Steps p.tables e below (T85.setTop (mkF m 151 #[.val (.int v0), .val (.long v1), .second, .val (.int v3), .val (.long v4), .second, .val (.ref c79), .val (.int r83), .val (.long r85), .second, .val (.long x86), .second] [(.long r85), (.long (r83.toInt64))])) t
              refine XS.lcmp X85.here hx rfl (hb hby at_151) rfl ?_
              exact k
            by_cases hc152 : r85 < (r83.toInt64)
            · rw [if_pos hc152] at hF
              refine own_Goes.via (B := T85.setTop (mkF m 156 #[.val (.int v0), .val (.long v1), .second, .val (.int v3), .val (.long v4), .second, .val (.ref c79), .val (.int r83), .val (.long r85), .second, .val (.long x86), .second] [(.int (0 : Int32))])) (fun t k => ?_) ?_
              · show Steps p.tables e below (T85.setTop (mkF m 152 #[.val (.int v0), .val (.long v1), .second, .val (.int v3), .val (.long v4), .second, .val (.ref c79), .val (.int r83), .val (.long r85), .second, .val (.long x86), .second] [(.int (lcmpW (r83.toInt64) r85))])) t
                refine XS.ifNo X85.here hx rfl (hb hby at_152) rfl (own_tgtL hc152).2 ?_
                show Steps p.tables e below (T85.setTop (mkF m 155 #[.val (.int v0), .val (.long v1), .second, .val (.int v3), .val (.long v4), .second, .val (.ref c79), .val (.int r83), .val (.long r85), .second, .val (.long x86), .second] [])) t
                refine XS.iconst X85.here hx rfl (hb hby at_155) ?_
                exact k
              obtain rfl : (0 : Int32) = r := Option.some.inj hF
              exact own_retN X85 hx (t := .boolean) hret hlk (by simp) (hb hby at_156) e85 (v := (0 : Int32)) (by decide) ⟨rfl, N85, K82_⟩ (by decide) (by decide)
            · rw [if_neg hc152] at hF
              refine own_Goes.via (B := T85.setTop (mkF m 164 #[.val (.int v0), .val (.long v1), .second, .val (.int v3), .val (.long v4), .second, .val (.ref c79), .val (.int r83), .val (.long r85), .second, .val (.long x86), .second] [(.long x86), (.long v4), (.long (r83.toInt64))])) (fun t k => ?_) ?_
              · show Steps p.tables e below (T85.setTop (mkF m 152 #[.val (.int v0), .val (.long v1), .second, .val (.int v3), .val (.long v4), .second, .val (.ref c79), .val (.int r83), .val (.long r85), .second, .val (.long x86), .second] [(.int (lcmpW (r83.toInt64) r85))])) t
                refine XS.ifYes X85.here hx rfl (pc0 := 152) (pc' := 157) rfl (hb hby at_152) rfl (own_fgtL hc152).2 (by decide) (by decide) ?_
                show Steps p.tables e below (T85.setTop (mkF m 157 #[.val (.int v0), .val (.long v1), .second, .val (.int v3), .val (.long v4), .second, .val (.ref c79), .val (.int r83), .val (.long r85), .second, .val (.long x86), .second] [])) t
                refine XS.iload X85.here hx rfl (hb hby at_157) rfl ?_
                show Steps p.tables e below (T85.setTop (mkF m 159 #[.val (.int v0), .val (.long v1), .second, .val (.int v3), .val (.long v4), .second, .val (.ref c79), .val (.int r83), .val (.long r85), .second, .val (.long x86), .second] [(.int r83)])) t
                refine XS.i2l X85.here hx rfl (hb hby at_159) rfl ?_
                show Steps p.tables e below (T85.setTop (mkF m 160 #[.val (.int v0), .val (.long v1), .second, .val (.int v3), .val (.long v4), .second, .val (.ref c79), .val (.int r83), .val (.long r85), .second, .val (.long x86), .second] [(.long (r83.toInt64))])) t
                refine XS.lload X85.here hx rfl (hb hby at_160) rfl ?_
                show Steps p.tables e below (T85.setTop (mkF m 162 #[.val (.int v0), .val (.long v1), .second, .val (.int v3), .val (.long v4), .second, .val (.ref c79), .val (.int r83), .val (.long r85), .second, .val (.long x86), .second] [(.long v4), (.long (r83.toInt64))])) t
                refine XS.lload X85.here hx rfl (hb hby at_162) rfl ?_
                exact k
              obtain ⟨x88, hx88, hF⟩ := own_lt_e hF
              rw [← hx88]
              obtain ⟨r89, hr89, hF⟩ := own_bd_e hF
              obtain ⟨_, _, ⟨T89, L89, k89, n89⟩, -, X89, ⟨Lc89, hQ89, l89, y89, z89⟩, st89⟩ := Jvm.LawKit.callS X85 hx (y := (⟨"com/example/expire/expire/BatchSizeTookPinLaw", "paced", "(JJJ)Z"⟩ : MethodName)) hown (mvT hZ (w38 hw)) (mvT hZ (w39 hw)) (mvT hZ (w40 hw)) (mvT hZ (w41 hw)) (by decide) (backOf (W := 0) (rm_BatchSizeTookPinLaw_paced l Z a0 hw [] T82.heap n0 z82_ x88 v4 x86 r89 hr89) hZ (w41 hw) (w40 hw) (by decide) (by decide)) (g := (mkF m 164 #[.val (.int v0), .val (.long v1), .second, .val (.int v3), .val (.long v4), .second, .val (.ref c79), .val (.int r83), .val (.long r85), .second, .val (.long x86), .second] [(.long x86), (.long v4), (.long x88)])) rfl (by rw [hml]; rfl) (argsL := [(.long x88), (.long v4), (.long x86)]) (rest := []) (lenOf pd_4 rfl) rfl (by show 2 * 0 + _ ≤ _; exact Nat.le_of_eq rfl) (hb hby at_164) (fun _ _ => ⟨rfl, e85, (by decide : 1 + 0 ≤ _), (by decide : 3 + 0 ≤ _)⟩)
              dsimp only [Pt.U, Pt.locs, Pt.cells, Pt.slots] at X89 l89 y89 z89 st89 hQ89
              subst l89 y89 z89
              obtain ⟨rfl, N89q, e89⟩ := hQ89
              have N89 := Fr.app N85 N89q
              refine own_Goes.via st89 ?_
              show own_Goes _ _ _ _ _ _ _ (T89.setTop (mkF m 167 #[.val (.int v0), .val (.long v1), .second, .val (.int v3), .val (.long v4), .second, .val (.ref c79), .val (.int r83), .val (.long r85), .second, .val (.long x86), .second] [(.int r89)]))
              by_cases hc167 : r89 = (0 : Int32)
              · rw [if_pos hc167] at hF
                refine own_Goes.via (B := T89.setTop (mkF m 171 #[.val (.int v0), .val (.long v1), .second, .val (.int v3), .val (.long v4), .second, .val (.ref c79), .val (.int r83), .val (.long r85), .second, .val (.long x86), .second] [(.int (0 : Int32))])) (fun t k => ?_) ?_
                · show Steps p.tables e below (T89.setTop (mkF m 167 #[.val (.int v0), .val (.long v1), .second, .val (.int v3), .val (.long v4), .second, .val (.ref c79), .val (.int r83), .val (.long r85), .second, .val (.long x86), .second] [(.int r89)])) t
                  refine XS.ifNo X89.here hx rfl (hb hby at_167) rfl ((if0 _ _).trans (teq hc167).2) ?_
                  show Steps p.tables e below (T89.setTop (mkF m 170 #[.val (.int v0), .val (.long v1), .second, .val (.int v3), .val (.long v4), .second, .val (.ref c79), .val (.int r83), .val (.long r85), .second, .val (.long x86), .second] [])) t
                  refine XS.iconst X89.here hx rfl (hb hby at_170) ?_
                  exact k
                obtain rfl : (0 : Int32) = r := Option.some.inj hF
                exact own_retN X89 hx (t := .boolean) hret hlk (by simp) (hb hby at_171) e89 (v := (0 : Int32)) (by decide) ⟨rfl, N89, K82_⟩ (by decide) (by decide)
              · rw [if_neg hc167] at hF
                refine own_Goes.via (B := T89.setTop (mkF m 178 #[.val (.int v0), .val (.long v1), .second, .val (.int v3), .val (.long v4), .second, .val (.ref c79), .val (.int r83), .val (.long r85), .second, .val (.long x86), .second] [(.int (lcmpW (r83.toInt64) r85))])) (fun t k => ?_) ?_
                · show Steps p.tables e below (T89.setTop (mkF m 167 #[.val (.int v0), .val (.long v1), .second, .val (.int v3), .val (.long v4), .second, .val (.ref c79), .val (.int r83), .val (.long r85), .second, .val (.long x86), .second] [(.int r89)])) t
                  refine XS.ifYes X89.here hx rfl (pc0 := 167) (pc' := 172) rfl (hb hby at_167) rfl ((if0 _ _).trans (feq hc167).2) (by decide) (by decide) ?_
                  show Steps p.tables e below (T89.setTop (mkF m 172 #[.val (.int v0), .val (.long v1), .second, .val (.int v3), .val (.long v4), .second, .val (.ref c79), .val (.int r83), .val (.long r85), .second, .val (.long x86), .second] [])) t
                  refine XS.iload X89.here hx rfl (hb hby at_172) rfl ?_
                  show Steps p.tables e below (T89.setTop (mkF m 174 #[.val (.int v0), .val (.long v1), .second, .val (.int v3), .val (.long v4), .second, .val (.ref c79), .val (.int r83), .val (.long r85), .second, .val (.long x86), .second] [(.int r83)])) t
                  refine XS.i2l X89.here hx rfl (hb hby at_174) rfl ?_
                  show Steps p.tables e below (T89.setTop (mkF m 175 #[.val (.int v0), .val (.long v1), .second, .val (.int v3), .val (.long v4), .second, .val (.ref c79), .val (.int r83), .val (.long r85), .second, .val (.long x86), .second] [(.long (r83.toInt64))])) t
                  refine XS.lload X89.here hx rfl (hb hby at_175) rfl ?_
                  show Steps p.tables e below (T89.setTop (mkF m 177 #[.val (.int v0), .val (.long v1), .second, .val (.int v3), .val (.long v4), .second, .val (.ref c79), .val (.int r83), .val (.long r85), .second, .val (.long x86), .second] [(.long r85), (.long (r83.toInt64))])) t
                  refine XS.lcmp X89.here hx rfl (hb hby at_177) rfl ?_
                  exact k
                by_cases hc178 : (r83.toInt64) = r85
                · rw [if_pos hc178] at hF
                  refine own_Goes.via (B := T89.setTop (mkF m 201 #[.val (.int v0), .val (.long v1), .second, .val (.int v3), .val (.long v4), .second, .val (.ref c79), .val (.int r83), .val (.long r85), .second, .val (.long x86), .second] [(.int (1 : Int32))])) (fun t k => ?_) ?_
                  · show Steps p.tables e below (T89.setTop (mkF m 178 #[.val (.int v0), .val (.long v1), .second, .val (.int v3), .val (.long v4), .second, .val (.ref c79), .val (.int r83), .val (.long r85), .second, .val (.long x86), .second] [(.int (lcmpW (r83.toInt64) r85))])) t
                    refine XS.ifYes X89.here hx rfl (pc0 := 178) (pc' := 196) rfl (hb hby at_178) rfl (own_teqL hc178).1 (by decide) (by decide) ?_
                    show Steps p.tables e below (T89.setTop (mkF m 196 #[.val (.int v0), .val (.long v1), .second, .val (.int v3), .val (.long v4), .second, .val (.ref c79), .val (.int r83), .val (.long r85), .second, .val (.long x86), .second] [])) t
                    refine XS.iconst X89.here hx rfl (hb hby at_196) ?_
                    show Steps p.tables e below (T89.setTop (mkF m 197 #[.val (.int v0), .val (.long v1), .second, .val (.int v3), .val (.long v4), .second, .val (.ref c79), .val (.int r83), .val (.long r85), .second, .val (.long x86), .second] [(.int (1 : Int32))])) t
                    refine XS.goto X89.here hx rfl (pc0 := 197) (pc' := 201) rfl (hb hby at_197) (by decide) (by decide) ?_
                    exact k
                  obtain rfl : (1 : Int32) = r := Option.some.inj hF
                  exact own_retN X89 hx (t := .boolean) hret hlk (by simp) (hb hby at_201) e89 (v := (1 : Int32)) (by decide) ⟨rfl, N89, K82_⟩ (by decide) (by decide)
                · rw [if_neg hc178] at hF
                  refine own_Goes.via (B := T89.setTop (mkF m 190 #[.val (.int v0), .val (.long v1), .second, .val (.int v3), .val (.long v4), .second, .val (.ref c79), .val (.int r83), .val (.long r85), .second, .val (.long x86), .second] [(.long x86), (.long v4), (.long ((r83.toInt64) + (1 : Int64)))])) (fun t k => ?_) ?_
                  · show Steps p.tables e below (T89.setTop (mkF m 178 #[.val (.int v0), .val (.long v1), .second, .val (.int v3), .val (.long v4), .second, .val (.ref c79), .val (.int r83), .val (.long r85), .second, .val (.long x86), .second] [(.int (lcmpW (r83.toInt64) r85))])) t
                    refine XS.ifNo X89.here hx rfl (hb hby at_178) rfl (own_feqL hc178).1 ?_
                    show Steps p.tables e below (T89.setTop (mkF m 181 #[.val (.int v0), .val (.long v1), .second, .val (.int v3), .val (.long v4), .second, .val (.ref c79), .val (.int r83), .val (.long r85), .second, .val (.long x86), .second] [])) t
                    refine XS.iload X89.here hx rfl (hb hby at_181) rfl ?_
                    show Steps p.tables e below (T89.setTop (mkF m 183 #[.val (.int v0), .val (.long v1), .second, .val (.int v3), .val (.long v4), .second, .val (.ref c79), .val (.int r83), .val (.long r85), .second, .val (.long x86), .second] [(.int r83)])) t
                    refine XS.i2l X89.here hx rfl (hb hby at_183) rfl ?_
                    show Steps p.tables e below (T89.setTop (mkF m 184 #[.val (.int v0), .val (.long v1), .second, .val (.int v3), .val (.long v4), .second, .val (.ref c79), .val (.int r83), .val (.long r85), .second, .val (.long x86), .second] [(.long (r83.toInt64))])) t
                    refine XS.lconst X89.here hx rfl (hb hby at_184) ?_
                    show Steps p.tables e below (T89.setTop (mkF m 185 #[.val (.int v0), .val (.long v1), .second, .val (.int v3), .val (.long v4), .second, .val (.ref c79), .val (.int r83), .val (.long r85), .second, .val (.long x86), .second] [(.long (1 : Int64)), (.long (r83.toInt64))])) t
                    refine XS.ladd X89.here hx rfl (hb hby at_185) rfl ?_
                    show Steps p.tables e below (T89.setTop (mkF m 186 #[.val (.int v0), .val (.long v1), .second, .val (.int v3), .val (.long v4), .second, .val (.ref c79), .val (.int r83), .val (.long r85), .second, .val (.long x86), .second] [(.long ((r83.toInt64) + (1 : Int64)))])) t
                    refine XS.lload X89.here hx rfl (hb hby at_186) rfl ?_
                    show Steps p.tables e below (T89.setTop (mkF m 188 #[.val (.int v0), .val (.long v1), .second, .val (.int v3), .val (.long v4), .second, .val (.ref c79), .val (.int r83), .val (.long r85), .second, .val (.long x86), .second] [(.long v4), (.long ((r83.toInt64) + (1 : Int64)))])) t
                    refine XS.lload X89.here hx rfl (hb hby at_188) rfl ?_
                    exact k
                  obtain ⟨x90, hx90, hF⟩ := own_lt_e hF
                  rw [← hx90]
                  obtain ⟨r91, hr91, hF⟩ := own_bd_e hF
                  obtain ⟨_, _, ⟨T91, L91, k91, n91⟩, -, X91, ⟨Lc91, hQ91, l91, y91, z91⟩, st91⟩ := Jvm.LawKit.callS X89 hx (y := (⟨"com/example/expire/expire/BatchSizeTookPinLaw", "paced", "(JJJ)Z"⟩ : MethodName)) hown (mvT hZ (w38 hw)) (mvT hZ (w39 hw)) (mvT hZ (w40 hw)) (mvT hZ (w41 hw)) (by decide) (backOf (W := 0) (rm_BatchSizeTookPinLaw_paced l Z a0 hw [] T82.heap n0 z82_ x90 v4 x86 r91 hr91) hZ (w41 hw) (w40 hw) (by decide) (by decide)) (g := (mkF m 190 #[.val (.int v0), .val (.long v1), .second, .val (.int v3), .val (.long v4), .second, .val (.ref c79), .val (.int r83), .val (.long r85), .second, .val (.long x86), .second] [(.long x86), (.long v4), (.long x90)])) rfl (by rw [hml]; rfl) (argsL := [(.long x90), (.long v4), (.long x86)]) (rest := []) (lenOf pd_4 rfl) rfl (by show 2 * 0 + _ ≤ _; exact Nat.le_of_eq rfl) (hb hby at_190) (fun _ _ => ⟨rfl, e89, (by decide : 1 + 0 ≤ _), (by decide : 3 + 0 ≤ _)⟩)
                  dsimp only [Pt.U, Pt.locs, Pt.cells, Pt.slots] at X91 l91 y91 z91 st91 hQ91
                  subst l91 y91 z91
                  obtain ⟨rfl, N91q, e91⟩ := hQ91
                  have N91 := Fr.app N89 N91q
                  refine own_Goes.via st91 ?_
                  show own_Goes _ _ _ _ _ _ _ (T91.setTop (mkF m 193 #[.val (.int v0), .val (.long v1), .second, .val (.int v3), .val (.long v4), .second, .val (.ref c79), .val (.int r83), .val (.long r85), .second, .val (.long x86), .second] [(.int r91)]))
                  by_cases hc193 : r91 = (0 : Int32)
                  · rw [if_pos hc193] at hF
                    refine own_Goes.via (B := T91.setTop (mkF m 201 #[.val (.int v0), .val (.long v1), .second, .val (.int v3), .val (.long v4), .second, .val (.ref c79), .val (.int r83), .val (.long r85), .second, .val (.long x86), .second] [(.int (1 : Int32))])) (fun t k => ?_) ?_
                    · show Steps p.tables e below (T91.setTop (mkF m 193 #[.val (.int v0), .val (.long v1), .second, .val (.int v3), .val (.long v4), .second, .val (.ref c79), .val (.int r83), .val (.long r85), .second, .val (.long x86), .second] [(.int r91)])) t
                      refine XS.ifNo X91.here hx rfl (hb hby at_193) rfl ((if0 _ _).trans (teq hc193).2) ?_
                      show Steps p.tables e below (T91.setTop (mkF m 196 #[.val (.int v0), .val (.long v1), .second, .val (.int v3), .val (.long v4), .second, .val (.ref c79), .val (.int r83), .val (.long r85), .second, .val (.long x86), .second] [])) t
                      refine XS.iconst X91.here hx rfl (hb hby at_196) ?_
                      show Steps p.tables e below (T91.setTop (mkF m 197 #[.val (.int v0), .val (.long v1), .second, .val (.int v3), .val (.long v4), .second, .val (.ref c79), .val (.int r83), .val (.long r85), .second, .val (.long x86), .second] [(.int (1 : Int32))])) t
                      refine XS.goto X91.here hx rfl (pc0 := 197) (pc' := 201) rfl (hb hby at_197) (by decide) (by decide) ?_
                      exact k
                    obtain rfl : (1 : Int32) = r := Option.some.inj hF
                    exact own_retN X91 hx (t := .boolean) hret hlk (by simp) (hb hby at_201) e91 (v := (1 : Int32)) (by decide) ⟨rfl, N91, K82_⟩ (by decide) (by decide)
                  · rw [if_neg hc193] at hF
                    refine own_Goes.via (B := T91.setTop (mkF m 201 #[.val (.int v0), .val (.long v1), .second, .val (.int v3), .val (.long v4), .second, .val (.ref c79), .val (.int r83), .val (.long r85), .second, .val (.long x86), .second] [(.int (0 : Int32))])) (fun t k => ?_) ?_
                    · show Steps p.tables e below (T91.setTop (mkF m 193 #[.val (.int v0), .val (.long v1), .second, .val (.int v3), .val (.long v4), .second, .val (.ref c79), .val (.int r83), .val (.long r85), .second, .val (.long x86), .second] [(.int r91)])) t
                      refine XS.ifYes X91.here hx rfl (pc0 := 193) (pc' := 200) rfl (hb hby at_193) rfl ((if0 _ _).trans (feq hc193).2) (by decide) (by decide) ?_
                      show Steps p.tables e below (T91.setTop (mkF m 200 #[.val (.int v0), .val (.long v1), .second, .val (.int v3), .val (.long v4), .second, .val (.ref c79), .val (.int r83), .val (.long r85), .second, .val (.long x86), .second] [])) t
                      refine XS.iconst X91.here hx rfl (hb hby at_200) ?_
                      exact k
                    obtain rfl : (0 : Int32) = r := Option.some.inj hF
                    exact own_retN X91 hx (t := .boolean) hret hlk (by simp) (hb hby at_201) e91 (v := (0 : Int32)) (by decide) ⟨rfl, N91, K82_⟩ (by decide) (by decide)
        · rw [if_neg hc96] at hF
          refine own_Goes.via (B := T85.setTop (mkF m 103 #[.val (.int v0), .val (.long v1), .second, .val (.int v3), .val (.long v4), .second, .val (.ref c79), .val (.int r83), .val (.long r85), .second, .unset, .unset] [(.int (100 : Int32)), (.int r83)])) (fun t k => ?_) ?_
          · show Steps p.tables e below (T85.setTop (mkF m 96 #[.val (.int v0), .val (.long v1), .second, .val (.int v3), .val (.long v4), .second, .val (.ref c79), .val (.int r83), .val (.long r85), .second, .unset, .unset] [(.int (lcmpW r85 (100 : Int64)))])) t
            refine XS.ifNo X85.here hx rfl (hb hby at_96) rfl (own_fgtL hc96).1 ?_
            show Steps p.tables e below (T85.setTop (mkF m 99 #[.val (.int v0), .val (.long v1), .second, .val (.int v3), .val (.long v4), .second, .val (.ref c79), .val (.int r83), .val (.long r85), .second, .unset, .unset] [])) t
            refine XS.iload X85.here hx rfl (hb hby at_99) rfl ?_
            show Steps p.tables e below (T85.setTop (mkF m 101 #[.val (.int v0), .val (.long v1), .second, .val (.int v3), .val (.long v4), .second, .val (.ref c79), .val (.int r83), .val (.long r85), .second, .unset, .unset] [(.int r83)])) t
            refine XS.bipush X85.here hx rfl (hb hby at_101) ?_
            exact k
          by_cases hc103 : r83 = (100 : Int32)
          · rw [if_pos hc103] at hF
            refine own_Goes.via (B := T85.setTop (mkF m 111 #[.val (.int v0), .val (.long v1), .second, .val (.int v3), .val (.long v4), .second, .val (.ref c79), .val (.int r83), .val (.long r85), .second, .unset, .unset] [(.int (1 : Int32))])) (fun t k => ?_) ?_
            · show Steps p.tables e below (T85.setTop (mkF m 103 #[.val (.int v0), .val (.long v1), .second, .val (.int v3), .val (.long v4), .second, .val (.ref c79), .val (.int r83), .val (.long r85), .second, .unset, .unset] [(.int (100 : Int32)), (.int r83)])) t
              refine XS.icmpNo X85.here hx rfl (hb hby at_103) rfl (teq hc103).2 ?_
              show Steps p.tables e below (T85.setTop (mkF m 106 #[.val (.int v0), .val (.long v1), .second, .val (.int v3), .val (.long v4), .second, .val (.ref c79), .val (.int r83), .val (.long r85), .second, .unset, .unset] [])) t
              refine XS.iconst X85.here hx rfl (hb hby at_106) ?_
              show Steps p.tables e below (T85.setTop (mkF m 107 #[.val (.int v0), .val (.long v1), .second, .val (.int v3), .val (.long v4), .second, .val (.ref c79), .val (.int r83), .val (.long r85), .second, .unset, .unset] [(.int (1 : Int32))])) t
              refine XS.goto X85.here hx rfl (pc0 := 107) (pc' := 111) rfl (hb hby at_107) (by decide) (by decide) ?_
              exact k
            obtain rfl : (1 : Int32) = r := Option.some.inj hF
            exact own_retN X85 hx (t := .boolean) hret hlk (by simp) (hb hby at_111) e85 (v := (1 : Int32)) (by decide) ⟨rfl, N85, K82_⟩ (by decide) (by decide)
          · rw [if_neg hc103] at hF
            refine own_Goes.via (B := T85.setTop (mkF m 111 #[.val (.int v0), .val (.long v1), .second, .val (.int v3), .val (.long v4), .second, .val (.ref c79), .val (.int r83), .val (.long r85), .second, .unset, .unset] [(.int (0 : Int32))])) (fun t k => ?_) ?_
            · show Steps p.tables e below (T85.setTop (mkF m 103 #[.val (.int v0), .val (.long v1), .second, .val (.int v3), .val (.long v4), .second, .val (.ref c79), .val (.int r83), .val (.long r85), .second, .unset, .unset] [(.int (100 : Int32)), (.int r83)])) t
              refine XS.icmpYes X85.here hx rfl (pc0 := 103) (pc' := 110) rfl (hb hby at_103) rfl (feq hc103).2 (by decide) (by decide) ?_
              show Steps p.tables e below (T85.setTop (mkF m 110 #[.val (.int v0), .val (.long v1), .second, .val (.int v3), .val (.long v4), .second, .val (.ref c79), .val (.int r83), .val (.long r85), .second, .unset, .unset] [])) t
              refine XS.iconst X85.here hx rfl (hb hby at_110) ?_
              exact k
            obtain rfl : (0 : Int32) = r := Option.some.inj hF
            exact own_retN X85 hx (t := .boolean) hret hlk (by simp) (hb hby at_111) e85 (v := (0 : Int32)) (by decide) ⟨rfl, N85, K82_⟩ (by decide) (by decide)
      · rw [if_neg hc66] at hF
        refine own_Goes.via (B := T85.setTop (mkF m 77 #[.val (.int v0), .val (.long v1), .second, .val (.int v3), .val (.long v4), .second, .val (.ref c79), .val (.int r83), .val (.long r85), .second, .unset, .unset] [(.long r85), (.long (100 : Int64)), (.long (r83.toInt64))])) (fun t k => ?_) ?_
        · show Steps p.tables e below (T85.setTop (mkF m 66 #[.val (.int v0), .val (.long v1), .second, .val (.int v3), .val (.long v4), .second, .val (.ref c79), .val (.int r83), .val (.long r85), .second, .unset, .unset] [(.int (lcmpW v4 (0 : Int64)))])) t
          refine XS.ifNo X85.here hx rfl (hb hby at_66) rfl (own_fgtL hc66).1 ?_
          show Steps p.tables e below (T85.setTop (mkF m 69 #[.val (.int v0), .val (.long v1), .second, .val (.int v3), .val (.long v4), .second, .val (.ref c79), .val (.int r83), .val (.long r85), .second, .unset, .unset] [])) t
          refine XS.iload X85.here hx rfl (hb hby at_69) rfl ?_
          show Steps p.tables e below (T85.setTop (mkF m 71 #[.val (.int v0), .val (.long v1), .second, .val (.int v3), .val (.long v4), .second, .val (.ref c79), .val (.int r83), .val (.long r85), .second, .unset, .unset] [(.int r83)])) t
          refine XS.i2l X85.here hx rfl (hb hby at_71) rfl ?_
          show Steps p.tables e below (T85.setTop (mkF m 72 #[.val (.int v0), .val (.long v1), .second, .val (.int v3), .val (.long v4), .second, .val (.ref c79), .val (.int r83), .val (.long r85), .second, .unset, .unset] [(.long (r83.toInt64))])) t
          refine X85.ldc2Long hx hown (mvT hZ (w35 hw)) (g := (mkF m 72 #[.val (.int v0), .val (.long v1), .second, .val (.int v3), .val (.long v4), .second, .val (.ref c79), .val (.int r83), .val (.long r85), .second, .unset, .unset] [(.long (r83.toInt64))])) rfl (hb hby at_72) _ ?_
          show Steps p.tables e below (T85.setTop (mkF m 75 #[.val (.int v0), .val (.long v1), .second, .val (.int v3), .val (.long v4), .second, .val (.ref c79), .val (.int r83), .val (.long r85), .second, .unset, .unset] [(.long (100 : Int64)), (.long (r83.toInt64))])) t
          refine XS.lload X85.here hx rfl (hb hby at_75) rfl ?_
          exact k
        obtain ⟨r92, hr92, hF⟩ := own_bd_e hF
        obtain ⟨_, _, ⟨T92, L92, k92, n92⟩, -, X92, ⟨Lc92, hQ92, l92, y92, z92⟩, st92⟩ := Jvm.LawKit.callS X85 hx (y := (⟨"java/lang/Math", "max", "(JJ)J"⟩ : MethodName)) hown (mvT hZ (w36 hw)) (mvT hZ (w25 hw)) (mvT hZ (w22 hw)) (mvT hZ (w26 hw)) (by decide) (backOf (W := 2) (rm_Math_max l Z a0 hw [] T82.heap n0 z82_ (100 : Int64) r85 r92 hr92) hZ (w26 hw) (w22 hw) (by decide) (by decide)) (g := (mkF m 77 #[.val (.int v0), .val (.long v1), .second, .val (.int v3), .val (.long v4), .second, .val (.ref c79), .val (.int r83), .val (.long r85), .second, .unset, .unset] [(.long r85), (.long (100 : Int64)), (.long (r83.toInt64))])) rfl (by rw [hml]; rfl) (argsL := [(.long (100 : Int64)), (.long r85)]) (rest := [(.long (r83.toInt64))]) (lenOf pd_1 rfl) rfl (by show 2 * 0 + _ ≤ _; exact Nat.le_of_eq rfl) (hb hby at_77) (fun _ _ => ⟨rfl, e85, (by decide : 1 + 0 ≤ _), (by decide : 3 + 0 ≤ _)⟩)
        dsimp only [Pt.U, Pt.locs, Pt.cells, Pt.slots] at X92 l92 y92 z92 st92 hQ92
        subst l92 y92 z92
        obtain ⟨rfl, N92q, e92⟩ := hQ92
        have N92 := Fr.app N85 N92q
        refine own_Goes.via st92 ?_
        show own_Goes _ _ _ _ _ _ _ (T92.setTop (mkF m 80 #[.val (.int v0), .val (.long v1), .second, .val (.int v3), .val (.long v4), .second, .val (.ref c79), .val (.int r83), .val (.long r85), .second, .unset, .unset] [(.long r92), (.long (r83.toInt64))]))
        refine own_Goes.via (B := T92.setTop (mkF m 81 #[.val (.int v0), .val (.long v1), .second, .val (.int v3), .val (.long v4), .second, .val (.ref c79), .val (.int r83), .val (.long r85), .second, .unset, .unset] [(.int (lcmpW (r83.toInt64) r92))])) (fun t k => ?_) ?_
        · show Steps p.tables e below (T92.setTop (mkF m 80 #[.val (.int v0), .val (.long v1), .second, .val (.int v3), .val (.long v4), .second, .val (.ref c79), .val (.int r83), .val (.long r85), .second, .unset, .unset] [(.long r92), (.long (r83.toInt64))])) t
          refine XS.lcmp X92.here hx rfl (hb hby at_80) rfl ?_
          exact k
        by_cases hc81 : (r83.toInt64) = r92
        · rw [if_pos hc81] at hF
          refine own_Goes.via (B := T92.setTop (mkF m 89 #[.val (.int v0), .val (.long v1), .second, .val (.int v3), .val (.long v4), .second, .val (.ref c79), .val (.int r83), .val (.long r85), .second, .unset, .unset] [(.int (1 : Int32))])) (fun t k => ?_) ?_
          · show Steps p.tables e below (T92.setTop (mkF m 81 #[.val (.int v0), .val (.long v1), .second, .val (.int v3), .val (.long v4), .second, .val (.ref c79), .val (.int r83), .val (.long r85), .second, .unset, .unset] [(.int (lcmpW (r83.toInt64) r92))])) t
            refine XS.ifNo X92.here hx rfl (hb hby at_81) rfl (own_teqL hc81).2 ?_
            show Steps p.tables e below (T92.setTop (mkF m 84 #[.val (.int v0), .val (.long v1), .second, .val (.int v3), .val (.long v4), .second, .val (.ref c79), .val (.int r83), .val (.long r85), .second, .unset, .unset] [])) t
            refine XS.iconst X92.here hx rfl (hb hby at_84) ?_
            show Steps p.tables e below (T92.setTop (mkF m 85 #[.val (.int v0), .val (.long v1), .second, .val (.int v3), .val (.long v4), .second, .val (.ref c79), .val (.int r83), .val (.long r85), .second, .unset, .unset] [(.int (1 : Int32))])) t
            refine XS.goto X92.here hx rfl (pc0 := 85) (pc' := 89) rfl (hb hby at_85) (by decide) (by decide) ?_
            exact k
          obtain rfl : (1 : Int32) = r := Option.some.inj hF
          exact own_retN X92 hx (t := .boolean) hret hlk (by simp) (hb hby at_89) e92 (v := (1 : Int32)) (by decide) ⟨rfl, N92, K82_⟩ (by decide) (by decide)
        · rw [if_neg hc81] at hF
          refine own_Goes.via (B := T92.setTop (mkF m 89 #[.val (.int v0), .val (.long v1), .second, .val (.int v3), .val (.long v4), .second, .val (.ref c79), .val (.int r83), .val (.long r85), .second, .unset, .unset] [(.int (0 : Int32))])) (fun t k => ?_) ?_
          · show Steps p.tables e below (T92.setTop (mkF m 81 #[.val (.int v0), .val (.long v1), .second, .val (.int v3), .val (.long v4), .second, .val (.ref c79), .val (.int r83), .val (.long r85), .second, .unset, .unset] [(.int (lcmpW (r83.toInt64) r92))])) t
            refine XS.ifYes X92.here hx rfl (pc0 := 81) (pc' := 88) rfl (hb hby at_81) rfl (own_feqL hc81).2 (by decide) (by decide) ?_
            show Steps p.tables e below (T92.setTop (mkF m 88 #[.val (.int v0), .val (.long v1), .second, .val (.int v3), .val (.long v4), .second, .val (.ref c79), .val (.int r83), .val (.long r85), .second, .unset, .unset] [])) t
            refine XS.iconst X92.here hx rfl (hb hby at_88) ?_
            exact k
          obtain rfl : (0 : Int32) = r := Option.some.inj hF
          exact own_retN X92 hx (t := .boolean) hret hlk (by simp) (hb hby at_89) e92 (v := (0 : Int32)) (by decide) ⟨rfl, N92, K82_⟩ (by decide) (by decide)
theorem ef_law (m : MethodId) (x0 : Int32) (x1 : Int64) (x2 : Int32) (x3 : Int64) : entryFrame m #[(.int x0), (.long x1), (.int x2), (.long x3)] maxLocals = mkF m 0 #[.val (.int x0), .val (.long x1), .second, .val (.int x2), .val (.long x3), .second, .unset, .unset, .unset, .unset, .unset, .unset] [] := by first | (simp [entryFrame, mkF, argsToLocals, Value.category, maxLocals]; done) | rfl
set_option maxRecDepth 65536 in
set_option maxHeartbeats 4000000 in
theorem rm_law (l : Launch) (Z : State) (a0 : Array Value) (hw : ∀ d ∈ tables_1, d.before a0 Z = true) (ws : List Jvm.Cond) (hE : Heap) (n0 : Nat) (z : n0 ≤ hE.size)  (v0 : Int32) (v1 : Int64) (v3 : Int32) (v4 : Int64) (r : Int32) (hF : (f_law v0 v1 v3 v4) = some r) :
    MetFree l x (head1 (Jvm.Cond.code x code maxLocals ret :: ws) room_1) (fun a U => a = #[(.int v0), (.long v1), (.int v3), (.long v4)] ∧ Z.Warmed39 U.vm ∧ U.heap = hE) (fun _ _ _ _ _ => True) (fun _ U o U' => ∃ v L, o = .returned v ∧ (Q_law Z hE n0 r) v U'.heap L ∧ FrameEnd U o U' L 1 3) := by
  refine MetFree.of_bodySF (plainFor_of_name pn_com_example_expire_expire_BatchSizeTookPinLaw) hisR ?_
  intro p e s m args below meth c s₁ Bd hml0 hP hK
  obtain ⟨rfl, hZ, hh⟩ := hP
  have X0 : Stand p l e room_1 s m #[(.int v0), (.long v1), (.int v3), (.long v4)] below meth c s₁ [] 0 0 := Stand.of_body Bd
  have e0 : s₁.heap = hE := by rw [← hh, Bd.state]; rfl
  have cx : Cx_law p s m meth c Z a0 := ⟨Bd.exec, hZ, hw, Bd.bytes, hml0, findClass_of_methodNamed Bd.named, Bd.returns, Bd.notSynchronized, (name_of_methodNamed Bd.named Bd.method).1⟩
  show own_Goes p e below s (Q_law Z hE n0 r) 1 3 (s₁.setTop (entryFrame m #[(.int v0), (.long v1), (.int v3), (.long v4)] maxLocals))
  rw [ef_law]
  exact b_law cx X0 e0 (Fr.nil n0) (Keep.refl _ _) z v0 v1 v3 v4 _ hF
/-! the words of the mirrors -/
theorem own_bs {α β : Type} (x : α) (f : α → Option β) : own_bd (some x) f = f x := by unfold own_bd; exact rfl
theorem own_ls {α β : Type} (x : α) (f : α → Option β) : own_lt x f = f x := by unfold own_lt; exact rfl
theorem own_bn {α : Type} (x : Option α) : own_bd x (fun y => some y) = x := by cases x <;> exact rfl
theorem own_ct {β : Type} {P : Prop} [Decidable P] (x : Option β) (h : P) : own_ck P x = x := by unfold own_ck; exact if_pos h
/-! numbers: ints and longs as integers -/
theorem own_i1 (x : Int32) : -2147483648 ≤ x.toInt := Int32.le_toInt x
theorem own_i2 (x : Int32) : x.toInt < 2147483648 := Int32.toInt_lt x
theorem own_j1 (x : Int64) : -9223372036854775808 ≤ x.toInt := Int64.le_toInt x
theorem own_j2 (x : Int64) : x.toInt < 9223372036854775808 := Int64.toInt_lt x
theorem own_iadd {a b : Int32} (h1 : -2147483648 ≤ a.toInt + b.toInt) (h2 : a.toInt + b.toInt < 2147483648) : (a + b).toInt = a.toInt + b.toInt := by
  rw [Int32.toInt_add]; exact Int.bmod_eq_of_le (by omega) (by omega)
theorem own_isub {a b : Int32} (h1 : -2147483648 ≤ a.toInt - b.toInt) (h2 : a.toInt - b.toInt < 2147483648) : (a - b).toInt = a.toInt - b.toInt := by
  rw [Int32.toInt_sub]; exact Int.bmod_eq_of_le (by omega) (by omega)
theorem own_imul {a b : Int32} (h1 : -2147483648 ≤ a.toInt * b.toInt) (h2 : a.toInt * b.toInt < 2147483648) : (a * b).toInt = a.toInt * b.toInt := by
  rw [Int32.toInt_mul]; exact Int.bmod_eq_of_le (by omega) (by omega)
theorem own_ladd {a b : Int64} (h1 : -9223372036854775808 ≤ a.toInt + b.toInt) (h2 : a.toInt + b.toInt < 9223372036854775808) : (a + b).toInt = a.toInt + b.toInt := by
  rw [Int64.toInt_add]; exact Int.bmod_eq_of_le (by omega) (by omega)
theorem own_lsub {a b : Int64} (h1 : -9223372036854775808 ≤ a.toInt - b.toInt) (h2 : a.toInt - b.toInt < 9223372036854775808) : (a - b).toInt = a.toInt - b.toInt := by
  rw [Int64.toInt_sub]; exact Int.bmod_eq_of_le (by omega) (by omega)
theorem own_lmul {a b : Int64} (h1 : -9223372036854775808 ≤ a.toInt * b.toInt) (h2 : a.toInt * b.toInt < 9223372036854775808) : (a * b).toInt = a.toInt * b.toInt := by
  rw [Int64.toInt_mul]; exact Int.bmod_eq_of_le (by omega) (by omega)
theorem own_imask {x m : Int32} (k : Nat) (hk : k ≤ 31) (hm : m.toBitVec.toNat = 2 ^ k - 1) : (x &&& m).toInt = x.toInt % 2 ^ k := by
  have h1 : (x &&& m).toBitVec.toNat = x.toBitVec.toNat % 2 ^ k := by rw [Int32.toBitVec_and, BitVec.toNat_and, hm, Nat.and_two_pow_sub_one_eq_mod]
  have h3 : x.toBitVec.toNat % 2 ^ k < 2 ^ k := Nat.mod_lt _ (Nat.pow_pos (by decide))
  have h4 : (2 : Nat) ^ k ≤ 2 ^ 31 := Nat.pow_le_pow_right (by decide) hk
  have h2 : (x &&& m).toInt = ((x.toBitVec.toNat % 2 ^ k : Nat) : Int) := by
    show (x &&& m).toBitVec.toInt = _
    rw [BitVec.toInt_eq_toNat_of_lt (by rw [h1]; omega), h1]
  rw [h2]
  have h5 : x.toInt = x.toBitVec.toInt := rfl
  have h6 : ((2 : Int) ^ k) ∣ 4294967296 := by
    have : (4294967296 : Int) = 2 ^ k * 2 ^ (32 - k) := by rw [← Int.pow_add, show k + (32 - k) = 32 by omega]; rfl
    exact ⟨_, this⟩
  rw [h5, BitVec.toInt_eq_toNat_cond]
  split
  · exact Int.natCast_emod _ _
  · rw [Int.natCast_emod, show (((2 ^ 32 : Nat) : Int)) = 4294967296 from rfl, Int.sub_emod, Int.emod_eq_zero_of_dvd h6]; simp
theorem own_lmask {x m : Int64} (k : Nat) (hk : k ≤ 63) (hm : m.toBitVec.toNat = 2 ^ k - 1) : (x &&& m).toInt = x.toInt % 2 ^ k := by
  have h1 : (x &&& m).toBitVec.toNat = x.toBitVec.toNat % 2 ^ k := by rw [Int64.toBitVec_and, BitVec.toNat_and, hm, Nat.and_two_pow_sub_one_eq_mod]
  have h3 : x.toBitVec.toNat % 2 ^ k < 2 ^ k := Nat.mod_lt _ (Nat.pow_pos (by decide))
  have h4 : (2 : Nat) ^ k ≤ 2 ^ 63 := Nat.pow_le_pow_right (by decide) hk
  have h2 : (x &&& m).toInt = ((x.toBitVec.toNat % 2 ^ k : Nat) : Int) := by
    show (x &&& m).toBitVec.toInt = _
    rw [BitVec.toInt_eq_toNat_of_lt (by rw [h1]; omega), h1]
  rw [h2]
  have h5 : x.toInt = x.toBitVec.toInt := rfl
  have h6 : ((2 : Int) ^ k) ∣ 18446744073709551616 := by
    have : (18446744073709551616 : Int) = 2 ^ k * 2 ^ (64 - k) := by rw [← Int.pow_add, show k + (64 - k) = 64 by omega]; rfl
    exact ⟨_, this⟩
  rw [h5, BitVec.toInt_eq_toNat_cond]
  split
  · exact Int.natCast_emod _ _
  · rw [Int.natCast_emod, show (((2 ^ 64 : Nat) : Int)) = 18446744073709551616 from rfl, Int.sub_emod, Int.emod_eq_zero_of_dvd h6]; simp
theorem own_bm32 (x : Int) : x.bmod 4294967296 = (x + 2147483648) % 4294967296 - 2147483648 := by
  unfold Int.bmod; dsimp only; split <;> omega
theorem own_bm64 (x : Int) : x.bmod 18446744073709551616 = (x + 9223372036854775808) % 18446744073709551616 - 9223372036854775808 := by
  unfold Int.bmod; dsimp only; split <;> omega
theorem own_bm8 (x : Int) : x.bmod 256 = (x + 128) % 256 - 128 := by
  unfold Int.bmod; dsimp only; split <;> omega
theorem own_bm16 (x : Int) : x.bmod 65536 = (x + 32768) % 65536 - 32768 := by
  unfold Int.bmod; dsimp only; split <;> omega
theorem own_b8 (x : Int32) : x.toInt8.toInt32.toInt = (x.toInt + 128) % 256 - 128 := by rw [Int8.toInt_toInt32, Int32.toInt_toInt8]; exact own_bm8 _
theorem own_s16 (x : Int32) : x.toInt16.toInt32.toInt = (x.toInt + 32768) % 65536 - 32768 := by rw [Int16.toInt_toInt32, Int32.toInt_toInt16]; exact own_bm16 _
theorem own_l2i (x : Int64) : x.toInt32.toInt = (x.toInt + 2147483648) % 4294967296 - 2147483648 := by rw [Int64.toInt_toInt32]; exact own_bm32 _
theorem own_i2l (x : Int32) : x.toInt64.toInt = x.toInt := Int32.toInt_toInt64 x
theorem own_idiv {a b : Int32} (h1 : 0 ≤ a.toInt) (h2 : 0 < b.toInt) : (a / b).toInt = a.toInt / b.toInt := by
  rw [Int32.toInt_div_of_ne_right a b (fun q => by rw [q] at h2; exact absurd h2 (by decide)), Int.tdiv_eq_ediv_of_nonneg h1]
theorem own_ldiv {a b : Int64} (h1 : 0 ≤ a.toInt) (h2 : 0 < b.toInt) : (a / b).toInt = a.toInt / b.toInt := by
  rw [Int64.toInt_div_of_ne_right a b (fun q => by rw [q] at h2; exact absurd h2 (by decide)), Int.tdiv_eq_ediv_of_nonneg h1]
theorem own_imod {a b : Int32} (h1 : 0 ≤ a.toInt) : (a % b).toInt = a.toInt % b.toInt := by rw [Int32.toInt_mod, Int.tmod_eq_emod_of_nonneg h1]
theorem own_lmod {a b : Int64} (h1 : 0 ≤ a.toInt) : (a % b).toInt = a.toInt % b.toInt := by rw [Int64.toInt_mod, Int.tmod_eq_emod_of_nonneg h1]
theorem own_uI (x : Int32) : (x.toUInt32.toNat : Int) = x.toInt % 4294967296 := by
  have h : x.toInt = x.toBitVec.toInt := rfl
  have q : x.toUInt32.toNat = x.toBitVec.toNat := rfl
  have b := x.toBitVec.isLt
  rw [h, q, BitVec.toInt_eq_toNat_cond]
  split <;> omega
theorem own_uJ (x : Int64) : (x.toUInt64.toNat : Int) = x.toInt % 18446744073709551616 := by
  have h : x.toInt = x.toBitVec.toInt := rfl
  have q : x.toUInt64.toNat = x.toBitVec.toNat := rfl
  have b := x.toBitVec.isLt
  rw [h, q, BitVec.toInt_eq_toNat_cond]
  split <;> omega
theorem own_ofU (u : UInt32) (h : u.toNat < 2147483648) : u.toInt32.toInt = u.toNat := by
  show u.toBitVec.toInt = _
  exact BitVec.toInt_eq_toNat_of_lt (by show 2 * u.toNat < 2 ^ 32; omega)
theorem own_ofUJ (u : UInt64) (h : u.toNat < 9223372036854775808) : u.toInt64.toInt = u.toNat := by
  show u.toBitVec.toInt = _
  exact BitVec.toInt_eq_toNat_of_lt (by show 2 * u.toNat < 2 ^ 64; omega)
/-- Java's >>> on ints by a constant from 1 to 31 -/
theorem own_iushr (x s : Int32) (n : Nat) (h0 : 1 ≤ n) (hn : n < 32) (hs : (s &&& 31).toUInt32.toNat = n) : ((x.toUInt32 >>> (s &&& 31).toUInt32).toInt32).toInt = (x.toInt % 4294967296) / (2 ^ n : Nat) := by
  have e : (x.toUInt32 >>> (s &&& 31).toUInt32).toNat = x.toUInt32.toNat / 2 ^ n := by rw [UInt32.toNat_shiftRight, hs, Nat.mod_eq_of_lt hn, Nat.shiftRight_eq_div_pow]
  have b : x.toUInt32.toNat < 4294967296 := x.toUInt32.toNat_lt
  have c : x.toUInt32.toNat / 2 ^ n ≤ x.toUInt32.toNat / 2 ^ 1 := Nat.div_le_div_left (Nat.pow_le_pow_right (by decide) h0) (by decide)
  rw [own_ofU _ (by rw [e]; omega), e, Int.natCast_ediv, own_uI]
theorem own_lushr (x : Int64) (s : Int32) (n : Nat) (h0 : 1 ≤ n) (hn : n < 64) (hs : (s &&& 0x3f).toInt64.toUInt64.toNat = n) : ((x.toUInt64 >>> (s &&& 0x3f).toInt64.toUInt64).toInt64).toInt = (x.toInt % 18446744073709551616) / (2 ^ n : Nat) := by
  have e : (x.toUInt64 >>> (s &&& 0x3f).toInt64.toUInt64).toNat = x.toUInt64.toNat / 2 ^ n := by rw [UInt64.toNat_shiftRight, hs, Nat.mod_eq_of_lt hn, Nat.shiftRight_eq_div_pow]
  have b : x.toUInt64.toNat < 18446744073709551616 := x.toUInt64.toNat_lt
  have c : x.toUInt64.toNat / 2 ^ n ≤ x.toUInt64.toNat / 2 ^ 1 := Nat.div_le_div_left (Nat.pow_le_pow_right (by decide) h0) (by decide)
  rw [own_ofUJ _ (by rw [e]; omega), e, Int.natCast_ediv, own_uJ]
theorem own_ishl {x s : Int32} (n : Nat) (hs : (s.toBitVec.smod 32).toNat = n) (h0 : 0 ≤ x.toInt) (h1 : x.toInt * (2 ^ n : Nat) < 2147483648) : (x <<< s).toInt = x.toInt * (2 ^ n : Nat) := by
  have h : x.toInt = x.toBitVec.toInt := rfl
  have hx : x.toInt = x.toBitVec.toNat := by
    have b := x.toBitVec.isLt
    rw [h, BitVec.toInt_eq_toNat_cond]; rw [h, BitVec.toInt_eq_toNat_cond] at h0
    split at h0 <;> rename_i q
    · rw [if_pos q]
    · omega
  have e : (x <<< s).toBitVec.toNat = x.toBitVec.toNat * 2 ^ n := by
    rw [Int32.toBitVec_shiftLeft, BitVec.shiftLeft_eq', hs, BitVec.toNat_shiftLeft, Nat.shiftLeft_eq]
    apply Nat.mod_eq_of_lt
    rw [hx] at h1
    omega
  show (x <<< s).toBitVec.toInt = _
  rw [BitVec.toInt_eq_toNat_of_lt (by rw [e]; rw [hx] at h1; omega), e, hx]
  simp
theorem own_lshl {x s : Int64} (n : Nat) (hs : (s.toBitVec.smod 64).toNat = n) (h0 : 0 ≤ x.toInt) (h1 : x.toInt * (2 ^ n : Nat) < 9223372036854775808) : (x <<< s).toInt = x.toInt * (2 ^ n : Nat) := by
  have h : x.toInt = x.toBitVec.toInt := rfl
  have hx : x.toInt = x.toBitVec.toNat := by
    have b := x.toBitVec.isLt
    rw [h, BitVec.toInt_eq_toNat_cond]; rw [h, BitVec.toInt_eq_toNat_cond] at h0
    split at h0 <;> rename_i q
    · rw [if_pos q]
    · omega
  have e : (x <<< s).toBitVec.toNat = x.toBitVec.toNat * 2 ^ n := by
    rw [Int64.toBitVec_shiftLeft, BitVec.shiftLeft_eq', hs, BitVec.toNat_shiftLeft, Nat.shiftLeft_eq]
    apply Nat.mod_eq_of_lt
    rw [hx] at h1
    omega
  show (x <<< s).toBitVec.toInt = _
  rw [BitVec.toInt_eq_toNat_of_lt (by rw [e]; rw [hx] at h1; omega), e, hx]
  simp
theorem own_ishr (x s : Int32) (n : Nat) (hs : (s.toBitVec.smod 32).toNat = n) : (x >>> s).toInt = x.toInt / (2 ^ n : Nat) := by
  show (x >>> s).toBitVec.toInt = _
  rw [Int32.toBitVec_shiftRight, BitVec.sshiftRight', hs, BitVec.toInt_sshiftRight, Int.shiftRight_eq_div_pow]
  rfl
theorem own_lshr (x s : Int64) (n : Nat) (hs : (s.toBitVec.smod 64).toNat = n) : (x >>> s).toInt = x.toInt / (2 ^ n : Nat) := by
  show (x >>> s).toBitVec.toInt = _
  rw [Int64.toBitVec_shiftRight, BitVec.sshiftRight', hs, BitVec.toInt_sshiftRight, Int.shiftRight_eq_div_pow]
  rfl
theorem own_max (a b : Int64) : ∃ k, f_Math_max a b = some k ∧ k.toInt = max a.toInt b.toInt := by
  unfold f_Math_max
  split
  · rename_i h; rw [Int64.lt_iff_toInt_lt] at h; exact ⟨_, rfl, by omega⟩
  · rename_i h; rw [Int64.lt_iff_toInt_lt] at h; exact ⟨_, rfl, by omega⟩
theorem own_min (a b : Int64) : ∃ k, f_Math_min a b = some k ∧ k.toInt = min a.toInt b.toInt := by
  unfold f_Math_min
  split
  · rename_i h; rw [Int64.lt_iff_toInt_lt] at h; exact ⟨_, rfl, by omega⟩
  · rename_i h; rw [Int64.lt_iff_toInt_lt] at h; exact ⟨_, rfl, by omega⟩
theorem own_two (t : Int32) : ((2 : Int64) * t.toInt64).toInt = 2 * t.toInt := by
  have l2 : (2 : Int64).toInt = 2 := rfl
  have h1 := own_i1 t
  have h2 := own_i2 t
  rw [own_lmul (by rw [l2, own_i2l]; omega) (by rw [l2, own_i2l]; omega), l2, own_i2l]
theorem own_work (t : Int32) : (t.toInt64 * (25000000 : Int64)).toInt = t.toInt * 25000000 := by
  have l : (25000000 : Int64).toInt = 25000000 := rfl
  have h1 := own_i1 t
  have h2 := own_i2 t
  rw [own_lmul (by rw [l, own_i2l]; omega) (by rw [l, own_i2l]; omega), l, own_i2l]
theorem own_t20 (t : Int32) (x : Int64) (w : Int32) : ∃ r, f_BatchSize_took_20 t x w = some r ∧ r.toInt = max 100 (min (min 20000 (2 * t.toInt)) x.toInt) := by
  have lh : (100 : Int64).toInt = 100 := rfl
  have lm : (20000 : Int64).toInt = 20000 := rfl
  unfold f_BatchSize_took_20
  rw [own_ls]
  obtain ⟨k1, h1, g1⟩ := own_min 20000 (2 * t.toInt64)
  obtain ⟨k2, h2, g2⟩ := own_min k1 x
  obtain ⟨k3, h3, g3⟩ := own_max 100 k2
  rw [own_two, lm] at g1
  rw [lh] at g3
  refine ⟨k3.toInt32, ?_, ?_⟩
  · rw [h1, own_bs, h2, own_bs, h3, own_bs, own_ls]
  · rw [own_l2i]; omega
theorem own_took (t : Int32) (n : Int64) (w : Int32) : ∃ r, f_BatchSize_took t n w = some r ∧ 100 ≤ r.toInt ∧ r.toInt ≤ 20000 ∧ (n.toInt ≤ 0 → r.toInt = max 100 (min 20000 (2 * t.toInt))) ∧ (0 < n.toInt → 0 ≤ t.toInt → r.toInt = max 100 (min (min 20000 (2 * t.toInt)) (t.toInt * 25000000 / n.toInt))) ∧ (0 < n.toInt → t.toInt < 0 → r.toInt = 100) := by
  have l0 : (0 : Int64).toInt = 0 := rfl
  have lm : (20000 : Int64).toInt = 20000 := rfl
  unfold f_BatchSize_took
  by_cases hn : (0 : Int64) < n
  · rw [if_pos hn]
    rw [Int64.lt_iff_toInt_lt, l0] at hn
    rw [own_ct _ (by rw [← Int64.toInt_inj, l0]; omega)]
    obtain ⟨r, h1, h2⟩ := own_t20 t (t.toInt64 * 25000000 / n) w
    refine ⟨r, h1, by omega, by omega, by omega, fun _ ht => ?_, by omega⟩
    rw [h2, own_ldiv (by rw [own_work]; omega) hn, own_work]
  · rw [if_neg hn]
    rw [Int64.lt_iff_toInt_lt, l0] at hn
    obtain ⟨r, h1, h2⟩ := own_t20 t 20000 w
    rw [lm] at h2
    exact ⟨r, h1, by omega, by omega, by omega, by omega, by omega⟩
theorem own_paced (k n x : Int64) (hk : 0 < k.toInt) (hx : 0 ≤ x.toInt) : f_BatchSizeTookPinLaw_paced k n x = some (if x.toInt / k.toInt < n.toInt then 0 else 1) := by
  have l0 : (0 : Int64).toInt = 0 := rfl
  unfold f_BatchSizeTookPinLaw_paced
  rw [own_ct _ (by rw [← Int64.toInt_inj, l0]; omega)]
  simp only [Int64.lt_iff_toInt_lt, own_ldiv hx hk]
  split <;> rfl
theorem own_law (pt : Int32) (pn : Int64) (t : Int32) (n : Int64) : f_law pt pn t n = some 1 := by
  have l0 : (0 : Int64).toInt = 0 := rfl
  have l1 : (1 : Int64).toInt = 1 := rfl
  have lh : (100 : Int64).toInt = 100 := rfl
  have lh1 : (101 : Int64).toInt = 101 := rfl
  have lm : (20000 : Int64).toInt = 20000 := rfl
  have ih : (100 : Int32).toInt = 100 := rfl
  have im : (20000 : Int32).toInt = 20000 := rfl
  have t1 := own_i1 t
  have t2 := own_i2 t
  obtain ⟨r0, h0, -⟩ := own_took pt pn 1000
  obtain ⟨r, h1, g1, g2, g3, g4, g5⟩ := own_took t n r0
  obtain ⟨k1, k1h, k1g⟩ := own_min 20000 (2 * t.toInt64)
  rw [own_two, lm] at k1g
  unfold f_law f_BatchSize_mk f_BatchSize_rows
  rw [own_bs, h0, own_bs, h1, own_bs, own_bs, if_neg (by rw [Int32.lt_iff_toInt_lt]; omega), if_neg (by rw [Int32.lt_iff_toInt_lt]; omega), own_ls, k1h, own_bs]
  by_cases hn : (0 : Int64) < n
  · rw [if_pos hn]
    rw [Int64.lt_iff_toInt_lt, l0] at hn
    by_cases hc : (100 : Int64) < k1
    · rw [if_pos hc, own_ls]
      rw [Int64.lt_iff_toInt_lt, lh] at hc
      have ht : 0 ≤ t.toInt := by omega
      have e := g4 hn ht
      have hx : 0 ≤ t.toInt * 25000000 := by omega
      generalize hX : t.toInt * 25000000 = X at *
      have d1 : X / n.toInt * n.toInt ≤ X := Int.ediv_mul_le X (by omega)
      have d2 : X < (X / n.toInt + 1) * n.toInt := Int.lt_ediv_add_one_mul_self X hn
      have wx : (t.toInt64 * (25000000 : Int64)).toInt = X := by rw [own_work, hX]
      generalize hq : X / n.toInt = q at *
      by_cases hr : r = 100
      · rw [if_pos hr, own_paced _ _ _ (by decide) (by rw [wx]; exact hx), own_bs, wx, lh1]
        rw [← Int32.toInt_inj, ih] at hr
        have : X / 101 < n.toInt := by
          have : (q + 1) * n.toInt ≤ 101 * n.toInt := Int.mul_le_mul_of_nonneg_right (by omega) (by omega)
          omega
        rw [if_pos (by rw [if_pos this])]
      · rw [if_neg hr]
        rw [← Int32.toInt_inj, ih] at hr
        rw [if_neg (by rw [Int64.lt_iff_toInt_lt, own_i2l]; omega), own_ls, own_paced _ _ _ (by rw [own_i2l]; omega) (by rw [wx]; exact hx), own_bs, wx, own_i2l]
        have p1 : ¬ X / r.toInt < n.toInt := by
          intro z
          have : r.toInt * n.toInt ≤ q * n.toInt := Int.mul_le_mul_of_nonneg_right (by omega) (by omega)
          have z2 : X < n.toInt * r.toInt := (Int.ediv_lt_iff_lt_mul (by omega)).mp z
          rw [Int.mul_comm] at z2
          omega
        rw [if_neg (by rw [if_neg p1]; decide)]
        by_cases he : r.toInt64 = k1
        · rw [if_pos he]
        · rw [if_neg he, own_ls]
          rw [← Int64.toInt_inj, own_i2l] at he
          have e1 : (r.toInt64 + 1).toInt = r.toInt + 1 := by rw [own_ladd (by rw [own_i2l]; omega) (by rw [own_i2l]; omega), own_i2l, l1]
          rw [own_paced _ _ _ (by rw [e1]; omega) (by rw [wx]; exact hx), own_bs, wx, e1]
          have p2 : X / (r.toInt + 1) < n.toInt := by
            rw [Int.ediv_lt_iff_lt_mul (by omega), Int.mul_comm]
            have : r.toInt = q := by omega
            rw [this]; exact d2
          rw [if_pos (by rw [if_pos p2])]
    · rw [if_neg hc]
      rw [Int64.lt_iff_toInt_lt, lh] at hc
      rw [if_pos]
      rw [← Int32.toInt_inj, ih]
      by_cases ht : 0 ≤ t.toInt
      · have := g4 hn ht; omega
      · exact g5 hn (by omega)
  · rw [if_neg hn]
    rw [Int64.lt_iff_toInt_lt, l0] at hn
    obtain ⟨k2, k2h, k2g⟩ := own_max 100 k1
    rw [k2h, own_bs, if_pos]
    rw [← Int64.toInt_inj, own_i2l, k2g, lh, g3 (by omega)]; omega

set_option maxRecDepth 65536 in
set_option maxHeartbeats 4000000 in
theorem comes_1 {Post : Tables → Env → Array Value → State → Outcome → State → Prop} (hpost : ∀ tb e args s v u, (limb_1_1.after args s (.returned v) u = true ∧ limb_1_2.after args s (.returned v) u = true ∧ True) → FrameEnd s (.returned v) u (Jvm.fieldLocs frame_1_writes args s ++ Jvm.arrayLocs frame_1_arrays args s ++ Jvm.staticLocs frame_1_statics s) 16 128 → Post tb e args s (.returned v) u) :
    ArmFor flags0 classFile x code maxLocals ret World_1 tables_1 room_1 Calls_1 rest_1 Pre_1 Post := by
  intro l hfl _ _ p e ha hc hk s m args below hf hA hF happ hP
  obtain ⟨hcalls, hrest, hpre⟩ := hP
  obtain ⟨-, -, -, hnamed, -, -, -, hat⟩ := (Spec.applies_iff hf).mp happ
  obtain ⟨hg, hn⟩ := and_e (Cond.before_iff.mp (show (Jvm.Cond.and given_1 narrow_1).before args s = true from hpre))
  obtain ⟨gc, g0⟩ := and_e hg
  obtain ⟨ga0, g1⟩ := and_e g0
  obtain ⟨ga1, g2⟩ := and_e g1
  obtain ⟨ga2, g3⟩ := and_e g2
  have ga3 := g3
  obtain ⟨w0, w1, w2, w3, rfl⟩ : ∃ w0 w1 w2 w3 : Value, args = #[w0, w1, w2, w3] := by
    have hs : args.size = 4 := by simpa [Cond.value, given_1] using gc
    obtain ⟨L⟩ := args
    match L, hs with
    | [w0, w1, w2, w3], _ => exact ⟨w0, w1, w2, w3, rfl⟩
  have hw := fun d (hd : d ∈ tables_1) => atoms_spec (ws := Jvm.Cond.code x code maxLocals ret :: tables_1) hat d (List.mem_cons_of_mem _ hd)
  obtain ⟨i0, ei0⟩ := is_v ga0
  obtain rfl : w0 = (.int i0) := Option.some.inj ei0
  obtain ⟨i1, ei1⟩ := isL_v ga1
  obtain rfl : w1 = (.long i1) := Option.some.inj ei1
  obtain ⟨i2, ei2⟩ := is_v ga2
  obtain rfl : w2 = (.int i2) := Option.some.inj ei2
  obtain ⟨i3, ei3⟩ := isL_v ga3
  obtain rfl : w3 = (.long i3) := Option.some.inj ei3
  obtain ⟨n, o, h1, h2, h3, _, L, rfl, hQ, hq⟩ := rm_law l s _ hw tables_1 s.heap s.heap.size (Nat.le_refl _) i0 i1 i2 i3 1 (own_law i0 i1 i2 i3) p e ha hc hk s m _ below hf ((Spec.applies_iff_loose hf).mp happ).1 ⟨rfl, State.Warmed39.refl s, rfl⟩ trivial
  obtain ⟨rfl, N, -⟩ := hQ
  refine ⟨n, _, h1, h2, h3, hpost _ _ _ _ _ _ ⟨Cond.after_iff.mpr rfl, Cond.after_iff.mpr (eq_i res_at (Term.int_eval (1)) rfl), trivial⟩ ⟨hq.1, hq.2.1, (hq.2.2.sift fun y hy => Or.inr (N y hy)).mono (by decide) (by decide)⟩⟩
theorem main_1_1 : Claimed_1_1 := comes_1 fun _ _ _ _ _ _ h hF => ⟨h.1, hF⟩
theorem main_1_2 : Claimed_1_2 := comes_1 fun _ _ _ _ _ _ h hF => ⟨h.2.1, hF⟩
end Jvm.Pilot.@@N@@
namespace Jvm.Pilot.@@N@@
open Jvm Jvm.ClassFile Sem Op Lib Jvm.Free Jvm.Stand Jvm.Pilot.@@N@@.Jvm.D
/-! MADE BY PROGRAM (witnessworld.py) out of the Statement's table words and the real class files: 10 classes; the members and pool entries that the words name. The judged class is class 1, her method 2. -/
namespace start1
open Jvm.ClassFile
def u (s : String) : CpInfo := .utf8 (stringToUtf16 s)
/-- a pool by its gaps: so many unusable entries, then the entry; so many at the end -/
def gap : Nat → List CpInfo → List CpInfo
  | 0, r => r
  | n + 1, r => .unusable :: gap n r
def poolList (es : List (Nat × CpInfo)) (last : Nat) : List CpInfo := es.foldr (fun e r => gap e.1 (e.2 :: r)) (gap last [])
def pool (es : List (Nat × CpInfo)) (last : Nat) : Array CpInfo := ⟨poolList es last⟩
def fileOf (pool : Array CpInfo) (this : Nat) (attrs : Array Attribute := #[]) (ms : Array MethodInfo := #[]) (fl : Nat := 33) (sup : Nat := 0) (ifs : Array Nat := #[]) (fds : Array FieldInfo := #[]) : ClassFile where
  minorVersion := 0
  majorVersion := 65
  constantPool := pool
  accessFlags := fl
  thisClass := this
  superClass := sup
  interfaces := ifs
  fields := fds
  methods := ms
  attributes := attrs
def plain (name : String) (sup : Option ClassId) : Class where
  name := name
  kind := .ordinary
  loader := none
  accessFlags := 33
  super := sup
  interfaces := #[]
  cf := none
  fields := #[]
  methods := #[]
  instanceTypes := #[]
  staticTypes := #[]
  resolved := #[]
  callSites := []
  init := .initialized
  statics := none
  mirror := none

def pool0 : Array CpInfo := pool [(5, u "<init>"), (0, u "()V"), (1, .class_ 10), (1, u "java/lang/Object")] 113

def k0c0 : Code := { maxStack := 0, maxLocals := 1, code := object_method_1_code, exceptionTable := #[], attributes := #[] }
def k0m0 : Method := { name := "<init>", desc := "()V", sig := { parameters := [], returnType := none }, accessFlags := 1, code := some k0c0 }
/-- java/lang/Object -/
def k0 : Class := { plain "java/lang/Object" none with
  accessFlags := 33
  interfaces := #[]
  cf := some (fileOf pool0 8 #[] #[{ accessFlags := 1, nameIndex := 5, descriptorIndex := 6, attributes := #[] }] 33 0 #[] #[])
  fields := #[]
  methods := #[k0m0]
  instanceTypes := #[]
  staticTypes := #[]
  resolved := Array.replicate 124 none
  statics := none }

def pool1 : Array CpInfo := pool [(2, .class_ 4), (0, .nameAndType 5 6), (0, u "java/lang/Object"), (0, u "<init>"), (0, u "()V"), (0, .class_ 8), (0, u "com/example/expire/expire/BatchSize"), (0, .methodref 7 3), (0, .methodref 7 11), (0, .nameAndType 12 13), (0, u "took"), (0, u "(IJ)V"), (0, .methodref 7 15), (0, .nameAndType 16 17), (0, u "rows"), (0, u "()I"), (0, .long 20000), (1, .long 2), (1, .methodref 23 24), (0, .class_ 25), (0, .nameAndType 26 27), (0, u "java/lang/Math"), (0, u "min"), (0, u "(JJ)J"), (0, .long 100), (1, .methodref 23 31), (0, .nameAndType 32 27), (0, u "max"), (0, .class_ 34), (0, u "com/example/expire/expire/BatchSizeTookPinLaw"), (0, .long 25000000), (1, .long 101), (1, .methodref 33 40), (0, .nameAndType 41 42), (0, u "paced"), (0, u "(JJJ)Z"), (0, u "TARGET"), (0, u "J"), (4, u "law"), (0, u "(IJIJ)Z")] 2

def k1m0 : Method := { name := "<init>", desc := "()V", sig := { parameters := [], returnType := none }, accessFlags := 1, code := none }
def k1c1 : Code := { maxStack := 6, maxLocals := 6, code := method_2_code, exceptionTable := #[], attributes := #[] }
def k1m1 : Method := { name := "paced", desc := "(JJJ)Z", sig := { parameters := [.long, .long, .long], returnType := some .boolean }, accessFlags := 10, code := some k1c1 }
def k1c2 : Code := { maxStack := 6, maxLocals := 12, code := code, exceptionTable := #[], attributes := #[] }
def k1m2 : Method := { name := "law", desc := "(IJIJ)Z", sig := { parameters := [.int, .long, .int, .long], returnType := some .boolean }, accessFlags := 9, code := some k1c2 }
/-- com/example/expire/expire/BatchSizeTookPinLaw -/
def k1 : Class := { plain "com/example/expire/expire/BatchSizeTookPinLaw" (some 0) with
  accessFlags := 49
  interfaces := #[]
  cf := some (fileOf pool1 33 #[] #[{ accessFlags := 1, nameIndex := 5, descriptorIndex := 6, attributes := #[] }, { accessFlags := 10, nameIndex := 41, descriptorIndex := 42, attributes := #[] }, { accessFlags := 9, nameIndex := 49, descriptorIndex := 50, attributes := #[] }] 49 2 #[] #[{ accessFlags := 26, nameIndex := 43, descriptorIndex := 44, attributes := #[] }])
  fields := #[{ name := "TARGET", type := .long, accessFlags := 26, slot := 0, constantValue := 0 }]
  methods := #[k1m0, k1m1, k1m2]
  instanceTypes := #[]
  staticTypes := #[.long]
  resolved := Array.replicate 53 none
  statics := none }

def pool2 : Array CpInfo := pool [(1, .class_ 2), (0, u "com/example/expire/expire/BatchSize"), (0, .methodref 4 5), (0, .class_ 6), (0, .nameAndType 7 8), (0, u "java/lang/Object"), (0, u "<init>"), (0, u "()V"), (0, .fieldref 1 10), (0, .nameAndType 11 12), (0, u "rows"), (0, u "I"), (2, u "removed"), (0, u "J"), (0, .long 2), (3, u "examined"), (0, .methodref 23 24), (0, .class_ 25), (0, .nameAndType 26 27), (0, u "java/lang/Math"), (0, u "min"), (0, u "(JJ)J"), (0, .long 25000000), (1, .long 20000), (1, .long 100), (1, .methodref 23 35), (0, .nameAndType 36 27), (0, u "max"), (0, u "FIRST_ROWS"), (2, u "FEWEST_ROWS"), (1, u "MOST_ROWS"), (1, u "TARGET_MILLIS"), (2, u "TARGET_NANOS"), (2, u "()I"), (3, u "took"), (0, u "(IJ)V")] 4

def k2c0 : Code := { maxStack := 2, maxLocals := 1, code := prog_2_method_1_code, exceptionTable := #[], attributes := #[] }
def k2m0 : Method := { name := "<init>", desc := "()V", sig := { parameters := [], returnType := none }, accessFlags := 0, code := some k2c0 }
def k2c1 : Code := { maxStack := 1, maxLocals := 1, code := prog_2_method_2_code, exceptionTable := #[], attributes := #[] }
def k2m1 : Method := { name := "rows", desc := "()I", sig := { parameters := [], returnType := some .int }, accessFlags := 0, code := some k2c1 }
def k2c2 : Code := { maxStack := 9, maxLocals := 6, code := prog_2_method_4_code, exceptionTable := #[], attributes := #[] }
def k2m2 : Method := { name := "took", desc := "(IJ)V", sig := { parameters := [.int, .long], returnType := none }, accessFlags := 0, code := some k2c2 }
/-- com/example/expire/expire/BatchSize -/
def k2 : Class := { plain "com/example/expire/expire/BatchSize" (some 0) with
  accessFlags := 48
  interfaces := #[]
  cf := some (fileOf pool2 1 #[] #[{ accessFlags := 0, nameIndex := 7, descriptorIndex := 8, attributes := #[] }, { accessFlags := 0, nameIndex := 11, descriptorIndex := 50, attributes := #[] }, { accessFlags := 0, nameIndex := 54, descriptorIndex := 55, attributes := #[] }] 48 4 #[] #[{ accessFlags := 24, nameIndex := 37, descriptorIndex := 12, attributes := #[] }, { accessFlags := 24, nameIndex := 40, descriptorIndex := 12, attributes := #[] }, { accessFlags := 24, nameIndex := 42, descriptorIndex := 12, attributes := #[] }, { accessFlags := 24, nameIndex := 44, descriptorIndex := 16, attributes := #[] }, { accessFlags := 26, nameIndex := 47, descriptorIndex := 16, attributes := #[] }, { accessFlags := 2, nameIndex := 11, descriptorIndex := 12, attributes := #[] }, { accessFlags := 2, nameIndex := 21, descriptorIndex := 16, attributes := #[] }, { accessFlags := 2, nameIndex := 15, descriptorIndex := 16, attributes := #[] }])
  fields := #[{ name := "FIRST_ROWS", type := .int, accessFlags := 24, slot := 0, constantValue := 0 }, { name := "FEWEST_ROWS", type := .int, accessFlags := 24, slot := 1, constantValue := 0 }, { name := "MOST_ROWS", type := .int, accessFlags := 24, slot := 2, constantValue := 0 }, { name := "TARGET_MILLIS", type := .long, accessFlags := 24, slot := 3, constantValue := 0 }, { name := "TARGET_NANOS", type := .long, accessFlags := 26, slot := 4, constantValue := 0 }, { name := "rows", type := .int, accessFlags := 2, slot := 0, constantValue := 0 }, { name := "examined", type := .long, accessFlags := 2, slot := 1, constantValue := 0 }, { name := "removed", type := .long, accessFlags := 2, slot := 2, constantValue := 0 }]
  methods := #[k2m0, k2m1, k2m2]
  instanceTypes := #[.int, .long, .long]
  staticTypes := #[.int, .int, .int, .long, .long]
  resolved := Array.replicate 60 none
  statics := none }

def pool3 : Array CpInfo := pool [(1, .class_ 2), (0, u "java/lang/Math"), (1, .class_ 6), (1, u "java/lang/Object"), (0, u "<init>"), (0, u "()V"), (89, .class_ 100), (1, u "java/lang/Math$RandomNumberGeneratorHolder"), (20, u "(JJ)J"), (50, u "negativeZeroFloatBits"), (0, u "J"), (2, u "negativeZeroDoubleBits"), (21, u "max"), (2, u "min"), (43, u "$assertionsDisabled"), (0, u "Z"), (91, u "twoToTheDoubleScaleDown"), (0, u "D"), (4, u "twoToTheDoubleScaleUp"), (9, u "E"), (3, u "PI"), (2, u "TAU"), (2, u "DEGREES_TO_RADIANS"), (0, u "RADIANS_TO_DEGREES")] 94

def k3m0 : Method := { name := "<init>", desc := "()V", sig := { parameters := [], returnType := none }, accessFlags := 2, code := none }
def k3c1 : Code := { maxStack := 4, maxLocals := 4, code := jdk_29_method_66_code, exceptionTable := #[], attributes := #[] }
def k3m1 : Method := { name := "max", desc := "(JJ)J", sig := { parameters := [.long, .long], returnType := some .long }, accessFlags := 9, code := some k3c1 }
def k3c2 : Code := { maxStack := 4, maxLocals := 4, code := jdk_29_method_70_code, exceptionTable := #[], attributes := #[] }
def k3m2 : Method := { name := "min", desc := "(JJ)J", sig := { parameters := [.long, .long], returnType := some .long }, accessFlags := 9, code := some k3c2 }
/-- java/lang/Math -/
def k3 : Class := { plain "java/lang/Math" (some 0) with
  accessFlags := 49
  interfaces := #[]
  cf := some (fileOf pool3 1 #[.nestMembers #[98]] #[{ accessFlags := 2, nameIndex := 7, descriptorIndex := 8, attributes := #[] }, { accessFlags := 9, nameIndex := 198, descriptorIndex := 121, attributes := #[] }, { accessFlags := 9, nameIndex := 201, descriptorIndex := 121, attributes := #[] }] 49 4 #[] #[{ accessFlags := 25, nameIndex := 354, descriptorIndex := 339, attributes := #[] }, { accessFlags := 25, nameIndex := 358, descriptorIndex := 339, attributes := #[] }, { accessFlags := 25, nameIndex := 361, descriptorIndex := 339, attributes := #[] }, { accessFlags := 26, nameIndex := 364, descriptorIndex := 339, attributes := #[] }, { accessFlags := 26, nameIndex := 365, descriptorIndex := 339, attributes := #[] }, { accessFlags := 26, nameIndex := 172, descriptorIndex := 173, attributes := #[] }, { accessFlags := 26, nameIndex := 176, descriptorIndex := 173, attributes := #[] }, { accessFlags := 8, nameIndex := 344, descriptorIndex := 339, attributes := #[] }, { accessFlags := 8, nameIndex := 338, descriptorIndex := 339, attributes := #[] }, { accessFlags := 4120, nameIndex := 245, descriptorIndex := 246, attributes := #[] }])
  fields := #[{ name := "E", type := .double, accessFlags := 25, slot := 0, constantValue := 0 }, { name := "PI", type := .double, accessFlags := 25, slot := 1, constantValue := 0 }, { name := "TAU", type := .double, accessFlags := 25, slot := 2, constantValue := 0 }, { name := "DEGREES_TO_RADIANS", type := .double, accessFlags := 26, slot := 3, constantValue := 0 }, { name := "RADIANS_TO_DEGREES", type := .double, accessFlags := 26, slot := 4, constantValue := 0 }, { name := "negativeZeroFloatBits", type := .long, accessFlags := 26, slot := 5, constantValue := 0 }, { name := "negativeZeroDoubleBits", type := .long, accessFlags := 26, slot := 6, constantValue := 0 }, { name := "twoToTheDoubleScaleUp", type := .double, accessFlags := 8, slot := 7, constantValue := 0 }, { name := "twoToTheDoubleScaleDown", type := .double, accessFlags := 8, slot := 8, constantValue := 0 }, { name := "$assertionsDisabled", type := .boolean, accessFlags := 4120, slot := 9, constantValue := 0 }]
  methods := #[k3m0, k3m1, k3m2]
  instanceTypes := #[]
  staticTypes := #[.double, .double, .double, .double, .double, .long, .long, .double, .double, .boolean]
  resolved := Array.replicate 460 none
  statics := none }

def pool4 : Array CpInfo := pool [(1, u "java/lang/Cloneable"), (0, .class_ 1), (0, u "java/lang/Object"), (0, .class_ 3)] 3

/-- java/lang/Cloneable -/
def k4 : Class := { plain "java/lang/Cloneable" (some 0) with
  accessFlags := 1537
  interfaces := #[]
  cf := some (fileOf pool4 2 #[] #[] 1537 4 #[] #[])
  fields := #[]
  methods := #[]
  instanceTypes := #[]
  staticTypes := #[]
  resolved := Array.replicate 8 none
  statics := none }

def pool5 : Array CpInfo := pool [(1, u "java/io/Serializable"), (0, .class_ 1), (0, u "java/lang/Object"), (0, .class_ 3)] 3

/-- java/io/Serializable -/
def k5 : Class := { plain "java/io/Serializable" (some 0) with
  accessFlags := 1537
  interfaces := #[]
  cf := some (fileOf pool5 2 #[] #[] 1537 4 #[] #[])
  fields := #[]
  methods := #[]
  instanceTypes := #[]
  staticTypes := #[]
  resolved := Array.replicate 8 none
  statics := none }

/-- the primitive byte -/
def k6 : Class := { plain "byte" none with kind := .primitive 'B', accessFlags := 0x411 }
/-- [B -/
def k7 : Class := { plain "[B" (some 0) with kind := .array 6 .byte, interfaces := #[4, 5], accessFlags := 1041 }

/-- the primitive int -/
def k8 : Class := { plain "int" none with kind := .primitive 'I', accessFlags := 0x411 }
/-- [I -/
def k9 : Class := { plain "[I" (some 0) with kind := .array 8 .int, interfaces := #[4, 5], accessFlags := 1041 }

def heap : Heap := #[]
def classes : Array Class := #[k0, k1, k2, k3, k4, k5, k6, k7, k8, k9]
def interned : List (Array UInt16 × Addr) := []
def slotsUsed : Nat := 0
def theMethod : MethodId := ⟨1, 2⟩
def args0 : Array Value := #[.int 5, .long 5, .int 5, .long 5]
def aboutOver (below : List Frame) : State where
  vm := { classes := classes, interned := interned.toArray }
  heap := heap
  slotsUsed := slotsUsed
  threads := #[{ frames := .invoking theMethod args0 :: below }]
def below0 : List Frame := [.native { method := ⟨0, 0⟩, args := #[] }]
def about1 : State := aboutOver below0
def p0 : Program := .bare "" "" ""
def e0 : Env := launch0.env 0 0 0
theorem w_frames : about1.frames = Frame.invoking theMethod args0 :: below0 := rfl
set_option maxRecDepth 65536 in
theorem w_args : argsFit about1.vm theMethod args0 = true := by decide +kernel
set_option maxRecDepth 65536 in
theorem w_heap : heapFits about1 = true := by decide +kernel
set_option maxRecDepth 65536 in
theorem w_runnable : about1.curStatus? = some .runnable := by decide +kernel
set_option maxRecDepth 65536 in
theorem w_alone : about1.alone = true := by decide +kernel
set_option maxRecDepth 65536 in
theorem w_named : about1.methodNamed? x = some theMethod := by decide +kernel
set_option maxRecDepth 65536 in
theorem w_hears : about1.hears theMethod below0 = true := by decide +kernel
set_option maxRecDepth 65536 in
theorem w_ripe : about1.ripe theMethod args0 below0 = true := by decide +kernel
theorem w_running : about1.status = .running := rfl
set_option maxRecDepth 65536 in
theorem w_room : about1.hasRoom e0.platform room_1 = true :=
  launch0.hasRoom_least _ room_1 (by decide +kernel) (by decide +kernel) (by decide +kernel) (by decide +kernel) (by decide +kernel) (by decide +kernel)
theorem allAtoms_all (ts : List Jvm.Cond) (a : Array Jvm.Value) (st : Jvm.State) : (allAtoms ts).before a st = ts.all (fun c => c.before a st) := by
  induction ts with
  | nil => rfl
  | cons c t ih =>
    show (Jvm.Cond.and c (allAtoms t)).before a st = _
    rw [Jvm.Cond.before_and, ih, List.all_cons]
def words1 : List Jvm.Cond := Jvm.Cond.code x code maxLocals ret :: tables_1
/-- a 'code' word, met by the world's own term for the bytes: nothing is compared byte by byte -/
theorem code_word {y : MethodName} {bytes : ByteArray} {mx : Nat} {rt : Option FieldType} {a : Array Value} {s : State} {m : MethodId} {meth : Method} {c : Code} (h1 : s.methodNamed? y = some m) (h2 : s.vm.method? m = some meth) (h3 : meth.code = some c) (h4 : c.code = bytes)
    (h5 : (c.maxLocals == mx && c.exceptionTable.isEmpty && decide (c.maxStack ≤ mostOperands) && decide (meth.sig.returnType = rt) && !meth.locks && decide (parseMethodDescriptor y.desc = some meth.sig)) = true) : (Jvm.Cond.code y bytes mx rt).before a s = true := by
  simp only [Bool.and_eq_true, beq_iff_eq, Bool.not_eq_true', decide_eq_true_eq] at h5
  obtain ⟨⟨⟨⟨⟨g1, g2⟩, g3⟩, g4⟩, g5⟩, g6⟩ := h5
  simp [Cond.before, Cond.holds, Cond.value, h1, h2, h3, h4, g1, g2, g3, g4, g5, g6]
def isCode : Jvm.Cond → Bool
  | .code _ _ _ _ => true
  | _ => false
theorem all_split {L : List Jvm.Cond} {P : Jvm.Cond → Bool} (h1 : L.all (fun c => isCode c || P c) = true) (h2 : ∀ c ∈ L.filter isCode, P c = true) : L.all P = true := by
  refine List.all_eq_true.mpr fun c hc => ?_
  have h := List.all_eq_true.mp h1 c hc
  rcases Bool.eq_false_or_eq_true (isCode c) with hi | hi
  · exact h2 c (List.mem_filter.mpr ⟨hc, hi⟩)
  · simpa [hi] using h
set_option maxRecDepth 65536 in
theorem w_c0 : (Jvm.Cond.code x code maxLocals ret).before args0 about1 = true := code_word (m := ⟨1, 2⟩) (meth := k1m2) (c := k1c2) (by decide +kernel) rfl rfl rfl (by decide +kernel)
set_option maxRecDepth 65536 in
theorem w_c1 : (Jvm.Cond.code ({ cls := "com/example/expire/expire/BatchSize", name := "<init>", desc := "()V" } : Jvm.MethodName) prog_2_method_1_code (1 : Nat) (Option.none : Option Jvm.ClassFile.FieldType)).before args0 about1 = true := code_word (m := ⟨2, 0⟩) (meth := k2m0) (c := k2c0) (by decide +kernel) rfl rfl rfl (by decide +kernel)
set_option maxRecDepth 65536 in
theorem w_c2 : (Jvm.Cond.code ({ cls := "java/lang/Object", name := "<init>", desc := "()V" } : Jvm.MethodName) object_method_1_code (1 : Nat) (Option.none : Option Jvm.ClassFile.FieldType)).before args0 about1 = true := code_word (m := ⟨0, 0⟩) (meth := k0m0) (c := k0c0) (by decide +kernel) rfl rfl rfl (by decide +kernel)
set_option maxRecDepth 65536 in
theorem w_c3 : (Jvm.Cond.code ({ cls := "com/example/expire/expire/BatchSize", name := "took", desc := "(IJ)V" } : Jvm.MethodName) prog_2_method_4_code (6 : Nat) (Option.none : Option Jvm.ClassFile.FieldType)).before args0 about1 = true := code_word (m := ⟨2, 2⟩) (meth := k2m2) (c := k2c2) (by decide +kernel) rfl rfl rfl (by decide +kernel)
set_option maxRecDepth 65536 in
theorem w_c4 : (Jvm.Cond.code ({ cls := "java/lang/Math", name := "min", desc := "(JJ)J" } : Jvm.MethodName) jdk_29_method_70_code (4 : Nat) (Option.some Jvm.ClassFile.FieldType.long)).before args0 about1 = true := code_word (m := ⟨3, 2⟩) (meth := k3m2) (c := k3c2) (by decide +kernel) rfl rfl rfl (by decide +kernel)
set_option maxRecDepth 65536 in
theorem w_c5 : (Jvm.Cond.code ({ cls := "java/lang/Math", name := "max", desc := "(JJ)J" } : Jvm.MethodName) jdk_29_method_66_code (4 : Nat) (Option.some Jvm.ClassFile.FieldType.long)).before args0 about1 = true := code_word (m := ⟨3, 1⟩) (meth := k3m1) (c := k3c1) (by decide +kernel) rfl rfl rfl (by decide +kernel)
set_option maxRecDepth 65536 in
theorem w_c6 : (Jvm.Cond.code ({ cls := "com/example/expire/expire/BatchSize", name := "rows", desc := "()I" } : Jvm.MethodName) prog_2_method_2_code (1 : Nat) (Option.some Jvm.ClassFile.FieldType.int)).before args0 about1 = true := code_word (m := ⟨2, 1⟩) (meth := k2m1) (c := k2c1) (by decide +kernel) rfl rfl rfl (by decide +kernel)
set_option maxRecDepth 65536 in
theorem w_c7 : (Jvm.Cond.code ({ cls := "com/example/expire/expire/BatchSizeTookPinLaw", name := "paced", desc := "(JJJ)Z" } : Jvm.MethodName) method_2_code (6 : Nat) (Option.some Jvm.ClassFile.FieldType.boolean)).before args0 about1 = true := code_word (m := ⟨1, 1⟩) (meth := k1m1) (c := k1c1) (by decide +kernel) rfl rfl rfl (by decide +kernel)
def codes1 : List Jvm.Cond := [Jvm.Cond.code x code maxLocals ret, Jvm.Cond.code ({ cls := "com/example/expire/expire/BatchSize", name := "<init>", desc := "()V" } : Jvm.MethodName) prog_2_method_1_code (1 : Nat) (Option.none : Option Jvm.ClassFile.FieldType), Jvm.Cond.code ({ cls := "java/lang/Object", name := "<init>", desc := "()V" } : Jvm.MethodName) object_method_1_code (1 : Nat) (Option.none : Option Jvm.ClassFile.FieldType), Jvm.Cond.code ({ cls := "com/example/expire/expire/BatchSize", name := "took", desc := "(IJ)V" } : Jvm.MethodName) prog_2_method_4_code (6 : Nat) (Option.none : Option Jvm.ClassFile.FieldType), Jvm.Cond.code ({ cls := "java/lang/Math", name := "min", desc := "(JJ)J" } : Jvm.MethodName) jdk_29_method_70_code (4 : Nat) (Option.some Jvm.ClassFile.FieldType.long), Jvm.Cond.code ({ cls := "java/lang/Math", name := "max", desc := "(JJ)J" } : Jvm.MethodName) jdk_29_method_66_code (4 : Nat) (Option.some Jvm.ClassFile.FieldType.long), Jvm.Cond.code ({ cls := "com/example/expire/expire/BatchSize", name := "rows", desc := "()I" } : Jvm.MethodName) prog_2_method_2_code (1 : Nat) (Option.some Jvm.ClassFile.FieldType.int), Jvm.Cond.code ({ cls := "com/example/expire/expire/BatchSizeTookPinLaw", name := "paced", desc := "(JJJ)Z" } : Jvm.MethodName) method_2_code (6 : Nat) (Option.some Jvm.ClassFile.FieldType.boolean)]
set_option maxRecDepth 65536 in
theorem codes_eq : words1.filter isCode = codes1 := rfl
theorem w_codes : ∀ c ∈ words1.filter isCode, c.before args0 about1 = true := by
  rw [codes_eq]
  intro c hc
  simp only [codes1, List.mem_cons, List.not_mem_nil, or_false] at hc
  rcases hc with rfl | rfl | rfl | rfl | rfl | rfl | rfl | rfl
  · exact w_c0
  · exact w_c1
  · exact w_c2
  · exact w_c3
  · exact w_c4
  · exact w_c5
  · exact w_c6
  · exact w_c7
set_option maxRecDepth 65536 in
theorem w_t1 : (words1.take 24).all (fun c => isCode c || c.before args0 about1) = true := by decide +kernel
set_option maxRecDepth 65536 in
theorem w_t2 : (words1.drop 24).all (fun c => isCode c || c.before args0 about1) = true := by decide +kernel
theorem w_tables : (allAtoms (Jvm.Cond.code x code maxLocals ret :: tables_1)).before args0 about1 = true := by
  rw [allAtoms_all]
  show words1.all (fun c => c.before args0 about1) = true
  refine all_split ?_ w_codes
  rw [← List.take_append_drop 24 words1, List.all_append, w_t1, w_t2]
  rfl
set_option maxRecDepth 65536 in
theorem w_case : (Jvm.Cond.and given_1 narrow_1).before args0 about1 = true := by decide +kernel
theorem w_applies : (headSpec (Jvm.Cond.code x code maxLocals ret :: tables_1) room_1).applies x e0.platform about1 = true :=
  (Spec.applies_iff w_frames).mpr ⟨w_running, w_runnable, w_alone, w_named, w_hears, w_ripe, w_room, w_tables⟩
theorem atStart : AtStart classFile x code maxLocals ret World_1 tables_1 room_1 Calls_1 rest_1 Pre_1 launch0 p0 e0 about1 theMethod args0 below0 :=
  ⟨lists_1, trivial, launch0.admits_env _ _ _, launch0.least_env, fairChoices_fair.cas, fairChoices_fair.clock, w_frames, w_args, w_heap, w_applies, trivial, trivial, w_case⟩
end start1
theorem witness_1 : WitnessClaimed_1 := ⟨start1.p0, start1.e0, start1.about1, start1.theMethod, start1.args0, start1.below0, start1.atStart⟩
end Jvm.Pilot.@@N@@
