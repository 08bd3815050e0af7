import JvmDerived
import JvmDerived.Pilot.@@N@@Statement
import JvmDerived.Pilot.@@N@@Code
set_option linter.unusedVariables false
set_option linter.unusedSimpArgs false
namespace Jvm.Pilot.@@N@@
open Jvm Jvm.ClassFile Sem Op Lib Jvm.Free Jvm.Stand Jvm.LawKit Jvm.RoadKit Bundle Jvm.Pilot.@@N@@.Jvm.D
/-! 1. the words of the mirrors: a named value, a check, a call -/
def own_lt {α β : Type} (x : α) (f : α → Option β) : Option β := f x
def own_ck {β : Type} (P : Prop) [Decidable P] (x : Option β) : Option β := if P then x else none
def own_bd {α β : Type} (x : Option α) (f : α → Option β) : Option β := x.bind f
theorem own_lt_e {α β : Type} {x : α} {f : α → Option β} {r : β} (h : own_lt x f = some r) : ∃ v, v = x ∧ f v = some r := ⟨x, rfl, h⟩
theorem own_ck_e {β : Type} {P : Prop} [Decidable P] {x : Option β} {r : β} (h : own_ck P x = some r) : P ∧ x = some r := by
  unfold own_ck at h
  by_cases q : P
  · rw [if_pos q] at h; exact ⟨q, h⟩
  · rw [if_neg q] at h; cases h
theorem own_bd_e {α β : Type} {x : Option α} {f : α → Option β} {r : β} (h : own_bd x f = some r) : ∃ v, x = some v ∧ f v = some r := by
  unfold own_bd at h
  cases x with
  | none => cases h
  | some v => exact ⟨v, rfl, h⟩
abbrev own_inb {α : Type} (bs : List α) (j : Int32) : Prop := ¬ j < 0 ∧ j.toNatClampNeg < bs.length
def own_rd {α : Type} [OfNat α 0] (bs : List α) (j : Int32) : α := bs.getD j.toNatClampNeg 0
def own_wr {α : Type} (bs : List α) (j : Int32) (v : α) : List α := bs.set j.toNatClampNeg v
def own_sz {α : Type} (bs : List α) : Int32 := bs.length.toInt32
/-! 2. a run that comes to an end as Q says -/
def own_Goes (p : Program) (e : Env) (below : List Frame) (s : State) (Q : Option Value → Heap → List Loc → Prop) (ce sl : Nat) (A : State) : Prop :=
  ∃ s₂ o, Steps p.tables e below A s₂ ∧ s₂.status = .running ∧ Ended s₂ below o ∧ ∃ v L, o = .returned v ∧ Q v s₂.heap L ∧ FrameEnd s o s₂ L ce sl
section Own
variable {p : Program} {l : Launch} {e : Env} {R : Room} {s : State} {m : MethodId} {args : Array Value} {below : List Frame} {meth : Method} {c : Code} {T : State} {locs : List Loc} {cells slots : Nat} {Z : State} {h h' : Heap} {Q : Option Value → Heap → List Loc → Prop} {ce sl : Nat}
theorem own_Goes.via {A B : State} (q : ∀ t, Steps p.tables e below B t → Steps p.tables e below A t) (g : own_Goes p e below s Q ce sl B) : own_Goes p e below s Q ce sl A := by
  obtain ⟨s₂, o, h1, r⟩ := g
  exact ⟨s₂, o, q _ h1, r⟩
theorem own_Goes.tr {A B : State} (q : Steps p.tables e below A B) (g : own_Goes p e below s Q ce sl B) : own_Goes p e below s Q ce sl A := g.via fun _ k => q.trans k
theorem own_retV (X : Stand p l e R s m args below meth c T locs cells slots) (hx : p.tables.exec = Jvm.exec) {pc : Nat} {Ls : Array Slot} (hret : meth.sig.returnType = none) (hlk : meth.locks = false) (hd : decode c.code pc = .ok (.return_, 1)) (eT : T.heap = h) (hQ : Q none h locs) (hc : cells ≤ ce) (hs : slots ≤ sl) :
    own_Goes p e below s Q ce sl (T.setTop (mkF m pc Ls [])) := by
  obtain ⟨fs, hr, hrun, hended, hW, hsame⟩ := X.leave (v := none) (fun _ => rfl) hlk
  refine ⟨_, _, ?_, hrun, hended, _, _, rfl, ?_, ⟨_, rfl⟩, hW, hsame.mono hc hs⟩
  · exact X.returnOut hx hret hd hr
  · show Q none T.heap locs
    rw [eT]; exact hQ
theorem own_retI (X : Stand p l e R s m args below meth c T locs cells slots) (hx : p.tables.exec = Jvm.exec) {pc : Nat} {Ls : Array Slot} {z : Int32} {rest : List Value} (hret : meth.sig.returnType = some .int) (hlk : meth.locks = false) (hd : decode c.code pc = .ok (.ireturn, 1)) (eT : T.heap = h) (hQ : Q (some (.int z)) h locs) (hc : cells ≤ ce) (hs : slots ≤ sl) :
    own_Goes p e below s Q ce sl (T.setTop (mkF m pc Ls (.int z :: rest))) := by
  obtain ⟨fs, hr, hrun, hended, hW, hsame⟩ := X.leave (v := some (.int z)) (fun h => by rw [hret] at h; cases h) hlk
  refine ⟨_, _, ?_, hrun, hended, _, _, rfl, ?_, ⟨_, rfl⟩, hW, hsame.mono hc hs⟩
  · exact retOut X hx hret rfl (Or.inl ⟨rfl, Or.inl rfl, z, rfl⟩) hd hr
  · show Q _ T.heap locs
    rw [eT]; exact hQ
theorem own_retJ (X : Stand p l e R s m args below meth c T locs cells slots) (hx : p.tables.exec = Jvm.exec) {pc : Nat} {Ls : Array Slot} {z : Int64} {rest : List Value} (hret : meth.sig.returnType = some .long) (hlk : meth.locks = false) (hd : decode c.code pc = .ok (.lreturn, 1)) (eT : T.heap = h) (hQ : Q (some (.long z)) h locs) (hc : cells ≤ ce) (hs : slots ≤ sl) :
    own_Goes p e below s Q ce sl (T.setTop (mkF m pc Ls (.long z :: rest))) := by
  obtain ⟨fs, hr, hrun, hended, hW, hsame⟩ := X.leave (v := some (.long z)) (fun h => by rw [hret] at h; cases h) hlk
  refine ⟨_, _, ?_, hrun, hended, _, _, rfl, ?_, ⟨_, rfl⟩, hW, hsame.mono hc hs⟩
  · exact retOut X hx hret rfl (Or.inr (Or.inl ⟨rfl, rfl, z, rfl⟩)) hd hr
  · show Q _ T.heap locs
    rw [eT]; exact hQ
theorem own_retR (X : Stand p l e R s m args below meth c T locs cells slots) (hx : p.tables.exec = Jvm.exec) {pc : Nat} {Ls : Array Slot} {t : FieldType} {w : Value} {rest : List Value} (hret : meth.sig.returnType = some t) (hlk : meth.locks = false) (hd : decode c.code pc = .ok (.areturn, 1)) (ht : t.isReference = true) (eT : T.heap = h) (hw : w.isRef = true) (hQ : Q (some w) h locs) (hc : cells ≤ ce) (hs : slots ≤ sl) :
    own_Goes p e below s Q ce sl (T.setTop (mkF m pc Ls (w :: rest))) := by
  obtain ⟨fs, hr, hrun, hended, hW, hsame⟩ := X.leave (v := some w) (fun h => by rw [hret] at h; cases h) hlk
  refine ⟨_, _, ?_, hrun, hended, _, _, rfl, ?_, ⟨_, rfl⟩, hW, hsame.mono hc hs⟩
  · exact retOut X hx hret (by cases t <;> first | (cases ht; done) | rfl) (Or.inr (Or.inr (Or.inr (Or.inr ⟨rfl, ht, hw⟩)))) hd hr
  · show Q _ T.heap locs
    rw [eT]; exact hQ
theorem own_retN (X : Stand p l e R s m args below meth c T locs cells slots) (hx : p.tables.exec = Jvm.exec) {pc : Nat} {Ls : Array Slot} {z v : Int32} {t : FieldType} {rest : List Value} (hret : meth.sig.returnType = some t) (hlk : meth.locks = false) (ht : t = .boolean ∨ t = .byte ∨ t = .char ∨ t = .short) (hd : decode c.code pc = .ok (.ireturn, 1)) (eT : T.heap = h) (hv : nar t z = v) (hQ : Q (some (.int v)) h locs) (hc : cells ≤ ce) (hs : slots ≤ sl) :
    own_Goes p e below s Q ce sl (T.setTop (mkF m pc Ls (.int z :: rest))) := by
  subst hv
  obtain ⟨fs, hr, hrun, hended, hW, hsame⟩ := X.leave (v := some (.int (nar t z))) (fun h => by rw [hret] at h; cases h) hlk
  refine ⟨_, _, ?_, hrun, hended, _, _, rfl, ?_, ⟨_, rfl⟩, hW, hsame.mono hc hs⟩
  · exact retN X hx hret ht hd hr
  · show Q _ T.heap locs
    rw [eT]; exact hQ
/-! 3. single steps -/
theorem own_irem {g : JFrame} {target : State} (X : Stand p l e R s m args below meth c T locs cells slots) (hx : p.tables.exec = Jvm.exec) (hg : g.method = m) {x y : Int32} {rest : List Value} (hd : decode c.code g.pc = .ok (.irem, 1)) (hs : g.stack = .int y :: .int x :: rest) (hy : y ≠ 0)
    (hr : Steps p.tables e below (T.setTop { g with pc := g.pc + 1, stack := .int (x % y) :: rest }) target) : Steps p.tables e below (T.setTop g) target := iremM X hx hg hd hs hy hr
theorem own_lrem {g : JFrame} {target : State} (X : Stand p l e R s m args below meth c T locs cells slots) (hx : p.tables.exec = Jvm.exec) (hg : g.method = m) {x y : Int64} {rest : List Value} (hd : decode c.code g.pc = .ok (.lrem, 1)) (hs : g.stack = .long y :: .long x :: rest) (hy : y ≠ 0)
    (hr : Steps p.tables e below (T.setTop { g with pc := g.pc + 1, stack := .long (x % y) :: rest }) target) : Steps p.tables e below (T.setTop g) target :=
  XS.lrem X.here hx hg hd hs hy (by rw [lrem_mod]; exact hr)
theorem own_tltL {x y : Int64} (q : x < y) : ifCond.holds .lt (lcmpW x y) = true ∧ ifCond.holds .ge (lcmpW x y) = false := by
  rw [if0, if0]; exact ⟨(tlt ((lw_lt x y).mpr q)).1, (tlt ((lw_lt x y).mpr q)).2.1⟩
theorem own_fltL {x y : Int64} (q : ¬ x < y) : ifCond.holds .lt (lcmpW x y) = false ∧ ifCond.holds .ge (lcmpW x y) = true := by
  rw [if0, if0]; exact ⟨(flt fun z => q ((lw_lt x y).mp z)).1, (flt fun z => q ((lw_lt x y).mp z)).2.1⟩
theorem own_tgtL {x y : Int64} (q : y < x) : ifCond.holds .gt (lcmpW x y) = true ∧ ifCond.holds .le (lcmpW x y) = false := by
  rw [if0, if0]; exact ⟨(tlt ((lw_gt x y).mpr q)).2.2.1, (tlt ((lw_gt x y).mpr q)).2.2.2⟩
theorem own_fgtL {x y : Int64} (q : ¬ y < x) : ifCond.holds .gt (lcmpW x y) = false ∧ ifCond.holds .le (lcmpW x y) = true := by
  rw [if0, if0]; exact ⟨(flt fun z => q ((lw_gt x y).mp z)).2.2.1, (flt fun z => q ((lw_gt x y).mp z)).2.2.2⟩
theorem own_teqL {x y : Int64} (q : x = y) : ifCond.holds .eq (lcmpW x y) = true ∧ ifCond.holds .ne (lcmpW x y) = false := by
  rw [if0, if0]; exact ⟨(teq ((lw_eq x y).mpr q)).1, (teq ((lw_eq x y).mpr q)).2⟩
theorem own_feqL {x y : Int64} (q : ¬ x = y) : ifCond.holds .eq (lcmpW x y) = false ∧ ifCond.holds .ne (lcmpW x y) = true := by
  rw [if0, if0]; exact ⟨(feq fun z => q ((lw_eq x y).mp z)).1, (feq fun z => q ((lw_eq x y).mp z)).2⟩
theorem own_st1 {L : Array Slot} {i : Nat} {v : Value} {o : Slot} {L' : Array Slot} (hold : L[i]? = some o) (ho : One o) (hv : v.category = 1) (hL : L.setIfInBounds i (.val v) = L' := by rfl) : storeLocals L i v = some L' := hL ▸ XS.store1 hold ho hv
theorem own_privSel {s : State} {args : Array Value} {y : MethodName} {n : Nat} (wi : (Cond.instantiable y.cls n).before args s = true) (hp : s.PrivateAt y) (hinst : (Cond.instanceMethod y).before args s = true) (hy : y.cls ≠ "java/lang/invoke/MethodHandle" ∧ y.cls ≠ "java/lang/invoke/VarHandle") : (Cond.selects y.cls y y).before args s = true := by
  obtain ⟨c, k, h1, h2, -, h3, -⟩ := Cond.instantiable_spec wi
  exact selects_self_of_private h1 h2 (Bool.or_eq_false_iff.mp h3).1 hp hinst hy
theorem own_st2 {L L' : Array Slot} {i : Nat} {x : Int64} {o1 o2 : Slot} (h1 : L[i]? = some o1) (h2 : L[i + 1]? = some o2) (q1 : One o1) (q2 : One o2) (hL : (L.setIfInBounds i (.val (.long x))).setIfInBounds (i + 1) .second = L' := by rfl) : storeLocals L i (.long x) = some L' := by
  subst hL
  obtain ⟨b1, g1⟩ := Array.getElem?_eq_some_iff.mp h1
  obtain ⟨b2, g2⟩ := Array.getElem?_eq_some_iff.mp h2
  have hc : (Value.long x).category = 2 := rfl
  rcases q1 with rfl | ⟨w, rfl, hw⟩ <;> rcases q2 with rfl | ⟨w', rfl, hw'⟩ <;> simp [storeLocals, storeSelf, setAt, hc, *]
/-! 4. arrays: what lies in them, as a list -/
def own_Ar (Z : State) (h : Heap) (a : Addr) (ty : FieldType) (vs : List Value) : Prop := ∃ c : Cell, Arr Z h a c ty ∧ c.slots.toList = vs ∧ vs.length < 2 ^ 31 ∧ ∀ v ∈ vs, fits ty v = true
variable {a b : Addr} {ty : FieldType} {vs : List Value}
theorem own_Ar.lt (F : own_Ar Z h a ty vs) : a < h.size := by obtain ⟨c, A, -⟩ := F; exact A.lt
theorem own_Ar.ext (F : own_Ar Z h a ty vs) (E : Ext h h') : own_Ar Z h' a ty vs := by obtain ⟨c, A, r⟩ := F; exact ⟨c, A.ext E, r⟩
theorem own_Ar.other {k : Nat} {v : Value} (F : own_Ar Z h b ty vs) (W : Wr h h' a k v) (q : b ≠ a) : own_Ar Z h' b ty vs := by obtain ⟨c, A, r⟩ := F; exact ⟨c, A.other W q, r⟩
theorem own_Ar.keep {ws : List Addr} (F : own_Ar Z h a ty vs) (K : Keep h h' ws) (q : a ∉ ws) : own_Ar Z h' a ty vs := by obtain ⟨c, A, r⟩ := F; exact ⟨c, ⟨K.2.1 a c A.1 q, A.2⟩, r⟩
theorem own_Ar.size {c : Cell} (q : c.slots.toList = vs) : c.slots.size = vs.length := by rw [← q]; simp
theorem own_in {c : Cell} {j : Int32} (q : c.slots.toList = vs) (hj : own_inb vs j) : ¬ (j < 0 ∨ c.slots.size ≤ j.toNatClampNeg) := by
  rw [own_Ar.size q]
  rintro (r | r)
  · exact hj.1 r
  · exact absurd hj.2 (Nat.not_lt.mpr r)
theorem own_get {c : Cell} {i : Nat} (q : c.slots.toList = vs) (d : Value) (hi : i < vs.length) : c.slots[i]? = some (vs.getD i d) := by
  have e : c.slots = vs.toArray := by rw [← q]
  rw [e]
  simp [List.getD, hi]
theorem own_set {c : Cell} {i : Nat} {v : Value} (q : c.slots.toList = vs) : (c.setSlot i v).slots.toList = vs.set i v := by
  have e : c.slots = vs.toArray := by rw [← q]
  simp [Cell.setSlot, e]
theorem own_fits {i : Nat} {v : Value} (q : ∀ v ∈ vs, fits ty v = true) (hv : fits ty v = true) : ∀ u ∈ vs.set i v, fits ty u = true := fun u hu => by
  rcases List.mem_or_eq_of_mem_set hu with r | r
  · exact q u r
  · rw [r]; exact hv
theorem own_mapGet {bs : List Int32} {i : Nat} (hi : i < bs.length) : (bs.map Value.int).getD i (.int 0) = .int (bs.getD i 0) := by simp [List.getD, hi]
theorem own_mapGetJ {bs : List Int64} {i : Nat} (hi : i < bs.length) : (bs.map Value.long).getD i (.long 0) = .long (bs.getD i 0) := by simp [List.getD, hi]
theorem own_mapSet {bs : List Int32} {i : Nat} {v : Int32} : (bs.map Value.int).set i (.int v) = (bs.set i v).map Value.int := by simp
theorem own_mapSetJ {bs : List Int64} {i : Nat} {v : Int64} : (bs.map Value.long).set i (.long v) = (bs.set i v).map Value.long := by simp
theorem own_inbM {α : Type} {f : α → Value} {bs : List α} {j : Int32} (q : own_inb bs j) : own_inb (bs.map f) j := ⟨q.1, by rw [List.length_map]; exact q.2⟩
theorem own_wrk {α : Type} {bs : List α} {j : Int32} {v : α} (k : Nat) (hk : j.toNatClampNeg = k) : own_wr bs j v = bs.set k v := by rw [own_wr, hk]
theorem own_rdk {α : Type} [OfNat α 0] {bs : List α} {j : Int32} (k : Nat) (hk : j.toNatClampNeg = k) : own_rd bs j = bs.getD k 0 := by rw [own_rd, hk]
theorem own_inbk {α : Type} {bs : List α} {j : Int32} (k n : Nat) (h0 : ¬ j < 0) (hk : j.toNatClampNeg = k) (hl : bs.length = n) (hkn : k < n) : own_inb bs j := ⟨h0, by rw [hk, hl]; exact hkn⟩
theorem own_len {α : Type} {f : α → Value} {bs : List α} (X : Stand p l e R s m args below meth c T locs cells slots) (hx : p.tables.exec = Jvm.exec) (hZ : Z.Warmed39 s.vm) (eT : T.heap = h) (A : own_Ar Z h a ty (bs.map f)) {g : JFrame} (hg : g.method = m) {rest : List Value} (hs : g.stack = .ref a :: rest) (hd : decode c.code g.pc = .ok (.arraylength, 1)) {target : State}
    (hr : Steps p.tables e below (T.setTop { g with pc := g.pc + 1, stack := .int (own_sz bs) :: rest }) target) : Steps p.tables e below (T.setTop g) target := by
  obtain ⟨cl, A, q, -⟩ := A
  refine X.arraylength hx (by rw [eT]; exact A.1) (State.isArrayOf_alike hZ.alike A.2.1) hg hs hd _ ?_
  rw [own_Ar.size q, List.length_map]; exact hr
theorem own_ldI {bs : List Int32} {j v : Int32} (X : Stand p l e R s m args below meth c T locs cells slots) (hx : p.tables.exec = Jvm.exec) (hZ : Z.Warmed39 s.vm) (eT : T.heap = h) (A : own_Ar Z h a .int (bs.map Value.int)) (hj : own_inb bs j) (hv : own_rd bs j = v) {g : JFrame} (hg : g.method = m) {rest : List Value} (hs : g.stack = .int j :: .ref a :: rest) (hd : decode c.code g.pc = .ok (.iaload, 1)) {target : State}
    (hr : Steps p.tables e below (T.setTop { g with pc := g.pc + 1, stack := .int v :: rest }) target) : Steps p.tables e below (T.setTop g) target := by
  subst hv
  obtain ⟨cl, A, q, -⟩ := A
  exact X.iaload hx (by rw [eT]; exact A.1) (State.isArrayOf_alike hZ.alike A.2.1) A.2.2 (own_in q (own_inbM hj)) ((own_get q (.int 0) (own_inbM hj).2).trans (congrArg some (own_mapGet hj.2))) hg hs hd _ hr
theorem own_ldB {bs : List Int32} {j v : Int32} (X : Stand p l e R s m args below meth c T locs cells slots) (hx : p.tables.exec = Jvm.exec) (hZ : Z.Warmed39 s.vm) (eT : T.heap = h) (A : own_Ar Z h a .byte (bs.map Value.int)) (hj : own_inb bs j) (hv : own_rd bs j = v) {g : JFrame} (hg : g.method = m) {rest : List Value} (hs : g.stack = .int j :: .ref a :: rest) (hd : decode c.code g.pc = .ok (.baload, 1)) {target : State}
    (hr : Steps p.tables e below (T.setTop { g with pc := g.pc + 1, stack := .int v :: rest }) target) : Steps p.tables e below (T.setTop g) target := by
  subst hv
  obtain ⟨cl, A, q, -⟩ := A
  exact X.baloadBytes hx (by rw [eT]; exact A.1) (State.isArrayOf_alike hZ.alike A.2.1) A.2.2 (own_in q (own_inbM hj)) ((own_get q (.int 0) (own_inbM hj).2).trans (congrArg some (own_mapGet hj.2))) hg hs hd _ hr
theorem own_ldZ {bs : List Int32} {j v : Int32} (X : Stand p l e R s m args below meth c T locs cells slots) (hx : p.tables.exec = Jvm.exec) (hZ : Z.Warmed39 s.vm) (eT : T.heap = h) (A : own_Ar Z h a .boolean (bs.map Value.int)) (hj : own_inb bs j) (hv : own_rd bs j = v) {g : JFrame} (hg : g.method = m) {rest : List Value} (hs : g.stack = .int j :: .ref a :: rest) (hd : decode c.code g.pc = .ok (.baload, 1)) {target : State}
    (hr : Steps p.tables e below (T.setTop { g with pc := g.pc + 1, stack := .int v :: rest }) target) : Steps p.tables e below (T.setTop g) target := by
  subst hv
  obtain ⟨cl, A, q, -⟩ := A
  exact X.baloadBooleans hx (by rw [eT]; exact A.1) (State.isArrayOf_alike hZ.alike A.2.1) A.2.2 (own_in q (own_inbM hj)) ((own_get q (.int 0) (own_inbM hj).2).trans (congrArg some (own_mapGet hj.2))) hg hs hd _ hr
theorem own_ldJ {bs : List Int64} {j : Int32} {v : Int64} (X : Stand p l e R s m args below meth c T locs cells slots) (hx : p.tables.exec = Jvm.exec) (hZ : Z.Warmed39 s.vm) (eT : T.heap = h) (A : own_Ar Z h a .long (bs.map Value.long)) (hj : own_inb bs j) (hv : own_rd bs j = v) {g : JFrame} (hg : g.method = m) {rest : List Value} (hs : g.stack = .int j :: .ref a :: rest) (hd : decode c.code g.pc = .ok (.laload, 1)) {target : State}
    (hr : Steps p.tables e below (T.setTop { g with pc := g.pc + 1, stack := .long v :: rest }) target) : Steps p.tables e below (T.setTop g) target := by
  subst hv
  obtain ⟨cl, A, q, -⟩ := A
  exact X.laload hx (by rw [eT]; exact A.1) (State.isArrayOf_alike hZ.alike A.2.1) A.2.2 (own_in q (own_inbM hj)) ((own_get q (.long 0) (own_inbM hj).2).trans (congrArg some (own_mapGetJ hj.2))) hg hs hd _ hr
theorem own_stI {bs : List Int32} {j x : Int32} (X : Stand p l e R s m args below meth c T locs cells slots) (hx : p.tables.exec = Jvm.exec) (hZ : Z.Warmed39 s.vm) (eT : T.heap = h) (A : own_Ar Z h a .int (bs.map Value.int)) (hj : own_inb bs j) {g : JFrame} (hg : g.method = m) {rest : List Value} (hs : g.stack = .int x :: .int j :: .ref a :: rest) (hd : decode c.code g.pc = .ok (.iastore, 1)) :
    ∃ T' h', Stand p l e R s m args below meth c T' (locs ++ [⟨a, j.toNatClampNeg⟩]) cells slots ∧ T'.heap = h' ∧ Wr h h' a j.toNatClampNeg (.int x) ∧ own_Ar Z h' a .int ((own_wr bs j x).map Value.int) ∧ ∀ target, Steps p.tables e below (T'.setTop { g with pc := g.pc + 1, stack := rest }) target → Steps p.tables e below (T.setTop g) target := by
  obtain ⟨cl, A, q, r, ft⟩ := A
  obtain ⟨T', h', X', e', W, st⟩ := stI X hx hZ eT A (own_in q (own_inbM hj)) hg hs hd
  exact ⟨T', h', X', e', W, ⟨_, A.same W, (own_set q).trans own_mapSet, by simpa [own_wr] using r, own_mapSet ▸ own_fits ft rfl⟩, st⟩
theorem own_stB {bs : List Int32} {j x : Int32} (X : Stand p l e R s m args below meth c T locs cells slots) (hx : p.tables.exec = Jvm.exec) (hZ : Z.Warmed39 s.vm) (eT : T.heap = h) (A : own_Ar Z h a .byte (bs.map Value.int)) (hj : own_inb bs j) {g : JFrame} (hg : g.method = m) {rest : List Value} (hs : g.stack = .int x :: .int j :: .ref a :: rest) (hd : decode c.code g.pc = .ok (.bastore, 1)) :
    ∃ T' h', Stand p l e R s m args below meth c T' (locs ++ [⟨a, j.toNatClampNeg⟩]) cells slots ∧ T'.heap = h' ∧ Wr h h' a j.toNatClampNeg (.int x.toInt8.toInt32) ∧ own_Ar Z h' a .byte ((own_wr bs j x.toInt8.toInt32).map Value.int) ∧ ∀ target, Steps p.tables e below (T'.setTop { g with pc := g.pc + 1, stack := rest }) target → Steps p.tables e below (T.setTop g) target := by
  obtain ⟨cl, A, q, r, ft⟩ := A
  obtain ⟨T', h', X', e', W, st⟩ := stB X hx hZ eT A (own_in q (own_inbM hj)) hg hs hd
  exact ⟨T', h', X', e', W, ⟨_, A.same W, (own_set q).trans own_mapSet, by simpa [own_wr] using r, own_mapSet ▸ own_fits ft (fits_nar_byte _)⟩, st⟩
theorem own_stZ {bs : List Int32} {j x : Int32} (X : Stand p l e R s m args below meth c T locs cells slots) (hx : p.tables.exec = Jvm.exec) (hZ : Z.Warmed39 s.vm) (eT : T.heap = h) (A : own_Ar Z h a .boolean (bs.map Value.int)) (hj : own_inb bs j) {g : JFrame} (hg : g.method = m) {rest : List Value} (hs : g.stack = .int x :: .int j :: .ref a :: rest) (hd : decode c.code g.pc = .ok (.bastore, 1)) :
    ∃ T' h', Stand p l e R s m args below meth c T' (locs ++ [⟨a, j.toNatClampNeg⟩]) cells slots ∧ T'.heap = h' ∧ Wr h h' a j.toNatClampNeg (.int (x &&& 1)) ∧ own_Ar Z h' a .boolean ((own_wr bs j (x &&& 1)).map Value.int) ∧ ∀ target, Steps p.tables e below (T'.setTop { g with pc := g.pc + 1, stack := rest }) target → Steps p.tables e below (T.setTop g) target := by
  obtain ⟨cl, A, q, r, ft⟩ := A
  obtain ⟨T', h', X', e', W, st⟩ := stZ X hx hZ eT A (own_in q (own_inbM hj)) hg hs hd
  exact ⟨T', h', X', e', W, ⟨_, A.same W, (own_set q).trans own_mapSet, by simpa [own_wr] using r, own_mapSet ▸ own_fits ft (fits_nar_bool _)⟩, st⟩
theorem own_stJ {bs : List Int64} {j : Int32} {x : Int64} (X : Stand p l e R s m args below meth c T locs cells slots) (hx : p.tables.exec = Jvm.exec) (hZ : Z.Warmed39 s.vm) (eT : T.heap = h) (A : own_Ar Z h a .long (bs.map Value.long)) (hj : own_inb bs j) {g : JFrame} (hg : g.method = m) {rest : List Value} (hs : g.stack = .long x :: .int j :: .ref a :: rest) (hd : decode c.code g.pc = .ok (.lastore, 1)) :
    ∃ T' h', Stand p l e R s m args below meth c T' (locs ++ [⟨a, j.toNatClampNeg⟩]) cells slots ∧ T'.heap = h' ∧ Wr h h' a j.toNatClampNeg (.long x) ∧ own_Ar Z h' a .long ((own_wr bs j x).map Value.long) ∧ ∀ target, Steps p.tables e below (T'.setTop { g with pc := g.pc + 1, stack := rest }) target → Steps p.tables e below (T.setTop g) target := by
  obtain ⟨cl, A, q, r, ft⟩ := A
  obtain ⟨T', h', X', e', W, st⟩ := stJ X hx hZ eT A (own_in q (own_inbM hj)) hg hs hd
  exact ⟨T', h', X', e', W, ⟨_, A.same W, (own_set q).trans own_mapSetJ, by simpa [own_wr] using r, own_mapSetJ ▸ own_fits ft rfl⟩, st⟩
theorem own_newI {k : ClassId} {n : Int32} {kk : Nat} (A : Arr Z h a (newA k ty n) ty) (q : ¬ n < 0) (hd : defaultValue ty = .int 0) (hk : n.toNatClampNeg = kk) : own_Ar Z h a ty ((List.replicate kk (0 : Int32)).map Value.int) := hk ▸
  ⟨_, A, by simp [newA, hd], by rw [List.length_map, List.length_replicate]; exact (back32 q).2, fun v hv => by
    rw [List.map_replicate] at hv
    rw [(List.mem_replicate.mp hv).2, ← hd]; cases ty <;> rfl⟩
theorem own_newJ {k : ClassId} {n : Int32} {kk : Nat} (A : Arr Z h a (newA k ty n) ty) (q : ¬ n < 0) (hd : defaultValue ty = .long 0) (hk : n.toNatClampNeg = kk) : own_Ar Z h a ty ((List.replicate kk (0 : Int64)).map Value.long) := hk ▸
  ⟨_, A, by simp [newA, hd], by rw [List.length_map, List.length_replicate]; exact (back32 q).2, fun v hv => by
    rw [List.map_replicate] at hv
    rw [(List.mem_replicate.mp hv).2, ← hd]; cases ty <;> rfl⟩
end Own
theorem w0 {a0 : Array Value} {Z : State} (hw : ∀ d ∈ tables_1, d.before a0 Z = true) : ((Jvm.Cond.constantLong "com/example/expire/expire/RateCapExpiredRowsPinLaw" (11 : Nat) (1023 : Int64))).before a0 Z = true := hw _ (List.mem_of_getElem? (i := 0) rfl)
theorem w1 {a0 : Array Value} {Z : State} (hw : ∀ d ∈ tables_1, d.before a0 Z = true) : ((Jvm.Cond.classLink "com/example/expire/expire/RateCapExpiredRowsPinLaw" (17 : Nat) "com/example/expire/expire/RateCap")).before a0 Z = true := hw _ (List.mem_of_getElem? (i := 1) rfl)
theorem w2 {a0 : Array Value} {Z : State} (hw : ∀ d ∈ tables_1, d.before a0 Z = true) : ((Jvm.Cond.instantiable "com/example/expire/expire/RateCap" (3 : Nat))).before a0 Z = true := hw _ (List.mem_of_getElem? (i := 2) rfl)
theorem w3 {a0 : Array Value} {Z : State} (hw : ∀ d ∈ tables_1, d.before a0 Z = true) : ((Jvm.Cond.initialized "com/example/expire/expire/RateCap")).before a0 Z = true := hw _ (List.mem_of_getElem? (i := 3) rfl)
theorem w4 {a0 : Array Value} {Z : State} (hw : ∀ d ∈ tables_1, d.before a0 Z = true) : ((Jvm.Cond.methodLink "com/example/expire/expire/RateCapExpiredRowsPinLaw" (19 : Nat) ({ cls := "com/example/expire/expire/RateCap", name := "<init>", desc := "(J)V" } : Jvm.MethodName))).before a0 Z = true := hw _ (List.mem_of_getElem? (i := 4) rfl)
theorem w5 {a0 : Array Value} {Z : State} (hw : ∀ d ∈ tables_1, d.before a0 Z = true) : ((Jvm.Cond.instanceMethod ({ cls := "com/example/expire/expire/RateCap", name := "<init>", desc := "(J)V" } : Jvm.MethodName))).before a0 Z = true := hw _ (List.mem_of_getElem? (i := 5) rfl)
theorem w6 {a0 : Array Value} {Z : State} (hw : ∀ d ∈ tables_1, d.before a0 Z = true) : ((Jvm.Cond.code ({ cls := "com/example/expire/expire/RateCap", name := "<init>", desc := "(J)V" } : Jvm.MethodName) prog_8_method_1_code (3 : Nat) (Option.none : Option Jvm.ClassFile.FieldType))).before a0 Z = true := hw _ (List.mem_of_getElem? (i := 6) rfl)
theorem w7 {a0 : Array Value} {Z : State} (hw : ∀ d ∈ tables_1, d.before a0 Z = true) : ((Jvm.Cond.methodLink "com/example/expire/expire/RateCap" (3 : Nat) ({ cls := "java/lang/Object", name := "<init>", desc := "()V" } : Jvm.MethodName))).before a0 Z = true := hw _ (List.mem_of_getElem? (i := 7) rfl)
theorem w8 {a0 : Array Value} {Z : State} (hw : ∀ d ∈ tables_1, d.before a0 Z = true) : ((Jvm.Cond.instanceMethod ({ cls := "java/lang/Object", name := "<init>", desc := "()V" } : Jvm.MethodName))).before a0 Z = true := hw _ (List.mem_of_getElem? (i := 8) rfl)
theorem w9 {a0 : Array Value} {Z : State} (hw : ∀ d ∈ tables_1, d.before a0 Z = true) : ((Jvm.Cond.code ({ cls := "java/lang/Object", name := "<init>", desc := "()V" } : Jvm.MethodName) object_method_1_code (1 : Nat) (Option.none : Option Jvm.ClassFile.FieldType))).before a0 Z = true := hw _ (List.mem_of_getElem? (i := 9) rfl)
theorem w10 {a0 : Array Value} {Z : State} (hw : ∀ d ∈ tables_1, d.before a0 Z = true) : ((Jvm.Cond.fieldLink "com/example/expire/expire/RateCap" (18 : Nat) "com/example/expire/expire/RateCap" "rowsPerSecond" "J")).before a0 Z = true := hw _ (List.mem_of_getElem? (i := 10) rfl)
theorem w11 {a0 : Array Value} {Z : State} (hw : ∀ d ∈ tables_1, d.before a0 Z = true) : ((Jvm.Cond.laysFinal "com/example/expire/expire/RateCap" "com/example/expire/expire/RateCap" "rowsPerSecond" "J")).before a0 Z = true := hw _ (List.mem_of_getElem? (i := 11) rfl)
theorem w12 {a0 : Array Value} {Z : State} (hw : ∀ d ∈ tables_1, d.before a0 Z = true) : ((Jvm.Cond.methodLink "com/example/expire/expire/RateCapExpiredRowsPinLaw" (22 : Nat) ({ cls := "com/example/expire/expire/RateCap", name := "expiredRows", desc := "(I)I" } : Jvm.MethodName))).before a0 Z = true := hw _ (List.mem_of_getElem? (i := 12) rfl)
theorem w13 {a0 : Array Value} {Z : State} (hw : ∀ d ∈ tables_1, d.before a0 Z = true) : ((Jvm.Cond.declares ({ cls := "com/example/expire/expire/RateCap", name := "expiredRows", desc := "(I)I" } : Jvm.MethodName))).before a0 Z = true := hw _ (List.mem_of_getElem? (i := 13) rfl)
theorem w14 {a0 : Array Value} {Z : State} (hw : ∀ d ∈ tables_1, d.before a0 Z = true) : ((Jvm.Cond.instanceMethod ({ cls := "com/example/expire/expire/RateCap", name := "expiredRows", desc := "(I)I" } : Jvm.MethodName))).before a0 Z = true := hw _ (List.mem_of_getElem? (i := 14) rfl)
theorem w15 {a0 : Array Value} {Z : State} (hw : ∀ d ∈ tables_1, d.before a0 Z = true) : ((Jvm.Cond.selects "com/example/expire/expire/RateCap" ({ cls := "com/example/expire/expire/RateCap", name := "expiredRows", desc := "(I)I" } : Jvm.MethodName) ({ cls := "com/example/expire/expire/RateCap", name := "expiredRows", desc := "(I)I" } : Jvm.MethodName))).before a0 Z = true := hw _ (List.mem_of_getElem? (i := 15) rfl)
theorem w16 {a0 : Array Value} {Z : State} (hw : ∀ d ∈ tables_1, d.before a0 Z = true) : ((Jvm.Cond.code ({ cls := "com/example/expire/expire/RateCap", name := "expiredRows", desc := "(I)I" } : Jvm.MethodName) prog_8_method_2_code (4 : Nat) (Option.some Jvm.ClassFile.FieldType.int))).before a0 Z = true := hw _ (List.mem_of_getElem? (i := 16) rfl)
theorem w17 {a0 : Array Value} {Z : State} (hw : ∀ d ∈ tables_1, d.before a0 Z = true) : ((Jvm.Cond.constantLong "com/example/expire/expire/RateCap" (24 : Nat) (100 : Int64))).before a0 Z = true := hw _ (List.mem_of_getElem? (i := 17) rfl)
theorem w18 {a0 : Array Value} {Z : State} (hw : ∀ d ∈ tables_1, d.before a0 Z = true) : ((Jvm.Cond.constantLong "com/example/expire/expire/RateCap" (26 : Nat) (1000 : Int64))).before a0 Z = true := hw _ (List.mem_of_getElem? (i := 18) rfl)
theorem w19 {a0 : Array Value} {Z : State} (hw : ∀ d ∈ tables_1, d.before a0 Z = true) : ((Jvm.Cond.constantLong "com/example/expire/expire/RateCap" (28 : Nat) (3 : Int64))).before a0 Z = true := hw _ (List.mem_of_getElem? (i := 19) rfl)
theorem w20 {a0 : Array Value} {Z : State} (hw : ∀ d ∈ tables_1, d.before a0 Z = true) : ((Jvm.Cond.methodLink "com/example/expire/expire/RateCap" (30 : Nat) ({ cls := "java/lang/Math", name := "max", desc := "(JJ)J" } : Jvm.MethodName))).before a0 Z = true := hw _ (List.mem_of_getElem? (i := 20) rfl)
theorem w21 {a0 : Array Value} {Z : State} (hw : ∀ d ∈ tables_1, d.before a0 Z = true) : ((Jvm.Cond.static ({ cls := "java/lang/Math", name := "max", desc := "(JJ)J" } : Jvm.MethodName))).before a0 Z = true := hw _ (List.mem_of_getElem? (i := 21) rfl)
theorem w22 {a0 : Array Value} {Z : State} (hw : ∀ d ∈ tables_1, d.before a0 Z = true) : ((Jvm.Cond.initialized "java/lang/Math")).before a0 Z = true := hw _ (List.mem_of_getElem? (i := 22) rfl)
theorem w23 {a0 : Array Value} {Z : State} (hw : ∀ d ∈ tables_1, d.before a0 Z = true) : ((Jvm.Cond.code ({ cls := "java/lang/Math", name := "max", desc := "(JJ)J" } : Jvm.MethodName) jdk_29_method_66_code (4 : Nat) (Option.some Jvm.ClassFile.FieldType.long))).before a0 Z = true := hw _ (List.mem_of_getElem? (i := 23) rfl)
theorem w24 {a0 : Array Value} {Z : State} (hw : ∀ d ∈ tables_1, d.before a0 Z = true) : ((Jvm.Cond.methodLink "com/example/expire/expire/RateCap" (36 : Nat) ({ cls := "java/lang/Math", name := "min", desc := "(JJ)J" } : Jvm.MethodName))).before a0 Z = true := hw _ (List.mem_of_getElem? (i := 24) rfl)
theorem w25 {a0 : Array Value} {Z : State} (hw : ∀ d ∈ tables_1, d.before a0 Z = true) : ((Jvm.Cond.static ({ cls := "java/lang/Math", name := "min", desc := "(JJ)J" } : Jvm.MethodName))).before a0 Z = true := hw _ (List.mem_of_getElem? (i := 25) rfl)
theorem w26 {a0 : Array Value} {Z : State} (hw : ∀ d ∈ tables_1, d.before a0 Z = true) : ((Jvm.Cond.code ({ cls := "java/lang/Math", name := "min", desc := "(JJ)J" } : Jvm.MethodName) jdk_29_method_70_code (4 : Nat) (Option.some Jvm.ClassFile.FieldType.long))).before a0 Z = true := hw _ (List.mem_of_getElem? (i := 26) rfl)
theorem w27 {a0 : Array Value} {Z : State} (hw : ∀ d ∈ tables_1, d.before a0 Z = true) : ((Jvm.Cond.constantLong "com/example/expire/expire/RateCapExpiredRowsPinLaw" (26 : Nat) (1000 : Int64))).before a0 Z = true := hw _ (List.mem_of_getElem? (i := 27) rfl)
theorem w28 {a0 : Array Value} {Z : State} (hw : ∀ d ∈ tables_1, d.before a0 Z = true) : ((Jvm.Cond.constantLong "com/example/expire/expire/RateCapExpiredRowsPinLaw" (28 : Nat) (3 : Int64))).before a0 Z = true := hw _ (List.mem_of_getElem? (i := 28) rfl)
theorem w29 {a0 : Array Value} {Z : State} (hw : ∀ d ∈ tables_1, d.before a0 Z = true) : ((Jvm.Cond.constantLong "com/example/expire/expire/RateCapExpiredRowsPinLaw" (32 : Nat) (100 : Int64))).before a0 Z = true := hw _ (List.mem_of_getElem? (i := 29) rfl)
theorem w30 {a0 : Array Value} {Z : State} (hw : ∀ d ∈ tables_1, d.before a0 Z = true) : ((Jvm.Cond.constantLong "com/example/expire/expire/RateCapExpiredRowsPinLaw" (15 : Nat) (68719476735 : Int64))).before a0 Z = true := hw _ (List.mem_of_getElem? (i := 30) rfl)
theorem w31 {a0 : Array Value} {Z : State} (hw : ∀ d ∈ tables_1, d.before a0 Z = true) : ((Jvm.Cond.constantLong "com/example/expire/expire/RateCapExpiredRowsPinLaw" (9 : Nat) (9223372036854775807 : Int64))).before a0 Z = true := hw _ (List.mem_of_getElem? (i := 31) rfl)
theorem w32 {a0 : Array Value} {Z : State} (hw : ∀ d ∈ tables_1, d.before a0 Z = true) : ((Jvm.Cond.constantLong "com/example/expire/expire/RateCapExpiredRowsPinLaw" (13 : Nat) (131071 : Int64))).before a0 Z = true := hw _ (List.mem_of_getElem? (i := 32) rfl)
theorem pn_com_example_expire_expire_RateCap : plainName "com/example/expire/expire/RateCap" = true := by first | (simp [plainName, overriddenIn]; done) | decide +kernel
theorem pn_com_example_expire_expire_RateCapExpiredRowsPinLaw : plainName "com/example/expire/expire/RateCapExpiredRowsPinLaw" = true := by first | (simp [plainName, overriddenIn]; done) | decide +kernel
theorem pd_0 : parseMethodDescriptor "(J)V" = some ⟨[.long], none⟩ := by decide +kernel
theorem pd_1 : parseMethodDescriptor "(JJ)J" = some ⟨[.long, .long], some .long⟩ := by decide +kernel
theorem pd_2 : parseMethodDescriptor "(I)I" = some ⟨[.int], some .int⟩ := by decide +kernel
theorem dRateCap_mk_0 : decode prog_8_method_1_code 0 = .ok (.aload_n 0, 1) := by decide +kernel
theorem dRateCap_mk_1 : decode prog_8_method_1_code 1 = .ok (.invokespecial 3, 3) := by decide +kernel
theorem dRateCap_mk_4 : decode prog_8_method_1_code 4 = .ok (.lload_n 1, 1) := by decide +kernel
theorem dRateCap_mk_5 : decode prog_8_method_1_code 5 = .ok (.lconst 0, 1) := by decide +kernel
theorem dRateCap_mk_6 : decode prog_8_method_1_code 6 = .ok (.lcmp, 1) := by decide +kernel
theorem dRateCap_mk_7 : decode prog_8_method_1_code 7 = .ok (.ifCond .ge 17, 3) := by decide +kernel
theorem dRateCap_mk_24 : decode prog_8_method_1_code 24 = .ok (.aload_n 0, 1) := by decide +kernel
theorem dRateCap_mk_25 : decode prog_8_method_1_code 25 = .ok (.lload_n 1, 1) := by decide +kernel
theorem dRateCap_mk_26 : decode prog_8_method_1_code 26 = .ok (.putfield 18, 3) := by decide +kernel
theorem dRateCap_mk_29 : decode prog_8_method_1_code 29 = .ok (.return_, 1) := by decide +kernel
theorem dRateCap_expiredRows_0 : decode prog_8_method_2_code 0 = .ok (.aload_n 0, 1) := by decide +kernel
theorem dRateCap_expiredRows_1 : decode prog_8_method_2_code 1 = .ok (.getfield 18, 3) := by decide +kernel
theorem dRateCap_expiredRows_4 : decode prog_8_method_2_code 4 = .ok (.lconst 0, 1) := by decide +kernel
theorem dRateCap_expiredRows_5 : decode prog_8_method_2_code 5 = .ok (.lcmp, 1) := by decide +kernel
theorem dRateCap_expiredRows_6 : decode prog_8_method_2_code 6 = .ok (.ifCond .ne 5, 3) := by decide +kernel
theorem dRateCap_expiredRows_9 : decode prog_8_method_2_code 9 = .ok (.iload_n 1, 1) := by decide +kernel
theorem dRateCap_expiredRows_10 : decode prog_8_method_2_code 10 = .ok (.ireturn, 1) := by decide +kernel
theorem dRateCap_expiredRows_11 : decode prog_8_method_2_code 11 = .ok (.ldc2_w 24, 3) := by decide +kernel
theorem dRateCap_expiredRows_14 : decode prog_8_method_2_code 14 = .ok (.aload_n 0, 1) := by decide +kernel
theorem dRateCap_expiredRows_15 : decode prog_8_method_2_code 15 = .ok (.getfield 18, 3) := by decide +kernel
theorem dRateCap_expiredRows_18 : decode prog_8_method_2_code 18 = .ok (.ldc2_w 26, 3) := by decide +kernel
theorem dRateCap_expiredRows_21 : decode prog_8_method_2_code 21 = .ok (.ldiv, 1) := by decide +kernel
theorem dRateCap_expiredRows_22 : decode prog_8_method_2_code 22 = .ok (.ldc2_w 28, 3) := by decide +kernel
theorem dRateCap_expiredRows_25 : decode prog_8_method_2_code 25 = .ok (.lmul, 1) := by decide +kernel
theorem dRateCap_expiredRows_26 : decode prog_8_method_2_code 26 = .ok (.invokestatic 30, 3) := by decide +kernel
theorem dRateCap_expiredRows_29 : decode prog_8_method_2_code 29 = .ok (.lstore_n 2, 1) := by decide +kernel
theorem dRateCap_expiredRows_30 : decode prog_8_method_2_code 30 = .ok (.iload_n 1, 1) := by decide +kernel
theorem dRateCap_expiredRows_31 : decode prog_8_method_2_code 31 = .ok (.i2l, 1) := by decide +kernel
theorem dRateCap_expiredRows_32 : decode prog_8_method_2_code 32 = .ok (.lload_n 2, 1) := by decide +kernel
theorem dRateCap_expiredRows_33 : decode prog_8_method_2_code 33 = .ok (.aload_n 0, 1) := by decide +kernel
theorem dRateCap_expiredRows_34 : decode prog_8_method_2_code 34 = .ok (.getfield 18, 3) := by decide +kernel
theorem dRateCap_expiredRows_37 : decode prog_8_method_2_code 37 = .ok (.invokestatic 36, 3) := by decide +kernel
theorem dRateCap_expiredRows_40 : decode prog_8_method_2_code 40 = .ok (.invokestatic 36, 3) := by decide +kernel
theorem dRateCap_expiredRows_43 : decode prog_8_method_2_code 43 = .ok (.l2i, 1) := by decide +kernel
theorem dRateCap_expiredRows_44 : decode prog_8_method_2_code 44 = .ok (.ireturn, 1) := by decide +kernel
theorem dMath_max_0 : decode jdk_29_method_66_code 0 = .ok (.lload_n 0, 1) := by decide +kernel
theorem dMath_max_1 : decode jdk_29_method_66_code 1 = .ok (.lload_n 2, 1) := by decide +kernel
theorem dMath_max_2 : decode jdk_29_method_66_code 2 = .ok (.lcmp, 1) := by decide +kernel
theorem dMath_max_3 : decode jdk_29_method_66_code 3 = .ok (.ifCond .lt 7, 3) := by decide +kernel
theorem dMath_max_6 : decode jdk_29_method_66_code 6 = .ok (.lload_n 0, 1) := by decide +kernel
theorem dMath_max_7 : decode jdk_29_method_66_code 7 = .ok (.goto 4, 3) := by decide +kernel
theorem dMath_max_10 : decode jdk_29_method_66_code 10 = .ok (.lload_n 2, 1) := by decide +kernel
theorem dMath_max_11 : decode jdk_29_method_66_code 11 = .ok (.lreturn, 1) := by decide +kernel
theorem dMath_min_0 : decode jdk_29_method_70_code 0 = .ok (.lload_n 0, 1) := by decide +kernel
theorem dMath_min_1 : decode jdk_29_method_70_code 1 = .ok (.lload_n 2, 1) := by decide +kernel
theorem dMath_min_2 : decode jdk_29_method_70_code 2 = .ok (.lcmp, 1) := by decide +kernel
theorem dMath_min_3 : decode jdk_29_method_70_code 3 = .ok (.ifCond .gt 7, 3) := by decide +kernel
theorem dMath_min_6 : decode jdk_29_method_70_code 6 = .ok (.lload_n 0, 1) := by decide +kernel
theorem dMath_min_7 : decode jdk_29_method_70_code 7 = .ok (.goto 4, 3) := by decide +kernel
theorem dMath_min_10 : decode jdk_29_method_70_code 10 = .ok (.lload_n 2, 1) := by decide +kernel
theorem dMath_min_11 : decode jdk_29_method_70_code 11 = .ok (.lreturn, 1) := by decide +kernel
/-! com/example/expire/expire/RateCap.<init>:(J)V -/
def f_RateCap_mk (v1 : Int64) (f_a1_rowsPerSecond : Int64) : Option (Int64) :=
  if v1 < (0 : Int64) then
    none
  else
    some v1
def Q_RateCap_mk (Z : State) (hE : Heap) (n0 : Nat) (a1 : Addr) (r : Int64) (v : Option Value) (h : Heap) (L : List Loc) : Prop := v = none ∧ Fr n0 L ∧ Keep hE h [a1] ∧ Exa Z h a1 "com/example/expire/expire/RateCap" ∧ Fld Z h a1 "com/example/expire/expire/RateCap" "rowsPerSecond" "J" (.long r)
def Cx_RateCap_mk (p : Program) (s : State) (m : MethodId) (meth : Method) (c : Code) (Z : State) (a0 : Array Value) : Prop := p.tables.exec = Jvm.exec ∧ Z.Warmed39 s.vm ∧ (∀ d ∈ tables_1, d.before a0 Z = true) ∧ c.code = prog_8_method_1_code ∧ c.maxLocals = 3 ∧ s.vm.findClass "com/example/expire/expire/RateCap" = some m.cls ∧ meth.sig.returnType = none ∧ meth.locks = false ∧ meth.name = "<init>"
set_option maxRecDepth 65536 in
set_option maxHeartbeats 4000000 in
theorem b_RateCap_mk {p : Program} {l : Launch} {e : Env} {s : State} {m : MethodId} {args : Array Value} {below : List Frame} {meth : Method} {c : Code} {Z : State} {a0 : Array Value} {n0 : Nat} {hE : Heap} (cx : Cx_RateCap_mk p s m meth c Z a0) (a1 : Addr) :
    ∀ {T : State} {locs : List Loc} {h : Heap} (X : Stand p l e ({ frames := 1, cells := 0, slots := 0, locals := 12 } : Room) s m args below meth c T locs 0 0) (eT : T.heap = h) (N : Fr n0 locs) (K : Keep hE h [a1]) (z : n0 ≤ h.size) (v1 : Int64) (f_a1_rowsPerSecond : Int64) (E_a1 : Exa Z h a1 "com/example/expire/expire/RateCap") (F_a1_rowsPerSecond : Fld Z h a1 "com/example/expire/expire/RateCap" "rowsPerSecond" "J" (.long f_a1_rowsPerSecond)) (g_a1 : n0 ≤ a1) (r : Int64), f_RateCap_mk v1 f_a1_rowsPerSecond = some r → own_Goes p e below s (Q_RateCap_mk Z hE n0 a1 r) 0 0 (T.setTop (mkF m 0 #[.val (.ref a1), .val (.long v1), .second] [])) := by
  have cx' := cx
  obtain ⟨hx, hZ, hw, hby, hml, hown, hret, hlk, hnm⟩ := cx'
  intro T locs h X eT N K z v1 f_a1_rowsPerSecond E_a1 F_a1_rowsPerSecond g_a1 r hF
  unfold f_RateCap_mk at hF
  refine own_Goes.via (B := T.setTop (mkF m 1 #[.val (.ref a1), .val (.long v1), .second] [(.ref a1)])) (fun t k => ?_) ?_
  · show Steps p.tables e below (T.setTop (mkF m 0 #[.val (.ref a1), .val (.long v1), .second] [])) t
    refine XS.aloadN X.here hx rfl (hb hby dRateCap_mk_0) rfl rfl ?_
    exact k
  obtain ⟨T10, X10, e10, st10⟩ := initO X hx hZ hown (w7 hw) (w8 hw) (w9 hw) eT (g := (mkF m 1 #[.val (.ref a1), .val (.long v1), .second] [(.ref a1)])) rfl (by rw [hml]; rfl) rfl (hb hby dRateCap_mk_1) (by decide) (W := 0) (by show 2 * 0 + _ ≤ _; exact Nat.le_of_eq rfl) (by decide)
  refine own_Goes.via st10 ?_
  show own_Goes _ _ _ _ _ _ _ (T10.setTop (mkF m 4 #[.val (.ref a1), .val (.long v1), .second] []))
  refine own_Goes.via (B := T10.setTop (mkF m 7 #[.val (.ref a1), .val (.long v1), .second] [(.int (lcmpW v1 (0 : Int64)))])) (fun t k => ?_) ?_
  · show Steps p.tables e below (T10.setTop (mkF m 4 #[.val (.ref a1), .val (.long v1), .second] [])) t
    refine XS.lloadN X10.here hx rfl (hb hby dRateCap_mk_4) rfl ?_
    show Steps p.tables e below (T10.setTop (mkF m 5 #[.val (.ref a1), .val (.long v1), .second] [(.long v1)])) t
    refine XS.lconst X10.here hx rfl (hb hby dRateCap_mk_5) ?_
    show Steps p.tables e below (T10.setTop (mkF m 6 #[.val (.ref a1), .val (.long v1), .second] [(.long (0 : Int64)), (.long v1)])) t
    refine XS.lcmp X10.here hx rfl (hb hby dRateCap_mk_6) rfl ?_
    exact k
  by_cases hc7 : v1 < (0 : Int64)
  · rw [if_pos hc7] at hF
    refine own_Goes.via (B := T10.setTop (mkF m 10 #[.val (.ref a1), .val (.long v1), .second] [])) (fun t k => ?_) ?_
    · show Steps p.tables e below (T10.setTop (mkF m 7 #[.val (.ref a1), .val (.long v1), .second] [(.int (lcmpW v1 (0 : Int64)))])) t
      refine XS.ifNo X10.here hx rfl (hb hby dRateCap_mk_7) rfl (own_tltL hc7).2 ?_
      exact k
    cases hF      -- no return at 10
  · rw [if_neg hc7] at hF
    refine own_Goes.via (B := T10.setTop (mkF m 26 #[.val (.ref a1), .val (.long v1), .second] [(.long v1), (.ref a1)])) (fun t k => ?_) ?_
    · show Steps p.tables e below (T10.setTop (mkF m 7 #[.val (.ref a1), .val (.long v1), .second] [(.int (lcmpW v1 (0 : Int64)))])) t
      refine XS.ifYes X10.here hx rfl (pc0 := 7) (pc' := 24) rfl (hb hby dRateCap_mk_7) rfl (own_fltL hc7).2 (by decide) (by decide) ?_
      show Steps p.tables e below (T10.setTop (mkF m 24 #[.val (.ref a1), .val (.long v1), .second] [])) t
      refine XS.aloadN X10.here hx rfl (hb hby dRateCap_mk_24) rfl rfl ?_
      show Steps p.tables e below (T10.setTop (mkF m 25 #[.val (.ref a1), .val (.long v1), .second] [(.ref a1)])) t
      refine XS.lloadN X10.here hx rfl (hb hby dRateCap_mk_25) rfl ?_
      exact k
    obtain ⟨T11, h11, X11, e11, W11, st11⟩ := putF X10 hx hZ hown (host := "") (Or.inl (w10 hw)) Via.refl e10 F_a1_rowsPerSecond E_a1 (Or.inr ⟨(w11 hw), rfl, hnm⟩) (w2 hw) (ty := .long) (by decide) rfl rfl (g := (mkF m 26 #[.val (.ref a1), .val (.long v1), .second] [(.long v1), (.ref a1)])) rfl rfl (hb hby dRateCap_mk_26)
    refine own_Goes.via st11 ?_
    have E11_a1 := E_a1.wr W11
    have F11_a1_rowsPerSecond := F_a1_rowsPerSecond.same W11
    have z11 := Nat.le_trans z (Keep.of_wr W11).1
    have K11_ := K.wr W11 (Or.inl (List.mem_of_getElem? (i := 0) rfl))
    have N11 := Fr.snoc X11 N g_a1
    show own_Goes _ _ _ _ _ _ _ (T11.setTop (mkF m 29 #[.val (.ref a1), .val (.long v1), .second] []))
    obtain rfl : v1 = r := Option.some.inj hF
    exact own_retV X11 hx hret hlk (hb hby dRateCap_mk_29) e11 ⟨rfl, N11, K11_, E11_a1, F11_a1_rowsPerSecond⟩ (by decide) (by decide)
theorem ef_RateCap_mk (m : MethodId) (x0 : Addr) (x1 : Int64) : entryFrame m #[(.ref x0), (.long x1)] 3 = mkF m 0 #[.val (.ref x0), .val (.long x1), .second] [] := by first | (simp [entryFrame, mkF, argsToLocals, Value.category]; done) | rfl
set_option maxRecDepth 65536 in
set_option maxHeartbeats 4000000 in
theorem rm_RateCap_mk (l : Launch) (Z : State) (a0 : Array Value) (hw : ∀ d ∈ tables_1, d.before a0 Z = true) (ws : List Jvm.Cond) (hE : Heap) (n0 : Nat) (z : n0 ≤ hE.size) (a1 : Addr) (v1 : Int64) (f_a1_rowsPerSecond : Int64) (E_a1 : Exa Z hE a1 "com/example/expire/expire/RateCap") (F_a1_rowsPerSecond : Fld Z hE a1 "com/example/expire/expire/RateCap" "rowsPerSecond" "J" (.long f_a1_rowsPerSecond)) (g_a1 : n0 ≤ a1) (r : Int64) (hF : (f_RateCap_mk v1 f_a1_rowsPerSecond) = some r) :
    MetFree l (⟨"com/example/expire/expire/RateCap", "<init>", "(J)V"⟩ : MethodName) (head1 (Jvm.Cond.code (⟨"com/example/expire/expire/RateCap", "<init>", "(J)V"⟩ : MethodName) prog_8_method_1_code 3 none :: ws) ({ frames := 1, cells := 0, slots := 0, locals := 12 } : Room)) (fun a U => a = #[(.ref a1), (.long v1)] ∧ Z.Warmed39 U.vm ∧ U.heap = hE) (fun _ _ _ _ _ => True) (fun _ U o U' => ∃ v L, o = .returned v ∧ (Q_RateCap_mk Z hE n0 a1 r) v U'.heap L ∧ FrameEnd U o U' L ({ frames := 1, cells := 0, slots := 0, locals := 12 } : Room).cells ({ frames := 1, cells := 0, slots := 0, locals := 12 } : Room).slots) := by
  refine MetFree.of_bodySF (plainFor_of_name pn_com_example_expire_expire_RateCap) hisR ?_
  intro p e s m args below meth c s₁ Bd hml0 hP hK
  obtain ⟨rfl, hZ, hh⟩ := hP
  have X0 : Stand p l e ({ frames := 1, cells := 0, slots := 0, locals := 12 } : Room) s m #[(.ref a1), (.long v1)] below meth c s₁ [] 0 0 := Stand.of_body Bd
  have e0 : s₁.heap = hE := by rw [← hh, Bd.state]; rfl
  have cx : Cx_RateCap_mk p s m meth c Z a0 := ⟨Bd.exec, hZ, hw, Bd.bytes, hml0, findClass_of_methodNamed Bd.named, Bd.returns, Bd.notSynchronized, (name_of_methodNamed Bd.named Bd.method).1⟩
  show own_Goes p e below s (Q_RateCap_mk Z hE n0 a1 r) ({ frames := 1, cells := 0, slots := 0, locals := 12 } : Room).cells ({ frames := 1, cells := 0, slots := 0, locals := 12 } : Room).slots (s₁.setTop (entryFrame m #[(.ref a1), (.long v1)] 3))
  rw [ef_RateCap_mk]
  exact b_RateCap_mk cx a1 X0 e0 (Fr.nil n0) (Keep.refl _ _) z v1 f_a1_rowsPerSecond E_a1 F_a1_rowsPerSecond g_a1 _ hF
/-! java/lang/Math.max:(JJ)J -/
def f_Math_max (v0 : Int64) (v2 : Int64) : Option (Int64) :=
  if v0 < v2 then
    some v2
  else
    some v0
def Q_Math_max (Z : State) (hE : Heap) (n0 : Nat)  (r : Int64) (v : Option Value) (h : Heap) (L : List Loc) : Prop := v = some (.long r) ∧ Fr n0 L ∧ h = hE
def Cx_Math_max (p : Program) (s : State) (m : MethodId) (meth : Method) (c : Code) (Z : State) (a0 : Array Value) : Prop := p.tables.exec = Jvm.exec ∧ Z.Warmed39 s.vm ∧ (∀ d ∈ tables_1, d.before a0 Z = true) ∧ c.code = jdk_29_method_66_code ∧ c.maxLocals = 4 ∧ s.vm.findClass "java/lang/Math" = some m.cls ∧ meth.sig.returnType = some .long ∧ meth.locks = false ∧ meth.name = "max"
set_option maxRecDepth 65536 in
set_option maxHeartbeats 4000000 in
theorem b_Math_max {p : Program} {l : Launch} {e : Env} {s : State} {m : MethodId} {args : Array Value} {below : List Frame} {meth : Method} {c : Code} {Z : State} {a0 : Array Value} {n0 : Nat} {hE : Heap} (cx : Cx_Math_max p s m meth c Z a0) :
    ∀ {T : State} {locs : List Loc} (X : Stand p l e ({ frames := 0, cells := 0, slots := 0, locals := 0 } : Room) s m args below meth c T locs 0 0) (eT : T.heap = hE) (N : Fr n0 locs) (z : n0 ≤ hE.size) (v0 : Int64) (v2 : Int64) (r : Int64), f_Math_max v0 v2 = some r → own_Goes p e below s (Q_Math_max Z hE n0 r) 0 0 (T.setTop (mkF m 0 #[.val (.long v0), .second, .val (.long v2), .second] [])) := by
  have cx' := cx
  obtain ⟨hx, hZ, hw, hby, hml, hown, hret, hlk, hnm⟩ := cx'
  intro T locs X eT N z v0 v2 r hF
  unfold f_Math_max at hF
  refine own_Goes.via (B := T.setTop (mkF m 3 #[.val (.long v0), .second, .val (.long v2), .second] [(.int (lcmpW v0 v2))])) (fun t k => ?_) ?_
  · show Steps p.tables e below (T.setTop (mkF m 0 #[.val (.long v0), .second, .val (.long v2), .second] [])) t
    refine XS.lloadN X.here hx rfl (hb hby dMath_max_0) rfl ?_
    show Steps p.tables e below (T.setTop (mkF m 1 #[.val (.long v0), .second, .val (.long v2), .second] [(.long v0)])) t
    refine XS.lloadN X.here hx rfl (hb hby dMath_max_1) rfl ?_
    show Steps p.tables e below (T.setTop (mkF m 2 #[.val (.long v0), .second, .val (.long v2), .second] [(.long v2), (.long v0)])) t
    refine XS.lcmp X.here hx rfl (hb hby dMath_max_2) rfl ?_
    exact k
  by_cases hc3 : v0 < v2
  · rw [if_pos hc3] at hF
    refine own_Goes.via (B := T.setTop (mkF m 11 #[.val (.long v0), .second, .val (.long v2), .second] [(.long v2)])) (fun t k => ?_) ?_
    · show Steps p.tables e below (T.setTop (mkF m 3 #[.val (.long v0), .second, .val (.long v2), .second] [(.int (lcmpW v0 v2))])) t
      refine XS.ifYes X.here hx rfl (pc0 := 3) (pc' := 10) rfl (hb hby dMath_max_3) rfl (own_tltL hc3).1 (by decide) (by decide) ?_
      show Steps p.tables e below (T.setTop (mkF m 10 #[.val (.long v0), .second, .val (.long v2), .second] [])) t
      refine XS.lloadN X.here hx rfl (hb hby dMath_max_10) rfl ?_
      exact k
    obtain rfl : v2 = r := Option.some.inj hF
    exact own_retJ X hx hret hlk (hb hby dMath_max_11) eT ⟨rfl, N, rfl⟩ (by decide) (by decide)
  · rw [if_neg hc3] at hF
    refine own_Goes.via (B := T.setTop (mkF m 11 #[.val (.long v0), .second, .val (.long v2), .second] [(.long v0)])) (fun t k => ?_) ?_
    · show Steps p.tables e below (T.setTop (mkF m 3 #[.val (.long v0), .second, .val (.long v2), .second] [(.int (lcmpW v0 v2))])) t
      refine XS.ifNo X.here hx rfl (hb hby dMath_max_3) rfl (own_fltL hc3).1 ?_
      show Steps p.tables e below (T.setTop (mkF m 6 #[.val (.long v0), .second, .val (.long v2), .second] [])) t
      refine XS.lloadN X.here hx rfl (hb hby dMath_max_6) rfl ?_
      show Steps p.tables e below (T.setTop (mkF m 7 #[.val (.long v0), .second, .val (.long v2), .second] [(.long v0)])) t
      refine XS.goto X.here hx rfl (pc0 := 7) (pc' := 11) rfl (hb hby dMath_max_7) (by decide) (by decide) ?_
      exact k
    obtain rfl : v0 = r := Option.some.inj hF
    exact own_retJ X hx hret hlk (hb hby dMath_max_11) eT ⟨rfl, N, rfl⟩ (by decide) (by decide)
theorem ef_Math_max (m : MethodId) (x0 : Int64) (x1 : Int64) : entryFrame m #[(.long x0), (.long x1)] 4 = mkF m 0 #[.val (.long x0), .second, .val (.long x1), .second] [] := by first | (simp [entryFrame, mkF, argsToLocals, Value.category]; done) | rfl
set_option maxRecDepth 65536 in
set_option maxHeartbeats 4000000 in
theorem rm_Math_max (l : Launch) (Z : State) (a0 : Array Value) (hw : ∀ d ∈ tables_1, d.before a0 Z = true) (ws : List Jvm.Cond) (hE : Heap) (n0 : Nat) (z : n0 ≤ hE.size)  (v0 : Int64) (v2 : Int64) (r : Int64) (hF : (f_Math_max v0 v2) = some r) :
    MetFree l (⟨"java/lang/Math", "max", "(JJ)J"⟩ : MethodName) (head1 (Jvm.Cond.code (⟨"java/lang/Math", "max", "(JJ)J"⟩ : MethodName) jdk_29_method_66_code 4 (some .long) :: ws) ({ frames := 0, cells := 0, slots := 0, locals := 0 } : Room)) (fun a U => a = #[(.long v0), (.long v2)] ∧ Z.Warmed39 U.vm ∧ U.heap = hE) (fun _ _ _ _ _ => True) (fun _ U o U' => ∃ v L, o = .returned v ∧ (Q_Math_max Z hE n0 r) v U'.heap L ∧ FrameEnd U o U' L ({ frames := 0, cells := 0, slots := 0, locals := 0 } : Room).cells ({ frames := 0, cells := 0, slots := 0, locals := 0 } : Room).slots) := by
  refine MetFree.of_bodySF (Jvm.Free.JP.mathPlain rfl (by decide +kernel)) hisR ?_
  intro p e s m args below meth c s₁ Bd hml0 hP hK
  obtain ⟨rfl, hZ, hh⟩ := hP
  have X0 : Stand p l e ({ frames := 0, cells := 0, slots := 0, locals := 0 } : Room) s m #[(.long v0), (.long v2)] below meth c s₁ [] 0 0 := Stand.of_body Bd
  have e0 : s₁.heap = hE := by rw [← hh, Bd.state]; rfl
  have cx : Cx_Math_max p s m meth c Z a0 := ⟨Bd.exec, hZ, hw, Bd.bytes, hml0, findClass_of_methodNamed Bd.named, Bd.returns, Bd.notSynchronized, (name_of_methodNamed Bd.named Bd.method).1⟩
  show own_Goes p e below s (Q_Math_max Z hE n0 r) ({ frames := 0, cells := 0, slots := 0, locals := 0 } : Room).cells ({ frames := 0, cells := 0, slots := 0, locals := 0 } : Room).slots (s₁.setTop (entryFrame m #[(.long v0), (.long v2)] 4))
  rw [ef_Math_max]
  exact b_Math_max cx X0 e0 (Fr.nil n0) z v0 v2 _ hF
/-! java/lang/Math.min:(JJ)J -/
def f_Math_min (v0 : Int64) (v2 : Int64) : Option (Int64) :=
  if v2 < v0 then
    some v2
  else
    some v0
def Q_Math_min (Z : State) (hE : Heap) (n0 : Nat)  (r : Int64) (v : Option Value) (h : Heap) (L : List Loc) : Prop := v = some (.long r) ∧ Fr n0 L ∧ h = hE
def Cx_Math_min (p : Program) (s : State) (m : MethodId) (meth : Method) (c : Code) (Z : State) (a0 : Array Value) : Prop := p.tables.exec = Jvm.exec ∧ Z.Warmed39 s.vm ∧ (∀ d ∈ tables_1, d.before a0 Z = true) ∧ c.code = jdk_29_method_70_code ∧ c.maxLocals = 4 ∧ s.vm.findClass "java/lang/Math" = some m.cls ∧ meth.sig.returnType = some .long ∧ meth.locks = false ∧ meth.name = "min"
set_option maxRecDepth 65536 in
set_option maxHeartbeats 4000000 in
theorem b_Math_min {p : Program} {l : Launch} {e : Env} {s : State} {m : MethodId} {args : Array Value} {below : List Frame} {meth : Method} {c : Code} {Z : State} {a0 : Array Value} {n0 : Nat} {hE : Heap} (cx : Cx_Math_min p s m meth c Z a0) :
    ∀ {T : State} {locs : List Loc} (X : Stand p l e ({ frames := 0, cells := 0, slots := 0, locals := 0 } : Room) s m args below meth c T locs 0 0) (eT : T.heap = hE) (N : Fr n0 locs) (z : n0 ≤ hE.size) (v0 : Int64) (v2 : Int64) (r : Int64), f_Math_min v0 v2 = some r → own_Goes p e below s (Q_Math_min Z hE n0 r) 0 0 (T.setTop (mkF m 0 #[.val (.long v0), .second, .val (.long v2), .second] [])) := by
  have cx' := cx
  obtain ⟨hx, hZ, hw, hby, hml, hown, hret, hlk, hnm⟩ := cx'
  intro T locs X eT N z v0 v2 r hF
  unfold f_Math_min at hF
  refine own_Goes.via (B := T.setTop (mkF m 3 #[.val (.long v0), .second, .val (.long v2), .second] [(.int (lcmpW v0 v2))])) (fun t k => ?_) ?_
  · show Steps p.tables e below (T.setTop (mkF m 0 #[.val (.long v0), .second, .val (.long v2), .second] [])) t
    refine XS.lloadN X.here hx rfl (hb hby dMath_min_0) rfl ?_
    show Steps p.tables e below (T.setTop (mkF m 1 #[.val (.long v0), .second, .val (.long v2), .second] [(.long v0)])) t
    refine XS.lloadN X.here hx rfl (hb hby dMath_min_1) rfl ?_
    show Steps p.tables e below (T.setTop (mkF m 2 #[.val (.long v0), .second, .val (.long v2), .second] [(.long v2), (.long v0)])) t
    refine XS.lcmp X.here hx rfl (hb hby dMath_min_2) rfl ?_
    exact k
  by_cases hc3 : v2 < v0
  · rw [if_pos hc3] at hF
    refine own_Goes.via (B := T.setTop (mkF m 11 #[.val (.long v0), .second, .val (.long v2), .second] [(.long v2)])) (fun t k => ?_) ?_
    · show Steps p.tables e below (T.setTop (mkF m 3 #[.val (.long v0), .second, .val (.long v2), .second] [(.int (lcmpW v0 v2))])) t
      refine XS.ifYes X.here hx rfl (pc0 := 3) (pc' := 10) rfl (hb hby dMath_min_3) rfl (own_tgtL hc3).1 (by decide) (by decide) ?_
      show Steps p.tables e below (T.setTop (mkF m 10 #[.val (.long v0), .second, .val (.long v2), .second] [])) t
      refine XS.lloadN X.here hx rfl (hb hby dMath_min_10) rfl ?_
      exact k
    obtain rfl : v2 = r := Option.some.inj hF
    exact own_retJ X hx hret hlk (hb hby dMath_min_11) eT ⟨rfl, N, rfl⟩ (by decide) (by decide)
  · rw [if_neg hc3] at hF
    refine own_Goes.via (B := T.setTop (mkF m 11 #[.val (.long v0), .second, .val (.long v2), .second] [(.long v0)])) (fun t k => ?_) ?_
    · show Steps p.tables e below (T.setTop (mkF m 3 #[.val (.long v0), .second, .val (.long v2), .second] [(.int (lcmpW v0 v2))])) t
      refine XS.ifNo X.here hx rfl (hb hby dMath_min_3) rfl (own_fgtL hc3).1 ?_
      show Steps p.tables e below (T.setTop (mkF m 6 #[.val (.long v0), .second, .val (.long v2), .second] [])) t
      refine XS.lloadN X.here hx rfl (hb hby dMath_min_6) rfl ?_
      show Steps p.tables e below (T.setTop (mkF m 7 #[.val (.long v0), .second, .val (.long v2), .second] [(.long v0)])) t
      refine XS.goto X.here hx rfl (pc0 := 7) (pc' := 11) rfl (hb hby dMath_min_7) (by decide) (by decide) ?_
      exact k
    obtain rfl : v0 = r := Option.some.inj hF
    exact own_retJ X hx hret hlk (hb hby dMath_min_11) eT ⟨rfl, N, rfl⟩ (by decide) (by decide)
theorem ef_Math_min (m : MethodId) (x0 : Int64) (x1 : Int64) : entryFrame m #[(.long x0), (.long x1)] 4 = mkF m 0 #[.val (.long x0), .second, .val (.long x1), .second] [] := by first | (simp [entryFrame, mkF, argsToLocals, Value.category]; done) | rfl
set_option maxRecDepth 65536 in
set_option maxHeartbeats 4000000 in
theorem rm_Math_min (l : Launch) (Z : State) (a0 : Array Value) (hw : ∀ d ∈ tables_1, d.before a0 Z = true) (ws : List Jvm.Cond) (hE : Heap) (n0 : Nat) (z : n0 ≤ hE.size)  (v0 : Int64) (v2 : Int64) (r : Int64) (hF : (f_Math_min v0 v2) = some r) :
    MetFree l (⟨"java/lang/Math", "min", "(JJ)J"⟩ : MethodName) (head1 (Jvm.Cond.code (⟨"java/lang/Math", "min", "(JJ)J"⟩ : MethodName) jdk_29_method_70_code 4 (some .long) :: ws) ({ frames := 0, cells := 0, slots := 0, locals := 0 } : Room)) (fun a U => a = #[(.long v0), (.long v2)] ∧ Z.Warmed39 U.vm ∧ U.heap = hE) (fun _ _ _ _ _ => True) (fun _ U o U' => ∃ v L, o = .returned v ∧ (Q_Math_min Z hE n0 r) v U'.heap L ∧ FrameEnd U o U' L ({ frames := 0, cells := 0, slots := 0, locals := 0 } : Room).cells ({ frames := 0, cells := 0, slots := 0, locals := 0 } : Room).slots) := by
  refine MetFree.of_bodySF (Jvm.Free.JP.mathPlain rfl (by decide +kernel)) hisR ?_
  intro p e s m args below meth c s₁ Bd hml0 hP hK
  obtain ⟨rfl, hZ, hh⟩ := hP
  have X0 : Stand p l e ({ frames := 0, cells := 0, slots := 0, locals := 0 } : Room) s m #[(.long v0), (.long v2)] below meth c s₁ [] 0 0 := Stand.of_body Bd
  have e0 : s₁.heap = hE := by rw [← hh, Bd.state]; rfl
  have cx : Cx_Math_min p s m meth c Z a0 := ⟨Bd.exec, hZ, hw, Bd.bytes, hml0, findClass_of_methodNamed Bd.named, Bd.returns, Bd.notSynchronized, (name_of_methodNamed Bd.named Bd.method).1⟩
  show own_Goes p e below s (Q_Math_min Z hE n0 r) ({ frames := 0, cells := 0, slots := 0, locals := 0 } : Room).cells ({ frames := 0, cells := 0, slots := 0, locals := 0 } : Room).slots (s₁.setTop (entryFrame m #[(.long v0), (.long v2)] 4))
  rw [ef_Math_min]
  exact b_Math_min cx X0 e0 (Fr.nil n0) z v0 v2 _ hF
/-! com/example/expire/expire/RateCap.expiredRows:(I)I -/
def f_RateCap_expiredRows (v1 : Int32) (f_a1_rowsPerSecond : Int64) : Option (Int32) :=
  if f_a1_rowsPerSecond = (0 : Int64) then
    some v1
  else
    own_lt ((f_a1_rowsPerSecond / (1000 : Int64)) * (3 : Int64)) fun x39 =>
    own_bd (f_Math_max (100 : Int64) x39) fun r40 =>
    own_bd (f_Math_min r40 f_a1_rowsPerSecond) fun r42 =>
    own_lt (v1.toInt64) fun x43 =>
    own_bd (f_Math_min x43 r42) fun r44 =>
    some (r44.toInt32)
def Q_RateCap_expiredRows (Z : State) (hE : Heap) (n0 : Nat) (a1 : Addr) (r : Int32) (v : Option Value) (h : Heap) (L : List Loc) : Prop := v = some (.int r) ∧ Fr n0 L ∧ h = hE
def Cx_RateCap_expiredRows (p : Program) (s : State) (m : MethodId) (meth : Method) (c : Code) (Z : State) (a0 : Array Value) : Prop := p.tables.exec = Jvm.exec ∧ Z.Warmed39 s.vm ∧ (∀ d ∈ tables_1, d.before a0 Z = true) ∧ c.code = prog_8_method_2_code ∧ c.maxLocals = 4 ∧ s.vm.findClass "com/example/expire/expire/RateCap" = some m.cls ∧ meth.sig.returnType = some .int ∧ meth.locks = false ∧ meth.name = "expiredRows"
set_option maxRecDepth 65536 in
set_option maxHeartbeats 4000000 in
theorem b_RateCap_expiredRows {p : Program} {l : Launch} {e : Env} {s : State} {m : MethodId} {args : Array Value} {below : List Frame} {meth : Method} {c : Code} {Z : State} {a0 : Array Value} {n0 : Nat} {hE : Heap} (cx : Cx_RateCap_expiredRows p s m meth c Z a0) (a1 : Addr) :
    ∀ {T : State} {locs : List Loc} (X : Stand p l e ({ frames := 1, cells := 0, slots := 0, locals := 17 } : Room) s m args below meth c T locs 0 0) (eT : T.heap = hE) (N : Fr n0 locs) (z : n0 ≤ hE.size) (v1 : Int32) (f_a1_rowsPerSecond : Int64) (E_a1 : Exa Z hE a1 "com/example/expire/expire/RateCap") (F_a1_rowsPerSecond : Fld Z hE a1 "com/example/expire/expire/RateCap" "rowsPerSecond" "J" (.long f_a1_rowsPerSecond)) (g_a1 : n0 ≤ a1) (r : Int32), f_RateCap_expiredRows v1 f_a1_rowsPerSecond = some r → own_Goes p e below s (Q_RateCap_expiredRows Z hE n0 a1 r) 0 0 (T.setTop (mkF m 0 #[.val (.ref a1), .val (.int v1), .unset, .unset] [])) := by
  have cx' := cx
  obtain ⟨hx, hZ, hw, hby, hml, hown, hret, hlk, hnm⟩ := cx'
  intro T locs X eT N z v1 f_a1_rowsPerSecond E_a1 F_a1_rowsPerSecond g_a1 r hF
  unfold f_RateCap_expiredRows at hF
  refine own_Goes.via (B := T.setTop (mkF m 1 #[.val (.ref a1), .val (.int v1), .unset, .unset] [(.ref a1)])) (fun t k => ?_) ?_
  · show Steps p.tables e below (T.setTop (mkF m 0 #[.val (.ref a1), .val (.int v1), .unset, .unset] [])) t
    refine XS.aloadN X.here hx rfl (hb hby dRateCap_expiredRows_0) rfl rfl ?_
    exact k
  obtain ⟨T37, X37, e37, st37⟩ := getF X hx hZ hown (host := "") (Or.inl (w10 hw)) Via.refl eT F_a1_rowsPerSecond (g := (mkF m 1 #[.val (.ref a1), .val (.int v1), .unset, .unset] [(.ref a1)])) rfl rfl (hb hby dRateCap_expiredRows_1)
  refine own_Goes.via st37 ?_
  show own_Goes _ _ _ _ _ _ _ (T37.setTop (mkF m 4 #[.val (.ref a1), .val (.int v1), .unset, .unset] [(.long f_a1_rowsPerSecond)]))
  refine own_Goes.via (B := T37.setTop (mkF m 6 #[.val (.ref a1), .val (.int v1), .unset, .unset] [(.int (lcmpW f_a1_rowsPerSecond (0 : Int64)))])) (fun t k => ?_) ?_
  · show Steps p.tables e below (T37.setTop (mkF m 4 #[.val (.ref a1), .val (.int v1), .unset, .unset] [(.long f_a1_rowsPerSecond)])) t
    refine XS.lconst X37.here hx rfl (hb hby dRateCap_expiredRows_4) ?_
    show Steps p.tables e below (T37.setTop (mkF m 5 #[.val (.ref a1), .val (.int v1), .unset, .unset] [(.long (0 : Int64)), (.long f_a1_rowsPerSecond)])) t
    refine XS.lcmp X37.here hx rfl (hb hby dRateCap_expiredRows_5) rfl ?_
    exact k
  by_cases hc6 : f_a1_rowsPerSecond = (0 : Int64)
  · rw [if_pos hc6] at hF
    refine own_Goes.via (B := T37.setTop (mkF m 10 #[.val (.ref a1), .val (.int v1), .unset, .unset] [(.int v1)])) (fun t k => ?_) ?_
    · show Steps p.tables e below (T37.setTop (mkF m 6 #[.val (.ref a1), .val (.int v1), .unset, .unset] [(.int (lcmpW f_a1_rowsPerSecond (0 : Int64)))])) t
      refine XS.ifNo X37.here hx rfl (hb hby dRateCap_expiredRows_6) rfl (own_teqL hc6).2 ?_
      show Steps p.tables e below (T37.setTop (mkF m 9 #[.val (.ref a1), .val (.int v1), .unset, .unset] [])) t
      refine XS.iloadN X37.here hx rfl (hb hby dRateCap_expiredRows_9) rfl ?_
      exact k
    obtain rfl : v1 = r := Option.some.inj hF
    exact own_retI X37 hx hret hlk (hb hby dRateCap_expiredRows_10) e37 ⟨rfl, N, rfl⟩ (by decide) (by decide)
  · rw [if_neg hc6] at hF
    refine own_Goes.via (B := T37.setTop (mkF m 15 #[.val (.ref a1), .val (.int v1), .unset, .unset] [(.ref a1), (.long (100 : Int64))])) (fun t k => ?_) ?_
    · show Steps p.tables e below (T37.setTop (mkF m 6 #[.val (.ref a1), .val (.int v1), .unset, .unset] [(.int (lcmpW f_a1_rowsPerSecond (0 : Int64)))])) t
      refine XS.ifYes X37.here hx rfl (pc0 := 6) (pc' := 11) rfl (hb hby dRateCap_expiredRows_6) rfl (own_feqL hc6).2 (by decide) (by decide) ?_
      show Steps p.tables e below (T37.setTop (mkF m 11 #[.val (.ref a1), .val (.int v1), .unset, .unset] [])) t
      refine X37.ldc2Long hx hown (mvT hZ (w17 hw)) (g := (mkF m 11 #[.val (.ref a1), .val (.int v1), .unset, .unset] [])) rfl (hb hby dRateCap_expiredRows_11) _ ?_
      show Steps p.tables e below (T37.setTop (mkF m 14 #[.val (.ref a1), .val (.int v1), .unset, .unset] [(.long (100 : Int64))])) t
      refine XS.aloadN X37.here hx rfl (hb hby dRateCap_expiredRows_14) rfl rfl ?_
      exact k
    obtain ⟨T38, X38, e38, st38⟩ := getF X37 hx hZ hown (host := "") (Or.inl (w10 hw)) Via.refl e37 F_a1_rowsPerSecond (g := (mkF m 15 #[.val (.ref a1), .val (.int v1), .unset, .unset] [(.ref a1), (.long (100 : Int64))])) rfl rfl (hb hby dRateCap_expiredRows_15)
    refine own_Goes.via st38 ?_
    show own_Goes _ _ _ _ _ _ _ (T38.setTop (mkF m 18 #[.val (.ref a1), .val (.int v1), .unset, .unset] [(.long f_a1_rowsPerSecond), (.long (100 : Int64))]))
    refine own_Goes.via (B := T38.setTop (mkF m 26 #[.val (.ref a1), .val (.int v1), .unset, .unset] [(.long ((f_a1_rowsPerSecond / (1000 : Int64)) * (3 : Int64))), (.long (100 : Int64))])) (fun t k => ?_) ?_
    · show Steps p.tables e below (T38.setTop (mkF m 18 #[.val (.ref a1), .val (.int v1), .unset, .unset] [(.long f_a1_rowsPerSecond), (.long (100 : Int64))])) t
      refine X38.ldc2Long hx hown (mvT hZ (w18 hw)) (g := (mkF m 18 #[.val (.ref a1), .val (.int v1), .unset, .unset] [(.long f_a1_rowsPerSecond), (.long (100 : Int64))])) rfl (hb hby dRateCap_expiredRows_18) _ ?_
      show Steps p.tables e below (T38.setTop (mkF m 21 #[.val (.ref a1), .val (.int v1), .unset, .unset] [(.long (1000 : Int64)), (.long f_a1_rowsPerSecond), (.long (100 : Int64))])) t
      refine XS.ldiv X38.here hx rfl (hb hby dRateCap_expiredRows_21) rfl (by decide) ?_
      show Steps p.tables e below (T38.setTop (mkF m 22 #[.val (.ref a1), .val (.int v1), .unset, .unset] [(.long (f_a1_rowsPerSecond / (1000 : Int64))), (.long (100 : Int64))])) t
      refine X38.ldc2Long hx hown (mvT hZ (w19 hw)) (g := (mkF m 22 #[.val (.ref a1), .val (.int v1), .unset, .unset] [(.long (f_a1_rowsPerSecond / (1000 : Int64))), (.long (100 : Int64))])) rfl (hb hby dRateCap_expiredRows_22) _ ?_
      show Steps p.tables e below (T38.setTop (mkF m 25 #[.val (.ref a1), .val (.int v1), .unset, .unset] [(.long (3 : Int64)), (.long (f_a1_rowsPerSecond / (1000 : Int64))), (.long (100 : Int64))])) t
      refine XS.lmul X38.here hx rfl (hb hby dRateCap_expiredRows_25) rfl ?_
      exact k
    obtain ⟨x39, hx39, hF⟩ := own_lt_e hF
    rw [← hx39]
    obtain ⟨r40, hr40, hF⟩ := own_bd_e hF
    obtain ⟨_, _, ⟨T40, L40, k40, n40⟩, -, X40, ⟨Lc40, hQ40, l40, y40, z40⟩, st40⟩ := Jvm.LawKit.callS X38 hx (y := (⟨"java/lang/Math", "max", "(JJ)J"⟩ : MethodName)) hown (mvT hZ (w20 hw)) (mvT hZ (w21 hw)) (mvT hZ (w22 hw)) (mvT hZ (w23 hw)) (by decide) (backOf (W := 0) (rm_Math_max l Z a0 hw [] hE n0 z (100 : Int64) x39 r40 hr40) hZ (w23 hw) (w22 hw) (by decide) (by decide)) (g := (mkF m 26 #[.val (.ref a1), .val (.int v1), .unset, .unset] [(.long x39), (.long (100 : Int64))])) rfl (by rw [hml]; rfl) (argsL := [(.long (100 : Int64)), (.long x39)]) (rest := []) (lenOf pd_1 rfl) rfl (by show 2 * 0 + _ ≤ _; exact Nat.le_of_eq rfl) (hb hby dRateCap_expiredRows_26) (fun _ _ => ⟨rfl, e38, (by decide : 0 + 0 ≤ _), (by decide : 0 + 0 ≤ _)⟩)
    dsimp only [Pt.U, Pt.locs, Pt.cells, Pt.slots] at X40 l40 y40 z40 st40 hQ40
    subst l40 y40 z40
    obtain ⟨rfl, N40q, e40⟩ := hQ40
    have N40 := Fr.app N N40q
    refine own_Goes.via st40 ?_
    show own_Goes _ _ _ _ _ _ _ (T40.setTop (mkF m 29 #[.val (.ref a1), .val (.int v1), .unset, .unset] [(.long r40)]))
    refine own_Goes.via (B := T40.setTop (mkF m 34 #[.val (.ref a1), .val (.int v1), .val (.long r40), .second] [(.ref a1), (.long r40), (.long (v1.toInt64))])) (fun t k => ?_) ?_
    · show Steps p.tables e below (T40.setTop (mkF m 29 #[.val (.ref a1), .val (.int v1), .unset, .unset] [(.long r40)])) t
      refine XS.lstoreN X40.here hx rfl (hb hby dRateCap_expiredRows_29) rfl (l' := #[.val (.ref a1), .val (.int v1), .val (.long r40), .second]) rfl ?_
      show Steps p.tables e below (T40.setTop (mkF m 30 #[.val (.ref a1), .val (.int v1), .val (.long r40), .second] [])) t
      refine XS.iloadN X40.here hx rfl (hb hby dRateCap_expiredRows_30) rfl ?_
      show Steps p.tables e below (T40.setTop (mkF m 31 #[.val (.ref a1), .val (.int v1), .val (.long r40), .second] [(.int v1)])) t
      refine XS.i2l X40.here hx rfl (hb hby dRateCap_expiredRows_31) rfl ?_
      show Steps p.tables e below (T40.setTop (mkF m 32 #[.val (.ref a1), .val (.int v1), .val (.long r40), .second] [(.long (v1.toInt64))])) t
      refine XS.lloadN X40.here hx rfl (hb hby dRateCap_expiredRows_32) rfl ?_
      show Steps p.tables e below (T40.setTop (mkF m 33 #[.val (.ref a1), .val (.int v1), .val (.long r40), .second] [(.long r40), (.long (v1.toInt64))])) t
      refine XS.aloadN X40.here hx rfl (hb hby dRateCap_expiredRows_33) rfl rfl ?_
      exact k
    obtain ⟨T41, X41, e41, st41⟩ := getF X40 hx hZ hown (host := "") (Or.inl (w10 hw)) Via.refl e40 F_a1_rowsPerSecond (g := (mkF m 34 #[.val (.ref a1), .val (.int v1), .val (.long r40), .second] [(.ref a1), (.long r40), (.long (v1.toInt64))])) rfl rfl (hb hby dRateCap_expiredRows_34)
    refine own_Goes.via st41 ?_
    show own_Goes _ _ _ _ _ _ _ (T41.setTop (mkF m 37 #[.val (.ref a1), .val (.int v1), .val (.long r40), .second] [(.long f_a1_rowsPerSecond), (.long r40), (.long (v1.toInt64))]))
    obtain ⟨r42, hr42, hF⟩ := own_bd_e hF
    obtain ⟨_, _, ⟨T42, L42, k42, n42⟩, -, X42, ⟨Lc42, hQ42, l42, y42, z42⟩, st42⟩ := Jvm.LawKit.callS X41 hx (y := (⟨"java/lang/Math", "min", "(JJ)J"⟩ : MethodName)) hown (mvT hZ (w24 hw)) (mvT hZ (w25 hw)) (mvT hZ (w22 hw)) (mvT hZ (w26 hw)) (by decide) (backOf (W := 2) (rm_Math_min l Z a0 hw [] hE n0 z r40 f_a1_rowsPerSecond r42 hr42) hZ (w26 hw) (w22 hw) (by decide) (by decide)) (g := (mkF m 37 #[.val (.ref a1), .val (.int v1), .val (.long r40), .second] [(.long f_a1_rowsPerSecond), (.long r40), (.long (v1.toInt64))])) rfl (by rw [hml]; rfl) (argsL := [(.long r40), (.long f_a1_rowsPerSecond)]) (rest := [(.long (v1.toInt64))]) (lenOf pd_1 rfl) rfl (by show 2 * 0 + _ ≤ _; exact Nat.le_of_eq rfl) (hb hby dRateCap_expiredRows_37) (fun _ _ => ⟨rfl, e41, (by decide : 0 + 0 ≤ _), (by decide : 0 + 0 ≤ _)⟩)
    dsimp only [Pt.U, Pt.locs, Pt.cells, Pt.slots] at X42 l42 y42 z42 st42 hQ42
    subst l42 y42 z42
    obtain ⟨rfl, N42q, e42⟩ := hQ42
    have N42 := Fr.app N40 N42q
    refine own_Goes.via st42 ?_
    show own_Goes _ _ _ _ _ _ _ (T42.setTop (mkF m 40 #[.val (.ref a1), .val (.int v1), .val (.long r40), .second] [(.long r42), (.long (v1.toInt64))]))
    obtain ⟨x43, hx43, hF⟩ := own_lt_e hF
    rw [← hx43]
    obtain ⟨r44, hr44, hF⟩ := own_bd_e hF
    obtain ⟨_, _, ⟨T44, L44, k44, n44⟩, -, X44, ⟨Lc44, hQ44, l44, y44, z44⟩, st44⟩ := Jvm.LawKit.callS X42 hx (y := (⟨"java/lang/Math", "min", "(JJ)J"⟩ : MethodName)) hown (mvT hZ (w24 hw)) (mvT hZ (w25 hw)) (mvT hZ (w22 hw)) (mvT hZ (w26 hw)) (by decide) (backOf (W := 0) (rm_Math_min l Z a0 hw [] hE n0 z x43 r42 r44 hr44) hZ (w26 hw) (w22 hw) (by decide) (by decide)) (g := (mkF m 40 #[.val (.ref a1), .val (.int v1), .val (.long r40), .second] [(.long r42), (.long x43)])) rfl (by rw [hml]; rfl) (argsL := [(.long x43), (.long r42)]) (rest := []) (lenOf pd_1 rfl) rfl (by show 2 * 0 + _ ≤ _; exact Nat.le_of_eq rfl) (hb hby dRateCap_expiredRows_40) (fun _ _ => ⟨rfl, e42, (by decide : 0 + 0 ≤ _), (by decide : 0 + 0 ≤ _)⟩)
    dsimp only [Pt.U, Pt.locs, Pt.cells, Pt.slots] at X44 l44 y44 z44 st44 hQ44
    subst l44 y44 z44
    obtain ⟨rfl, N44q, e44⟩ := hQ44
    have N44 := Fr.app N42 N44q
    refine own_Goes.via st44 ?_
    show own_Goes _ _ _ _ _ _ _ (T44.setTop (mkF m 43 #[.val (.ref a1), .val (.int v1), .val (.long r40), .second] [(.long r44)]))
    refine own_Goes.via (B := T44.setTop (mkF m 44 #[.val (.ref a1), .val (.int v1), .val (.long r40), .second] [(.int (r44.toInt32))])) (fun t k => ?_) ?_
    · show Steps p.tables e below (T44.setTop (mkF m 43 #[.val (.ref a1), .val (.int v1), .val (.long r40), .second] [(.long r44)])) t
      refine XS.l2i X44.here hx rfl (hb hby dRateCap_expiredRows_43) rfl ?_
      exact k
    obtain rfl : (r44.toInt32) = r := Option.some.inj hF
    exact own_retI X44 hx hret hlk (hb hby dRateCap_expiredRows_44) e44 ⟨rfl, N44, rfl⟩ (by decide) (by decide)
theorem ef_RateCap_expiredRows (m : MethodId) (x0 : Addr) (x1 : Int32) : entryFrame m #[(.ref x0), (.int x1)] 4 = mkF m 0 #[.val (.ref x0), .val (.int x1), .unset, .unset] [] := by first | (simp [entryFrame, mkF, argsToLocals, Value.category]; done) | rfl
set_option maxRecDepth 65536 in
set_option maxHeartbeats 4000000 in
theorem rm_RateCap_expiredRows (l : Launch) (Z : State) (a0 : Array Value) (hw : ∀ d ∈ tables_1, d.before a0 Z = true) (ws : List Jvm.Cond) (hE : Heap) (n0 : Nat) (z : n0 ≤ hE.size) (a1 : Addr) (v1 : Int32) (f_a1_rowsPerSecond : Int64) (E_a1 : Exa Z hE a1 "com/example/expire/expire/RateCap") (F_a1_rowsPerSecond : Fld Z hE a1 "com/example/expire/expire/RateCap" "rowsPerSecond" "J" (.long f_a1_rowsPerSecond)) (g_a1 : n0 ≤ a1) (r : Int32) (hF : (f_RateCap_expiredRows v1 f_a1_rowsPerSecond) = some r) :
    MetFree l (⟨"com/example/expire/expire/RateCap", "expiredRows", "(I)I"⟩ : MethodName) (head1 (Jvm.Cond.code (⟨"com/example/expire/expire/RateCap", "expiredRows", "(I)I"⟩ : MethodName) prog_8_method_2_code 4 (some .int) :: ws) ({ frames := 1, cells := 0, slots := 0, locals := 17 } : Room)) (fun a U => a = #[(.ref a1), (.int v1)] ∧ Z.Warmed39 U.vm ∧ U.heap = hE) (fun _ _ _ _ _ => True) (fun _ U o U' => ∃ v L, o = .returned v ∧ (Q_RateCap_expiredRows Z hE n0 a1 r) v U'.heap L ∧ FrameEnd U o U' L ({ frames := 1, cells := 0, slots := 0, locals := 17 } : Room).cells ({ frames := 1, cells := 0, slots := 0, locals := 17 } : Room).slots) := by
  refine MetFree.of_bodySF (plainFor_of_name pn_com_example_expire_expire_RateCap) hisR ?_
  intro p e s m args below meth c s₁ Bd hml0 hP hK
  obtain ⟨rfl, hZ, hh⟩ := hP
  have X0 : Stand p l e ({ frames := 1, cells := 0, slots := 0, locals := 17 } : Room) s m #[(.ref a1), (.int v1)] below meth c s₁ [] 0 0 := Stand.of_body Bd
  have e0 : s₁.heap = hE := by rw [← hh, Bd.state]; rfl
  have cx : Cx_RateCap_expiredRows p s m meth c Z a0 := ⟨Bd.exec, hZ, hw, Bd.bytes, hml0, findClass_of_methodNamed Bd.named, Bd.returns, Bd.notSynchronized, (name_of_methodNamed Bd.named Bd.method).1⟩
  show own_Goes p e below s (Q_RateCap_expiredRows Z hE n0 a1 r) ({ frames := 1, cells := 0, slots := 0, locals := 17 } : Room).cells ({ frames := 1, cells := 0, slots := 0, locals := 17 } : Room).slots (s₁.setTop (entryFrame m #[(.ref a1), (.int v1)] 4))
  rw [ef_RateCap_expiredRows]
  exact b_RateCap_expiredRows cx a1 X0 e0 (Fr.nil n0) z v1 f_a1_rowsPerSecond E_a1 F_a1_rowsPerSecond g_a1 _ hF
/-! com/example/expire/expire/RateCapExpiredRowsPinLaw.law:(JII)Z -/
def f_law_154 (v7 : Int32) (v9 : Int32) (v14 : Int64) : Option (Int32) :=
  if v14 < (v7.toInt64) then
    if (v9.toInt64) = v14 then
      some (1 : Int32)
    else
      some (0 : Int32)
  else
    own_lt (v7.toInt64) fun x71 =>
    if (v9.toInt64) = x71 then
      some (1 : Int32)
    else
      some (0 : Int32)
def f_law_74 (v4 : Int64) (t0 : Int32) : Option (Int32) :=
  own_bd (f_RateCap_mk v4 (0 : Int64)) fun r73 =>
  own_bd (f_RateCap_expiredRows t0 r73) fun r74 =>
  if v4 = (0 : Int64) then
    own_lt (t0.toInt64) fun x75 =>
    if (r74.toInt64) = x75 then
      some (1 : Int32)
    else
      some (0 : Int32)
  else
    own_lt ((v4 / (1000 : Int64)) * (3 : Int64)) fun x76 =>
    if x76 < (100 : Int64) then
      if v4 < (100 : Int64) then
        (f_law_154 t0 r74 v4)
      else
        (f_law_154 t0 r74 (100 : Int64))
    else
      if v4 < x76 then
        (f_law_154 t0 r74 v4)
      else
        (f_law_154 t0 r74 x76)
def f_law (v0 : Int64) (v2 : Int32) (v3 : Int32) : Option (Int32) :=
  own_lt (v3 &&& (3 : Int32)) fun x80 =>
  if x80 = (0 : Int32) then
    own_lt (v0 &&& (9223372036854775807 : Int64)) fun x81 =>
    if (v3 &&& (4 : Int32)) = (0 : Int32) then
      (f_law_74 x81 v2)
    else
      (f_law_74 x81 (v2 &&& (1023 : Int32)))
  else
    if x80 = (1 : Int32) then
      own_lt (v0 &&& (1023 : Int64)) fun x82 =>
      if (v3 &&& (4 : Int32)) = (0 : Int32) then
        (f_law_74 x82 v2)
      else
        (f_law_74 x82 (v2 &&& (1023 : Int32)))
    else
      if x80 = (2 : Int32) then
        own_lt (v0 &&& (131071 : Int64)) fun x83 =>
        if (v3 &&& (4 : Int32)) = (0 : Int32) then
          (f_law_74 x83 v2)
        else
          (f_law_74 x83 (v2 &&& (1023 : Int32)))
      else
        own_lt (v0 &&& (68719476735 : Int64)) fun x84 =>
        if (v3 &&& (4 : Int32)) = (0 : Int32) then
          (f_law_74 x84 v2)
        else
          (f_law_74 x84 (v2 &&& (1023 : Int32)))
def Q_law (Z : State) (hE : Heap) (n0 : Nat)  (r : Int32) (v : Option Value) (h : Heap) (L : List Loc) : Prop := v = some (.int r) ∧ Fr n0 L ∧ Keep hE h []
def Cx_law (p : Program) (s : State) (m : MethodId) (meth : Method) (c : Code) (Z : State) (a0 : Array Value) : Prop := p.tables.exec = Jvm.exec ∧ Z.Warmed39 s.vm ∧ (∀ d ∈ tables_1, d.before a0 Z = true) ∧ c.code = code ∧ c.maxLocals = 16 ∧ s.vm.findClass "com/example/expire/expire/RateCapExpiredRowsPinLaw" = some m.cls ∧ meth.sig.returnType = some .boolean ∧ meth.locks = false ∧ meth.name = "law"
set_option maxRecDepth 65536 in
set_option maxHeartbeats 4000000 in
theorem b_law_154 {p : Program} {l : Launch} {e : Env} {s : State} {m : MethodId} {args : Array Value} {below : List Frame} {meth : Method} {c : Code} {Z : State} {a0 : Array Value} {n0 : Nat} {hE : Heap} (cx : Cx_law p s m meth c Z a0) :
    ∀ {T : State} {locs : List Loc} {h : Heap} (X : Stand p l e room_1 s m args below meth c T locs 1 3) (eT : T.heap = h) (N : Fr n0 locs) (K : Keep hE h []) (z : n0 ≤ h.size) (v7 : Int32) (v9 : Int32) (v14 : Int64) (v0 : Int64) (d2 : Slot) (d3 : Slot) (v4 : Int64) (d6 : Slot) (d8 : Slot) (d10 : Slot) (d11 : Slot) (v12 : Int64) (o_d2 : One d2) (o_d3 : One d3) (o_d6 : One d6) (o_d8 : One d8) (o_d10 : One d10) (o_d11 : One d11) (r : Int32), f_law_154 v7 v9 v14 = some r → own_Goes p e below s (Q_law Z hE n0 r) 1 3 (T.setTop (mkF m 154 #[.val (.long v0), .second, d2, d3, .val (.long v4), .second, d6, .val (.int v7), d8, .val (.int v9), d10, d11, .val (.long v12), .second, .val (.long v14), .second] [])) := by
  have cx' := cx
  obtain ⟨hx, hZ, hw, hby, hml, hown, hret, hlk, hnm⟩ := cx'
  intro T locs h X eT N K z v7 v9 v14 v0 d2 d3 v4 d6 d8 d10 d11 v12 o_d2 o_d3 o_d6 o_d8 o_d10 o_d11 r hF
  unfold f_law_154 at hF
  refine own_Goes.via (B := T.setTop (mkF m 160 #[.val (.long v0), .second, d2, d3, .val (.long v4), .second, d6, .val (.int v7), d8, .val (.int v9), d10, d11, .val (.long v12), .second, .val (.long v14), .second] [(.int (lcmpW (v7.toInt64) v14))])) (fun t k => ?_) ?_
  · show Steps p.tables e below (T.setTop (mkF m 154 #[.val (.long v0), .second, d2, d3, .val (.long v4), .second, d6, .val (.int v7), d8, .val (.int v9), d10, d11, .val (.long v12), .second, .val (.long v14), .second] [])) t
    refine XS.iload X.here hx rfl (hb hby at_154) rfl ?_
    show Steps p.tables e below (T.setTop (mkF m 156 #[.val (.long v0), .second, d2, d3, .val (.long v4), .second, d6, .val (.int v7), d8, .val (.int v9), d10, d11, .val (.long v12), .second, .val (.long v14), .second] [(.int v7)])) t
    refine XS.i2l X.here hx rfl (hb hby at_156) rfl ?_
    show Steps p.tables e below (T.setTop (mkF m 157 #[.val (.long v0), .second, d2, d3, .val (.long v4), .second, d6, .val (.int v7), d8, .val (.int v9), d10, d11, .val (.long v12), .second, .val (.long v14), .second] [(.long (v7.toInt64))])) t
    refine XS.lload X.here hx rfl (hb hby at_157) rfl ?_
    show Steps p.tables e below (T.setTop (mkF m 159 #[.val (.long v0), .second, d2, d3, .val (.long v4), .second, d6, .val (.int v7), d8, .val (.int v9), d10, d11, .val (.long v12), .second, .val (.long v14), .second] [(.long v14), (.long (v7.toInt64))])) t
    refine XS.lcmp X.here hx rfl (hb hby at_159) rfl ?_
    exact k
  by_cases hc160 : v14 < (v7.toInt64)
  · rw [if_pos hc160] at hF
    refine own_Goes.via (B := T.setTop (mkF m 179 #[.val (.long v0), .second, d2, d3, .val (.long v4), .second, d6, .val (.int v7), d8, .val (.int v9), .val (.long v14), .second, .val (.long v12), .second, .val (.long v14), .second] [(.int (lcmpW (v9.toInt64) v14))])) (fun t k => ?_) ?_
    · show Steps p.tables e below (T.setTop (mkF m 160 #[.val (.long v0), .second, d2, d3, .val (.long v4), .second, d6, .val (.int v7), d8, .val (.int v9), d10, d11, .val (.long v12), .second, .val (.long v14), .second] [(.int (lcmpW (v7.toInt64) v14))])) t
      refine XS.ifYes X.here hx rfl (pc0 := 160) (pc' := 169) rfl (hb hby at_160) rfl (own_tgtL hc160).1 (by decide) (by decide) ?_
      show Steps p.tables e below (T.setTop (mkF m 169 #[.val (.long v0), .second, d2, d3, .val (.long v4), .second, d6, .val (.int v7), d8, .val (.int v9), d10, d11, .val (.long v12), .second, .val (.long v14), .second] [])) t
      refine XS.lload X.here hx rfl (hb hby at_169) rfl ?_
      show Steps p.tables e below (T.setTop (mkF m 171 #[.val (.long v0), .second, d2, d3, .val (.long v4), .second, d6, .val (.int v7), d8, .val (.int v9), d10, d11, .val (.long v12), .second, .val (.long v14), .second] [(.long v14)])) t
      refine XS.lstore X.here hx rfl (hb hby at_171) rfl (l' := #[.val (.long v0), .second, d2, d3, .val (.long v4), .second, d6, .val (.int v7), d8, .val (.int v9), .val (.long v14), .second, .val (.long v12), .second, .val (.long v14), .second]) (own_st2 rfl rfl o_d10 o_d11 rfl) ?_
      show Steps p.tables e below (T.setTop (mkF m 173 #[.val (.long v0), .second, d2, d3, .val (.long v4), .second, d6, .val (.int v7), d8, .val (.int v9), .val (.long v14), .second, .val (.long v12), .second, .val (.long v14), .second] [])) t
      refine XS.iload X.here hx rfl (hb hby at_173) rfl ?_
      show Steps p.tables e below (T.setTop (mkF m 175 #[.val (.long v0), .second, d2, d3, .val (.long v4), .second, d6, .val (.int v7), d8, .val (.int v9), .val (.long v14), .second, .val (.long v12), .second, .val (.long v14), .second] [(.int v9)])) t
      refine XS.i2l X.here hx rfl (hb hby at_175) rfl ?_
      show Steps p.tables e below (T.setTop (mkF m 176 #[.val (.long v0), .second, d2, d3, .val (.long v4), .second, d6, .val (.int v7), d8, .val (.int v9), .val (.long v14), .second, .val (.long v12), .second, .val (.long v14), .second] [(.long (v9.toInt64))])) t
      refine XS.lload X.here hx rfl (hb hby at_176) rfl ?_
      show Steps p.tables e below (T.setTop (mkF m 178 #[.val (.long v0), .second, d2, d3, .val (.long v4), .second, d6, .val (.int v7), d8, .val (.int v9), .val (.long v14), .second, .val (.long v12), .second, .val (.long v14), .second] [(.long v14), (.long (v9.toInt64))])) t
      refine XS.lcmp X.here hx rfl (hb hby at_178) rfl ?_
      exact k
    by_cases hc179 : (v9.toInt64) = v14
    · rw [if_pos hc179] at hF
      refine own_Goes.via (B := T.setTop (mkF m 187 #[.val (.long v0), .second, d2, d3, .val (.long v4), .second, d6, .val (.int v7), d8, .val (.int v9), .val (.long v14), .second, .val (.long v12), .second, .val (.long v14), .second] [(.int (1 : Int32))])) (fun t k => ?_) ?_
      · show Steps p.tables e below (T.setTop (mkF m 179 #[.val (.long v0), .second, d2, d3, .val (.long v4), .second, d6, .val (.int v7), d8, .val (.int v9), .val (.long v14), .second, .val (.long v12), .second, .val (.long v14), .second] [(.int (lcmpW (v9.toInt64) v14))])) t
        refine XS.ifNo X.here hx rfl (hb hby at_179) rfl (own_teqL hc179).2 ?_
        show Steps p.tables e below (T.setTop (mkF m 182 #[.val (.long v0), .second, d2, d3, .val (.long v4), .second, d6, .val (.int v7), d8, .val (.int v9), .val (.long v14), .second, .val (.long v12), .second, .val (.long v14), .second] [])) t
        refine XS.iconst X.here hx rfl (hb hby at_182) ?_
        show Steps p.tables e below (T.setTop (mkF m 183 #[.val (.long v0), .second, d2, d3, .val (.long v4), .second, d6, .val (.int v7), d8, .val (.int v9), .val (.long v14), .second, .val (.long v12), .second, .val (.long v14), .second] [(.int (1 : Int32))])) t
        refine XS.goto X.here hx rfl (pc0 := 183) (pc' := 187) rfl (hb hby at_183) (by decide) (by decide) ?_
        exact k
      obtain rfl : (1 : Int32) = r := Option.some.inj hF
      exact own_retN X hx (t := .boolean) hret hlk (by simp) (hb hby at_187) eT (v := (1 : Int32)) (by decide) ⟨rfl, N, K⟩ (by decide) (by decide)
    · rw [if_neg hc179] at hF
      refine own_Goes.via (B := T.setTop (mkF m 187 #[.val (.long v0), .second, d2, d3, .val (.long v4), .second, d6, .val (.int v7), d8, .val (.int v9), .val (.long v14), .second, .val (.long v12), .second, .val (.long v14), .second] [(.int (0 : Int32))])) (fun t k => ?_) ?_
      · show Steps p.tables e below (T.setTop (mkF m 179 #[.val (.long v0), .second, d2, d3, .val (.long v4), .second, d6, .val (.int v7), d8, .val (.int v9), .val (.long v14), .second, .val (.long v12), .second, .val (.long v14), .second] [(.int (lcmpW (v9.toInt64) v14))])) t
        refine XS.ifYes X.here hx rfl (pc0 := 179) (pc' := 186) rfl (hb hby at_179) rfl (own_feqL hc179).2 (by decide) (by decide) ?_
        show Steps p.tables e below (T.setTop (mkF m 186 #[.val (.long v0), .second, d2, d3, .val (.long v4), .second, d6, .val (.int v7), d8, .val (.int v9), .val (.long v14), .second, .val (.long v12), .second, .val (.long v14), .second] [])) t
        refine XS.iconst X.here hx rfl (hb hby at_186) ?_
        exact k
      obtain rfl : (0 : Int32) = r := Option.some.inj hF
      exact own_retN X hx (t := .boolean) hret hlk (by simp) (hb hby at_187) eT (v := (0 : Int32)) (by decide) ⟨rfl, N, K⟩ (by decide) (by decide)
  · rw [if_neg hc160] at hF
    refine own_Goes.via (B := T.setTop (mkF m 171 #[.val (.long v0), .second, d2, d3, .val (.long v4), .second, d6, .val (.int v7), d8, .val (.int v9), d10, d11, .val (.long v12), .second, .val (.long v14), .second] [(.long (v7.toInt64))])) (fun t k => ?_) ?_
    · show Steps p.tables e below (T.setTop (mkF m 160 #[.val (.long v0), .second, d2, d3, .val (.long v4), .second, d6, .val (.int v7), d8, .val (.int v9), d10, d11, .val (.long v12), .second, .val (.long v14), .second] [(.int (lcmpW (v7.toInt64) v14))])) t
      refine XS.ifNo X.here hx rfl (hb hby at_160) rfl (own_fgtL hc160).1 ?_
      show Steps p.tables e below (T.setTop (mkF m 163 #[.val (.long v0), .second, d2, d3, .val (.long v4), .second, d6, .val (.int v7), d8, .val (.int v9), d10, d11, .val (.long v12), .second, .val (.long v14), .second] [])) t
      refine XS.iload X.here hx rfl (hb hby at_163) rfl ?_
      show Steps p.tables e below (T.setTop (mkF m 165 #[.val (.long v0), .second, d2, d3, .val (.long v4), .second, d6, .val (.int v7), d8, .val (.int v9), d10, d11, .val (.long v12), .second, .val (.long v14), .second] [(.int v7)])) t
      refine XS.i2l X.here hx rfl (hb hby at_165) rfl ?_
      show Steps p.tables e below (T.setTop (mkF m 166 #[.val (.long v0), .second, d2, d3, .val (.long v4), .second, d6, .val (.int v7), d8, .val (.int v9), d10, d11, .val (.long v12), .second, .val (.long v14), .second] [(.long (v7.toInt64))])) t
      refine XS.goto X.here hx rfl (pc0 := 166) (pc' := 171) rfl (hb hby at_166) (by decide) (by decide) ?_
      exact k
    obtain ⟨x71, hx71, hF⟩ := own_lt_e hF
    rw [← hx71]
    refine own_Goes.via (B := T.setTop (mkF m 179 #[.val (.long v0), .second, d2, d3, .val (.long v4), .second, d6, .val (.int v7), d8, .val (.int v9), .val (.long x71), .second, .val (.long v12), .second, .val (.long v14), .second] [(.int (lcmpW (v9.toInt64) x71))])) (fun t k => ?_) ?_
    · show Steps p.tables e below (T.setTop (mkF m 171 #[.val (.long v0), .second, d2, d3, .val (.long v4), .second, d6, .val (.int v7), d8, .val (.int v9), d10, d11, .val (.long v12), .second, .val (.long v14), .second] [(.long x71)])) t
      refine XS.lstore X.here hx rfl (hb hby at_171) rfl (l' := #[.val (.long v0), .second, d2, d3, .val (.long v4), .second, d6, .val (.int v7), d8, .val (.int v9), .val (.long x71), .second, .val (.long v12), .second, .val (.long v14), .second]) (own_st2 rfl rfl o_d10 o_d11 rfl) ?_
      show Steps p.tables e below (T.setTop (mkF m 173 #[.val (.long v0), .second, d2, d3, .val (.long v4), .second, d6, .val (.int v7), d8, .val (.int v9), .val (.long x71), .second, .val (.long v12), .second, .val (.long v14), .second] [])) t
      refine XS.iload X.here hx rfl (hb hby at_173) rfl ?_
      show Steps p.tables e below (T.setTop (mkF m 175 #[.val (.long v0), .second, d2, d3, .val (.long v4), .second, d6, .val (.int v7), d8, .val (.int v9), .val (.long x71), .second, .val (.long v12), .second, .val (.long v14), .second] [(.int v9)])) t
      refine XS.i2l X.here hx rfl (hb hby at_175) rfl ?_
      show Steps p.tables e below (T.setTop (mkF m 176 #[.val (.long v0), .second, d2, d3, .val (.long v4), .second, d6, .val (.int v7), d8, .val (.int v9), .val (.long x71), .second, .val (.long v12), .second, .val (.long v14), .second] [(.long (v9.toInt64))])) t
      refine XS.lload X.here hx rfl (hb hby at_176) rfl ?_
      show Steps p.tables e below (T.setTop (mkF m 178 #[.val (.long v0), .second, d2, d3, .val (.long v4), .second, d6, .val (.int v7), d8, .val (.int v9), .val (.long x71), .second, .val (.long v12), .second, .val (.long v14), .second] [(.long x71), (.long (v9.toInt64))])) t
      refine XS.lcmp X.here hx rfl (hb hby at_178) rfl ?_
      exact k
    by_cases hc179 : (v9.toInt64) = x71
    · rw [if_pos hc179] at hF
      refine own_Goes.via (B := T.setTop (mkF m 187 #[.val (.long v0), .second, d2, d3, .val (.long v4), .second, d6, .val (.int v7), d8, .val (.int v9), .val (.long x71), .second, .val (.long v12), .second, .val (.long v14), .second] [(.int (1 : Int32))])) (fun t k => ?_) ?_
      · show Steps p.tables e below (T.setTop (mkF m 179 #[.val (.long v0), .second, d2, d3, .val (.long v4), .second, d6, .val (.int v7), d8, .val (.int v9), .val (.long x71), .second, .val (.long v12), .second, .val (.long v14), .second] [(.int (lcmpW (v9.toInt64) x71))])) t
        refine XS.ifNo X.here hx rfl (hb hby at_179) rfl (own_teqL hc179).2 ?_
        show Steps p.tables e below (T.setTop (mkF m 182 #[.val (.long v0), .second, d2, d3, .val (.long v4), .second, d6, .val (.int v7), d8, .val (.int v9), .val (.long x71), .second, .val (.long v12), .second, .val (.long v14), .second] [])) t
        refine XS.iconst X.here hx rfl (hb hby at_182) ?_
        show Steps p.tables e below (T.setTop (mkF m 183 #[.val (.long v0), .second, d2, d3, .val (.long v4), .second, d6, .val (.int v7), d8, .val (.int v9), .val (.long x71), .second, .val (.long v12), .second, .val (.long v14), .second] [(.int (1 : Int32))])) t
        refine XS.goto X.here hx rfl (pc0 := 183) (pc' := 187) rfl (hb hby at_183) (by decide) (by decide) ?_
        exact k
      obtain rfl : (1 : Int32) = r := Option.some.inj hF
      exact own_retN X hx (t := .boolean) hret hlk (by simp) (hb hby at_187) eT (v := (1 : Int32)) (by decide) ⟨rfl, N, K⟩ (by decide) (by decide)
    · rw [if_neg hc179] at hF
      refine own_Goes.via (B := T.setTop (mkF m 187 #[.val (.long v0), .second, d2, d3, .val (.long v4), .second, d6, .val (.int v7), d8, .val (.int v9), .val (.long x71), .second, .val (.long v12), .second, .val (.long v14), .second] [(.int (0 : Int32))])) (fun t k => ?_) ?_
      · show Steps p.tables e below (T.setTop (mkF m 179 #[.val (.long v0), .second, d2, d3, .val (.long v4), .second, d6, .val (.int v7), d8, .val (.int v9), .val (.long x71), .second, .val (.long v12), .second, .val (.long v14), .second] [(.int (lcmpW (v9.toInt64) x71))])) t
        refine XS.ifYes X.here hx rfl (pc0 := 179) (pc' := 186) rfl (hb hby at_179) rfl (own_feqL hc179).2 (by decide) (by decide) ?_
        show Steps p.tables e below (T.setTop (mkF m 186 #[.val (.long v0), .second, d2, d3, .val (.long v4), .second, d6, .val (.int v7), d8, .val (.int v9), .val (.long x71), .second, .val (.long v12), .second, .val (.long v14), .second] [])) t
        refine XS.iconst X.here hx rfl (hb hby at_186) ?_
        exact k
      obtain rfl : (0 : Int32) = r := Option.some.inj hF
      exact own_retN X hx (t := .boolean) hret hlk (by simp) (hb hby at_187) eT (v := (0 : Int32)) (by decide) ⟨rfl, N, K⟩ (by decide) (by decide)
set_option maxRecDepth 65536 in
set_option maxHeartbeats 4000000 in
theorem b_law_74 {p : Program} {l : Launch} {e : Env} {s : State} {m : MethodId} {args : Array Value} {below : List Frame} {meth : Method} {c : Code} {Z : State} {a0 : Array Value} {n0 : Nat} {hE : Heap} (cx : Cx_law p s m meth c Z a0) :
    ∀ {T : State} {locs : List Loc} {h : Heap} (X : Stand p l e room_1 s m args below meth c T locs 0 0) (eT : T.heap = h) (N : Fr n0 locs) (K : Keep hE h []) (z : n0 ≤ h.size) (v4 : Int64) (t0 : Int32) (v0 : Int64) (d2 : Slot) (d3 : Slot) (d6 : Slot) (d7 : Slot) (d8 : Slot) (d9 : Slot) (d10 : Slot) (d11 : Slot) (d12 : Slot) (d13 : Slot) (d14 : Slot) (d15 : Slot) (o_d2 : One d2) (o_d3 : One d3) (o_d6 : One d6) (o_d7 : One d7) (o_d8 : One d8) (o_d9 : One d9) (o_d10 : One d10) (o_d11 : One d11) (o_d12 : One d12) (o_d13 : One d13) (o_d14 : One d14) (o_d15 : One d15) (r : Int32), f_law_74 v4 t0 = some r → own_Goes p e below s (Q_law Z hE n0 r) 1 3 (T.setTop (mkF m 74 #[.val (.long v0), .second, d2, d3, .val (.long v4), .second, d6, d7, d8, d9, d10, d11, d12, d13, d14, d15] [(.int t0)])) := by
  have cx' := cx
  obtain ⟨hx, hZ, hw, hby, hml, hown, hret, hlk, hnm⟩ := cx'
  intro T locs h X eT N K z v4 t0 v0 d2 d3 d6 d7 d8 d9 d10 d11 d12 d13 d14 d15 o_d2 o_d3 o_d6 o_d7 o_d8 o_d9 o_d10 o_d11 o_d12 o_d13 o_d14 o_d15 r hF
  unfold f_law_74 at hF
  refine own_Goes.via (B := T.setTop (mkF m 76 #[.val (.long v0), .second, d2, d3, .val (.long v4), .second, d6, .val (.int t0), d8, d9, d10, d11, d12, d13, d14, d15] [])) (fun t k => ?_) ?_
  · show Steps p.tables e below (T.setTop (mkF m 74 #[.val (.long v0), .second, d2, d3, .val (.long v4), .second, d6, d7, d8, d9, d10, d11, d12, d13, d14, d15] [(.int t0)])) t
    refine XS.istoreS X.here hx rfl (hb hby at_74) rfl rfl o_d7 ?_
    exact k
  obtain ⟨T72, h72, X72, e72, E72, A72, D72, -, st72⟩ := newO X hx hZ hown (w1 hw) (w2 hw) (w3 hw) eT (g := (mkF m 76 #[.val (.long v0), .second, d2, d3, .val (.long v4), .second, d6, .val (.int t0), d8, d9, d10, d11, d12, d13, d14, d15] [])) rfl (hb hby at_76) (by decide) (by decide)
  obtain ⟨c72, q72⟩ : ∃ z, z = h.size := ⟨_, rfl⟩
  rw [← q72] at A72 D72 st72
  have F72_c72_rowsPerSecond : Fld Z h72 c72 "com/example/expire/expire/RateCap" "rowsPerSecond" "J" (.long (0 : Int64)) := D72 (Or.inr (w11 hw)) (ty := .long) (by decide)
  have g72_c72 : n0 ≤ c72 := Nat.le_trans z (Nat.le_of_eq q72.symm)
  have nE72_c72 : hE.size ≤ c72 := Nat.le_trans K.1 (Nat.le_of_eq q72.symm)
  have z72 := Nat.le_trans z E72.1
  have K72_ := K.ext E72
  refine own_Goes.via st72 ?_
  show own_Goes _ _ _ _ _ _ _ (T72.setTop (mkF m 79 #[.val (.long v0), .second, d2, d3, .val (.long v4), .second, d6, .val (.int t0), d8, d9, d10, d11, d12, d13, d14, d15] [(.ref c72)]))
  refine own_Goes.via (B := T72.setTop (mkF m 82 #[.val (.long v0), .second, d2, d3, .val (.long v4), .second, d6, .val (.int t0), d8, d9, d10, d11, d12, d13, d14, d15] [(.long v4), (.ref c72), (.ref c72)])) (fun t k => ?_) ?_
  · show Steps p.tables e below (T72.setTop (mkF m 79 #[.val (.long v0), .second, d2, d3, .val (.long v4), .second, d6, .val (.int t0), d8, d9, d10, d11, d12, d13, d14, d15] [(.ref c72)])) t
    refine XS.dup X72.here hx rfl (hb hby at_79) rfl rfl ?_
    show Steps p.tables e below (T72.setTop (mkF m 80 #[.val (.long v0), .second, d2, d3, .val (.long v4), .second, d6, .val (.int t0), d8, d9, d10, d11, d12, d13, d14, d15] [(.ref c72), (.ref c72)])) t
    refine XS.lload X72.here hx rfl (hb hby at_80) rfl ?_
    exact k
  obtain ⟨r73, hr73, hF⟩ := own_bd_e hF
  obtain ⟨_, _, ⟨T73, L73, k73, n73⟩, -, X73, ⟨Lc73, hQ73, l73, y73, z73⟩, st73⟩ := X72.specialBack hx (y := (⟨"com/example/expire/expire/RateCap", "<init>", "(J)V"⟩ : MethodName)) rfl hown (mvT hZ (w4 hw)) (mvT hZ (w5 hw)) (mvT hZ (w6 hw)) (by decide) (backOf (W := 1) (rm_RateCap_mk l Z a0 hw [] h72 n0 z72 c72 v4 (0 : Int64) A72 F72_c72_rowsPerSecond g72_c72 r73 hr73) hZ (w6 hw) (w3 hw) (by decide) (by decide)) (g := (mkF m 82 #[.val (.long v0), .second, d2, d3, .val (.long v4), .second, d6, .val (.int t0), d8, d9, d10, d11, d12, d13, d14, d15] [(.long v4), (.ref c72), (.ref c72)])) rfl (by rw [hml]; rfl) (Steps.refl _) (a := c72) (argsL := [(.long v4)]) (rest := [(.ref c72)]) (lenOf pd_0 rfl) rfl (by show 2 * 0 + _ ≤ _; exact Nat.le_of_eq rfl) (hb hby at_82) (fun _ _ => ⟨rfl, e72, (by decide : 1 + 0 ≤ _), (by decide : 3 + 0 ≤ _)⟩)
  dsimp only [Pt.U, Pt.locs, Pt.cells, Pt.slots] at X73 l73 y73 z73 st73 hQ73
  subst l73 y73 z73
  obtain ⟨rfl, N73q, K73, E73_c72, F73_c72_rowsPerSecond⟩ := hQ73
  have N73 := Fr.app N N73q
  have K73_ := K72_.trans K73 (allS (Or.inr nE72_c72) all0)
  have z73_ := Nat.le_trans z72 K73.1
  refine own_Goes.tr st73 ?_
  show own_Goes _ _ _ _ _ _ _ (T73.setTop (mkF m 85 #[.val (.long v0), .second, d2, d3, .val (.long v4), .second, d6, .val (.int t0), d8, d9, d10, d11, d12, d13, d14, d15] [(.ref c72)]))
  refine own_Goes.via (B := T73.setTop (mkF m 91 #[.val (.long v0), .second, d2, d3, .val (.long v4), .second, d6, .val (.int t0), .val (.ref c72), d9, d10, d11, d12, d13, d14, d15] [(.int t0), (.ref c72)])) (fun t k => ?_) ?_
  · show Steps p.tables e below (T73.setTop (mkF m 85 #[.val (.long v0), .second, d2, d3, .val (.long v4), .second, d6, .val (.int t0), d8, d9, d10, d11, d12, d13, d14, d15] [(.ref c72)])) t
    refine XS.astoreS X73.here hx rfl (hb hby at_85) rfl rfl rfl rfl o_d8 ?_
    show Steps p.tables e below (T73.setTop (mkF m 87 #[.val (.long v0), .second, d2, d3, .val (.long v4), .second, d6, .val (.int t0), .val (.ref c72), d9, d10, d11, d12, d13, d14, d15] [])) t
    refine XS.aload X73.here hx rfl (hb hby at_87) rfl rfl ?_
    show Steps p.tables e below (T73.setTop (mkF m 89 #[.val (.long v0), .second, d2, d3, .val (.long v4), .second, d6, .val (.int t0), .val (.ref c72), d9, d10, d11, d12, d13, d14, d15] [(.ref c72)])) t
    refine XS.iload X73.here hx rfl (hb hby at_89) rfl ?_
    exact k
  obtain ⟨r74, hr74, hF⟩ := own_bd_e hF
  obtain ⟨cq74, kq74, q74a, q74b, q74c⟩ := isOf hZ rfl E73_c72
  obtain ⟨_, _, ⟨T74, L74, k74, n74⟩, -, X74, ⟨Lc74, hQ74, l74, y74, z74⟩, st74⟩ := X73.virtualBack hx (y := (⟨"com/example/expire/expire/RateCap", "expiredRows", "(I)I"⟩ : MethodName)) (z := (⟨"com/example/expire/expire/RateCap", "expiredRows", "(I)I"⟩ : MethodName)) hown (mvT hZ (w12 hw)) (mvT hZ (w13 hw)) (notFace_of_selects (args := #[]) (mvT hZ (w15 hw))) (mvT hZ (w15 hw)) (mvT hZ (w14 hw)) (by decide) (backOf (W := 0) (rm_RateCap_expiredRows l Z a0 hw [] T73.heap n0 z73_ c72 t0 r73 E73_c72 F73_c72_rowsPerSecond g72_c72 r74 hr74) hZ (w16 hw) (w3 hw) (by decide) (by decide)) q74a q74c (g := (mkF m 91 #[.val (.long v0), .second, d2, d3, .val (.long v4), .second, d6, .val (.int t0), .val (.ref c72), d9, d10, d11, d12, d13, d14, d15] [(.int t0), (.ref c72)])) rfl (by rw [hml]; rfl) (Steps.refl _) (argsL := [(.int t0)]) (rest := []) (lenOf pd_2 rfl) rfl (by show 2 * 0 + _ ≤ _; exact Nat.le_of_eq rfl) (hb hby at_91) (fun _ _ => ⟨rfl, rfl, (by decide : 1 + 0 ≤ _), (by decide : 3 + 0 ≤ _)⟩)
  dsimp only [Pt.U, Pt.locs, Pt.cells, Pt.slots] at X74 l74 y74 z74 st74 hQ74
  subst l74 y74 z74
  obtain ⟨rfl, N74q, e74⟩ := hQ74
  have N74 := Fr.app N73 N74q
  refine own_Goes.tr st74 ?_
  show own_Goes _ _ _ _ _ _ _ (T74.setTop (mkF m 94 #[.val (.long v0), .second, d2, d3, .val (.long v4), .second, d6, .val (.int t0), .val (.ref c72), d9, d10, d11, d12, d13, d14, d15] [(.int r74)]))
  refine own_Goes.via (B := T74.setTop (mkF m 100 #[.val (.long v0), .second, d2, d3, .val (.long v4), .second, d6, .val (.int t0), .val (.ref c72), .val (.int r74), d10, d11, d12, d13, d14, d15] [(.int (lcmpW v4 (0 : Int64)))])) (fun t k => ?_) ?_
  · show Steps p.tables e below (T74.setTop (mkF m 94 #[.val (.long v0), .second, d2, d3, .val (.long v4), .second, d6, .val (.int t0), .val (.ref c72), d9, d10, d11, d12, d13, d14, d15] [(.int r74)])) t
    refine XS.istoreS X74.here hx rfl (hb hby at_94) rfl rfl o_d9 ?_
    show Steps p.tables e below (T74.setTop (mkF m 96 #[.val (.long v0), .second, d2, d3, .val (.long v4), .second, d6, .val (.int t0), .val (.ref c72), .val (.int r74), d10, d11, d12, d13, d14, d15] [])) t
    refine XS.lload X74.here hx rfl (hb hby at_96) rfl ?_
    show Steps p.tables e below (T74.setTop (mkF m 98 #[.val (.long v0), .second, d2, d3, .val (.long v4), .second, d6, .val (.int t0), .val (.ref c72), .val (.int r74), d10, d11, d12, d13, d14, d15] [(.long v4)])) t
    refine XS.lconst X74.here hx rfl (hb hby at_98) ?_
    show Steps p.tables e below (T74.setTop (mkF m 99 #[.val (.long v0), .second, d2, d3, .val (.long v4), .second, d6, .val (.int t0), .val (.ref c72), .val (.int r74), d10, d11, d12, d13, d14, d15] [(.long (0 : Int64)), (.long v4)])) t
    refine XS.lcmp X74.here hx rfl (hb hby at_99) rfl ?_
    exact k
  by_cases hc100 : v4 = (0 : Int64)
  · rw [if_pos hc100] at hF
    refine own_Goes.via (B := T74.setTop (mkF m 106 #[.val (.long v0), .second, d2, d3, .val (.long v4), .second, d6, .val (.int t0), .val (.ref c72), .val (.int r74), d10, d11, d12, d13, d14, d15] [(.long (t0.toInt64))])) (fun t k => ?_) ?_
    · show Steps p.tables e below (T74.setTop (mkF m 100 #[.val (.long v0), .second, d2, d3, .val (.long v4), .second, d6, .val (.int t0), .val (.ref c72), .val (.int r74), d10, d11, d12, d13, d14, d15] [(.int (lcmpW v4 (0 : Int64)))])) t
      refine XS.ifNo X74.here hx rfl (hb hby at_100) rfl (own_teqL hc100).2 ?_
      show Steps p.tables e below (T74.setTop (mkF m 103 #[.val (.long v0), .second, d2, d3, .val (.long v4), .second, d6, .val (.int t0), .val (.ref c72), .val (.int r74), d10, d11, d12, d13, d14, d15] [])) t
      refine XS.iload X74.here hx rfl (hb hby at_103) rfl ?_
      show Steps p.tables e below (T74.setTop (mkF m 105 #[.val (.long v0), .second, d2, d3, .val (.long v4), .second, d6, .val (.int t0), .val (.ref c72), .val (.int r74), d10, d11, d12, d13, d14, d15] [(.int t0)])) t
      refine XS.i2l X74.here hx rfl (hb hby at_105) rfl ?_
      exact k
    obtain ⟨x75, hx75, hF⟩ := own_lt_e hF
    rw [← hx75]
    refine own_Goes.via (B := T74.setTop (mkF m 179 #[.val (.long v0), .second, d2, d3, .val (.long v4), .second, d6, .val (.int t0), .val (.ref c72), .val (.int r74), .val (.long x75), .second, d12, d13, d14, d15] [(.int (lcmpW (r74.toInt64) x75))])) (fun t k => ?_) ?_
    · show Steps p.tables e below (T74.setTop (mkF m 106 #[.val (.long v0), .second, d2, d3, .val (.long v4), .second, d6, .val (.int t0), .val (.ref c72), .val (.int r74), d10, d11, d12, d13, d14, d15] [(.long x75)])) t
      refine XS.lstore X74.here hx rfl (hb hby at_106) rfl (l' := #[.val (.long v0), .second, d2, d3, .val (.long v4), .second, d6, .val (.int t0), .val (.ref c72), .val (.int r74), .val (.long x75), .second, d12, d13, d14, d15]) (own_st2 rfl rfl o_d10 o_d11 rfl) ?_
      show Steps p.tables e below (T74.setTop (mkF m 108 #[.val (.long v0), .second, d2, d3, .val (.long v4), .second, d6, .val (.int t0), .val (.ref c72), .val (.int r74), .val (.long x75), .second, d12, d13, d14, d15] [])) t
      refine XS.goto X74.here hx rfl (pc0 := 108) (pc' := 173) rfl (hb hby at_108) (by decide) (by decide) ?_
      show Steps p.tables e below (T74.setTop (mkF m 173 #[.val (.long v0), .second, d2, d3, .val (.long v4), .second, d6, .val (.int t0), .val (.ref c72), .val (.int r74), .val (.long x75), .second, d12, d13, d14, d15] [])) t
      refine XS.iload X74.here hx rfl (hb hby at_173) rfl ?_
      show Steps p.tables e below (T74.setTop (mkF m 175 #[.val (.long v0), .second, d2, d3, .val (.long v4), .second, d6, .val (.int t0), .val (.ref c72), .val (.int r74), .val (.long x75), .second, d12, d13, d14, d15] [(.int r74)])) t
      refine XS.i2l X74.here hx rfl (hb hby at_175) rfl ?_
      show Steps p.tables e below (T74.setTop (mkF m 176 #[.val (.long v0), .second, d2, d3, .val (.long v4), .second, d6, .val (.int t0), .val (.ref c72), .val (.int r74), .val (.long x75), .second, d12, d13, d14, d15] [(.long (r74.toInt64))])) t
      refine XS.lload X74.here hx rfl (hb hby at_176) rfl ?_
      show Steps p.tables e below (T74.setTop (mkF m 178 #[.val (.long v0), .second, d2, d3, .val (.long v4), .second, d6, .val (.int t0), .val (.ref c72), .val (.int r74), .val (.long x75), .second, d12, d13, d14, d15] [(.long x75), (.long (r74.toInt64))])) t
      refine XS.lcmp X74.here hx rfl (hb hby at_178) rfl ?_
      exact k
    by_cases hc179 : (r74.toInt64) = x75
    · rw [if_pos hc179] at hF
      refine own_Goes.via (B := T74.setTop (mkF m 187 #[.val (.long v0), .second, d2, d3, .val (.long v4), .second, d6, .val (.int t0), .val (.ref c72), .val (.int r74), .val (.long x75), .second, d12, d13, d14, d15] [(.int (1 : Int32))])) (fun t k => ?_) ?_
      · show Steps p.tables e below (T74.setTop (mkF m 179 #[.val (.long v0), .second, d2, d3, .val (.long v4), .second, d6, .val (.int t0), .val (.ref c72), .val (.int r74), .val (.long x75), .second, d12, d13, d14, d15] [(.int (lcmpW (r74.toInt64) x75))])) t
        refine XS.ifNo X74.here hx rfl (hb hby at_179) rfl (own_teqL hc179).2 ?_
        show Steps p.tables e below (T74.setTop (mkF m 182 #[.val (.long v0), .second, d2, d3, .val (.long v4), .second, d6, .val (.int t0), .val (.ref c72), .val (.int r74), .val (.long x75), .second, d12, d13, d14, d15] [])) t
        refine XS.iconst X74.here hx rfl (hb hby at_182) ?_
        show Steps p.tables e below (T74.setTop (mkF m 183 #[.val (.long v0), .second, d2, d3, .val (.long v4), .second, d6, .val (.int t0), .val (.ref c72), .val (.int r74), .val (.long x75), .second, d12, d13, d14, d15] [(.int (1 : Int32))])) t
        refine XS.goto X74.here hx rfl (pc0 := 183) (pc' := 187) rfl (hb hby at_183) (by decide) (by decide) ?_
        exact k
      obtain rfl : (1 : Int32) = r := Option.some.inj hF
      exact own_retN X74 hx (t := .boolean) hret hlk (by simp) (hb hby at_187) e74 (v := (1 : Int32)) (by decide) ⟨rfl, N74, K73_⟩ (by decide) (by decide)
    · rw [if_neg hc179] at hF
      refine own_Goes.via (B := T74.setTop (mkF m 187 #[.val (.long v0), .second, d2, d3, .val (.long v4), .second, d6, .val (.int t0), .val (.ref c72), .val (.int r74), .val (.long x75), .second, d12, d13, d14, d15] [(.int (0 : Int32))])) (fun t k => ?_) ?_
      · show Steps p.tables e below (T74.setTop (mkF m 179 #[.val (.long v0), .second, d2, d3, .val (.long v4), .second, d6, .val (.int t0), .val (.ref c72), .val (.int r74), .val (.long x75), .second, d12, d13, d14, d15] [(.int (lcmpW (r74.toInt64) x75))])) t
        refine XS.ifYes X74.here hx rfl (pc0 := 179) (pc' := 186) rfl (hb hby at_179) rfl (own_feqL hc179).2 (by decide) (by decide) ?_
        show Steps p.tables e below (T74.setTop (mkF m 186 #[.val (.long v0), .second, d2, d3, .val (.long v4), .second, d6, .val (.int t0), .val (.ref c72), .val (.int r74), .val (.long x75), .second, d12, d13, d14, d15] [])) t
        refine XS.iconst X74.here hx rfl (hb hby at_186) ?_
        exact k
      obtain rfl : (0 : Int32) = r := Option.some.inj hF
      exact own_retN X74 hx (t := .boolean) hret hlk (by simp) (hb hby at_187) e74 (v := (0 : Int32)) (by decide) ⟨rfl, N74, K73_⟩ (by decide) (by decide)
  · rw [if_neg hc100] at hF
    refine own_Goes.via (B := T74.setTop (mkF m 121 #[.val (.long v0), .second, d2, d3, .val (.long v4), .second, d6, .val (.int t0), .val (.ref c72), .val (.int r74), d10, d11, d12, d13, d14, d15] [(.long ((v4 / (1000 : Int64)) * (3 : Int64)))])) (fun t k => ?_) ?_
    · show Steps p.tables e below (T74.setTop (mkF m 100 #[.val (.long v0), .second, d2, d3, .val (.long v4), .second, d6, .val (.int t0), .val (.ref c72), .val (.int r74), d10, d11, d12, d13, d14, d15] [(.int (lcmpW v4 (0 : Int64)))])) t
      refine XS.ifYes X74.here hx rfl (pc0 := 100) (pc' := 111) rfl (hb hby at_100) rfl (own_feqL hc100).2 (by decide) (by decide) ?_
      show Steps p.tables e below (T74.setTop (mkF m 111 #[.val (.long v0), .second, d2, d3, .val (.long v4), .second, d6, .val (.int t0), .val (.ref c72), .val (.int r74), d10, d11, d12, d13, d14, d15] [])) t
      refine XS.lload X74.here hx rfl (hb hby at_111) rfl ?_
      show Steps p.tables e below (T74.setTop (mkF m 113 #[.val (.long v0), .second, d2, d3, .val (.long v4), .second, d6, .val (.int t0), .val (.ref c72), .val (.int r74), d10, d11, d12, d13, d14, d15] [(.long v4)])) t
      refine X74.ldc2Long hx hown (mvT hZ (w27 hw)) (g := (mkF m 113 #[.val (.long v0), .second, d2, d3, .val (.long v4), .second, d6, .val (.int t0), .val (.ref c72), .val (.int r74), d10, d11, d12, d13, d14, d15] [(.long v4)])) rfl (hb hby at_113) _ ?_
      show Steps p.tables e below (T74.setTop (mkF m 116 #[.val (.long v0), .second, d2, d3, .val (.long v4), .second, d6, .val (.int t0), .val (.ref c72), .val (.int r74), d10, d11, d12, d13, d14, d15] [(.long (1000 : Int64)), (.long v4)])) t
      refine XS.ldiv X74.here hx rfl (hb hby at_116) rfl (by decide) ?_
      show Steps p.tables e below (T74.setTop (mkF m 117 #[.val (.long v0), .second, d2, d3, .val (.long v4), .second, d6, .val (.int t0), .val (.ref c72), .val (.int r74), d10, d11, d12, d13, d14, d15] [(.long (v4 / (1000 : Int64)))])) t
      refine X74.ldc2Long hx hown (mvT hZ (w28 hw)) (g := (mkF m 117 #[.val (.long v0), .second, d2, d3, .val (.long v4), .second, d6, .val (.int t0), .val (.ref c72), .val (.int r74), d10, d11, d12, d13, d14, d15] [(.long (v4 / (1000 : Int64)))])) rfl (hb hby at_117) _ ?_
      show Steps p.tables e below (T74.setTop (mkF m 120 #[.val (.long v0), .second, d2, d3, .val (.long v4), .second, d6, .val (.int t0), .val (.ref c72), .val (.int r74), d10, d11, d12, d13, d14, d15] [(.long (3 : Int64)), (.long (v4 / (1000 : Int64)))])) t
      refine XS.lmul X74.here hx rfl (hb hby at_120) rfl ?_
      exact k
    obtain ⟨x76, hx76, hF⟩ := own_lt_e hF
    rw [← hx76]
    refine own_Goes.via (B := T74.setTop (mkF m 129 #[.val (.long v0), .second, d2, d3, .val (.long v4), .second, d6, .val (.int t0), .val (.ref c72), .val (.int r74), d10, d11, .val (.long x76), .second, d14, d15] [(.int (lcmpW x76 (100 : Int64)))])) (fun t k => ?_) ?_
    · show Steps p.tables e below (T74.setTop (mkF m 121 #[.val (.long v0), .second, d2, d3, .val (.long v4), .second, d6, .val (.int t0), .val (.ref c72), .val (.int r74), d10, d11, d12, d13, d14, d15] [(.long x76)])) t
      refine XS.lstore X74.here hx rfl (hb hby at_121) rfl (l' := #[.val (.long v0), .second, d2, d3, .val (.long v4), .second, d6, .val (.int t0), .val (.ref c72), .val (.int r74), d10, d11, .val (.long x76), .second, d14, d15]) (own_st2 rfl rfl o_d12 o_d13 rfl) ?_
      show Steps p.tables e below (T74.setTop (mkF m 123 #[.val (.long v0), .second, d2, d3, .val (.long v4), .second, d6, .val (.int t0), .val (.ref c72), .val (.int r74), d10, d11, .val (.long x76), .second, d14, d15] [])) t
      refine XS.lload X74.here hx rfl (hb hby at_123) rfl ?_
      show Steps p.tables e below (T74.setTop (mkF m 125 #[.val (.long v0), .second, d2, d3, .val (.long v4), .second, d6, .val (.int t0), .val (.ref c72), .val (.int r74), d10, d11, .val (.long x76), .second, d14, d15] [(.long x76)])) t
      refine X74.ldc2Long hx hown (mvT hZ (w29 hw)) (g := (mkF m 125 #[.val (.long v0), .second, d2, d3, .val (.long v4), .second, d6, .val (.int t0), .val (.ref c72), .val (.int r74), d10, d11, .val (.long x76), .second, d14, d15] [(.long x76)])) rfl (hb hby at_125) _ ?_
      show Steps p.tables e below (T74.setTop (mkF m 128 #[.val (.long v0), .second, d2, d3, .val (.long v4), .second, d6, .val (.int t0), .val (.ref c72), .val (.int r74), d10, d11, .val (.long x76), .second, d14, d15] [(.long (100 : Int64)), (.long x76)])) t
      refine XS.lcmp X74.here hx rfl (hb hby at_128) rfl ?_
      exact k
    by_cases hc129 : x76 < (100 : Int64)
    · rw [if_pos hc129] at hF
      refine own_Goes.via (B := T74.setTop (mkF m 147 #[.val (.long v0), .second, d2, d3, .val (.long v4), .second, d6, .val (.int t0), .val (.ref c72), .val (.int r74), d10, d11, .val (.long x76), .second, .val (.long (100 : Int64)), .second] [(.int (lcmpW v4 (100 : Int64)))])) (fun t k => ?_) ?_
      · show Steps p.tables e below (T74.setTop (mkF m 129 #[.val (.long v0), .second, d2, d3, .val (.long v4), .second, d6, .val (.int t0), .val (.ref c72), .val (.int r74), d10, d11, .val (.long x76), .second, d14, d15] [(.int (lcmpW x76 (100 : Int64)))])) t
        refine XS.ifNo X74.here hx rfl (hb hby at_129) rfl (own_tltL hc129).2 ?_
        show Steps p.tables e below (T74.setTop (mkF m 132 #[.val (.long v0), .second, d2, d3, .val (.long v4), .second, d6, .val (.int t0), .val (.ref c72), .val (.int r74), d10, d11, .val (.long x76), .second, d14, d15] [])) t
        refine X74.ldc2Long hx hown (mvT hZ (w29 hw)) (g := (mkF m 132 #[.val (.long v0), .second, d2, d3, .val (.long v4), .second, d6, .val (.int t0), .val (.ref c72), .val (.int r74), d10, d11, .val (.long x76), .second, d14, d15] [])) rfl (hb hby at_132) _ ?_
        show Steps p.tables e below (T74.setTop (mkF m 135 #[.val (.long v0), .second, d2, d3, .val (.long v4), .second, d6, .val (.int t0), .val (.ref c72), .val (.int r74), d10, d11, .val (.long x76), .second, d14, d15] [(.long (100 : Int64))])) t
        refine XS.goto X74.here hx rfl (pc0 := 135) (pc' := 140) rfl (hb hby at_135) (by decide) (by decide) ?_
        show Steps p.tables e below (T74.setTop (mkF m 140 #[.val (.long v0), .second, d2, d3, .val (.long v4), .second, d6, .val (.int t0), .val (.ref c72), .val (.int r74), d10, d11, .val (.long x76), .second, d14, d15] [(.long (100 : Int64))])) t
        refine XS.lstore X74.here hx rfl (hb hby at_140) rfl (l' := #[.val (.long v0), .second, d2, d3, .val (.long v4), .second, d6, .val (.int t0), .val (.ref c72), .val (.int r74), d10, d11, .val (.long x76), .second, .val (.long (100 : Int64)), .second]) (own_st2 rfl rfl o_d14 o_d15 rfl) ?_
        show Steps p.tables e below (T74.setTop (mkF m 142 #[.val (.long v0), .second, d2, d3, .val (.long v4), .second, d6, .val (.int t0), .val (.ref c72), .val (.int r74), d10, d11, .val (.long x76), .second, .val (.long (100 : Int64)), .second] [])) t
        refine XS.lload X74.here hx rfl (hb hby at_142) rfl ?_
        show Steps p.tables e below (T74.setTop (mkF m 144 #[.val (.long v0), .second, d2, d3, .val (.long v4), .second, d6, .val (.int t0), .val (.ref c72), .val (.int r74), d10, d11, .val (.long x76), .second, .val (.long (100 : Int64)), .second] [(.long v4)])) t
        refine XS.lload X74.here hx rfl (hb hby at_144) rfl ?_
        show Steps p.tables e below (T74.setTop (mkF m 146 #[.val (.long v0), .second, d2, d3, .val (.long v4), .second, d6, .val (.int t0), .val (.ref c72), .val (.int r74), d10, d11, .val (.long x76), .second, .val (.long (100 : Int64)), .second] [(.long (100 : Int64)), (.long v4)])) t
        refine XS.lcmp X74.here hx rfl (hb hby at_146) rfl ?_
        exact k
      by_cases hc147 : v4 < (100 : Int64)
      · rw [if_pos hc147] at hF
        refine own_Goes.via (B := T74.setTop (mkF m 154 #[.val (.long v0), .second, d2, d3, .val (.long v4), .second, d6, .val (.int t0), .val (.ref c72), .val (.int r74), d10, d11, .val (.long x76), .second, .val (.long v4), .second] [])) (fun t k => ?_) ?_
        · show Steps p.tables e below (T74.setTop (mkF m 147 #[.val (.long v0), .second, d2, d3, .val (.long v4), .second, d6, .val (.int t0), .val (.ref c72), .val (.int r74), d10, d11, .val (.long x76), .second, .val (.long (100 : Int64)), .second] [(.int (lcmpW v4 (100 : Int64)))])) t
          refine XS.ifNo X74.here hx rfl (hb hby at_147) rfl (own_tltL hc147).2 ?_
          show Steps p.tables e below (T74.setTop (mkF m 150 #[.val (.long v0), .second, d2, d3, .val (.long v4), .second, d6, .val (.int t0), .val (.ref c72), .val (.int r74), d10, d11, .val (.long x76), .second, .val (.long (100 : Int64)), .second] [])) t
          refine XS.lload X74.here hx rfl (hb hby at_150) rfl ?_
          show Steps p.tables e below (T74.setTop (mkF m 152 #[.val (.long v0), .second, d2, d3, .val (.long v4), .second, d6, .val (.int t0), .val (.ref c72), .val (.int r74), d10, d11, .val (.long x76), .second, .val (.long (100 : Int64)), .second] [(.long v4)])) t
          refine XS.lstore X74.here hx rfl (hb hby at_152) rfl (l' := #[.val (.long v0), .second, d2, d3, .val (.long v4), .second, d6, .val (.int t0), .val (.ref c72), .val (.int r74), d10, d11, .val (.long x76), .second, .val (.long v4), .second]) rfl ?_
          exact k
        exact b_law_154 cx X74 e74 N74 K73_ z73_ t0 r74 v4 v0 d2 d3 v4 d6 (.val (.ref c72)) d10 d11 x76 o_d2 o_d3 o_d6 (One.val rfl) o_d10 o_d11 _ hF
      · rw [if_neg hc147] at hF
        refine own_Goes.via (B := T74.setTop (mkF m 154 #[.val (.long v0), .second, d2, d3, .val (.long v4), .second, d6, .val (.int t0), .val (.ref c72), .val (.int r74), d10, d11, .val (.long x76), .second, .val (.long (100 : Int64)), .second] [])) (fun t k => ?_) ?_
        · show Steps p.tables e below (T74.setTop (mkF m 147 #[.val (.long v0), .second, d2, d3, .val (.long v4), .second, d6, .val (.int t0), .val (.ref c72), .val (.int r74), d10, d11, .val (.long x76), .second, .val (.long (100 : Int64)), .second] [(.int (lcmpW v4 (100 : Int64)))])) t
          refine XS.ifYes X74.here hx rfl (pc0 := 147) (pc' := 154) rfl (hb hby at_147) rfl (own_fltL hc147).2 (by decide) (by decide) ?_
          exact k
        exact b_law_154 cx X74 e74 N74 K73_ z73_ t0 r74 (100 : Int64) v0 d2 d3 v4 d6 (.val (.ref c72)) d10 d11 x76 o_d2 o_d3 o_d6 (One.val rfl) o_d10 o_d11 _ hF
    · rw [if_neg hc129] at hF
      refine own_Goes.via (B := T74.setTop (mkF m 147 #[.val (.long v0), .second, d2, d3, .val (.long v4), .second, d6, .val (.int t0), .val (.ref c72), .val (.int r74), d10, d11, .val (.long x76), .second, .val (.long x76), .second] [(.int (lcmpW v4 x76))])) (fun t k => ?_) ?_
      · show Steps p.tables e below (T74.setTop (mkF m 129 #[.val (.long v0), .second, d2, d3, .val (.long v4), .second, d6, .val (.int t0), .val (.ref c72), .val (.int r74), d10, d11, .val (.long x76), .second, d14, d15] [(.int (lcmpW x76 (100 : Int64)))])) t
        refine XS.ifYes X74.here hx rfl (pc0 := 129) (pc' := 138) rfl (hb hby at_129) rfl (own_fltL hc129).2 (by decide) (by decide) ?_
        show Steps p.tables e below (T74.setTop (mkF m 138 #[.val (.long v0), .second, d2, d3, .val (.long v4), .second, d6, .val (.int t0), .val (.ref c72), .val (.int r74), d10, d11, .val (.long x76), .second, d14, d15] [])) t
        refine XS.lload X74.here hx rfl (hb hby at_138) rfl ?_
        show Steps p.tables e below (T74.setTop (mkF m 140 #[.val (.long v0), .second, d2, d3, .val (.long v4), .second, d6, .val (.int t0), .val (.ref c72), .val (.int r74), d10, d11, .val (.long x76), .second, d14, d15] [(.long x76)])) t
        refine XS.lstore X74.here hx rfl (hb hby at_140) rfl (l' := #[.val (.long v0), .second, d2, d3, .val (.long v4), .second, d6, .val (.int t0), .val (.ref c72), .val (.int r74), d10, d11, .val (.long x76), .second, .val (.long x76), .second]) (own_st2 rfl rfl o_d14 o_d15 rfl) ?_
        show Steps p.tables e below (T74.setTop (mkF m 142 #[.val (.long v0), .second, d2, d3, .val (.long v4), .second, d6, .val (.int t0), .val (.ref c72), .val (.int r74), d10, d11, .val (.long x76), .second, .val (.long x76), .second] [])) t
        refine XS.lload X74.here hx rfl (hb hby at_142) rfl ?_
        show Steps p.tables e below (T74.setTop (mkF m 144 #[.val (.long v0), .second, d2, d3, .val (.long v4), .second, d6, .val (.int t0), .val (.ref c72), .val (.int r74), d10, d11, .val (.long x76), .second, .val (.long x76), .second] [(.long v4)])) t
        refine XS.lload X74.here hx rfl (hb hby at_144) rfl ?_
        show Steps p.tables e below (T74.setTop (mkF m 146 #[.val (.long v0), .second, d2, d3, .val (.long v4), .second, d6, .val (.int t0), .val (.ref c72), .val (.int r74), d10, d11, .val (.long x76), .second, .val (.long x76), .second] [(.long x76), (.long v4)])) t
        refine XS.lcmp X74.here hx rfl (hb hby at_146) rfl ?_
        exact k
      by_cases hc147 : v4 < x76
      · rw [if_pos hc147] at hF
        refine own_Goes.via (B := T74.setTop (mkF m 154 #[.val (.long v0), .second, d2, d3, .val (.long v4), .second, d6, .val (.int t0), .val (.ref c72), .val (.int r74), d10, d11, .val (.long x76), .second, .val (.long v4), .second] [])) (fun t k => ?_) ?_
        · show Steps p.tables e below (T74.setTop (mkF m 147 #[.val (.long v0), .second, d2, d3, .val (.long v4), .second, d6, .val (.int t0), .val (.ref c72), .val (.int r74), d10, d11, .val (.long x76), .second, .val (.long x76), .second] [(.int (lcmpW v4 x76))])) t
          refine XS.ifNo X74.here hx rfl (hb hby at_147) rfl (own_tltL hc147).2 ?_
          show Steps p.tables e below (T74.setTop (mkF m 150 #[.val (.long v0), .second, d2, d3, .val (.long v4), .second, d6, .val (.int t0), .val (.ref c72), .val (.int r74), d10, d11, .val (.long x76), .second, .val (.long x76), .second] [])) t
          refine XS.lload X74.here hx rfl (hb hby at_150) rfl ?_
          show Steps p.tables e below (T74.setTop (mkF m 152 #[.val (.long v0), .second, d2, d3, .val (.long v4), .second, d6, .val (.int t0), .val (.ref c72), .val (.int r74), d10, d11, .val (.long x76), .second, .val (.long x76), .second] [(.long v4)])) t
          refine XS.lstore X74.here hx rfl (hb hby at_152) rfl (l' := #[.val (.long v0), .second, d2, d3, .val (.long v4), .second, d6, .val (.int t0), .val (.ref c72), .val (.int r74), d10, d11, .val (.long x76), .second, .val (.long v4), .second]) rfl ?_
          exact k
        exact b_law_154 cx X74 e74 N74 K73_ z73_ t0 r74 v4 v0 d2 d3 v4 d6 (.val (.ref c72)) d10 d11 x76 o_d2 o_d3 o_d6 (One.val rfl) o_d10 o_d11 _ hF
      · rw [if_neg hc147] at hF
        refine own_Goes.via (B := T74.setTop (mkF m 154 #[.val (.long v0), .second, d2, d3, .val (.long v4), .second, d6, .val (.int t0), .val (.ref c72), .val (.int r74), d10, d11, .val (.long x76), .second, .val (.long x76), .second] [])) (fun t k => ?_) ?_
        · show Steps p.tables e below (T74.setTop (mkF m 147 #[.val (.long v0), .second, d2, d3, .val (.long v4), .second, d6, .val (.int t0), .val (.ref c72), .val (.int r74), d10, d11, .val (.long x76), .second, .val (.long x76), .second] [(.int (lcmpW v4 x76))])) t
          refine XS.ifYes X74.here hx rfl (pc0 := 147) (pc' := 154) rfl (hb hby at_147) rfl (own_fltL hc147).2 (by decide) (by decide) ?_
          exact k
        exact b_law_154 cx X74 e74 N74 K73_ z73_ t0 r74 x76 v0 d2 d3 v4 d6 (.val (.ref c72)) d10 d11 x76 o_d2 o_d3 o_d6 (One.val rfl) o_d10 o_d11 _ hF
set_option maxRecDepth 65536 in
set_option maxHeartbeats 4000000 in
theorem b_law {p : Program} {l : Launch} {e : Env} {s : State} {m : MethodId} {args : Array Value} {below : List Frame} {meth : Method} {c : Code} {Z : State} {a0 : Array Value} {n0 : Nat} {hE : Heap} (cx : Cx_law p s m meth c Z a0) :
    ∀ {T : State} {locs : List Loc} {h : Heap} (X : Stand p l e room_1 s m args below meth c T locs 0 0) (eT : T.heap = h) (N : Fr n0 locs) (K : Keep hE h []) (z : n0 ≤ h.size) (v0 : Int64) (v2 : Int32) (v3 : Int32) (r : Int32), f_law v0 v2 v3 = some r → own_Goes p e below s (Q_law Z hE n0 r) 1 3 (T.setTop (mkF m 0 #[.val (.long v0), .second, .val (.int v2), .val (.int v3), .unset, .unset, .unset, .unset, .unset, .unset, .unset, .unset, .unset, .unset, .unset, .unset] [])) := by
  have cx' := cx
  obtain ⟨hx, hZ, hw, hby, hml, hown, hret, hlk, hnm⟩ := cx'
  intro T locs h X eT N K z v0 v2 v3 r hF
  unfold f_law at hF
  refine own_Goes.via (B := T.setTop (mkF m 3 #[.val (.long v0), .second, .val (.int v2), .val (.int v3), .unset, .unset, .unset, .unset, .unset, .unset, .unset, .unset, .unset, .unset, .unset, .unset] [(.int (v3 &&& (3 : Int32)))])) (fun t k => ?_) ?_
  · show Steps p.tables e below (T.setTop (mkF m 0 #[.val (.long v0), .second, .val (.int v2), .val (.int v3), .unset, .unset, .unset, .unset, .unset, .unset, .unset, .unset, .unset, .unset, .unset, .unset] [])) t
    refine XS.iloadN X.here hx rfl (hb hby at_0) rfl ?_
    show Steps p.tables e below (T.setTop (mkF m 1 #[.val (.long v0), .second, .val (.int v2), .val (.int v3), .unset, .unset, .unset, .unset, .unset, .unset, .unset, .unset, .unset, .unset, .unset, .unset] [(.int v3)])) t
    refine XS.iconst X.here hx rfl (hb hby at_1) ?_
    show Steps p.tables e below (T.setTop (mkF m 2 #[.val (.long v0), .second, .val (.int v2), .val (.int v3), .unset, .unset, .unset, .unset, .unset, .unset, .unset, .unset, .unset, .unset, .unset, .unset] [(.int (3 : Int32)), (.int v3)])) t
    refine XS.iand X.here hx rfl (hb hby at_2) rfl ?_
    exact k
  obtain ⟨x80, hx80, hF⟩ := own_lt_e hF
  rw [← hx80]
  refine own_Goes.via (B := T.setTop (mkF m 7 #[.val (.long v0), .second, .val (.int v2), .val (.int v3), .unset, .unset, .val (.int x80), .unset, .unset, .unset, .unset, .unset, .unset, .unset, .unset, .unset] [(.int x80)])) (fun t k => ?_) ?_
  · show Steps p.tables e below (T.setTop (mkF m 3 #[.val (.long v0), .second, .val (.int v2), .val (.int v3), .unset, .unset, .unset, .unset, .unset, .unset, .unset, .unset, .unset, .unset, .unset, .unset] [(.int x80)])) t
    refine XS.istore X.here hx rfl (hb hby at_3) rfl (l' := #[.val (.long v0), .second, .val (.int v2), .val (.int v3), .unset, .unset, .val (.int x80), .unset, .unset, .unset, .unset, .unset, .unset, .unset, .unset, .unset]) rfl ?_
    show Steps p.tables e below (T.setTop (mkF m 5 #[.val (.long v0), .second, .val (.int v2), .val (.int v3), .unset, .unset, .val (.int x80), .unset, .unset, .unset, .unset, .unset, .unset, .unset, .unset, .unset] [])) t
    refine XS.iload X.here hx rfl (hb hby at_5) rfl ?_
    exact k
  by_cases hc7 : x80 = (0 : Int32)
  · rw [if_pos hc7] at hF
    refine own_Goes.via (B := T.setTop (mkF m 15 #[.val (.long v0), .second, .val (.int v2), .val (.int v3), .unset, .unset, .val (.int x80), .unset, .unset, .unset, .unset, .unset, .unset, .unset, .unset, .unset] [(.long (v0 &&& (9223372036854775807 : Int64)))])) (fun t k => ?_) ?_
    · show Steps p.tables e below (T.setTop (mkF m 7 #[.val (.long v0), .second, .val (.int v2), .val (.int v3), .unset, .unset, .val (.int x80), .unset, .unset, .unset, .unset, .unset, .unset, .unset, .unset, .unset] [(.int x80)])) t
      refine XS.ifNo X.here hx rfl (hb hby at_7) rfl ((if0 _ _).trans (teq hc7).2) ?_
      show Steps p.tables e below (T.setTop (mkF m 10 #[.val (.long v0), .second, .val (.int v2), .val (.int v3), .unset, .unset, .val (.int x80), .unset, .unset, .unset, .unset, .unset, .unset, .unset, .unset, .unset] [])) t
      refine XS.lloadN X.here hx rfl (hb hby at_10) rfl ?_
      show Steps p.tables e below (T.setTop (mkF m 11 #[.val (.long v0), .second, .val (.int v2), .val (.int v3), .unset, .unset, .val (.int x80), .unset, .unset, .unset, .unset, .unset, .unset, .unset, .unset, .unset] [(.long v0)])) t
      refine X.ldc2Long hx hown (mvT hZ (w31 hw)) (g := (mkF m 11 #[.val (.long v0), .second, .val (.int v2), .val (.int v3), .unset, .unset, .val (.int x80), .unset, .unset, .unset, .unset, .unset, .unset, .unset, .unset, .unset] [(.long v0)])) rfl (hb hby at_11) _ ?_
      show Steps p.tables e below (T.setTop (mkF m 14 #[.val (.long v0), .second, .val (.int v2), .val (.int v3), .unset, .unset, .val (.int x80), .unset, .unset, .unset, .unset, .unset, .unset, .unset, .unset, .unset] [(.long (9223372036854775807 : Int64)), (.long v0)])) t
      refine XS.land X.here hx rfl (hb hby at_14) rfl ?_
      exact k
    obtain ⟨x81, hx81, hF⟩ := own_lt_e hF
    rw [← hx81]
    refine own_Goes.via (B := T.setTop (mkF m 62 #[.val (.long v0), .second, .val (.int v2), .val (.int v3), .val (.long x81), .second, .val (.int x80), .unset, .unset, .unset, .unset, .unset, .unset, .unset, .unset, .unset] [(.int (v3 &&& (4 : Int32)))])) (fun t k => ?_) ?_
    · show Steps p.tables e below (T.setTop (mkF m 15 #[.val (.long v0), .second, .val (.int v2), .val (.int v3), .unset, .unset, .val (.int x80), .unset, .unset, .unset, .unset, .unset, .unset, .unset, .unset, .unset] [(.long x81)])) t
      refine XS.lstore X.here hx rfl (hb hby at_15) rfl (l' := #[.val (.long v0), .second, .val (.int v2), .val (.int v3), .val (.long x81), .second, .val (.int x80), .unset, .unset, .unset, .unset, .unset, .unset, .unset, .unset, .unset]) rfl ?_
      show Steps p.tables e below (T.setTop (mkF m 17 #[.val (.long v0), .second, .val (.int v2), .val (.int v3), .val (.long x81), .second, .val (.int x80), .unset, .unset, .unset, .unset, .unset, .unset, .unset, .unset, .unset] [])) t
      refine XS.goto X.here hx rfl (pc0 := 17) (pc' := 59) rfl (hb hby at_17) (by decide) (by decide) ?_
      show Steps p.tables e below (T.setTop (mkF m 59 #[.val (.long v0), .second, .val (.int v2), .val (.int v3), .val (.long x81), .second, .val (.int x80), .unset, .unset, .unset, .unset, .unset, .unset, .unset, .unset, .unset] [])) t
      refine XS.iloadN X.here hx rfl (hb hby at_59) rfl ?_
      show Steps p.tables e below (T.setTop (mkF m 60 #[.val (.long v0), .second, .val (.int v2), .val (.int v3), .val (.long x81), .second, .val (.int x80), .unset, .unset, .unset, .unset, .unset, .unset, .unset, .unset, .unset] [(.int v3)])) t
      refine XS.iconst X.here hx rfl (hb hby at_60) ?_
      show Steps p.tables e below (T.setTop (mkF m 61 #[.val (.long v0), .second, .val (.int v2), .val (.int v3), .val (.long x81), .second, .val (.int x80), .unset, .unset, .unset, .unset, .unset, .unset, .unset, .unset, .unset] [(.int (4 : Int32)), (.int v3)])) t
      refine XS.iand X.here hx rfl (hb hby at_61) rfl ?_
      exact k
    by_cases hc62 : (v3 &&& (4 : Int32)) = (0 : Int32)
    · rw [if_pos hc62] at hF
      refine own_Goes.via (B := T.setTop (mkF m 74 #[.val (.long v0), .second, .val (.int v2), .val (.int v3), .val (.long x81), .second, .val (.int x80), .unset, .unset, .unset, .unset, .unset, .unset, .unset, .unset, .unset] [(.int v2)])) (fun t k => ?_) ?_
      · show Steps p.tables e below (T.setTop (mkF m 62 #[.val (.long v0), .second, .val (.int v2), .val (.int v3), .val (.long x81), .second, .val (.int x80), .unset, .unset, .unset, .unset, .unset, .unset, .unset, .unset, .unset] [(.int (v3 &&& (4 : Int32)))])) t
        refine XS.ifYes X.here hx rfl (pc0 := 62) (pc' := 73) rfl (hb hby at_62) rfl ((if0 _ _).trans (teq hc62).1) (by decide) (by decide) ?_
        show Steps p.tables e below (T.setTop (mkF m 73 #[.val (.long v0), .second, .val (.int v2), .val (.int v3), .val (.long x81), .second, .val (.int x80), .unset, .unset, .unset, .unset, .unset, .unset, .unset, .unset, .unset] [])) t
        refine XS.iloadN X.here hx rfl (hb hby at_73) rfl ?_
        exact k
      exact b_law_74 cx X eT N K z x81 v2 v0 (.val (.int v2)) (.val (.int v3)) (.val (.int x80)) (.unset) (.unset) (.unset) (.unset) (.unset) (.unset) (.unset) (.unset) (.unset) (One.val rfl) (One.val rfl) (One.val rfl) One.u One.u One.u One.u One.u One.u One.u One.u One.u _ hF
    · rw [if_neg hc62] at hF
      refine own_Goes.via (B := T.setTop (mkF m 74 #[.val (.long v0), .second, .val (.int v2), .val (.int v3), .val (.long x81), .second, .val (.int x80), .unset, .unset, .unset, .unset, .unset, .unset, .unset, .unset, .unset] [(.int (v2 &&& (1023 : Int32)))])) (fun t k => ?_) ?_
      · show Steps p.tables e below (T.setTop (mkF m 62 #[.val (.long v0), .second, .val (.int v2), .val (.int v3), .val (.long x81), .second, .val (.int x80), .unset, .unset, .unset, .unset, .unset, .unset, .unset, .unset, .unset] [(.int (v3 &&& (4 : Int32)))])) t
        refine XS.ifNo X.here hx rfl (hb hby at_62) rfl ((if0 _ _).trans (feq hc62).1) ?_
        show Steps p.tables e below (T.setTop (mkF m 65 #[.val (.long v0), .second, .val (.int v2), .val (.int v3), .val (.long x81), .second, .val (.int x80), .unset, .unset, .unset, .unset, .unset, .unset, .unset, .unset, .unset] [])) t
        refine XS.iloadN X.here hx rfl (hb hby at_65) rfl ?_
        show Steps p.tables e below (T.setTop (mkF m 66 #[.val (.long v0), .second, .val (.int v2), .val (.int v3), .val (.long x81), .second, .val (.int x80), .unset, .unset, .unset, .unset, .unset, .unset, .unset, .unset, .unset] [(.int v2)])) t
        refine XS.sipush X.here hx rfl (hb hby at_66) ?_
        show Steps p.tables e below (T.setTop (mkF m 69 #[.val (.long v0), .second, .val (.int v2), .val (.int v3), .val (.long x81), .second, .val (.int x80), .unset, .unset, .unset, .unset, .unset, .unset, .unset, .unset, .unset] [(.int (1023 : Int32)), (.int v2)])) t
        refine XS.iand X.here hx rfl (hb hby at_69) rfl ?_
        show Steps p.tables e below (T.setTop (mkF m 70 #[.val (.long v0), .second, .val (.int v2), .val (.int v3), .val (.long x81), .second, .val (.int x80), .unset, .unset, .unset, .unset, .unset, .unset, .unset, .unset, .unset] [(.int (v2 &&& (1023 : Int32)))])) t
        refine XS.goto X.here hx rfl (pc0 := 70) (pc' := 74) rfl (hb hby at_70) (by decide) (by decide) ?_
        exact k
      exact b_law_74 cx X eT N K z x81 (v2 &&& (1023 : Int32)) v0 (.val (.int v2)) (.val (.int v3)) (.val (.int x80)) (.unset) (.unset) (.unset) (.unset) (.unset) (.unset) (.unset) (.unset) (.unset) (One.val rfl) (One.val rfl) (One.val rfl) One.u One.u One.u One.u One.u One.u One.u One.u One.u _ hF
  · rw [if_neg hc7] at hF
    refine own_Goes.via (B := T.setTop (mkF m 23 #[.val (.long v0), .second, .val (.int v2), .val (.int v3), .unset, .unset, .val (.int x80), .unset, .unset, .unset, .unset, .unset, .unset, .unset, .unset, .unset] [(.int (1 : Int32)), (.int x80)])) (fun t k => ?_) ?_
    · show Steps p.tables e below (T.setTop (mkF m 7 #[.val (.long v0), .second, .val (.int v2), .val (.int v3), .unset, .unset, .val (.int x80), .unset, .unset, .unset, .unset, .unset, .unset, .unset, .unset, .unset] [(.int x80)])) t
      refine XS.ifYes X.here hx rfl (pc0 := 7) (pc' := 20) rfl (hb hby at_7) rfl ((if0 _ _).trans (feq hc7).2) (by decide) (by decide) ?_
      show Steps p.tables e below (T.setTop (mkF m 20 #[.val (.long v0), .second, .val (.int v2), .val (.int v3), .unset, .unset, .val (.int x80), .unset, .unset, .unset, .unset, .unset, .unset, .unset, .unset, .unset] [])) t
      refine XS.iload X.here hx rfl (hb hby at_20) rfl ?_
      show Steps p.tables e below (T.setTop (mkF m 22 #[.val (.long v0), .second, .val (.int v2), .val (.int v3), .unset, .unset, .val (.int x80), .unset, .unset, .unset, .unset, .unset, .unset, .unset, .unset, .unset] [(.int x80)])) t
      refine XS.iconst X.here hx rfl (hb hby at_22) ?_
      exact k
    by_cases hc23 : x80 = (1 : Int32)
    · rw [if_pos hc23] at hF
      refine own_Goes.via (B := T.setTop (mkF m 31 #[.val (.long v0), .second, .val (.int v2), .val (.int v3), .unset, .unset, .val (.int x80), .unset, .unset, .unset, .unset, .unset, .unset, .unset, .unset, .unset] [(.long (v0 &&& (1023 : Int64)))])) (fun t k => ?_) ?_
      · show Steps p.tables e below (T.setTop (mkF m 23 #[.val (.long v0), .second, .val (.int v2), .val (.int v3), .unset, .unset, .val (.int x80), .unset, .unset, .unset, .unset, .unset, .unset, .unset, .unset, .unset] [(.int (1 : Int32)), (.int x80)])) t
        refine XS.icmpNo X.here hx rfl (hb hby at_23) rfl (teq hc23).2 ?_
        show Steps p.tables e below (T.setTop (mkF m 26 #[.val (.long v0), .second, .val (.int v2), .val (.int v3), .unset, .unset, .val (.int x80), .unset, .unset, .unset, .unset, .unset, .unset, .unset, .unset, .unset] [])) t
        refine XS.lloadN X.here hx rfl (hb hby at_26) rfl ?_
        show Steps p.tables e below (T.setTop (mkF m 27 #[.val (.long v0), .second, .val (.int v2), .val (.int v3), .unset, .unset, .val (.int x80), .unset, .unset, .unset, .unset, .unset, .unset, .unset, .unset, .unset] [(.long v0)])) t
        refine X.ldc2Long hx hown (mvT hZ (w0 hw)) (g := (mkF m 27 #[.val (.long v0), .second, .val (.int v2), .val (.int v3), .unset, .unset, .val (.int x80), .unset, .unset, .unset, .unset, .unset, .unset, .unset, .unset, .unset] [(.long v0)])) rfl (hb hby at_27) _ ?_
        show Steps p.tables e below (T.setTop (mkF m 30 #[.val (.long v0), .second, .val (.int v2), .val (.int v3), .unset, .unset, .val (.int x80), .unset, .unset, .unset, .unset, .unset, .unset, .unset, .unset, .unset] [(.long (1023 : Int64)), (.long v0)])) t
        refine XS.land X.here hx rfl (hb hby at_30) rfl ?_
        exact k
      obtain ⟨x82, hx82, hF⟩ := own_lt_e hF
      rw [← hx82]
      refine own_Goes.via (B := T.setTop (mkF m 62 #[.val (.long v0), .second, .val (.int v2), .val (.int v3), .val (.long x82), .second, .val (.int x80), .unset, .unset, .unset, .unset, .unset, .unset, .unset, .unset, .unset] [(.int (v3 &&& (4 : Int32)))])) (fun t k => ?_) ?_
      · show Steps p.tables e below (T.setTop (mkF m 31 #[.val (.long v0), .second, .val (.int v2), .val (.int v3), .unset, .unset, .val (.int x80), .unset, .unset, .unset, .unset, .unset, .unset, .unset, .unset, .unset] [(.long x82)])) t
        refine XS.lstore X.here hx rfl (hb hby at_31) rfl (l' := #[.val (.long v0), .second, .val (.int v2), .val (.int v3), .val (.long x82), .second, .val (.int x80), .unset, .unset, .unset, .unset, .unset, .unset, .unset, .unset, .unset]) rfl ?_
        show Steps p.tables e below (T.setTop (mkF m 33 #[.val (.long v0), .second, .val (.int v2), .val (.int v3), .val (.long x82), .second, .val (.int x80), .unset, .unset, .unset, .unset, .unset, .unset, .unset, .unset, .unset] [])) t
        refine XS.goto X.here hx rfl (pc0 := 33) (pc' := 59) rfl (hb hby at_33) (by decide) (by decide) ?_
        show Steps p.tables e below (T.setTop (mkF m 59 #[.val (.long v0), .second, .val (.int v2), .val (.int v3), .val (.long x82), .second, .val (.int x80), .unset, .unset, .unset, .unset, .unset, .unset, .unset, .unset, .unset] [])) t
        refine XS.iloadN X.here hx rfl (hb hby at_59) rfl ?_
        show Steps p.tables e below (T.setTop (mkF m 60 #[.val (.long v0), .second, .val (.int v2), .val (.int v3), .val (.long x82), .second, .val (.int x80), .unset, .unset, .unset, .unset, .unset, .unset, .unset, .unset, .unset] [(.int v3)])) t
        refine XS.iconst X.here hx rfl (hb hby at_60) ?_
        show Steps p.tables e below (T.setTop (mkF m 61 #[.val (.long v0), .second, .val (.int v2), .val (.int v3), .val (.long x82), .second, .val (.int x80), .unset, .unset, .unset, .unset, .unset, .unset, .unset, .unset, .unset] [(.int (4 : Int32)), (.int v3)])) t
        refine XS.iand X.here hx rfl (hb hby at_61) rfl ?_
        exact k
      by_cases hc62 : (v3 &&& (4 : Int32)) = (0 : Int32)
      · rw [if_pos hc62] at hF
        refine own_Goes.via (B := T.setTop (mkF m 74 #[.val (.long v0), .second, .val (.int v2), .val (.int v3), .val (.long x82), .second, .val (.int x80), .unset, .unset, .unset, .unset, .unset, .unset, .unset, .unset, .unset] [(.int v2)])) (fun t k => ?_) ?_
        · show Steps p.tables e below (T.setTop (mkF m 62 #[.val (.long v0), .second, .val (.int v2), .val (.int v3), .val (.long x82), .second, .val (.int x80), .unset, .unset, .unset, .unset, .unset, .unset, .unset, .unset, .unset] [(.int (v3 &&& (4 : Int32)))])) t
          refine XS.ifYes X.here hx rfl (pc0 := 62) (pc' := 73) rfl (hb hby at_62) rfl ((if0 _ _).trans (teq hc62).1) (by decide) (by decide) ?_
          show Steps p.tables e below (T.setTop (mkF m 73 #[.val (.long v0), .second, .val (.int v2), .val (.int v3), .val (.long x82), .second, .val (.int x80), .unset, .unset, .unset, .unset, .unset, .unset, .unset, .unset, .unset] [])) t
          refine XS.iloadN X.here hx rfl (hb hby at_73) rfl ?_
          exact k
        exact b_law_74 cx X eT N K z x82 v2 v0 (.val (.int v2)) (.val (.int v3)) (.val (.int x80)) (.unset) (.unset) (.unset) (.unset) (.unset) (.unset) (.unset) (.unset) (.unset) (One.val rfl) (One.val rfl) (One.val rfl) One.u One.u One.u One.u One.u One.u One.u One.u One.u _ hF
      · rw [if_neg hc62] at hF
        refine own_Goes.via (B := T.setTop (mkF m 74 #[.val (.long v0), .second, .val (.int v2), .val (.int v3), .val (.long x82), .second, .val (.int x80), .unset, .unset, .unset, .unset, .unset, .unset, .unset, .unset, .unset] [(.int (v2 &&& (1023 : Int32)))])) (fun t k => ?_) ?_
        · show Steps p.tables e below (T.setTop (mkF m 62 #[.val (.long v0), .second, .val (.int v2), .val (.int v3), .val (.long x82), .second, .val (.int x80), .unset, .unset, .unset, .unset, .unset, .unset, .unset, .unset, .unset] [(.int (v3 &&& (4 : Int32)))])) t
          refine XS.ifNo X.here hx rfl (hb hby at_62) rfl ((if0 _ _).trans (feq hc62).1) ?_
          show Steps p.tables e below (T.setTop (mkF m 65 #[.val (.long v0), .second, .val (.int v2), .val (.int v3), .val (.long x82), .second, .val (.int x80), .unset, .unset, .unset, .unset, .unset, .unset, .unset, .unset, .unset] [])) t
          refine XS.iloadN X.here hx rfl (hb hby at_65) rfl ?_
          show Steps p.tables e below (T.setTop (mkF m 66 #[.val (.long v0), .second, .val (.int v2), .val (.int v3), .val (.long x82), .second, .val (.int x80), .unset, .unset, .unset, .unset, .unset, .unset, .unset, .unset, .unset] [(.int v2)])) t
          refine XS.sipush X.here hx rfl (hb hby at_66) ?_
          show Steps p.tables e below (T.setTop (mkF m 69 #[.val (.long v0), .second, .val (.int v2), .val (.int v3), .val (.long x82), .second, .val (.int x80), .unset, .unset, .unset, .unset, .unset, .unset, .unset, .unset, .unset] [(.int (1023 : Int32)), (.int v2)])) t
          refine XS.iand X.here hx rfl (hb hby at_69) rfl ?_
          show Steps p.tables e below (T.setTop (mkF m 70 #[.val (.long v0), .second, .val (.int v2), .val (.int v3), .val (.long x82), .second, .val (.int x80), .unset, .unset, .unset, .unset, .unset, .unset, .unset, .unset, .unset] [(.int (v2 &&& (1023 : Int32)))])) t
          refine XS.goto X.here hx rfl (pc0 := 70) (pc' := 74) rfl (hb hby at_70) (by decide) (by decide) ?_
          exact k
        exact b_law_74 cx X eT N K z x82 (v2 &&& (1023 : Int32)) v0 (.val (.int v2)) (.val (.int v3)) (.val (.int x80)) (.unset) (.unset) (.unset) (.unset) (.unset) (.unset) (.unset) (.unset) (.unset) (One.val rfl) (One.val rfl) (One.val rfl) One.u One.u One.u One.u One.u One.u One.u One.u One.u _ hF
    · rw [if_neg hc23] at hF
      refine own_Goes.via (B := T.setTop (mkF m 39 #[.val (.long v0), .second, .val (.int v2), .val (.int v3), .unset, .unset, .val (.int x80), .unset, .unset, .unset, .unset, .unset, .unset, .unset, .unset, .unset] [(.int (2 : Int32)), (.int x80)])) (fun t k => ?_) ?_
      · show Steps p.tables e below (T.setTop (mkF m 23 #[.val (.long v0), .second, .val (.int v2), .val (.int v3), .unset, .unset, .val (.int x80), .unset, .unset, .unset, .unset, .unset, .unset, .unset, .unset, .unset] [(.int (1 : Int32)), (.int x80)])) t
        refine XS.icmpYes X.here hx rfl (pc0 := 23) (pc' := 36) rfl (hb hby at_23) rfl (feq hc23).2 (by decide) (by decide) ?_
        show Steps p.tables e below (T.setTop (mkF m 36 #[.val (.long v0), .second, .val (.int v2), .val (.int v3), .unset, .unset, .val (.int x80), .unset, .unset, .unset, .unset, .unset, .unset, .unset, .unset, .unset] [])) t
        refine XS.iload X.here hx rfl (hb hby at_36) rfl ?_
        show Steps p.tables e below (T.setTop (mkF m 38 #[.val (.long v0), .second, .val (.int v2), .val (.int v3), .unset, .unset, .val (.int x80), .unset, .unset, .unset, .unset, .unset, .unset, .unset, .unset, .unset] [(.int x80)])) t
        refine XS.iconst X.here hx rfl (hb hby at_38) ?_
        exact k
      by_cases hc39 : x80 = (2 : Int32)
      · rw [if_pos hc39] at hF
        refine own_Goes.via (B := T.setTop (mkF m 47 #[.val (.long v0), .second, .val (.int v2), .val (.int v3), .unset, .unset, .val (.int x80), .unset, .unset, .unset, .unset, .unset, .unset, .unset, .unset, .unset] [(.long (v0 &&& (131071 : Int64)))])) (fun t k => ?_) ?_
        · show Steps p.tables e below (T.setTop (mkF m 39 #[.val (.long v0), .second, .val (.int v2), .val (.int v3), .unset, .unset, .val (.int x80), .unset, .unset, .unset, .unset, .unset, .unset, .unset, .unset, .unset] [(.int (2 : Int32)), (.int x80)])) t
          refine XS.icmpNo X.here hx rfl (hb hby at_39) rfl (teq hc39).2 ?_
          show Steps p.tables e below (T.setTop (mkF m 42 #[.val (.long v0), .second, .val (.int v2), .val (.int v3), .unset, .unset, .val (.int x80), .unset, .unset, .unset, .unset, .unset, .unset, .unset, .unset, .unset] [])) t
          refine XS.lloadN X.here hx rfl (hb hby at_42) rfl ?_
          show Steps p.tables e below (T.setTop (mkF m 43 #[.val (.long v0), .second, .val (.int v2), .val (.int v3), .unset, .unset, .val (.int x80), .unset, .unset, .unset, .unset, .unset, .unset, .unset, .unset, .unset] [(.long v0)])) t
          refine X.ldc2Long hx hown (mvT hZ (w32 hw)) (g := (mkF m 43 #[.val (.long v0), .second, .val (.int v2), .val (.int v3), .unset, .unset, .val (.int x80), .unset, .unset, .unset, .unset, .unset, .unset, .unset, .unset, .unset] [(.long v0)])) rfl (hb hby at_43) _ ?_
          show Steps p.tables e below (T.setTop (mkF m 46 #[.val (.long v0), .second, .val (.int v2), .val (.int v3), .unset, .unset, .val (.int x80), .unset, .unset, .unset, .unset, .unset, .unset, .unset, .unset, .unset] [(.long (131071 : Int64)), (.long v0)])) t
          refine XS.land X.here hx rfl (hb hby at_46) rfl ?_
          exact k
        obtain ⟨x83, hx83, hF⟩ := own_lt_e hF
        rw [← hx83]
        refine own_Goes.via (B := T.setTop (mkF m 62 #[.val (.long v0), .second, .val (.int v2), .val (.int v3), .val (.long x83), .second, .val (.int x80), .unset, .unset, .unset, .unset, .unset, .unset, .unset, .unset, .unset] [(.int (v3 &&& (4 : Int32)))])) (fun t k => ?_) ?_
        · show Steps p.tables e below (T.setTop (mkF m 47 #[.val (.long v0), .second, .val (.int v2), .val (.int v3), .unset, .unset, .val (.int x80), .unset, .unset, .unset, .unset, .unset, .unset, .unset, .unset, .unset] [(.long x83)])) t
          refine XS.lstore X.here hx rfl (hb hby at_47) rfl (l' := #[.val (.long v0), .second, .val (.int v2), .val (.int v3), .val (.long x83), .second, .val (.int x80), .unset, .unset, .unset, .unset, .unset, .unset, .unset, .unset, .unset]) rfl ?_
          show Steps p.tables e below (T.setTop (mkF m 49 #[.val (.long v0), .second, .val (.int v2), .val (.int v3), .val (.long x83), .second, .val (.int x80), .unset, .unset, .unset, .unset, .unset, .unset, .unset, .unset, .unset] [])) t
          refine XS.goto X.here hx rfl (pc0 := 49) (pc' := 59) rfl (hb hby at_49) (by decide) (by decide) ?_
          show Steps p.tables e below (T.setTop (mkF m 59 #[.val (.long v0), .second, .val (.int v2), .val (.int v3), .val (.long x83), .second, .val (.int x80), .unset, .unset, .unset, .unset, .unset, .unset, .unset, .unset, .unset] [])) t
          refine XS.iloadN X.here hx rfl (hb hby at_59) rfl ?_
          show Steps p.tables e below (T.setTop (mkF m 60 #[.val (.long v0), .second, .val (.int v2), .val (.int v3), .val (.long x83), .second, .val (.int x80), .unset, .unset, .unset, .unset, .unset, .unset, .unset, .unset, .unset] [(.int v3)])) t
          refine XS.iconst X.here hx rfl (hb hby at_60) ?_
          show Steps p.tables e below (T.setTop (mkF m 61 #[.val (.long v0), .second, .val (.int v2), .val (.int v3), .val (.long x83), .second, .val (.int x80), .unset, .unset, .unset, .unset, .unset, .unset, .unset, .unset, .unset] [(.int (4 : Int32)), (.int v3)])) t
          refine XS.iand X.here hx rfl (hb hby at_61) rfl ?_
          exact k
        by_cases hc62 : (v3 &&& (4 : Int32)) = (0 : Int32)
        · rw [if_pos hc62] at hF
          refine own_Goes.via (B := T.setTop (mkF m 74 #[.val (.long v0), .second, .val (.int v2), .val (.int v3), .val (.long x83), .second, .val (.int x80), .unset, .unset, .unset, .unset, .unset, .unset, .unset, .unset, .unset] [(.int v2)])) (fun t k => ?_) ?_
          · show Steps p.tables e below (T.setTop (mkF m 62 #[.val (.long v0), .second, .val (.int v2), .val (.int v3), .val (.long x83), .second, .val (.int x80), .unset, .unset, .unset, .unset, .unset, .unset, .unset, .unset, .unset] [(.int (v3 &&& (4 : Int32)))])) t
            refine XS.ifYes X.here hx rfl (pc0 := 62) (pc' := 73) rfl (hb hby at_62) rfl ((if0 _ _).trans (teq hc62).1) (by decide) (by decide) ?_
            show Steps p.tables e below (T.setTop (mkF m 73 #[.val (.long v0), .second, .val (.int v2), .val (.int v3), .val (.long x83), .second, .val (.int x80), .unset, .unset, .unset, .unset, .unset, .unset, .unset, .unset, .unset] [])) t
            refine XS.iloadN X.here hx rfl (hb hby at_73) rfl ?_
            exact k
          exact b_law_74 cx X eT N K z x83 v2 v0 (.val (.int v2)) (.val (.int v3)) (.val (.int x80)) (.unset) (.unset) (.unset) (.unset) (.unset) (.unset) (.unset) (.unset) (.unset) (One.val rfl) (One.val rfl) (One.val rfl) One.u One.u One.u One.u One.u One.u One.u One.u One.u _ hF
        · rw [if_neg hc62] at hF
          refine own_Goes.via (B := T.setTop (mkF m 74 #[.val (.long v0), .second, .val (.int v2), .val (.int v3), .val (.long x83), .second, .val (.int x80), .unset, .unset, .unset, .unset, .unset, .unset, .unset, .unset, .unset] [(.int (v2 &&& (1023 : Int32)))])) (fun t k => ?_) ?_
          · show Steps p.tables e below (T.setTop (mkF m 62 #[.val (.long v0), .second, .val (.int v2), .val (.int v3), .val (.long x83), .second, .val (.int x80), .unset, .unset, .unset, .unset, .unset, .unset, .unset, .unset, .unset] [(.int (v3 &&& (4 : Int32)))])) t
            refine XS.ifNo X.here hx rfl (hb hby at_62) rfl ((if0 _ _).trans (feq hc62).1) ?_
            show Steps p.tables e below (T.setTop (mkF m 65 #[.val (.long v0), .second, .val (.int v2), .val (.int v3), .val (.long x83), .second, .val (.int x80), .unset, .unset, .unset, .unset, .unset, .unset, .unset, .unset, .unset] [])) t
            refine XS.iloadN X.here hx rfl (hb hby at_65) rfl ?_
            show Steps p.tables e below (T.setTop (mkF m 66 #[.val (.long v0), .second, .val (.int v2), .val (.int v3), .val (.long x83), .second, .val (.int x80), .unset, .unset, .unset, .unset, .unset, .unset, .unset, .unset, .unset] [(.int v2)])) t
            refine XS.sipush X.here hx rfl (hb hby at_66) ?_
            show Steps p.tables e below (T.setTop (mkF m 69 #[.val (.long v0), .second, .val (.int v2), .val (.int v3), .val (.long x83), .second, .val (.int x80), .unset, .unset, .unset, .unset, .unset, .unset, .unset, .unset, .unset] [(.int (1023 : Int32)), (.int v2)])) t
            refine XS.iand X.here hx rfl (hb hby at_69) rfl ?_
            show Steps p.tables e below (T.setTop (mkF m 70 #[.val (.long v0), .second, .val (.int v2), .val (.int v3), .val (.long x83), .second, .val (.int x80), .unset, .unset, .unset, .unset, .unset, .unset, .unset, .unset, .unset] [(.int (v2 &&& (1023 : Int32)))])) t
            refine XS.goto X.here hx rfl (pc0 := 70) (pc' := 74) rfl (hb hby at_70) (by decide) (by decide) ?_
            exact k
          exact b_law_74 cx X eT N K z x83 (v2 &&& (1023 : Int32)) v0 (.val (.int v2)) (.val (.int v3)) (.val (.int x80)) (.unset) (.unset) (.unset) (.unset) (.unset) (.unset) (.unset) (.unset) (.unset) (One.val rfl) (One.val rfl) (One.val rfl) One.u One.u One.u One.u One.u One.u One.u One.u One.u _ hF
      · rw [if_neg hc39] at hF
        refine own_Goes.via (B := T.setTop (mkF m 57 #[.val (.long v0), .second, .val (.int v2), .val (.int v3), .unset, .unset, .val (.int x80), .unset, .unset, .unset, .unset, .unset, .unset, .unset, .unset, .unset] [(.long (v0 &&& (68719476735 : Int64)))])) (fun t k => ?_) ?_
        · show Steps p.tables e below (T.setTop (mkF m 39 #[.val (.long v0), .second, .val (.int v2), .val (.int v3), .unset, .unset, .val (.int x80), .unset, .unset, .unset, .unset, .unset, .unset, .unset, .unset, .unset] [(.int (2 : Int32)), (.int x80)])) t
          refine XS.icmpYes X.here hx rfl (pc0 := 39) (pc' := 52) rfl (hb hby at_39) rfl (feq hc39).2 (by decide) (by decide) ?_
          show Steps p.tables e below (T.setTop (mkF m 52 #[.val (.long v0), .second, .val (.int v2), .val (.int v3), .unset, .unset, .val (.int x80), .unset, .unset, .unset, .unset, .unset, .unset, .unset, .unset, .unset] [])) t
          refine XS.lloadN X.here hx rfl (hb hby at_52) rfl ?_
          show Steps p.tables e below (T.setTop (mkF m 53 #[.val (.long v0), .second, .val (.int v2), .val (.int v3), .unset, .unset, .val (.int x80), .unset, .unset, .unset, .unset, .unset, .unset, .unset, .unset, .unset] [(.long v0)])) t
          refine X.ldc2Long hx hown (mvT hZ (w30 hw)) (g := (mkF m 53 #[.val (.long v0), .second, .val (.int v2), .val (.int v3), .unset, .unset, .val (.int x80), .unset, .unset, .unset, .unset, .unset, .unset, .unset, .unset, .unset] [(.long v0)])) rfl (hb hby at_53) _ ?_
          show Steps p.tables e below (T.setTop (mkF m 56 #[.val (.long v0), .second, .val (.int v2), .val (.int v3), .unset, .unset, .val (.int x80), .unset, .unset, .unset, .unset, .unset, .unset, .unset, .unset, .unset] [(.long (68719476735 : Int64)), (.long v0)])) t
          refine XS.land X.here hx rfl (hb hby at_56) rfl ?_
          exact k
        obtain ⟨x84, hx84, hF⟩ := own_lt_e hF
        rw [← hx84]
        refine own_Goes.via (B := T.setTop (mkF m 62 #[.val (.long v0), .second, .val (.int v2), .val (.int v3), .val (.long x84), .second, .val (.int x80), .unset, .unset, .unset, .unset, .unset, .unset, .unset, .unset, .unset] [(.int (v3 &&& (4 : Int32)))])) (fun t k => ?_) ?_
        · show Steps p.tables e below (T.setTop (mkF m 57 #[.val (.long v0), .second, .val (.int v2), .val (.int v3), .unset, .unset, .val (.int x80), .unset, .unset, .unset, .unset, .unset, .unset, .unset, .unset, .unset] [(.long x84)])) t
          refine XS.lstore X.here hx rfl (hb hby at_57) rfl (l' := #[.val (.long v0), .second, .val (.int v2), .val (.int v3), .val (.long x84), .second, .val (.int x80), .unset, .unset, .unset, .unset, .unset, .unset, .unset, .unset, .unset]) rfl ?_
          show Steps p.tables e below (T.setTop (mkF m 59 #[.val (.long v0), .second, .val (.int v2), .val (.int v3), .val (.long x84), .second, .val (.int x80), .unset, .unset, .unset, .unset, .unset, .unset, .unset, .unset, .unset] [])) t
          refine XS.iloadN X.here hx rfl (hb hby at_59) rfl ?_
          show Steps p.tables e below (T.setTop (mkF m 60 #[.val (.long v0), .second, .val (.int v2), .val (.int v3), .val (.long x84), .second, .val (.int x80), .unset, .unset, .unset, .unset, .unset, .unset, .unset, .unset, .unset] [(.int v3)])) t
          refine XS.iconst X.here hx rfl (hb hby at_60) ?_
          show Steps p.tables e below (T.setTop (mkF m 61 #[.val (.long v0), .second, .val (.int v2), .val (.int v3), .val (.long x84), .second, .val (.int x80), .unset, .unset, .unset, .unset, .unset, .unset, .unset, .unset, .unset] [(.int (4 : Int32)), (.int v3)])) t
          refine XS.iand X.here hx rfl (hb hby at_61) rfl ?_
          exact k
        by_cases hc62 : (v3 &&& (4 : Int32)) = (0 : Int32)
        · rw [if_pos hc62] at hF
          refine own_Goes.via (B := T.setTop (mkF m 74 #[.val (.long v0), .second, .val (.int v2), .val (.int v3), .val (.long x84), .second, .val (.int x80), .unset, .unset, .unset, .unset, .unset, .unset, .unset, .unset, .unset] [(.int v2)])) (fun t k => ?_) ?_
          · show Steps p.tables e below (T.setTop (mkF m 62 #[.val (.long v0), .second, .val (.int v2), .val (.int v3), .val (.long x84), .second, .val (.int x80), .unset, .unset, .unset, .unset, .unset, .unset, .unset, .unset, .unset] [(.int (v3 &&& (4 : Int32)))])) t
            refine XS.ifYes X.here hx rfl (pc0 := 62) (pc' := 73) rfl (hb hby at_62) rfl ((if0 _ _).trans (teq hc62).1) (by decide) (by decide) ?_
            show Steps p.tables e below (T.setTop (mkF m 73 #[.val (.long v0), .second, .val (.int v2), .val (.int v3), .val (.long x84), .second, .val (.int x80), .unset, .unset, .unset, .unset, .unset, .unset, .unset, .unset, .unset] [])) t
            refine XS.iloadN X.here hx rfl (hb hby at_73) rfl ?_
            exact k
          exact b_law_74 cx X eT N K z x84 v2 v0 (.val (.int v2)) (.val (.int v3)) (.val (.int x80)) (.unset) (.unset) (.unset) (.unset) (.unset) (.unset) (.unset) (.unset) (.unset) (One.val rfl) (One.val rfl) (One.val rfl) One.u One.u One.u One.u One.u One.u One.u One.u One.u _ hF
        · rw [if_neg hc62] at hF
          refine own_Goes.via (B := T.setTop (mkF m 74 #[.val (.long v0), .second, .val (.int v2), .val (.int v3), .val (.long x84), .second, .val (.int x80), .unset, .unset, .unset, .unset, .unset, .unset, .unset, .unset, .unset] [(.int (v2 &&& (1023 : Int32)))])) (fun t k => ?_) ?_
          · show Steps p.tables e below (T.setTop (mkF m 62 #[.val (.long v0), .second, .val (.int v2), .val (.int v3), .val (.long x84), .second, .val (.int x80), .unset, .unset, .unset, .unset, .unset, .unset, .unset, .unset, .unset] [(.int (v3 &&& (4 : Int32)))])) t
            refine XS.ifNo X.here hx rfl (hb hby at_62) rfl ((if0 _ _).trans (feq hc62).1) ?_
            show Steps p.tables e below (T.setTop (mkF m 65 #[.val (.long v0), .second, .val (.int v2), .val (.int v3), .val (.long x84), .second, .val (.int x80), .unset, .unset, .unset, .unset, .unset, .unset, .unset, .unset, .unset] [])) t
            refine XS.iloadN X.here hx rfl (hb hby at_65) rfl ?_
            show Steps p.tables e below (T.setTop (mkF m 66 #[.val (.long v0), .second, .val (.int v2), .val (.int v3), .val (.long x84), .second, .val (.int x80), .unset, .unset, .unset, .unset, .unset, .unset, .unset, .unset, .unset] [(.int v2)])) t
            refine XS.sipush X.here hx rfl (hb hby at_66) ?_
            show Steps p.tables e below (T.setTop (mkF m 69 #[.val (.long v0), .second, .val (.int v2), .val (.int v3), .val (.long x84), .second, .val (.int x80), .unset, .unset, .unset, .unset, .unset, .unset, .unset, .unset, .unset] [(.int (1023 : Int32)), (.int v2)])) t
            refine XS.iand X.here hx rfl (hb hby at_69) rfl ?_
            show Steps p.tables e below (T.setTop (mkF m 70 #[.val (.long v0), .second, .val (.int v2), .val (.int v3), .val (.long x84), .second, .val (.int x80), .unset, .unset, .unset, .unset, .unset, .unset, .unset, .unset, .unset] [(.int (v2 &&& (1023 : Int32)))])) t
            refine XS.goto X.here hx rfl (pc0 := 70) (pc' := 74) rfl (hb hby at_70) (by decide) (by decide) ?_
            exact k
          exact b_law_74 cx X eT N K z x84 (v2 &&& (1023 : Int32)) v0 (.val (.int v2)) (.val (.int v3)) (.val (.int x80)) (.unset) (.unset) (.unset) (.unset) (.unset) (.unset) (.unset) (.unset) (.unset) (One.val rfl) (One.val rfl) (One.val rfl) One.u One.u One.u One.u One.u One.u One.u One.u One.u _ hF
theorem ef_law (m : MethodId) (x0 : Int64) (x1 : Int32) (x2 : Int32) : entryFrame m #[(.long x0), (.int x1), (.int x2)] maxLocals = mkF m 0 #[.val (.long x0), .second, .val (.int x1), .val (.int x2), .unset, .unset, .unset, .unset, .unset, .unset, .unset, .unset, .unset, .unset, .unset, .unset] [] := by first | (simp [entryFrame, mkF, argsToLocals, Value.category, maxLocals]; done) | rfl
set_option maxRecDepth 65536 in
set_option maxHeartbeats 4000000 in
theorem rm_law (l : Launch) (Z : State) (a0 : Array Value) (hw : ∀ d ∈ tables_1, d.before a0 Z = true) (ws : List Jvm.Cond) (hE : Heap) (n0 : Nat) (z : n0 ≤ hE.size)  (v0 : Int64) (v2 : Int32) (v3 : Int32) (r : Int32) (hF : (f_law v0 v2 v3) = some r) :
    MetFree l x (head1 (Jvm.Cond.code x code maxLocals ret :: ws) room_1) (fun a U => a = #[(.long v0), (.int v2), (.int v3)] ∧ Z.Warmed39 U.vm ∧ U.heap = hE) (fun _ _ _ _ _ => True) (fun _ U o U' => ∃ v L, o = .returned v ∧ (Q_law Z hE n0 r) v U'.heap L ∧ FrameEnd U o U' L 1 3) := by
  refine MetFree.of_bodySF (plainFor_of_name pn_com_example_expire_expire_RateCapExpiredRowsPinLaw) hisR ?_
  intro p e s m args below meth c s₁ Bd hml0 hP hK
  obtain ⟨rfl, hZ, hh⟩ := hP
  have X0 : Stand p l e room_1 s m #[(.long v0), (.int v2), (.int v3)] below meth c s₁ [] 0 0 := Stand.of_body Bd
  have e0 : s₁.heap = hE := by rw [← hh, Bd.state]; rfl
  have cx : Cx_law p s m meth c Z a0 := ⟨Bd.exec, hZ, hw, Bd.bytes, hml0, findClass_of_methodNamed Bd.named, Bd.returns, Bd.notSynchronized, (name_of_methodNamed Bd.named Bd.method).1⟩
  show own_Goes p e below s (Q_law Z hE n0 r) 1 3 (s₁.setTop (entryFrame m #[(.long v0), (.int v2), (.int v3)] maxLocals))
  rw [ef_law]
  exact b_law cx X0 e0 (Fr.nil n0) (Keep.refl _ _) z v0 v2 v3 _ hF
/-! the words of the mirrors -/
theorem own_bs {α β : Type} (x : α) (f : α → Option β) : own_bd (some x) f = f x := by unfold own_bd; exact rfl
theorem own_ls {α β : Type} (x : α) (f : α → Option β) : own_lt x f = f x := by unfold own_lt; exact rfl
theorem own_bn {α : Type} (x : Option α) : own_bd x (fun y => some y) = x := by cases x <;> exact rfl
theorem own_ct {β : Type} {P : Prop} [Decidable P] (x : Option β) (h : P) : own_ck P x = x := by unfold own_ck; exact if_pos h
/-! numbers: ints and longs as integers -/
theorem own_i1 (x : Int32) : -2147483648 ≤ x.toInt := Int32.le_toInt x
theorem own_i2 (x : Int32) : x.toInt < 2147483648 := Int32.toInt_lt x
theorem own_j1 (x : Int64) : -9223372036854775808 ≤ x.toInt := Int64.le_toInt x
theorem own_j2 (x : Int64) : x.toInt < 9223372036854775808 := Int64.toInt_lt x
theorem own_iadd {a b : Int32} (h1 : -2147483648 ≤ a.toInt + b.toInt) (h2 : a.toInt + b.toInt < 2147483648) : (a + b).toInt = a.toInt + b.toInt := by
  rw [Int32.toInt_add]; exact Int.bmod_eq_of_le (by omega) (by omega)
theorem own_isub {a b : Int32} (h1 : -2147483648 ≤ a.toInt - b.toInt) (h2 : a.toInt - b.toInt < 2147483648) : (a - b).toInt = a.toInt - b.toInt := by
  rw [Int32.toInt_sub]; exact Int.bmod_eq_of_le (by omega) (by omega)
theorem own_imul {a b : Int32} (h1 : -2147483648 ≤ a.toInt * b.toInt) (h2 : a.toInt * b.toInt < 2147483648) : (a * b).toInt = a.toInt * b.toInt := by
  rw [Int32.toInt_mul]; exact Int.bmod_eq_of_le (by omega) (by omega)
theorem own_ladd {a b : Int64} (h1 : -9223372036854775808 ≤ a.toInt + b.toInt) (h2 : a.toInt + b.toInt < 9223372036854775808) : (a + b).toInt = a.toInt + b.toInt := by
  rw [Int64.toInt_add]; exact Int.bmod_eq_of_le (by omega) (by omega)
theorem own_lsub {a b : Int64} (h1 : -9223372036854775808 ≤ a.toInt - b.toInt) (h2 : a.toInt - b.toInt < 9223372036854775808) : (a - b).toInt = a.toInt - b.toInt := by
  rw [Int64.toInt_sub]; exact Int.bmod_eq_of_le (by omega) (by omega)
theorem own_lmul {a b : Int64} (h1 : -9223372036854775808 ≤ a.toInt * b.toInt) (h2 : a.toInt * b.toInt < 9223372036854775808) : (a * b).toInt = a.toInt * b.toInt := by
  rw [Int64.toInt_mul]; exact Int.bmod_eq_of_le (by omega) (by omega)
theorem own_imask {x m : Int32} (k : Nat) (hk : k ≤ 31) (hm : m.toBitVec.toNat = 2 ^ k - 1) : (x &&& m).toInt = x.toInt % 2 ^ k := by
  have h1 : (x &&& m).toBitVec.toNat = x.toBitVec.toNat % 2 ^ k := by rw [Int32.toBitVec_and, BitVec.toNat_and, hm, Nat.and_two_pow_sub_one_eq_mod]
  have h3 : x.toBitVec.toNat % 2 ^ k < 2 ^ k := Nat.mod_lt _ (Nat.pow_pos (by decide))
  have h4 : (2 : Nat) ^ k ≤ 2 ^ 31 := Nat.pow_le_pow_right (by decide) hk
  have h2 : (x &&& m).toInt = ((x.toBitVec.toNat % 2 ^ k : Nat) : Int) := by
    show (x &&& m).toBitVec.toInt = _
    rw [BitVec.toInt_eq_toNat_of_lt (by rw [h1]; omega), h1]
  rw [h2]
  have h5 : x.toInt = x.toBitVec.toInt := rfl
  have h6 : ((2 : Int) ^ k) ∣ 4294967296 := by
    have : (4294967296 : Int) = 2 ^ k * 2 ^ (32 - k) := by rw [← Int.pow_add, show k + (32 - k) = 32 by omega]; rfl
    exact ⟨_, this⟩
  rw [h5, BitVec.toInt_eq_toNat_cond]
  split
  · exact Int.natCast_emod _ _
  · rw [Int.natCast_emod, show (((2 ^ 32 : Nat) : Int)) = 4294967296 from rfl, Int.sub_emod, Int.emod_eq_zero_of_dvd h6]; simp
theorem own_lmask {x m : Int64} (k : Nat) (hk : k ≤ 63) (hm : m.toBitVec.toNat = 2 ^ k - 1) : (x &&& m).toInt = x.toInt % 2 ^ k := by
  have h1 : (x &&& m).toBitVec.toNat = x.toBitVec.toNat % 2 ^ k := by rw [Int64.toBitVec_and, BitVec.toNat_and, hm, Nat.and_two_pow_sub_one_eq_mod]
  have h3 : x.toBitVec.toNat % 2 ^ k < 2 ^ k := Nat.mod_lt _ (Nat.pow_pos (by decide))
  have h4 : (2 : Nat) ^ k ≤ 2 ^ 63 := Nat.pow_le_pow_right (by decide) hk
  have h2 : (x &&& m).toInt = ((x.toBitVec.toNat % 2 ^ k : Nat) : Int) := by
    show (x &&& m).toBitVec.toInt = _
    rw [BitVec.toInt_eq_toNat_of_lt (by rw [h1]; omega), h1]
  rw [h2]
  have h5 : x.toInt = x.toBitVec.toInt := rfl
  have h6 : ((2 : Int) ^ k) ∣ 18446744073709551616 := by
    have : (18446744073709551616 : Int) = 2 ^ k * 2 ^ (64 - k) := by rw [← Int.pow_add, show k + (64 - k) = 64 by omega]; rfl
    exact ⟨_, this⟩
  rw [h5, BitVec.toInt_eq_toNat_cond]
  split
  · exact Int.natCast_emod _ _
  · rw [Int.natCast_emod, show (((2 ^ 64 : Nat) : Int)) = 18446744073709551616 from rfl, Int.sub_emod, Int.emod_eq_zero_of_dvd h6]; simp
theorem own_bm32 (x : Int) : x.bmod 4294967296 = (x + 2147483648) % 4294967296 - 2147483648 := by
  unfold Int.bmod; dsimp only; split <;> omega
theorem own_bm64 (x : Int) : x.bmod 18446744073709551616 = (x + 9223372036854775808) % 18446744073709551616 - 9223372036854775808 := by
  unfold Int.bmod; dsimp only; split <;> omega
theorem own_bm8 (x : Int) : x.bmod 256 = (x + 128) % 256 - 128 := by
  unfold Int.bmod; dsimp only; split <;> omega
theorem own_bm16 (x : Int) : x.bmod 65536 = (x + 32768) % 65536 - 32768 := by
  unfold Int.bmod; dsimp only; split <;> omega
theorem own_b8 (x : Int32) : x.toInt8.toInt32.toInt = (x.toInt + 128) % 256 - 128 := by rw [Int8.toInt_toInt32, Int32.toInt_toInt8]; exact own_bm8 _
theorem own_s16 (x : Int32) : x.toInt16.toInt32.toInt = (x.toInt + 32768) % 65536 - 32768 := by rw [Int16.toInt_toInt32, Int32.toInt_toInt16]; exact own_bm16 _
theorem own_l2i (x : Int64) : x.toInt32.toInt = (x.toInt + 2147483648) % 4294967296 - 2147483648 := by rw [Int64.toInt_toInt32]; exact own_bm32 _
theorem own_i2l (x : Int32) : x.toInt64.toInt = x.toInt := Int32.toInt_toInt64 x
theorem own_idiv {a b : Int32} (h1 : 0 ≤ a.toInt) (h2 : 0 < b.toInt) : (a / b).toInt = a.toInt / b.toInt := by
  rw [Int32.toInt_div_of_ne_right a b (fun q => by rw [q] at h2; exact absurd h2 (by decide)), Int.tdiv_eq_ediv_of_nonneg h1]
theorem own_ldiv {a b : Int64} (h1 : 0 ≤ a.toInt) (h2 : 0 < b.toInt) : (a / b).toInt = a.toInt / b.toInt := by
  rw [Int64.toInt_div_of_ne_right a b (fun q => by rw [q] at h2; exact absurd h2 (by decide)), Int.tdiv_eq_ediv_of_nonneg h1]
theorem own_imod {a b : Int32} (h1 : 0 ≤ a.toInt) : (a % b).toInt = a.toInt % b.toInt := by rw [Int32.toInt_mod, Int.tmod_eq_emod_of_nonneg h1]
theorem own_lmod {a b : Int64} (h1 : 0 ≤ a.toInt) : (a % b).toInt = a.toInt % b.toInt := by rw [Int64.toInt_mod, Int.tmod_eq_emod_of_nonneg h1]
theorem own_uI (x : Int32) : (x.toUInt32.toNat : Int) = x.toInt % 4294967296 := by
  have h : x.toInt = x.toBitVec.toInt := rfl
  have q : x.toUInt32.toNat = x.toBitVec.toNat := rfl
  have b := x.toBitVec.isLt
  rw [h, q, BitVec.toInt_eq_toNat_cond]
  split <;> omega
theorem own_uJ (x : Int64) : (x.toUInt64.toNat : Int) = x.toInt % 18446744073709551616 := by
  have h : x.toInt = x.toBitVec.toInt := rfl
  have q : x.toUInt64.toNat = x.toBitVec.toNat := rfl
  have b := x.toBitVec.isLt
  rw [h, q, BitVec.toInt_eq_toNat_cond]
  split <;> omega
theorem own_ofU (u : UInt32) (h : u.toNat < 2147483648) : u.toInt32.toInt = u.toNat := by
  show u.toBitVec.toInt = _
  exact BitVec.toInt_eq_toNat_of_lt (by show 2 * u.toNat < 2 ^ 32; omega)
theorem own_ofUJ (u : UInt64) (h : u.toNat < 9223372036854775808) : u.toInt64.toInt = u.toNat := by
  show u.toBitVec.toInt = _
  exact BitVec.toInt_eq_toNat_of_lt (by show 2 * u.toNat < 2 ^ 64; omega)
/-- Java's >>> on ints by a constant from 1 to 31 -/
theorem own_iushr (x s : Int32) (n : Nat) (h0 : 1 ≤ n) (hn : n < 32) (hs : (s &&& 31).toUInt32.toNat = n) : ((x.toUInt32 >>> (s &&& 31).toUInt32).toInt32).toInt = (x.toInt % 4294967296) / (2 ^ n : Nat) := by
  have e : (x.toUInt32 >>> (s &&& 31).toUInt32).toNat = x.toUInt32.toNat / 2 ^ n := by rw [UInt32.toNat_shiftRight, hs, Nat.mod_eq_of_lt hn, Nat.shiftRight_eq_div_pow]
  have b : x.toUInt32.toNat < 4294967296 := x.toUInt32.toNat_lt
  have c : x.toUInt32.toNat / 2 ^ n ≤ x.toUInt32.toNat / 2 ^ 1 := Nat.div_le_div_left (Nat.pow_le_pow_right (by decide) h0) (by decide)
  rw [own_ofU _ (by rw [e]; omega), e, Int.natCast_ediv, own_uI]
theorem own_lushr (x : Int64) (s : Int32) (n : Nat) (h0 : 1 ≤ n) (hn : n < 64) (hs : (s &&& 0x3f).toInt64.toUInt64.toNat = n) : ((x.toUInt64 >>> (s &&& 0x3f).toInt64.toUInt64).toInt64).toInt = (x.toInt % 18446744073709551616) / (2 ^ n : Nat) := by
  have e : (x.toUInt64 >>> (s &&& 0x3f).toInt64.toUInt64).toNat = x.toUInt64.toNat / 2 ^ n := by rw [UInt64.toNat_shiftRight, hs, Nat.mod_eq_of_lt hn, Nat.shiftRight_eq_div_pow]
  have b : x.toUInt64.toNat < 18446744073709551616 := x.toUInt64.toNat_lt
  have c : x.toUInt64.toNat / 2 ^ n ≤ x.toUInt64.toNat / 2 ^ 1 := Nat.div_le_div_left (Nat.pow_le_pow_right (by decide) h0) (by decide)
  rw [own_ofUJ _ (by rw [e]; omega), e, Int.natCast_ediv, own_uJ]
theorem own_ishl {x s : Int32} (n : Nat) (hs : (s.toBitVec.smod 32).toNat = n) (h0 : 0 ≤ x.toInt) (h1 : x.toInt * (2 ^ n : Nat) < 2147483648) : (x <<< s).toInt = x.toInt * (2 ^ n : Nat) := by
  have h : x.toInt = x.toBitVec.toInt := rfl
  have hx : x.toInt = x.toBitVec.toNat := by
    have b := x.toBitVec.isLt
    rw [h, BitVec.toInt_eq_toNat_cond]; rw [h, BitVec.toInt_eq_toNat_cond] at h0
    split at h0 <;> rename_i q
    · rw [if_pos q]
    · omega
  have e : (x <<< s).toBitVec.toNat = x.toBitVec.toNat * 2 ^ n := by
    rw [Int32.toBitVec_shiftLeft, BitVec.shiftLeft_eq', hs, BitVec.toNat_shiftLeft, Nat.shiftLeft_eq]
    apply Nat.mod_eq_of_lt
    rw [hx] at h1
    omega
  show (x <<< s).toBitVec.toInt = _
  rw [BitVec.toInt_eq_toNat_of_lt (by rw [e]; rw [hx] at h1; omega), e, hx]
  simp
theorem own_lshl {x s : Int64} (n : Nat) (hs : (s.toBitVec.smod 64).toNat = n) (h0 : 0 ≤ x.toInt) (h1 : x.toInt * (2 ^ n : Nat) < 9223372036854775808) : (x <<< s).toInt = x.toInt * (2 ^ n : Nat) := by
  have h : x.toInt = x.toBitVec.toInt := rfl
  have hx : x.toInt = x.toBitVec.toNat := by
    have b := x.toBitVec.isLt
    rw [h, BitVec.toInt_eq_toNat_cond]; rw [h, BitVec.toInt_eq_toNat_cond] at h0
    split at h0 <;> rename_i q
    · rw [if_pos q]
    · omega
  have e : (x <<< s).toBitVec.toNat = x.toBitVec.toNat * 2 ^ n := by
    rw [Int64.toBitVec_shiftLeft, BitVec.shiftLeft_eq', hs, BitVec.toNat_shiftLeft, Nat.shiftLeft_eq]
    apply Nat.mod_eq_of_lt
    rw [hx] at h1
    omega
  show (x <<< s).toBitVec.toInt = _
  rw [BitVec.toInt_eq_toNat_of_lt (by rw [e]; rw [hx] at h1; omega), e, hx]
  simp
theorem own_ishr (x s : Int32) (n : Nat) (hs : (s.toBitVec.smod 32).toNat = n) : (x >>> s).toInt = x.toInt / (2 ^ n : Nat) := by
  show (x >>> s).toBitVec.toInt = _
  rw [Int32.toBitVec_shiftRight, BitVec.sshiftRight', hs, BitVec.toInt_sshiftRight, Int.shiftRight_eq_div_pow]
  rfl
theorem own_lshr (x s : Int64) (n : Nat) (hs : (s.toBitVec.smod 64).toNat = n) : (x >>> s).toInt = x.toInt / (2 ^ n : Nat) := by
  show (x >>> s).toBitVec.toInt = _
  rw [Int64.toBitVec_shiftRight, BitVec.sshiftRight', hs, BitVec.toInt_sshiftRight, Int.shiftRight_eq_div_pow]
  rfl
theorem own_max (a b : Int64) : ∃ k, f_Math_max a b = some k ∧ k.toInt = max a.toInt b.toInt := by
  unfold f_Math_max
  split
  · rename_i h; rw [Int64.lt_iff_toInt_lt] at h; exact ⟨_, rfl, by omega⟩
  · rename_i h; rw [Int64.lt_iff_toInt_lt] at h; exact ⟨_, rfl, by omega⟩
theorem own_min (a b : Int64) : ∃ k, f_Math_min a b = some k ∧ k.toInt = min a.toInt b.toInt := by
  unfold f_Math_min
  split
  · rename_i h; rw [Int64.lt_iff_toInt_lt] at h; exact ⟨_, rfl, by omega⟩
  · rename_i h; rw [Int64.lt_iff_toInt_lt] at h; exact ⟨_, rfl, by omega⟩
theorem own_end (rows got : Int32) (lim : Int64) (h : got.toInt = min rows.toInt lim.toInt) : f_law_154 rows got lim = some 1 := by
  unfold f_law_154
  simp only [Int64.lt_iff_toInt_lt, ← Int64.toInt_inj, own_i2l, own_ls]
  split
  · rw [if_pos (by omega)]
  · rw [if_pos (by omega)]
theorem own_core (rate : Int64) (rows : Int32) (h : 0 ≤ rate.toInt) : f_law_74 rate rows = some 1 := by
  have l0 : (0 : Int64).toInt = 0 := rfl
  have l3 : (3 : Int64).toInt = 3 := rfl
  have lh : (100 : Int64).toInt = 100 := rfl
  have lk : (1000 : Int64).toInt = 1000 := rfl
  have r1 := own_i1 rows
  have r2 := own_i2 rows
  have q2 := own_j2 rate
  unfold f_law_74 f_RateCap_mk
  rw [if_neg (by rw [Int64.lt_iff_toInt_lt, l0]; omega), own_bs]
  unfold f_RateCap_expiredRows
  by_cases hz : rate = 0
  · rw [if_pos hz, own_bs, if_pos hz, own_ls, if_pos rfl]
  · have hp : 0 < rate.toInt := by rw [← Int64.toInt_inj, l0] at hz; omega
    rw [if_neg hz, own_ls]
    have e1 : (rate / 1000).toInt = rate.toInt / 1000 := by rw [own_ldiv h (by decide), lk]
    have e2 : (rate / 1000 * 3).toInt = rate.toInt / 1000 * 3 := by rw [own_lmul (by rw [e1, l3]; omega) (by rw [e1, l3]; omega), e1, l3]
    obtain ⟨k1, h1, g1⟩ := own_max 100 (rate / 1000 * 3)
    obtain ⟨k2, h2, g2⟩ := own_min k1 rate
    obtain ⟨k3, h3, g3⟩ := own_min rows.toInt64 k2
    rw [e2, lh] at g1
    rw [own_i2l] at g3
    have e3 : k3.toInt32.toInt = min rows.toInt (min (max 100 (rate.toInt / 1000 * 3)) rate.toInt) := by rw [own_l2i]; omega
    rw [h1, own_bs, h2, own_bs, own_ls, h3, own_bs, own_bs, if_neg hz, own_ls]
    simp only [Int64.lt_iff_toInt_lt, e2, lh]
    split
    · split
      · exact own_end _ _ _ (by omega)
      · exact own_end _ _ _ (by rw [lh]; omega)
    · split
      · exact own_end _ _ _ (by omega)
      · exact own_end _ _ _ (by rw [e2]; omega)
theorem own_law (s : Int64) (w sel : Int32) : f_law s w sel = some 1 := by
  have m1 : (s &&& (9223372036854775807 : Int64)).toInt = s.toInt % 2 ^ 63 := own_lmask 63 (by decide) (by decide)
  have m2 : (s &&& (1023 : Int64)).toInt = s.toInt % 2 ^ 10 := own_lmask 10 (by decide) (by decide)
  have m3 : (s &&& (131071 : Int64)).toInt = s.toInt % 2 ^ 17 := own_lmask 17 (by decide) (by decide)
  have m4 : (s &&& (68719476735 : Int64)).toInt = s.toInt % 2 ^ 36 := own_lmask 36 (by decide) (by decide)
  unfold f_law
  simp only [own_ls]
  repeat' split
  all_goals exact own_core _ _ (by omega)

set_option maxRecDepth 65536 in
set_option maxHeartbeats 4000000 in
theorem comes_1 {Post : Tables → Env → Array Value → State → Outcome → State → Prop} (hpost : ∀ tb e args s v u, (limb_1_1.after args s (.returned v) u = true ∧ limb_1_2.after args s (.returned v) u = true ∧ True) → FrameEnd s (.returned v) u (Jvm.fieldLocs frame_1_writes args s ++ Jvm.arrayLocs frame_1_arrays args s ++ Jvm.staticLocs frame_1_statics s) 16 128 → Post tb e args s (.returned v) u) :
    ArmFor flags0 classFile x code maxLocals ret World_1 tables_1 room_1 Calls_1 rest_1 Pre_1 Post := by
  intro l hfl _ _ p e ha hc hk s m args below hf hA hF happ hP
  obtain ⟨hcalls, hrest, hpre⟩ := hP
  obtain ⟨-, -, -, hnamed, -, -, -, hat⟩ := (Spec.applies_iff hf).mp happ
  obtain ⟨hg, hn⟩ := and_e (Cond.before_iff.mp (show (Jvm.Cond.and given_1 narrow_1).before args s = true from hpre))
  obtain ⟨gc, g0⟩ := and_e hg
  obtain ⟨ga0, g1⟩ := and_e g0
  obtain ⟨ga1, g2⟩ := and_e g1
  have ga2 := g2
  obtain ⟨w0, w1, w2, rfl⟩ : ∃ w0 w1 w2 : Value, args = #[w0, w1, w2] := by
    have hs : args.size = 3 := by simpa [Cond.value, given_1] using gc
    obtain ⟨L⟩ := args
    match L, hs with
    | [w0, w1, w2], _ => exact ⟨w0, w1, w2, rfl⟩
  have hw := fun d (hd : d ∈ tables_1) => atoms_spec (ws := Jvm.Cond.code x code maxLocals ret :: tables_1) hat d (List.mem_cons_of_mem _ hd)
  obtain ⟨i0, ei0⟩ := isL_v ga0
  obtain rfl : w0 = (.long i0) := Option.some.inj ei0
  obtain ⟨i1, ei1⟩ := is_v ga1
  obtain rfl : w1 = (.int i1) := Option.some.inj ei1
  obtain ⟨i2, ei2⟩ := is_v ga2
  obtain rfl : w2 = (.int i2) := Option.some.inj ei2
  obtain ⟨n, o, h1, h2, h3, _, L, rfl, hQ, hq⟩ := rm_law l s _ hw tables_1 s.heap s.heap.size (Nat.le_refl _) i0 i1 i2 1 (own_law i0 i1 i2) p e ha hc hk s m _ below hf ((Spec.applies_iff_loose hf).mp happ).1 ⟨rfl, State.Warmed39.refl s, rfl⟩ trivial
  obtain ⟨rfl, N, -⟩ := hQ
  refine ⟨n, _, h1, h2, h3, hpost _ _ _ _ _ _ ⟨Cond.after_iff.mpr rfl, Cond.after_iff.mpr (eq_i res_at (Term.int_eval (1)) rfl), trivial⟩ ⟨hq.1, hq.2.1, (hq.2.2.sift fun y hy => Or.inr (N y hy)).mono (by decide) (by decide)⟩⟩
theorem main_1_1 : Claimed_1_1 := comes_1 fun _ _ _ _ _ _ h hF => ⟨h.1, hF⟩
theorem main_1_2 : Claimed_1_2 := comes_1 fun _ _ _ _ _ _ h hF => ⟨h.2.1, hF⟩
end Jvm.Pilot.@@N@@
namespace Jvm.Pilot.@@N@@
open Jvm Jvm.ClassFile Sem Op Lib Jvm.Free Jvm.Stand Jvm.Pilot.@@N@@.Jvm.D
/-! MADE BY PROGRAM (witnessworld.py) out of the Statement's table words and the real class files: 10 classes; the members and pool entries that the words name. The judged class is class 1, her method 1. -/
namespace start1
open Jvm.ClassFile
def u (s : String) : CpInfo := .utf8 (stringToUtf16 s)
/-- a pool by its gaps: so many unusable entries, then the entry; so many at the end -/
def gap : Nat → List CpInfo → List CpInfo
  | 0, r => r
  | n + 1, r => .unusable :: gap n r
def poolList (es : List (Nat × CpInfo)) (last : Nat) : List CpInfo := es.foldr (fun e r => gap e.1 (e.2 :: r)) (gap last [])
def pool (es : List (Nat × CpInfo)) (last : Nat) : Array CpInfo := ⟨poolList es last⟩
def fileOf (pool : Array CpInfo) (this : Nat) (attrs : Array Attribute := #[]) (ms : Array MethodInfo := #[]) (fl : Nat := 33) (sup : Nat := 0) (ifs : Array Nat := #[]) (fds : Array FieldInfo := #[]) : ClassFile where
  minorVersion := 0
  majorVersion := 65
  constantPool := pool
  accessFlags := fl
  thisClass := this
  superClass := sup
  interfaces := ifs
  fields := fds
  methods := ms
  attributes := attrs
def plain (name : String) (sup : Option ClassId) : Class where
  name := name
  kind := .ordinary
  loader := none
  accessFlags := 33
  super := sup
  interfaces := #[]
  cf := none
  fields := #[]
  methods := #[]
  instanceTypes := #[]
  staticTypes := #[]
  resolved := #[]
  callSites := []
  init := .initialized
  statics := none
  mirror := none

def pool0 : Array CpInfo := pool [(5, u "<init>"), (0, u "()V"), (1, .class_ 10), (1, u "java/lang/Object")] 113

def k0c0 : Code := { maxStack := 0, maxLocals := 1, code := object_method_1_code, exceptionTable := #[], attributes := #[] }
def k0m0 : Method := { name := "<init>", desc := "()V", sig := { parameters := [], returnType := none }, accessFlags := 1, code := some k0c0 }
/-- java/lang/Object -/
def k0 : Class := { plain "java/lang/Object" none with
  accessFlags := 33
  interfaces := #[]
  cf := some (fileOf pool0 8 #[] #[{ accessFlags := 1, nameIndex := 5, descriptorIndex := 6, attributes := #[] }] 33 0 #[] #[])
  fields := #[]
  methods := #[k0m0]
  instanceTypes := #[]
  staticTypes := #[]
  resolved := Array.replicate 124 none
  statics := none }

def pool1 : Array CpInfo := pool [(2, .class_ 4), (1, u "java/lang/Object"), (0, u "<init>"), (0, u "()V"), (2, .long 9223372036854775807), (1, .long 1023), (1, .long 131071), (1, .long 68719476735), (1, .class_ 18), (0, u "com/example/expire/expire/RateCap"), (0, .methodref 17 20), (0, .nameAndType 5 21), (0, u "(J)V"), (0, .methodref 17 23), (0, .nameAndType 24 25), (0, u "expiredRows"), (0, u "(I)I"), (0, .long 1000), (1, .long 3), (3, .long 100), (1, .class_ 35), (0, u "com/example/expire/expire/RateCapExpiredRowsPinLaw"), (2, u "law"), (0, u "(JII)Z")] 3

def k1m0 : Method := { name := "<init>", desc := "()V", sig := { parameters := [], returnType := none }, accessFlags := 1, code := none }
def k1c1 : Code := { maxStack := 4, maxLocals := 16, code := code, exceptionTable := #[], attributes := #[] }
def k1m1 : Method := { name := "law", desc := "(JII)Z", sig := { parameters := [.long, .int, .int], returnType := some .boolean }, accessFlags := 9, code := some k1c1 }
/-- com/example/expire/expire/RateCapExpiredRowsPinLaw -/
def k1 : Class := { plain "com/example/expire/expire/RateCapExpiredRowsPinLaw" (some 0) with
  accessFlags := 49
  interfaces := #[]
  cf := some (fileOf pool1 34 #[] #[{ accessFlags := 1, nameIndex := 5, descriptorIndex := 6, attributes := #[] }, { accessFlags := 9, nameIndex := 38, descriptorIndex := 39, attributes := #[] }] 49 2 #[] #[])
  fields := #[]
  methods := #[k1m0, k1m1]
  instanceTypes := #[]
  staticTypes := #[]
  resolved := Array.replicate 43 none
  statics := none }

def pool2 : Array CpInfo := pool [(1, .class_ 2), (0, u "com/example/expire/expire/RateCap"), (0, .methodref 4 5), (0, .class_ 6), (0, .nameAndType 7 8), (0, u "java/lang/Object"), (0, u "<init>"), (0, u "()V"), (9, .fieldref 1 19), (0, .nameAndType 20 21), (0, u "rowsPerSecond"), (0, u "J"), (2, .long 100), (1, .long 1000), (1, .long 3), (1, .methodref 31 32), (0, .class_ 33), (0, .nameAndType 34 35), (0, u "java/lang/Math"), (0, u "max"), (0, u "(JJ)J"), (0, .methodref 31 37), (0, .nameAndType 38 35), (0, u "min"), (2, u "waited"), (0, u "Z"), (2, u "earliest"), (7, u "PACE_MILLIS"), (1, u "CATCH_UP_MILLIS"), (0, u "NANOS_PER_SECOND"), (0, u "MILLIS_PER_SECOND"), (0, u "CATCH_UP_NANOS"), (0, u "(J)V"), (3, u "expiredRows"), (0, u "(I)I")] 19

def k2c0 : Code := { maxStack := 4, maxLocals := 3, code := prog_8_method_1_code, exceptionTable := #[], attributes := #[] }
def k2m0 : Method := { name := "<init>", desc := "(J)V", sig := { parameters := [.long], returnType := none }, accessFlags := 0, code := some k2c0 }
def k2c1 : Code := { maxStack := 6, maxLocals := 4, code := prog_8_method_2_code, exceptionTable := #[], attributes := #[] }
def k2m1 : Method := { name := "expiredRows", desc := "(I)I", sig := { parameters := [.int], returnType := some .int }, accessFlags := 0, code := some k2c1 }
/-- com/example/expire/expire/RateCap -/
def k2 : Class := { plain "com/example/expire/expire/RateCap" (some 0) with
  accessFlags := 48
  interfaces := #[]
  cf := some (fileOf pool2 1 #[] #[{ accessFlags := 0, nameIndex := 7, descriptorIndex := 59, attributes := #[] }, { accessFlags := 0, nameIndex := 63, descriptorIndex := 64, attributes := #[] }] 48 4 #[] #[{ accessFlags := 26, nameIndex := 53, descriptorIndex := 21, attributes := #[] }, { accessFlags := 26, nameIndex := 55, descriptorIndex := 21, attributes := #[] }, { accessFlags := 26, nameIndex := 56, descriptorIndex := 21, attributes := #[] }, { accessFlags := 26, nameIndex := 57, descriptorIndex := 21, attributes := #[] }, { accessFlags := 26, nameIndex := 58, descriptorIndex := 21, attributes := #[] }, { accessFlags := 18, nameIndex := 20, descriptorIndex := 21, attributes := #[] }, { accessFlags := 2, nameIndex := 41, descriptorIndex := 42, attributes := #[] }, { accessFlags := 2, nameIndex := 45, descriptorIndex := 21, attributes := #[] }])
  fields := #[{ name := "PACE_MILLIS", type := .long, accessFlags := 26, slot := 0, constantValue := 0 }, { name := "CATCH_UP_MILLIS", type := .long, accessFlags := 26, slot := 1, constantValue := 0 }, { name := "NANOS_PER_SECOND", type := .long, accessFlags := 26, slot := 2, constantValue := 0 }, { name := "MILLIS_PER_SECOND", type := .long, accessFlags := 26, slot := 3, constantValue := 0 }, { name := "CATCH_UP_NANOS", type := .long, accessFlags := 26, slot := 4, constantValue := 0 }, { name := "rowsPerSecond", type := .long, accessFlags := 18, slot := 0, constantValue := 0 }, { name := "waited", type := .boolean, accessFlags := 2, slot := 1, constantValue := 0 }, { name := "earliest", type := .long, accessFlags := 2, slot := 2, constantValue := 0 }]
  methods := #[k2m0, k2m1]
  instanceTypes := #[.long, .boolean, .long]
  staticTypes := #[.long, .long, .long, .long, .long]
  resolved := Array.replicate 84 none
  statics := none }

def pool3 : Array CpInfo := pool [(1, .class_ 2), (0, u "java/lang/Math"), (1, .class_ 6), (1, u "java/lang/Object"), (0, u "<init>"), (0, u "()V"), (89, .class_ 100), (1, u "java/lang/Math$RandomNumberGeneratorHolder"), (20, u "(JJ)J"), (50, u "negativeZeroFloatBits"), (0, u "J"), (2, u "negativeZeroDoubleBits"), (21, u "max"), (2, u "min"), (43, u "$assertionsDisabled"), (0, u "Z"), (91, u "twoToTheDoubleScaleDown"), (0, u "D"), (4, u "twoToTheDoubleScaleUp"), (9, u "E"), (3, u "PI"), (2, u "TAU"), (2, u "DEGREES_TO_RADIANS"), (0, u "RADIANS_TO_DEGREES")] 94

def k3m0 : Method := { name := "<init>", desc := "()V", sig := { parameters := [], returnType := none }, accessFlags := 2, code := none }
def k3c1 : Code := { maxStack := 4, maxLocals := 4, code := jdk_29_method_66_code, exceptionTable := #[], attributes := #[] }
def k3m1 : Method := { name := "max", desc := "(JJ)J", sig := { parameters := [.long, .long], returnType := some .long }, accessFlags := 9, code := some k3c1 }
def k3c2 : Code := { maxStack := 4, maxLocals := 4, code := jdk_29_method_70_code, exceptionTable := #[], attributes := #[] }
def k3m2 : Method := { name := "min", desc := "(JJ)J", sig := { parameters := [.long, .long], returnType := some .long }, accessFlags := 9, code := some k3c2 }
/-- java/lang/Math -/
def k3 : Class := { plain "java/lang/Math" (some 0) with
  accessFlags := 49
  interfaces := #[]
  cf := some (fileOf pool3 1 #[.nestMembers #[98]] #[{ accessFlags := 2, nameIndex := 7, descriptorIndex := 8, attributes := #[] }, { accessFlags := 9, nameIndex := 198, descriptorIndex := 121, attributes := #[] }, { accessFlags := 9, nameIndex := 201, descriptorIndex := 121, attributes := #[] }] 49 4 #[] #[{ accessFlags := 25, nameIndex := 354, descriptorIndex := 339, attributes := #[] }, { accessFlags := 25, nameIndex := 358, descriptorIndex := 339, attributes := #[] }, { accessFlags := 25, nameIndex := 361, descriptorIndex := 339, attributes := #[] }, { accessFlags := 26, nameIndex := 364, descriptorIndex := 339, attributes := #[] }, { accessFlags := 26, nameIndex := 365, descriptorIndex := 339, attributes := #[] }, { accessFlags := 26, nameIndex := 172, descriptorIndex := 173, attributes := #[] }, { accessFlags := 26, nameIndex := 176, descriptorIndex := 173, attributes := #[] }, { accessFlags := 8, nameIndex := 344, descriptorIndex := 339, attributes := #[] }, { accessFlags := 8, nameIndex := 338, descriptorIndex := 339, attributes := #[] }, { accessFlags := 4120, nameIndex := 245, descriptorIndex := 246, attributes := #[] }])
  fields := #[{ name := "E", type := .double, accessFlags := 25, slot := 0, constantValue := 0 }, { name := "PI", type := .double, accessFlags := 25, slot := 1, constantValue := 0 }, { name := "TAU", type := .double, accessFlags := 25, slot := 2, constantValue := 0 }, { name := "DEGREES_TO_RADIANS", type := .double, accessFlags := 26, slot := 3, constantValue := 0 }, { name := "RADIANS_TO_DEGREES", type := .double, accessFlags := 26, slot := 4, constantValue := 0 }, { name := "negativeZeroFloatBits", type := .long, accessFlags := 26, slot := 5, constantValue := 0 }, { name := "negativeZeroDoubleBits", type := .long, accessFlags := 26, slot := 6, constantValue := 0 }, { name := "twoToTheDoubleScaleUp", type := .double, accessFlags := 8, slot := 7, constantValue := 0 }, { name := "twoToTheDoubleScaleDown", type := .double, accessFlags := 8, slot := 8, constantValue := 0 }, { name := "$assertionsDisabled", type := .boolean, accessFlags := 4120, slot := 9, constantValue := 0 }]
  methods := #[k3m0, k3m1, k3m2]
  instanceTypes := #[]
  staticTypes := #[.double, .double, .double, .double, .double, .long, .long, .double, .double, .boolean]
  resolved := Array.replicate 460 none
  statics := none }

def pool4 : Array CpInfo := pool [(1, u "java/lang/Cloneable"), (0, .class_ 1), (0, u "java/lang/Object"), (0, .class_ 3)] 3

/-- java/lang/Cloneable -/
def k4 : Class := { plain "java/lang/Cloneable" (some 0) with
  accessFlags := 1537
  interfaces := #[]
  cf := some (fileOf pool4 2 #[] #[] 1537 4 #[] #[])
  fields := #[]
  methods := #[]
  instanceTypes := #[]
  staticTypes := #[]
  resolved := Array.replicate 8 none
  statics := none }

def pool5 : Array CpInfo := pool [(1, u "java/io/Serializable"), (0, .class_ 1), (0, u "java/lang/Object"), (0, .class_ 3)] 3

/-- java/io/Serializable -/
def k5 : Class := { plain "java/io/Serializable" (some 0) with
  accessFlags := 1537
  interfaces := #[]
  cf := some (fileOf pool5 2 #[] #[] 1537 4 #[] #[])
  fields := #[]
  methods := #[]
  instanceTypes := #[]
  staticTypes := #[]
  resolved := Array.replicate 8 none
  statics := none }

/-- the primitive byte -/
def k6 : Class := { plain "byte" none with kind := .primitive 'B', accessFlags := 0x411 }
/-- [B -/
def k7 : Class := { plain "[B" (some 0) with kind := .array 6 .byte, interfaces := #[4, 5], accessFlags := 1041 }

/-- the primitive int -/
def k8 : Class := { plain "int" none with kind := .primitive 'I', accessFlags := 0x411 }
/-- [I -/
def k9 : Class := { plain "[I" (some 0) with kind := .array 8 .int, interfaces := #[4, 5], accessFlags := 1041 }

def heap : Heap := #[]
def classes : Array Class := #[k0, k1, k2, k3, k4, k5, k6, k7, k8, k9]
def interned : List (Array UInt16 × Addr) := []
def slotsUsed : Nat := 0
def theMethod : MethodId := ⟨1, 1⟩
def args0 : Array Value := #[.long 5, .int 5, .int 5]
def aboutOver (below : List Frame) : State where
  vm := { classes := classes, interned := interned.toArray }
  heap := heap
  slotsUsed := slotsUsed
  threads := #[{ frames := .invoking theMethod args0 :: below }]
def below0 : List Frame := [.native { method := ⟨0, 0⟩, args := #[] }]
def about1 : State := aboutOver below0
def p0 : Program := .bare "" "" ""
def e0 : Env := launch0.env 0 0 0
theorem w_frames : about1.frames = Frame.invoking theMethod args0 :: below0 := rfl
set_option maxRecDepth 65536 in
theorem w_args : argsFit about1.vm theMethod args0 = true := by decide +kernel
set_option maxRecDepth 65536 in
theorem w_heap : heapFits about1 = true := by decide +kernel
set_option maxRecDepth 65536 in
theorem w_runnable : about1.curStatus? = some .runnable := by decide +kernel
set_option maxRecDepth 65536 in
theorem w_alone : about1.alone = true := by decide +kernel
set_option maxRecDepth 65536 in
theorem w_named : about1.methodNamed? x = some theMethod := by decide +kernel
set_option maxRecDepth 65536 in
theorem w_hears : about1.hears theMethod below0 = true := by decide +kernel
set_option maxRecDepth 65536 in
theorem w_ripe : about1.ripe theMethod args0 below0 = true := by decide +kernel
theorem w_running : about1.status = .running := rfl
set_option maxRecDepth 65536 in
theorem w_room : about1.hasRoom e0.platform room_1 = true :=
  launch0.hasRoom_least _ room_1 (by decide +kernel) (by decide +kernel) (by decide +kernel) (by decide +kernel) (by decide +kernel) (by decide +kernel)
theorem allAtoms_all (ts : List Jvm.Cond) (a : Array Jvm.Value) (st : Jvm.State) : (allAtoms ts).before a st = ts.all (fun c => c.before a st) := by
  induction ts with
  | nil => rfl
  | cons c t ih =>
    show (Jvm.Cond.and c (allAtoms t)).before a st = _
    rw [Jvm.Cond.before_and, ih, List.all_cons]
def words1 : List Jvm.Cond := Jvm.Cond.code x code maxLocals ret :: tables_1
/-- a 'code' word, met by the world's own term for the bytes: nothing is compared byte by byte -/
theorem code_word {y : MethodName} {bytes : ByteArray} {mx : Nat} {rt : Option FieldType} {a : Array Value} {s : State} {m : MethodId} {meth : Method} {c : Code} (h1 : s.methodNamed? y = some m) (h2 : s.vm.method? m = some meth) (h3 : meth.code = some c) (h4 : c.code = bytes)
    (h5 : (c.maxLocals == mx && c.exceptionTable.isEmpty && decide (c.maxStack ≤ mostOperands) && decide (meth.sig.returnType = rt) && !meth.locks && decide (parseMethodDescriptor y.desc = some meth.sig)) = true) : (Jvm.Cond.code y bytes mx rt).before a s = true := by
  simp only [Bool.and_eq_true, beq_iff_eq, Bool.not_eq_true', decide_eq_true_eq] at h5
  obtain ⟨⟨⟨⟨⟨g1, g2⟩, g3⟩, g4⟩, g5⟩, g6⟩ := h5
  simp [Cond.before, Cond.holds, Cond.value, h1, h2, h3, h4, g1, g2, g3, g4, g5, g6]
def isCode : Jvm.Cond → Bool
  | .code _ _ _ _ => true
  | _ => false
theorem all_split {L : List Jvm.Cond} {P : Jvm.Cond → Bool} (h1 : L.all (fun c => isCode c || P c) = true) (h2 : ∀ c ∈ L.filter isCode, P c = true) : L.all P = true := by
  refine List.all_eq_true.mpr fun c hc => ?_
  have h := List.all_eq_true.mp h1 c hc
  rcases Bool.eq_false_or_eq_true (isCode c) with hi | hi
  · exact h2 c (List.mem_filter.mpr ⟨hc, hi⟩)
  · simpa [hi] using h
set_option maxRecDepth 65536 in
theorem w_c0 : (Jvm.Cond.code x code maxLocals ret).before args0 about1 = true := code_word (m := ⟨1, 1⟩) (meth := k1m1) (c := k1c1) (by decide +kernel) rfl rfl rfl (by decide +kernel)
set_option maxRecDepth 65536 in
theorem w_c1 : (Jvm.Cond.code ({ cls := "com/example/expire/expire/RateCap", name := "<init>", desc := "(J)V" } : Jvm.MethodName) prog_8_method_1_code (3 : Nat) (Option.none : Option Jvm.ClassFile.FieldType)).before args0 about1 = true := code_word (m := ⟨2, 0⟩) (meth := k2m0) (c := k2c0) (by decide +kernel) rfl rfl rfl (by decide +kernel)
set_option maxRecDepth 65536 in
theorem w_c2 : (Jvm.Cond.code ({ cls := "java/lang/Object", name := "<init>", desc := "()V" } : Jvm.MethodName) object_method_1_code (1 : Nat) (Option.none : Option Jvm.ClassFile.FieldType)).before args0 about1 = true := code_word (m := ⟨0, 0⟩) (meth := k0m0) (c := k0c0) (by decide +kernel) rfl rfl rfl (by decide +kernel)
set_option maxRecDepth 65536 in
theorem w_c3 : (Jvm.Cond.code ({ cls := "com/example/expire/expire/RateCap", name := "expiredRows", desc := "(I)I" } : Jvm.MethodName) prog_8_method_2_code (4 : Nat) (Option.some Jvm.ClassFile.FieldType.int)).before args0 about1 = true := code_word (m := ⟨2, 1⟩) (meth := k2m1) (c := k2c1) (by decide +kernel) rfl rfl rfl (by decide +kernel)
set_option maxRecDepth 65536 in
theorem w_c4 : (Jvm.Cond.code ({ cls := "java/lang/Math", name := "max", desc := "(JJ)J" } : Jvm.MethodName) jdk_29_method_66_code (4 : Nat) (Option.some Jvm.ClassFile.FieldType.long)).before args0 about1 = true := code_word (m := ⟨3, 1⟩) (meth := k3m1) (c := k3c1) (by decide +kernel) rfl rfl rfl (by decide +kernel)
set_option maxRecDepth 65536 in
theorem w_c5 : (Jvm.Cond.code ({ cls := "java/lang/Math", name := "min", desc := "(JJ)J" } : Jvm.MethodName) jdk_29_method_70_code (4 : Nat) (Option.some Jvm.ClassFile.FieldType.long)).before args0 about1 = true := code_word (m := ⟨3, 2⟩) (meth := k3m2) (c := k3c2) (by decide +kernel) rfl rfl rfl (by decide +kernel)
def codes1 : List Jvm.Cond := [Jvm.Cond.code x code maxLocals ret, Jvm.Cond.code ({ cls := "com/example/expire/expire/RateCap", name := "<init>", desc := "(J)V" } : Jvm.MethodName) prog_8_method_1_code (3 : Nat) (Option.none : Option Jvm.ClassFile.FieldType), Jvm.Cond.code ({ cls := "java/lang/Object", name := "<init>", desc := "()V" } : Jvm.MethodName) object_method_1_code (1 : Nat) (Option.none : Option Jvm.ClassFile.FieldType), Jvm.Cond.code ({ cls := "com/example/expire/expire/RateCap", name := "expiredRows", desc := "(I)I" } : Jvm.MethodName) prog_8_method_2_code (4 : Nat) (Option.some Jvm.ClassFile.FieldType.int), Jvm.Cond.code ({ cls := "java/lang/Math", name := "max", desc := "(JJ)J" } : Jvm.MethodName) jdk_29_method_66_code (4 : Nat) (Option.some Jvm.ClassFile.FieldType.long), Jvm.Cond.code ({ cls := "java/lang/Math", name := "min", desc := "(JJ)J" } : Jvm.MethodName) jdk_29_method_70_code (4 : Nat) (Option.some Jvm.ClassFile.FieldType.long)]
set_option maxRecDepth 65536 in
theorem codes_eq : words1.filter isCode = codes1 := rfl
theorem w_codes : ∀ c ∈ words1.filter isCode, c.before args0 about1 = true := by
  rw [codes_eq]
  intro c hc
  simp only [codes1, List.mem_cons, List.not_mem_nil, or_false] at hc
  rcases hc with rfl | rfl | rfl | rfl | rfl | rfl
  · exact w_c0
  · exact w_c1
  · exact w_c2
  · exact w_c3
  · exact w_c4
  · exact w_c5
set_option maxRecDepth 65536 in
theorem w_t1 : (words1.take 24).all (fun c => isCode c || c.before args0 about1) = true := by decide +kernel
set_option maxRecDepth 65536 in
theorem w_t2 : (words1.drop 24).all (fun c => isCode c || c.before args0 about1) = true := by decide +kernel
theorem w_tables : (allAtoms (Jvm.Cond.code x code maxLocals ret :: tables_1)).before args0 about1 = true := by
  rw [allAtoms_all]
  show words1.all (fun c => c.before args0 about1) = true
  refine all_split ?_ w_codes
  rw [← List.take_append_drop 24 words1, List.all_append, w_t1, w_t2]
  rfl
set_option maxRecDepth 65536 in
theorem w_case : (Jvm.Cond.and given_1 narrow_1).before args0 about1 = true := by decide +kernel
theorem w_applies : (headSpec (Jvm.Cond.code x code maxLocals ret :: tables_1) room_1).applies x e0.platform about1 = true :=
  (Spec.applies_iff w_frames).mpr ⟨w_running, w_runnable, w_alone, w_named, w_hears, w_ripe, w_room, w_tables⟩
theorem atStart : AtStart classFile x code maxLocals ret World_1 tables_1 room_1 Calls_1 rest_1 Pre_1 launch0 p0 e0 about1 theMethod args0 below0 :=
  ⟨lists_1, trivial, launch0.admits_env _ _ _, launch0.least_env, fairChoices_fair.cas, fairChoices_fair.clock, w_frames, w_args, w_heap, w_applies, trivial, trivial, w_case⟩
end start1
theorem witness_1 : WitnessClaimed_1 := ⟨start1.p0, start1.e0, start1.about1, start1.theMethod, start1.args0, start1.below0, start1.atStart⟩
end Jvm.Pilot.@@N@@
