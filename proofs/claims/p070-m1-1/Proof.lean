import JvmDerived
import JvmDerived.Pilot.@@N@@Statement
import JvmDerived.Pilot.@@N@@Code
set_option linter.unusedVariables false
set_option linter.unusedSimpArgs false
namespace Jvm.Pilot.@@N@@
open Jvm Jvm.ClassFile Sem Op Lib Jvm.Free Jvm.Stand Jvm.LawKit Jvm.RoadKit Bundle Jvm.Pilot.@@N@@.Jvm.D
/-! 1. the words of the mirrors: a named value, a check, a call -/
def own_lt {α β : Type} (x : α) (f : α → Option β) : Option β := f x
def own_ck {β : Type} (P : Prop) [Decidable P] (x : Option β) : Option β := if P then x else none
def own_bd {α β : Type} (x : Option α) (f : α → Option β) : Option β := x.bind f
theorem own_lt_e {α β : Type} {x : α} {f : α → Option β} {r : β} (h : own_lt x f = some r) : ∃ v, v = x ∧ f v = some r := ⟨x, rfl, h⟩
theorem own_ck_e {β : Type} {P : Prop} [Decidable P] {x : Option β} {r : β} (h : own_ck P x = some r) : P ∧ x = some r := by
  unfold own_ck at h
  by_cases q : P
  · rw [if_pos q] at h; exact ⟨q, h⟩
  · rw [if_neg q] at h; cases h
theorem own_bd_e {α β : Type} {x : Option α} {f : α → Option β} {r : β} (h : own_bd x f = some r) : ∃ v, x = some v ∧ f v = some r := by
  unfold own_bd at h
  cases x with
  | none => cases h
  | some v => exact ⟨v, rfl, h⟩
abbrev own_inb {α : Type} (bs : List α) (j : Int32) : Prop := ¬ j < 0 ∧ j.toNatClampNeg < bs.length
def own_rd {α : Type} [OfNat α 0] (bs : List α) (j : Int32) : α := bs.getD j.toNatClampNeg 0
def own_wr {α : Type} (bs : List α) (j : Int32) (v : α) : List α := bs.set j.toNatClampNeg v
def own_sz {α : Type} (bs : List α) : Int32 := bs.length.toInt32
/-! 2. a run that comes to an end as Q says -/
def own_Goes (p : Program) (e : Env) (below : List Frame) (s : State) (Q : Option Value → Heap → List Loc → Prop) (ce sl : Nat) (A : State) : Prop :=
  ∃ s₂ o, Steps p.tables e below A s₂ ∧ s₂.status = .running ∧ Ended s₂ below o ∧ ∃ v L, o = .returned v ∧ Q v s₂.heap L ∧ FrameEnd s o s₂ L ce sl
section Own
variable {p : Program} {l : Launch} {e : Env} {R : Room} {s : State} {m : MethodId} {args : Array Value} {below : List Frame} {meth : Method} {c : Code} {T : State} {locs : List Loc} {cells slots : Nat} {Z : State} {h h' : Heap} {Q : Option Value → Heap → List Loc → Prop} {ce sl : Nat}
theorem own_Goes.via {A B : State} (q : ∀ t, Steps p.tables e below B t → Steps p.tables e below A t) (g : own_Goes p e below s Q ce sl B) : own_Goes p e below s Q ce sl A := by
  obtain ⟨s₂, o, h1, r⟩ := g
  exact ⟨s₂, o, q _ h1, r⟩
theorem own_Goes.tr {A B : State} (q : Steps p.tables e below A B) (g : own_Goes p e below s Q ce sl B) : own_Goes p e below s Q ce sl A := g.via fun _ k => q.trans k
theorem own_retV (X : Stand p l e R s m args below meth c T locs cells slots) (hx : p.tables.exec = Jvm.exec) {pc : Nat} {Ls : Array Slot} (hret : meth.sig.returnType = none) (hlk : meth.locks = false) (hd : decode c.code pc = .ok (.return_, 1)) (eT : T.heap = h) (hQ : Q none h locs) (hc : cells ≤ ce) (hs : slots ≤ sl) :
    own_Goes p e below s Q ce sl (T.setTop (mkF m pc Ls [])) := by
  obtain ⟨fs, hr, hrun, hended, hW, hsame⟩ := X.leave (v := none) (fun _ => rfl) hlk
  refine ⟨_, _, ?_, hrun, hended, _, _, rfl, ?_, ⟨_, rfl⟩, hW, hsame.mono hc hs⟩
  · exact X.returnOut hx hret hd hr
  · show Q none T.heap locs
    rw [eT]; exact hQ
theorem own_retI (X : Stand p l e R s m args below meth c T locs cells slots) (hx : p.tables.exec = Jvm.exec) {pc : Nat} {Ls : Array Slot} {z : Int32} {rest : List Value} (hret : meth.sig.returnType = some .int) (hlk : meth.locks = false) (hd : decode c.code pc = .ok (.ireturn, 1)) (eT : T.heap = h) (hQ : Q (some (.int z)) h locs) (hc : cells ≤ ce) (hs : slots ≤ sl) :
    own_Goes p e below s Q ce sl (T.setTop (mkF m pc Ls (.int z :: rest))) := by
  obtain ⟨fs, hr, hrun, hended, hW, hsame⟩ := X.leave (v := some (.int z)) (fun h => by rw [hret] at h; cases h) hlk
  refine ⟨_, _, ?_, hrun, hended, _, _, rfl, ?_, ⟨_, rfl⟩, hW, hsame.mono hc hs⟩
  · exact retOut X hx hret rfl (Or.inl ⟨rfl, Or.inl rfl, z, rfl⟩) hd hr
  · show Q _ T.heap locs
    rw [eT]; exact hQ
theorem own_retJ (X : Stand p l e R s m args below meth c T locs cells slots) (hx : p.tables.exec = Jvm.exec) {pc : Nat} {Ls : Array Slot} {z : Int64} {rest : List Value} (hret : meth.sig.returnType = some .long) (hlk : meth.locks = false) (hd : decode c.code pc = .ok (.lreturn, 1)) (eT : T.heap = h) (hQ : Q (some (.long z)) h locs) (hc : cells ≤ ce) (hs : slots ≤ sl) :
    own_Goes p e below s Q ce sl (T.setTop (mkF m pc Ls (.long z :: rest))) := by
  obtain ⟨fs, hr, hrun, hended, hW, hsame⟩ := X.leave (v := some (.long z)) (fun h => by rw [hret] at h; cases h) hlk
  refine ⟨_, _, ?_, hrun, hended, _, _, rfl, ?_, ⟨_, rfl⟩, hW, hsame.mono hc hs⟩
  · exact retOut X hx hret rfl (Or.inr (Or.inl ⟨rfl, rfl, z, rfl⟩)) hd hr
  · show Q _ T.heap locs
    rw [eT]; exact hQ
theorem own_retR (X : Stand p l e R s m args below meth c T locs cells slots) (hx : p.tables.exec = Jvm.exec) {pc : Nat} {Ls : Array Slot} {t : FieldType} {w : Value} {rest : List Value} (hret : meth.sig.returnType = some t) (hlk : meth.locks = false) (hd : decode c.code pc = .ok (.areturn, 1)) (ht : t.isReference = true) (eT : T.heap = h) (hw : w.isRef = true) (hQ : Q (some w) h locs) (hc : cells ≤ ce) (hs : slots ≤ sl) :
    own_Goes p e below s Q ce sl (T.setTop (mkF m pc Ls (w :: rest))) := by
  obtain ⟨fs, hr, hrun, hended, hW, hsame⟩ := X.leave (v := some w) (fun h => by rw [hret] at h; cases h) hlk
  refine ⟨_, _, ?_, hrun, hended, _, _, rfl, ?_, ⟨_, rfl⟩, hW, hsame.mono hc hs⟩
  · exact retOut X hx hret (by cases t <;> first | (cases ht; done) | rfl) (Or.inr (Or.inr (Or.inr (Or.inr ⟨rfl, ht, hw⟩)))) hd hr
  · show Q _ T.heap locs
    rw [eT]; exact hQ
theorem own_retN (X : Stand p l e R s m args below meth c T locs cells slots) (hx : p.tables.exec = Jvm.exec) {pc : Nat} {Ls : Array Slot} {z v : Int32} {t : FieldType} {rest : List Value} (hret : meth.sig.returnType = some t) (hlk : meth.locks = false) (ht : t = .boolean ∨ t = .byte ∨ t = .char ∨ t = .short) (hd : decode c.code pc = .ok (.ireturn, 1)) (eT : T.heap = h) (hv : nar t z = v) (hQ : Q (some (.int v)) h locs) (hc : cells ≤ ce) (hs : slots ≤ sl) :
    own_Goes p e below s Q ce sl (T.setTop (mkF m pc Ls (.int z :: rest))) := by
  subst hv
  obtain ⟨fs, hr, hrun, hended, hW, hsame⟩ := X.leave (v := some (.int (nar t z))) (fun h => by rw [hret] at h; cases h) hlk
  refine ⟨_, _, ?_, hrun, hended, _, _, rfl, ?_, ⟨_, rfl⟩, hW, hsame.mono hc hs⟩
  · exact retN X hx hret ht hd hr
  · show Q _ T.heap locs
    rw [eT]; exact hQ
/-! 3. single steps -/
theorem own_irem {g : JFrame} {target : State} (X : Stand p l e R s m args below meth c T locs cells slots) (hx : p.tables.exec = Jvm.exec) (hg : g.method = m) {x y : Int32} {rest : List Value} (hd : decode c.code g.pc = .ok (.irem, 1)) (hs : g.stack = .int y :: .int x :: rest) (hy : y ≠ 0)
    (hr : Steps p.tables e below (T.setTop { g with pc := g.pc + 1, stack := .int (x % y) :: rest }) target) : Steps p.tables e below (T.setTop g) target := iremM X hx hg hd hs hy hr
theorem own_lrem {g : JFrame} {target : State} (X : Stand p l e R s m args below meth c T locs cells slots) (hx : p.tables.exec = Jvm.exec) (hg : g.method = m) {x y : Int64} {rest : List Value} (hd : decode c.code g.pc = .ok (.lrem, 1)) (hs : g.stack = .long y :: .long x :: rest) (hy : y ≠ 0)
    (hr : Steps p.tables e below (T.setTop { g with pc := g.pc + 1, stack := .long (x % y) :: rest }) target) : Steps p.tables e below (T.setTop g) target :=
  XS.lrem X.here hx hg hd hs hy (by rw [lrem_mod]; exact hr)
theorem own_tltL {x y : Int64} (q : x < y) : ifCond.holds .lt (lcmpW x y) = true ∧ ifCond.holds .ge (lcmpW x y) = false := by
  rw [if0, if0]; exact ⟨(tlt ((lw_lt x y).mpr q)).1, (tlt ((lw_lt x y).mpr q)).2.1⟩
theorem own_fltL {x y : Int64} (q : ¬ x < y) : ifCond.holds .lt (lcmpW x y) = false ∧ ifCond.holds .ge (lcmpW x y) = true := by
  rw [if0, if0]; exact ⟨(flt fun z => q ((lw_lt x y).mp z)).1, (flt fun z => q ((lw_lt x y).mp z)).2.1⟩
theorem own_tgtL {x y : Int64} (q : y < x) : ifCond.holds .gt (lcmpW x y) = true ∧ ifCond.holds .le (lcmpW x y) = false := by
  rw [if0, if0]; exact ⟨(tlt ((lw_gt x y).mpr q)).2.2.1, (tlt ((lw_gt x y).mpr q)).2.2.2⟩
theorem own_fgtL {x y : Int64} (q : ¬ y < x) : ifCond.holds .gt (lcmpW x y) = false ∧ ifCond.holds .le (lcmpW x y) = true := by
  rw [if0, if0]; exact ⟨(flt fun z => q ((lw_gt x y).mp z)).2.2.1, (flt fun z => q ((lw_gt x y).mp z)).2.2.2⟩
theorem own_teqL {x y : Int64} (q : x = y) : ifCond.holds .eq (lcmpW x y) = true ∧ ifCond.holds .ne (lcmpW x y) = false := by
  rw [if0, if0]; exact ⟨(teq ((lw_eq x y).mpr q)).1, (teq ((lw_eq x y).mpr q)).2⟩
theorem own_feqL {x y : Int64} (q : ¬ x = y) : ifCond.holds .eq (lcmpW x y) = false ∧ ifCond.holds .ne (lcmpW x y) = true := by
  rw [if0, if0]; exact ⟨(feq fun z => q ((lw_eq x y).mp z)).1, (feq fun z => q ((lw_eq x y).mp z)).2⟩
theorem own_st1 {L : Array Slot} {i : Nat} {v : Value} {o : Slot} {L' : Array Slot} (hold : L[i]? = some o) (ho : One o) (hv : v.category = 1) (hL : L.setIfInBounds i (.val v) = L' := by rfl) : storeLocals L i v = some L' := hL ▸ XS.store1 hold ho hv
theorem own_privSel {s : State} {args : Array Value} {y : MethodName} {n : Nat} (wi : (Cond.instantiable y.cls n).before args s = true) (hp : s.PrivateAt y) (hinst : (Cond.instanceMethod y).before args s = true) (hy : y.cls ≠ "java/lang/invoke/MethodHandle" ∧ y.cls ≠ "java/lang/invoke/VarHandle") : (Cond.selects y.cls y y).before args s = true := by
  obtain ⟨c, k, h1, h2, -, h3, -⟩ := Cond.instantiable_spec wi
  exact selects_self_of_private h1 h2 (Bool.or_eq_false_iff.mp h3).1 hp hinst hy
theorem own_st2 {L L' : Array Slot} {i : Nat} {x : Int64} {o1 o2 : Slot} (h1 : L[i]? = some o1) (h2 : L[i + 1]? = some o2) (q1 : One o1) (q2 : One o2) (hL : (L.setIfInBounds i (.val (.long x))).setIfInBounds (i + 1) .second = L' := by rfl) : storeLocals L i (.long x) = some L' := by
  subst hL
  obtain ⟨b1, g1⟩ := Array.getElem?_eq_some_iff.mp h1
  obtain ⟨b2, g2⟩ := Array.getElem?_eq_some_iff.mp h2
  have hc : (Value.long x).category = 2 := rfl
  rcases q1 with rfl | ⟨w, rfl, hw⟩ <;> rcases q2 with rfl | ⟨w', rfl, hw'⟩ <;> simp [storeLocals, storeSelf, setAt, hc, *]
/-! 4. arrays: what lies in them, as a list -/
def own_Ar (Z : State) (h : Heap) (a : Addr) (ty : FieldType) (vs : List Value) : Prop := ∃ c : Cell, Arr Z h a c ty ∧ c.slots.toList = vs ∧ vs.length < 2 ^ 31 ∧ ∀ v ∈ vs, fits ty v = true
variable {a b : Addr} {ty : FieldType} {vs : List Value}
theorem own_Ar.lt (F : own_Ar Z h a ty vs) : a < h.size := by obtain ⟨c, A, -⟩ := F; exact A.lt
theorem own_Ar.ext (F : own_Ar Z h a ty vs) (E : Ext h h') : own_Ar Z h' a ty vs := by obtain ⟨c, A, r⟩ := F; exact ⟨c, A.ext E, r⟩
theorem own_Ar.other {k : Nat} {v : Value} (F : own_Ar Z h b ty vs) (W : Wr h h' a k v) (q : b ≠ a) : own_Ar Z h' b ty vs := by obtain ⟨c, A, r⟩ := F; exact ⟨c, A.other W q, r⟩
theorem own_Ar.keep {ws : List Addr} (F : own_Ar Z h a ty vs) (K : Keep h h' ws) (q : a ∉ ws) : own_Ar Z h' a ty vs := by obtain ⟨c, A, r⟩ := F; exact ⟨c, ⟨K.2.1 a c A.1 q, A.2⟩, r⟩
theorem own_Ar.size {c : Cell} (q : c.slots.toList = vs) : c.slots.size = vs.length := by rw [← q]; simp
theorem own_in {c : Cell} {j : Int32} (q : c.slots.toList = vs) (hj : own_inb vs j) : ¬ (j < 0 ∨ c.slots.size ≤ j.toNatClampNeg) := by
  rw [own_Ar.size q]
  rintro (r | r)
  · exact hj.1 r
  · exact absurd hj.2 (Nat.not_lt.mpr r)
theorem own_get {c : Cell} {i : Nat} (q : c.slots.toList = vs) (d : Value) (hi : i < vs.length) : c.slots[i]? = some (vs.getD i d) := by
  have e : c.slots = vs.toArray := by rw [← q]
  rw [e]
  simp [List.getD, hi]
theorem own_set {c : Cell} {i : Nat} {v : Value} (q : c.slots.toList = vs) : (c.setSlot i v).slots.toList = vs.set i v := by
  have e : c.slots = vs.toArray := by rw [← q]
  simp [Cell.setSlot, e]
theorem own_fits {i : Nat} {v : Value} (q : ∀ v ∈ vs, fits ty v = true) (hv : fits ty v = true) : ∀ u ∈ vs.set i v, fits ty u = true := fun u hu => by
  rcases List.mem_or_eq_of_mem_set hu with r | r
  · exact q u r
  · rw [r]; exact hv
theorem own_mapGet {bs : List Int32} {i : Nat} (hi : i < bs.length) : (bs.map Value.int).getD i (.int 0) = .int (bs.getD i 0) := by simp [List.getD, hi]
theorem own_mapGetJ {bs : List Int64} {i : Nat} (hi : i < bs.length) : (bs.map Value.long).getD i (.long 0) = .long (bs.getD i 0) := by simp [List.getD, hi]
theorem own_mapSet {bs : List Int32} {i : Nat} {v : Int32} : (bs.map Value.int).set i (.int v) = (bs.set i v).map Value.int := by simp
theorem own_mapSetJ {bs : List Int64} {i : Nat} {v : Int64} : (bs.map Value.long).set i (.long v) = (bs.set i v).map Value.long := by simp
theorem own_inbM {α : Type} {f : α → Value} {bs : List α} {j : Int32} (q : own_inb bs j) : own_inb (bs.map f) j := ⟨q.1, by rw [List.length_map]; exact q.2⟩
theorem own_wrk {α : Type} {bs : List α} {j : Int32} {v : α} (k : Nat) (hk : j.toNatClampNeg = k) : own_wr bs j v = bs.set k v := by rw [own_wr, hk]
theorem own_rdk {α : Type} [OfNat α 0] {bs : List α} {j : Int32} (k : Nat) (hk : j.toNatClampNeg = k) : own_rd bs j = bs.getD k 0 := by rw [own_rd, hk]
theorem own_inbk {α : Type} {bs : List α} {j : Int32} (k n : Nat) (h0 : ¬ j < 0) (hk : j.toNatClampNeg = k) (hl : bs.length = n) (hkn : k < n) : own_inb bs j := ⟨h0, by rw [hk, hl]; exact hkn⟩
theorem own_len {α : Type} {f : α → Value} {bs : List α} (X : Stand p l e R s m args below meth c T locs cells slots) (hx : p.tables.exec = Jvm.exec) (hZ : Z.Warmed39 s.vm) (eT : T.heap = h) (A : own_Ar Z h a ty (bs.map f)) {g : JFrame} (hg : g.method = m) {rest : List Value} (hs : g.stack = .ref a :: rest) (hd : decode c.code g.pc = .ok (.arraylength, 1)) {target : State}
    (hr : Steps p.tables e below (T.setTop { g with pc := g.pc + 1, stack := .int (own_sz bs) :: rest }) target) : Steps p.tables e below (T.setTop g) target := by
  obtain ⟨cl, A, q, -⟩ := A
  refine X.arraylength hx (by rw [eT]; exact A.1) (State.isArrayOf_alike hZ.alike A.2.1) hg hs hd _ ?_
  rw [own_Ar.size q, List.length_map]; exact hr
theorem own_ldI {bs : List Int32} {j v : Int32} (X : Stand p l e R s m args below meth c T locs cells slots) (hx : p.tables.exec = Jvm.exec) (hZ : Z.Warmed39 s.vm) (eT : T.heap = h) (A : own_Ar Z h a .int (bs.map Value.int)) (hj : own_inb bs j) (hv : own_rd bs j = v) {g : JFrame} (hg : g.method = m) {rest : List Value} (hs : g.stack = .int j :: .ref a :: rest) (hd : decode c.code g.pc = .ok (.iaload, 1)) {target : State}
    (hr : Steps p.tables e below (T.setTop { g with pc := g.pc + 1, stack := .int v :: rest }) target) : Steps p.tables e below (T.setTop g) target := by
  subst hv
  obtain ⟨cl, A, q, -⟩ := A
  exact X.iaload hx (by rw [eT]; exact A.1) (State.isArrayOf_alike hZ.alike A.2.1) A.2.2 (own_in q (own_inbM hj)) ((own_get q (.int 0) (own_inbM hj).2).trans (congrArg some (own_mapGet hj.2))) hg hs hd _ hr
theorem own_ldB {bs : List Int32} {j v : Int32} (X : Stand p l e R s m args below meth c T locs cells slots) (hx : p.tables.exec = Jvm.exec) (hZ : Z.Warmed39 s.vm) (eT : T.heap = h) (A : own_Ar Z h a .byte (bs.map Value.int)) (hj : own_inb bs j) (hv : own_rd bs j = v) {g : JFrame} (hg : g.method = m) {rest : List Value} (hs : g.stack = .int j :: .ref a :: rest) (hd : decode c.code g.pc = .ok (.baload, 1)) {target : State}
    (hr : Steps p.tables e below (T.setTop { g with pc := g.pc + 1, stack := .int v :: rest }) target) : Steps p.tables e below (T.setTop g) target := by
  subst hv
  obtain ⟨cl, A, q, -⟩ := A
  exact X.baloadBytes hx (by rw [eT]; exact A.1) (State.isArrayOf_alike hZ.alike A.2.1) A.2.2 (own_in q (own_inbM hj)) ((own_get q (.int 0) (own_inbM hj).2).trans (congrArg some (own_mapGet hj.2))) hg hs hd _ hr
theorem own_ldZ {bs : List Int32} {j v : Int32} (X : Stand p l e R s m args below meth c T locs cells slots) (hx : p.tables.exec = Jvm.exec) (hZ : Z.Warmed39 s.vm) (eT : T.heap = h) (A : own_Ar Z h a .boolean (bs.map Value.int)) (hj : own_inb bs j) (hv : own_rd bs j = v) {g : JFrame} (hg : g.method = m) {rest : List Value} (hs : g.stack = .int j :: .ref a :: rest) (hd : decode c.code g.pc = .ok (.baload, 1)) {target : State}
    (hr : Steps p.tables e below (T.setTop { g with pc := g.pc + 1, stack := .int v :: rest }) target) : Steps p.tables e below (T.setTop g) target := by
  subst hv
  obtain ⟨cl, A, q, -⟩ := A
  exact X.baloadBooleans hx (by rw [eT]; exact A.1) (State.isArrayOf_alike hZ.alike A.2.1) A.2.2 (own_in q (own_inbM hj)) ((own_get q (.int 0) (own_inbM hj).2).trans (congrArg some (own_mapGet hj.2))) hg hs hd _ hr
theorem own_ldJ {bs : List Int64} {j : Int32} {v : Int64} (X : Stand p l e R s m args below meth c T locs cells slots) (hx : p.tables.exec = Jvm.exec) (hZ : Z.Warmed39 s.vm) (eT : T.heap = h) (A : own_Ar Z h a .long (bs.map Value.long)) (hj : own_inb bs j) (hv : own_rd bs j = v) {g : JFrame} (hg : g.method = m) {rest : List Value} (hs : g.stack = .int j :: .ref a :: rest) (hd : decode c.code g.pc = .ok (.laload, 1)) {target : State}
    (hr : Steps p.tables e below (T.setTop { g with pc := g.pc + 1, stack := .long v :: rest }) target) : Steps p.tables e below (T.setTop g) target := by
  subst hv
  obtain ⟨cl, A, q, -⟩ := A
  exact X.laload hx (by rw [eT]; exact A.1) (State.isArrayOf_alike hZ.alike A.2.1) A.2.2 (own_in q (own_inbM hj)) ((own_get q (.long 0) (own_inbM hj).2).trans (congrArg some (own_mapGetJ hj.2))) hg hs hd _ hr
theorem own_stI {bs : List Int32} {j x : Int32} (X : Stand p l e R s m args below meth c T locs cells slots) (hx : p.tables.exec = Jvm.exec) (hZ : Z.Warmed39 s.vm) (eT : T.heap = h) (A : own_Ar Z h a .int (bs.map Value.int)) (hj : own_inb bs j) {g : JFrame} (hg : g.method = m) {rest : List Value} (hs : g.stack = .int x :: .int j :: .ref a :: rest) (hd : decode c.code g.pc = .ok (.iastore, 1)) :
    ∃ T' h', Stand p l e R s m args below meth c T' (locs ++ [⟨a, j.toNatClampNeg⟩]) cells slots ∧ T'.heap = h' ∧ Wr h h' a j.toNatClampNeg (.int x) ∧ own_Ar Z h' a .int ((own_wr bs j x).map Value.int) ∧ ∀ target, Steps p.tables e below (T'.setTop { g with pc := g.pc + 1, stack := rest }) target → Steps p.tables e below (T.setTop g) target := by
  obtain ⟨cl, A, q, r, ft⟩ := A
  obtain ⟨T', h', X', e', W, st⟩ := stI X hx hZ eT A (own_in q (own_inbM hj)) hg hs hd
  exact ⟨T', h', X', e', W, ⟨_, A.same W, (own_set q).trans own_mapSet, by simpa [own_wr] using r, own_mapSet ▸ own_fits ft rfl⟩, st⟩
theorem own_stB {bs : List Int32} {j x : Int32} (X : Stand p l e R s m args below meth c T locs cells slots) (hx : p.tables.exec = Jvm.exec) (hZ : Z.Warmed39 s.vm) (eT : T.heap = h) (A : own_Ar Z h a .byte (bs.map Value.int)) (hj : own_inb bs j) {g : JFrame} (hg : g.method = m) {rest : List Value} (hs : g.stack = .int x :: .int j :: .ref a :: rest) (hd : decode c.code g.pc = .ok (.bastore, 1)) :
    ∃ T' h', Stand p l e R s m args below meth c T' (locs ++ [⟨a, j.toNatClampNeg⟩]) cells slots ∧ T'.heap = h' ∧ Wr h h' a j.toNatClampNeg (.int x.toInt8.toInt32) ∧ own_Ar Z h' a .byte ((own_wr bs j x.toInt8.toInt32).map Value.int) ∧ ∀ target, Steps p.tables e below (T'.setTop { g with pc := g.pc + 1, stack := rest }) target → Steps p.tables e below (T.setTop g) target := by
  obtain ⟨cl, A, q, r, ft⟩ := A
  obtain ⟨T', h', X', e', W, st⟩ := stB X hx hZ eT A (own_in q (own_inbM hj)) hg hs hd
  exact ⟨T', h', X', e', W, ⟨_, A.same W, (own_set q).trans own_mapSet, by simpa [own_wr] using r, own_mapSet ▸ own_fits ft (fits_nar_byte _)⟩, st⟩
theorem own_stZ {bs : List Int32} {j x : Int32} (X : Stand p l e R s m args below meth c T locs cells slots) (hx : p.tables.exec = Jvm.exec) (hZ : Z.Warmed39 s.vm) (eT : T.heap = h) (A : own_Ar Z h a .boolean (bs.map Value.int)) (hj : own_inb bs j) {g : JFrame} (hg : g.method = m) {rest : List Value} (hs : g.stack = .int x :: .int j :: .ref a :: rest) (hd : decode c.code g.pc = .ok (.bastore, 1)) :
    ∃ T' h', Stand p l e R s m args below meth c T' (locs ++ [⟨a, j.toNatClampNeg⟩]) cells slots ∧ T'.heap = h' ∧ Wr h h' a j.toNatClampNeg (.int (x &&& 1)) ∧ own_Ar Z h' a .boolean ((own_wr bs j (x &&& 1)).map Value.int) ∧ ∀ target, Steps p.tables e below (T'.setTop { g with pc := g.pc + 1, stack := rest }) target → Steps p.tables e below (T.setTop g) target := by
  obtain ⟨cl, A, q, r, ft⟩ := A
  obtain ⟨T', h', X', e', W, st⟩ := stZ X hx hZ eT A (own_in q (own_inbM hj)) hg hs hd
  exact ⟨T', h', X', e', W, ⟨_, A.same W, (own_set q).trans own_mapSet, by simpa [own_wr] using r, own_mapSet ▸ own_fits ft (fits_nar_bool _)⟩, st⟩
theorem own_stJ {bs : List Int64} {j : Int32} {x : Int64} (X : Stand p l e R s m args below meth c T locs cells slots) (hx : p.tables.exec = Jvm.exec) (hZ : Z.Warmed39 s.vm) (eT : T.heap = h) (A : own_Ar Z h a .long (bs.map Value.long)) (hj : own_inb bs j) {g : JFrame} (hg : g.method = m) {rest : List Value} (hs : g.stack = .long x :: .int j :: .ref a :: rest) (hd : decode c.code g.pc = .ok (.lastore, 1)) :
    ∃ T' h', Stand p l e R s m args below meth c T' (locs ++ [⟨a, j.toNatClampNeg⟩]) cells slots ∧ T'.heap = h' ∧ Wr h h' a j.toNatClampNeg (.long x) ∧ own_Ar Z h' a .long ((own_wr bs j x).map Value.long) ∧ ∀ target, Steps p.tables e below (T'.setTop { g with pc := g.pc + 1, stack := rest }) target → Steps p.tables e below (T.setTop g) target := by
  obtain ⟨cl, A, q, r, ft⟩ := A
  obtain ⟨T', h', X', e', W, st⟩ := stJ X hx hZ eT A (own_in q (own_inbM hj)) hg hs hd
  exact ⟨T', h', X', e', W, ⟨_, A.same W, (own_set q).trans own_mapSetJ, by simpa [own_wr] using r, own_mapSetJ ▸ own_fits ft rfl⟩, st⟩
theorem own_newI {k : ClassId} {n : Int32} {kk : Nat} (A : Arr Z h a (newA k ty n) ty) (q : ¬ n < 0) (hd : defaultValue ty = .int 0) (hk : n.toNatClampNeg = kk) : own_Ar Z h a ty ((List.replicate kk (0 : Int32)).map Value.int) := hk ▸
  ⟨_, A, by simp [newA, hd], by rw [List.length_map, List.length_replicate]; exact (back32 q).2, fun v hv => by
    rw [List.map_replicate] at hv
    rw [(List.mem_replicate.mp hv).2, ← hd]; cases ty <;> rfl⟩
theorem own_newJ {k : ClassId} {n : Int32} {kk : Nat} (A : Arr Z h a (newA k ty n) ty) (q : ¬ n < 0) (hd : defaultValue ty = .long 0) (hk : n.toNatClampNeg = kk) : own_Ar Z h a ty ((List.replicate kk (0 : Int64)).map Value.long) := hk ▸
  ⟨_, A, by simp [newA, hd], by rw [List.length_map, List.length_replicate]; exact (back32 q).2, fun v hv => by
    rw [List.map_replicate] at hv
    rw [(List.mem_replicate.mp hv).2, ← hd]; cases ty <;> rfl⟩
end Own
theorem w0 {a0 : Array Value} {Z : State} (hw : ∀ d ∈ tables_1, d.before a0 Z = true) : ((Jvm.Cond.classLink "tidemark/bench/ChecksumAddPinLaw" (7 : Nat) "tidemark/bench/Event")).before a0 Z = true := hw _ (List.mem_of_getElem? (i := 0) rfl)
theorem w1 {a0 : Array Value} {Z : State} (hw : ∀ d ∈ tables_1, d.before a0 Z = true) : ((Jvm.Cond.instantiable "tidemark/bench/Event" (6 : Nat))).before a0 Z = true := hw _ (List.mem_of_getElem? (i := 1) rfl)
theorem w2 {a0 : Array Value} {Z : State} (hw : ∀ d ∈ tables_1, d.before a0 Z = true) : ((Jvm.Cond.initialized "tidemark/bench/Event")).before a0 Z = true := hw _ (List.mem_of_getElem? (i := 2) rfl)
theorem w3 {a0 : Array Value} {Z : State} (hw : ∀ d ∈ tables_1, d.before a0 Z = true) : ((Jvm.Cond.methodLink "tidemark/bench/ChecksumAddPinLaw" (9 : Nat) ({ cls := "tidemark/bench/Event", name := "<init>", desc := "(JIIIII)V" } : Jvm.MethodName))).before a0 Z = true := hw _ (List.mem_of_getElem? (i := 3) rfl)
theorem w4 {a0 : Array Value} {Z : State} (hw : ∀ d ∈ tables_1, d.before a0 Z = true) : ((Jvm.Cond.instanceMethod ({ cls := "tidemark/bench/Event", name := "<init>", desc := "(JIIIII)V" } : Jvm.MethodName))).before a0 Z = true := hw _ (List.mem_of_getElem? (i := 4) rfl)
theorem w5 {a0 : Array Value} {Z : State} (hw : ∀ d ∈ tables_1, d.before a0 Z = true) : ((Jvm.Cond.code ({ cls := "tidemark/bench/Event", name := "<init>", desc := "(JIIIII)V" } : Jvm.MethodName) prog_71_method_1_code (8 : Nat) (Option.none : Option Jvm.ClassFile.FieldType))).before a0 Z = true := hw _ (List.mem_of_getElem? (i := 5) rfl)
theorem w6 {a0 : Array Value} {Z : State} (hw : ∀ d ∈ tables_1, d.before a0 Z = true) : ((Jvm.Cond.methodLink "tidemark/bench/Event" (1 : Nat) ({ cls := "java/lang/Record", name := "<init>", desc := "()V" } : Jvm.MethodName))).before a0 Z = true := hw _ (List.mem_of_getElem? (i := 6) rfl)
theorem w7 {a0 : Array Value} {Z : State} (hw : ∀ d ∈ tables_1, d.before a0 Z = true) : ((Jvm.Cond.instanceMethod ({ cls := "java/lang/Record", name := "<init>", desc := "()V" } : Jvm.MethodName))).before a0 Z = true := hw _ (List.mem_of_getElem? (i := 7) rfl)
theorem w9 {a0 : Array Value} {Z : State} (hw : ∀ d ∈ tables_1, d.before a0 Z = true) : ((Jvm.Cond.initialized "java/lang/Record")).before a0 Z = true := hw _ (List.mem_of_getElem? (i := 9) rfl)
theorem w10 {a0 : Array Value} {Z : State} (hw : ∀ d ∈ tables_1, d.before a0 Z = true) : ((Jvm.Cond.code ({ cls := "java/lang/Record", name := "<init>", desc := "()V" } : Jvm.MethodName) jdk_30_method_1_code (1 : Nat) (Option.none : Option Jvm.ClassFile.FieldType))).before a0 Z = true := hw _ (List.mem_of_getElem? (i := 10) rfl)
theorem w11 {a0 : Array Value} {Z : State} (hw : ∀ d ∈ tables_1, d.before a0 Z = true) : ((Jvm.Cond.methodLink "java/lang/Record" (1 : Nat) ({ cls := "java/lang/Object", name := "<init>", desc := "()V" } : Jvm.MethodName))).before a0 Z = true := hw _ (List.mem_of_getElem? (i := 11) rfl)
theorem w12 {a0 : Array Value} {Z : State} (hw : ∀ d ∈ tables_1, d.before a0 Z = true) : ((Jvm.Cond.instanceMethod ({ cls := "java/lang/Object", name := "<init>", desc := "()V" } : Jvm.MethodName))).before a0 Z = true := hw _ (List.mem_of_getElem? (i := 12) rfl)
theorem w13 {a0 : Array Value} {Z : State} (hw : ∀ d ∈ tables_1, d.before a0 Z = true) : ((Jvm.Cond.code ({ cls := "java/lang/Object", name := "<init>", desc := "()V" } : Jvm.MethodName) object_method_1_code (1 : Nat) (Option.none : Option Jvm.ClassFile.FieldType))).before a0 Z = true := hw _ (List.mem_of_getElem? (i := 13) rfl)
theorem w14 {a0 : Array Value} {Z : State} (hw : ∀ d ∈ tables_1, d.before a0 Z = true) : ((Jvm.Cond.fieldLink "tidemark/bench/Event" (7 : Nat) "tidemark/bench/Event" "start" "J")).before a0 Z = true := hw _ (List.mem_of_getElem? (i := 14) rfl)
theorem w15 {a0 : Array Value} {Z : State} (hw : ∀ d ∈ tables_1, d.before a0 Z = true) : ((Jvm.Cond.laysFinal "tidemark/bench/Event" "tidemark/bench/Event" "start" "J")).before a0 Z = true := hw _ (List.mem_of_getElem? (i := 15) rfl)
theorem w16 {a0 : Array Value} {Z : State} (hw : ∀ d ∈ tables_1, d.before a0 Z = true) : ((Jvm.Cond.fieldLink "tidemark/bench/Event" (13 : Nat) "tidemark/bench/Event" "arrival" "I")).before a0 Z = true := hw _ (List.mem_of_getElem? (i := 16) rfl)
theorem w17 {a0 : Array Value} {Z : State} (hw : ∀ d ∈ tables_1, d.before a0 Z = true) : ((Jvm.Cond.laysFinal "tidemark/bench/Event" "tidemark/bench/Event" "arrival" "I")).before a0 Z = true := hw _ (List.mem_of_getElem? (i := 17) rfl)
theorem w18 {a0 : Array Value} {Z : State} (hw : ∀ d ∈ tables_1, d.before a0 Z = true) : ((Jvm.Cond.fieldLink "tidemark/bench/Event" (17 : Nat) "tidemark/bench/Event" "a" "I")).before a0 Z = true := hw _ (List.mem_of_getElem? (i := 18) rfl)
theorem w19 {a0 : Array Value} {Z : State} (hw : ∀ d ∈ tables_1, d.before a0 Z = true) : ((Jvm.Cond.laysFinal "tidemark/bench/Event" "tidemark/bench/Event" "a" "I")).before a0 Z = true := hw _ (List.mem_of_getElem? (i := 19) rfl)
theorem w20 {a0 : Array Value} {Z : State} (hw : ∀ d ∈ tables_1, d.before a0 Z = true) : ((Jvm.Cond.fieldLink "tidemark/bench/Event" (20 : Nat) "tidemark/bench/Event" "b" "I")).before a0 Z = true := hw _ (List.mem_of_getElem? (i := 20) rfl)
theorem w21 {a0 : Array Value} {Z : State} (hw : ∀ d ∈ tables_1, d.before a0 Z = true) : ((Jvm.Cond.laysFinal "tidemark/bench/Event" "tidemark/bench/Event" "b" "I")).before a0 Z = true := hw _ (List.mem_of_getElem? (i := 21) rfl)
theorem w22 {a0 : Array Value} {Z : State} (hw : ∀ d ∈ tables_1, d.before a0 Z = true) : ((Jvm.Cond.fieldLink "tidemark/bench/Event" (23 : Nat) "tidemark/bench/Event" "c" "I")).before a0 Z = true := hw _ (List.mem_of_getElem? (i := 22) rfl)
theorem w23 {a0 : Array Value} {Z : State} (hw : ∀ d ∈ tables_1, d.before a0 Z = true) : ((Jvm.Cond.laysFinal "tidemark/bench/Event" "tidemark/bench/Event" "c" "I")).before a0 Z = true := hw _ (List.mem_of_getElem? (i := 23) rfl)
theorem w24 {a0 : Array Value} {Z : State} (hw : ∀ d ∈ tables_1, d.before a0 Z = true) : ((Jvm.Cond.fieldLink "tidemark/bench/Event" (26 : Nat) "tidemark/bench/Event" "d" "I")).before a0 Z = true := hw _ (List.mem_of_getElem? (i := 24) rfl)
theorem w25 {a0 : Array Value} {Z : State} (hw : ∀ d ∈ tables_1, d.before a0 Z = true) : ((Jvm.Cond.laysFinal "tidemark/bench/Event" "tidemark/bench/Event" "d" "I")).before a0 Z = true := hw _ (List.mem_of_getElem? (i := 25) rfl)
theorem w26 {a0 : Array Value} {Z : State} (hw : ∀ d ∈ tables_1, d.before a0 Z = true) : ((Jvm.Cond.classLink "tidemark/bench/ChecksumAddPinLaw" (12 : Nat) "tidemark/bench/Checksum")).before a0 Z = true := hw _ (List.mem_of_getElem? (i := 26) rfl)
theorem w27 {a0 : Array Value} {Z : State} (hw : ∀ d ∈ tables_1, d.before a0 Z = true) : ((Jvm.Cond.instantiable "tidemark/bench/Checksum" (1 : Nat))).before a0 Z = true := hw _ (List.mem_of_getElem? (i := 27) rfl)
theorem w28 {a0 : Array Value} {Z : State} (hw : ∀ d ∈ tables_1, d.before a0 Z = true) : ((Jvm.Cond.initialized "tidemark/bench/Checksum")).before a0 Z = true := hw _ (List.mem_of_getElem? (i := 28) rfl)
theorem w29 {a0 : Array Value} {Z : State} (hw : ∀ d ∈ tables_1, d.before a0 Z = true) : ((Jvm.Cond.methodLink "tidemark/bench/ChecksumAddPinLaw" (14 : Nat) ({ cls := "tidemark/bench/Checksum", name := "<init>", desc := "()V" } : Jvm.MethodName))).before a0 Z = true := hw _ (List.mem_of_getElem? (i := 29) rfl)
theorem w30 {a0 : Array Value} {Z : State} (hw : ∀ d ∈ tables_1, d.before a0 Z = true) : ((Jvm.Cond.instanceMethod ({ cls := "tidemark/bench/Checksum", name := "<init>", desc := "()V" } : Jvm.MethodName))).before a0 Z = true := hw _ (List.mem_of_getElem? (i := 30) rfl)
theorem w31 {a0 : Array Value} {Z : State} (hw : ∀ d ∈ tables_1, d.before a0 Z = true) : ((Jvm.Cond.code ({ cls := "tidemark/bench/Checksum", name := "<init>", desc := "()V" } : Jvm.MethodName) prog_60_method_1_code (1 : Nat) (Option.none : Option Jvm.ClassFile.FieldType))).before a0 Z = true := hw _ (List.mem_of_getElem? (i := 31) rfl)
theorem w32 {a0 : Array Value} {Z : State} (hw : ∀ d ∈ tables_1, d.before a0 Z = true) : ((Jvm.Cond.methodLink "tidemark/bench/Checksum" (1 : Nat) ({ cls := "java/lang/Object", name := "<init>", desc := "()V" } : Jvm.MethodName))).before a0 Z = true := hw _ (List.mem_of_getElem? (i := 32) rfl)
theorem w33 {a0 : Array Value} {Z : State} (hw : ∀ d ∈ tables_1, d.before a0 Z = true) : ((Jvm.Cond.constantLong "tidemark/bench/Checksum" (9 : Nat) (-3750763034362895579 : Int64))).before a0 Z = true := hw _ (List.mem_of_getElem? (i := 33) rfl)
theorem w34 {a0 : Array Value} {Z : State} (hw : ∀ d ∈ tables_1, d.before a0 Z = true) : ((Jvm.Cond.fieldLink "tidemark/bench/Checksum" (11 : Nat) "tidemark/bench/Checksum" "value" "J")).before a0 Z = true := hw _ (List.mem_of_getElem? (i := 34) rfl)
theorem w35 {a0 : Array Value} {Z : State} (hw : ∀ d ∈ tables_1, d.before a0 Z = true) : ((Jvm.Cond.lays "tidemark/bench/Checksum" "tidemark/bench/Checksum" "value" "J")).before a0 Z = true := hw _ (List.mem_of_getElem? (i := 35) rfl)
theorem w36 {a0 : Array Value} {Z : State} (hw : ∀ d ∈ tables_1, d.before a0 Z = true) : ((Jvm.Cond.methodLink "tidemark/bench/ChecksumAddPinLaw" (15 : Nat) ({ cls := "tidemark/bench/Checksum", name := "add", desc := "(Ltidemark/bench/Event;)V" } : Jvm.MethodName))).before a0 Z = true := hw _ (List.mem_of_getElem? (i := 36) rfl)
theorem w37 {a0 : Array Value} {Z : State} (hw : ∀ d ∈ tables_1, d.before a0 Z = true) : ((Jvm.Cond.declares ({ cls := "tidemark/bench/Checksum", name := "add", desc := "(Ltidemark/bench/Event;)V" } : Jvm.MethodName))).before a0 Z = true := hw _ (List.mem_of_getElem? (i := 37) rfl)
theorem w38 {a0 : Array Value} {Z : State} (hw : ∀ d ∈ tables_1, d.before a0 Z = true) : ((Jvm.Cond.instanceMethod ({ cls := "tidemark/bench/Checksum", name := "add", desc := "(Ltidemark/bench/Event;)V" } : Jvm.MethodName))).before a0 Z = true := hw _ (List.mem_of_getElem? (i := 38) rfl)
theorem w39 {a0 : Array Value} {Z : State} (hw : ∀ d ∈ tables_1, d.before a0 Z = true) : ((Jvm.Cond.selects "tidemark/bench/Checksum" ({ cls := "tidemark/bench/Checksum", name := "add", desc := "(Ltidemark/bench/Event;)V" } : Jvm.MethodName) ({ cls := "tidemark/bench/Checksum", name := "add", desc := "(Ltidemark/bench/Event;)V" } : Jvm.MethodName))).before a0 Z = true := hw _ (List.mem_of_getElem? (i := 39) rfl)
theorem w40 {a0 : Array Value} {Z : State} (hw : ∀ d ∈ tables_1, d.before a0 Z = true) : ((Jvm.Cond.code ({ cls := "tidemark/bench/Checksum", name := "add", desc := "(Ltidemark/bench/Event;)V" } : Jvm.MethodName) prog_60_method_2_code (2 : Nat) (Option.none : Option Jvm.ClassFile.FieldType))).before a0 Z = true := hw _ (List.mem_of_getElem? (i := 40) rfl)
theorem w41 {a0 : Array Value} {Z : State} (hw : ∀ d ∈ tables_1, d.before a0 Z = true) : ((Jvm.Cond.methodLink "tidemark/bench/Checksum" (15 : Nat) ({ cls := "tidemark/bench/Event", name := "start", desc := "()J" } : Jvm.MethodName))).before a0 Z = true := hw _ (List.mem_of_getElem? (i := 41) rfl)
theorem w42 {a0 : Array Value} {Z : State} (hw : ∀ d ∈ tables_1, d.before a0 Z = true) : ((Jvm.Cond.declares ({ cls := "tidemark/bench/Event", name := "start", desc := "()J" } : Jvm.MethodName))).before a0 Z = true := hw _ (List.mem_of_getElem? (i := 42) rfl)
theorem w43 {a0 : Array Value} {Z : State} (hw : ∀ d ∈ tables_1, d.before a0 Z = true) : ((Jvm.Cond.instanceMethod ({ cls := "tidemark/bench/Event", name := "start", desc := "()J" } : Jvm.MethodName))).before a0 Z = true := hw _ (List.mem_of_getElem? (i := 43) rfl)
theorem w44 {a0 : Array Value} {Z : State} (hw : ∀ d ∈ tables_1, d.before a0 Z = true) : ((Jvm.Cond.selects "tidemark/bench/Event" ({ cls := "tidemark/bench/Event", name := "start", desc := "()J" } : Jvm.MethodName) ({ cls := "tidemark/bench/Event", name := "start", desc := "()J" } : Jvm.MethodName))).before a0 Z = true := hw _ (List.mem_of_getElem? (i := 44) rfl)
theorem w45 {a0 : Array Value} {Z : State} (hw : ∀ d ∈ tables_1, d.before a0 Z = true) : ((Jvm.Cond.code ({ cls := "tidemark/bench/Event", name := "start", desc := "()J" } : Jvm.MethodName) prog_71_method_5_code (1 : Nat) (Option.some Jvm.ClassFile.FieldType.long))).before a0 Z = true := hw _ (List.mem_of_getElem? (i := 45) rfl)
theorem w46 {a0 : Array Value} {Z : State} (hw : ∀ d ∈ tables_1, d.before a0 Z = true) : ((Jvm.Cond.methodLink "tidemark/bench/Checksum" (21 : Nat) ({ cls := "tidemark/bench/Event", name := "arrival", desc := "()I" } : Jvm.MethodName))).before a0 Z = true := hw _ (List.mem_of_getElem? (i := 46) rfl)
theorem w47 {a0 : Array Value} {Z : State} (hw : ∀ d ∈ tables_1, d.before a0 Z = true) : ((Jvm.Cond.declares ({ cls := "tidemark/bench/Event", name := "arrival", desc := "()I" } : Jvm.MethodName))).before a0 Z = true := hw _ (List.mem_of_getElem? (i := 47) rfl)
theorem w48 {a0 : Array Value} {Z : State} (hw : ∀ d ∈ tables_1, d.before a0 Z = true) : ((Jvm.Cond.instanceMethod ({ cls := "tidemark/bench/Event", name := "arrival", desc := "()I" } : Jvm.MethodName))).before a0 Z = true := hw _ (List.mem_of_getElem? (i := 48) rfl)
theorem w49 {a0 : Array Value} {Z : State} (hw : ∀ d ∈ tables_1, d.before a0 Z = true) : ((Jvm.Cond.selects "tidemark/bench/Event" ({ cls := "tidemark/bench/Event", name := "arrival", desc := "()I" } : Jvm.MethodName) ({ cls := "tidemark/bench/Event", name := "arrival", desc := "()I" } : Jvm.MethodName))).before a0 Z = true := hw _ (List.mem_of_getElem? (i := 49) rfl)
theorem w50 {a0 : Array Value} {Z : State} (hw : ∀ d ∈ tables_1, d.before a0 Z = true) : ((Jvm.Cond.code ({ cls := "tidemark/bench/Event", name := "arrival", desc := "()I" } : Jvm.MethodName) prog_71_method_6_code (1 : Nat) (Option.some Jvm.ClassFile.FieldType.int))).before a0 Z = true := hw _ (List.mem_of_getElem? (i := 50) rfl)
theorem w51 {a0 : Array Value} {Z : State} (hw : ∀ d ∈ tables_1, d.before a0 Z = true) : ((Jvm.Cond.methodLink "tidemark/bench/Checksum" (25 : Nat) ({ cls := "tidemark/bench/Checksum", name := "add", desc := "(JJ)V" } : Jvm.MethodName))).before a0 Z = true := hw _ (List.mem_of_getElem? (i := 51) rfl)
theorem w52 {a0 : Array Value} {Z : State} (hw : ∀ d ∈ tables_1, d.before a0 Z = true) : ((Jvm.Cond.declares ({ cls := "tidemark/bench/Checksum", name := "add", desc := "(JJ)V" } : Jvm.MethodName))).before a0 Z = true := hw _ (List.mem_of_getElem? (i := 52) rfl)
theorem w53 {a0 : Array Value} {Z : State} (hw : ∀ d ∈ tables_1, d.before a0 Z = true) : ((Jvm.Cond.instanceMethod ({ cls := "tidemark/bench/Checksum", name := "add", desc := "(JJ)V" } : Jvm.MethodName))).before a0 Z = true := hw _ (List.mem_of_getElem? (i := 53) rfl)
theorem w54 {a0 : Array Value} {Z : State} (hw : ∀ d ∈ tables_1, d.before a0 Z = true) : ((Jvm.Cond.selects "tidemark/bench/Checksum" ({ cls := "tidemark/bench/Checksum", name := "add", desc := "(JJ)V" } : Jvm.MethodName) ({ cls := "tidemark/bench/Checksum", name := "add", desc := "(JJ)V" } : Jvm.MethodName))).before a0 Z = true := hw _ (List.mem_of_getElem? (i := 54) rfl)
theorem w55 {a0 : Array Value} {Z : State} (hw : ∀ d ∈ tables_1, d.before a0 Z = true) : ((Jvm.Cond.code ({ cls := "tidemark/bench/Checksum", name := "add", desc := "(JJ)V" } : Jvm.MethodName) prog_60_method_3_code (5 : Nat) (Option.none : Option Jvm.ClassFile.FieldType))).before a0 Z = true := hw _ (List.mem_of_getElem? (i := 55) rfl)
theorem w56 {a0 : Array Value} {Z : State} (hw : ∀ d ∈ tables_1, d.before a0 Z = true) : ((Jvm.Cond.constantLong "tidemark/bench/Checksum" (29 : Nat) (-7046029254386353131 : Int64))).before a0 Z = true := hw _ (List.mem_of_getElem? (i := 56) rfl)
theorem w57 {a0 : Array Value} {Z : State} (hw : ∀ d ∈ tables_1, d.before a0 Z = true) : ((Jvm.Cond.constantLong "tidemark/bench/Checksum" (31 : Nat) (1099511628211 : Int64))).before a0 Z = true := hw _ (List.mem_of_getElem? (i := 57) rfl)
theorem w58 {a0 : Array Value} {Z : State} (hw : ∀ d ∈ tables_1, d.before a0 Z = true) : ((Jvm.Cond.methodLink "tidemark/bench/ChecksumAddPinLaw" (19 : Nat) ({ cls := "tidemark/bench/Checksum", name := "add", desc := "(JJ)V" } : Jvm.MethodName))).before a0 Z = true := hw _ (List.mem_of_getElem? (i := 58) rfl)
theorem w59 {a0 : Array Value} {Z : State} (hw : ∀ d ∈ tables_1, d.before a0 Z = true) : ((Jvm.Cond.methodLink "tidemark/bench/ChecksumAddPinLaw" (22 : Nat) ({ cls := "tidemark/bench/Checksum", name := "value", desc := "()J" } : Jvm.MethodName))).before a0 Z = true := hw _ (List.mem_of_getElem? (i := 59) rfl)
theorem w60 {a0 : Array Value} {Z : State} (hw : ∀ d ∈ tables_1, d.before a0 Z = true) : ((Jvm.Cond.declares ({ cls := "tidemark/bench/Checksum", name := "value", desc := "()J" } : Jvm.MethodName))).before a0 Z = true := hw _ (List.mem_of_getElem? (i := 60) rfl)
theorem w61 {a0 : Array Value} {Z : State} (hw : ∀ d ∈ tables_1, d.before a0 Z = true) : ((Jvm.Cond.instanceMethod ({ cls := "tidemark/bench/Checksum", name := "value", desc := "()J" } : Jvm.MethodName))).before a0 Z = true := hw _ (List.mem_of_getElem? (i := 61) rfl)
theorem w62 {a0 : Array Value} {Z : State} (hw : ∀ d ∈ tables_1, d.before a0 Z = true) : ((Jvm.Cond.selects "tidemark/bench/Checksum" ({ cls := "tidemark/bench/Checksum", name := "value", desc := "()J" } : Jvm.MethodName) ({ cls := "tidemark/bench/Checksum", name := "value", desc := "()J" } : Jvm.MethodName))).before a0 Z = true := hw _ (List.mem_of_getElem? (i := 62) rfl)
theorem w63 {a0 : Array Value} {Z : State} (hw : ∀ d ∈ tables_1, d.before a0 Z = true) : ((Jvm.Cond.code ({ cls := "tidemark/bench/Checksum", name := "value", desc := "()J" } : Jvm.MethodName) prog_60_method_5_code (1 : Nat) (Option.some Jvm.ClassFile.FieldType.long))).before a0 Z = true := hw _ (List.mem_of_getElem? (i := 63) rfl)
theorem pn_java_lang_Record : plainName "java/lang/Record" = true := by first | (simp [plainName, overriddenIn]; done) | decide +kernel
theorem pn_tidemark_bench_Event : plainName "tidemark/bench/Event" = true := by first | (simp [plainName, overriddenIn]; done) | decide +kernel
theorem pn_tidemark_bench_Checksum : plainName "tidemark/bench/Checksum" = true := by first | (simp [plainName, overriddenIn]; done) | decide +kernel
theorem pn_tidemark_bench_ChecksumAddPinLaw : plainName "tidemark/bench/ChecksumAddPinLaw" = true := by first | (simp [plainName, overriddenIn]; done) | decide +kernel
theorem pd_0 : parseMethodDescriptor "()V" = some ⟨[], none⟩ := by decide +kernel
theorem pd_1 : parseMethodDescriptor "(JIIIII)V" = some ⟨[.long, .int, .int, .int, .int, .int], none⟩ := by decide +kernel
theorem pd_2 : parseMethodDescriptor "()J" = some ⟨[], some .long⟩ := by decide +kernel
theorem pd_3 : parseMethodDescriptor "()I" = some ⟨[], some .int⟩ := by decide +kernel
theorem pd_4 : parseMethodDescriptor "(JJ)V" = some ⟨[.long, .long], none⟩ := by decide +kernel
theorem pd_5 : parseMethodDescriptor "(Ltidemark/bench/Event;)V" = some ⟨[(.object "tidemark/bench/Event")], none⟩ := by decide +kernel
theorem dEvent_mk_0 : decode prog_71_method_1_code 0 = .ok (.aload_n 0, 1) := by decide +kernel
theorem dEvent_mk_1 : decode prog_71_method_1_code 1 = .ok (.invokespecial 1, 3) := by decide +kernel
theorem dEvent_mk_4 : decode prog_71_method_1_code 4 = .ok (.aload_n 0, 1) := by decide +kernel
theorem dEvent_mk_5 : decode prog_71_method_1_code 5 = .ok (.lload_n 1, 1) := by decide +kernel
theorem dEvent_mk_6 : decode prog_71_method_1_code 6 = .ok (.putfield 7, 3) := by decide +kernel
theorem dEvent_mk_9 : decode prog_71_method_1_code 9 = .ok (.aload_n 0, 1) := by decide +kernel
theorem dEvent_mk_10 : decode prog_71_method_1_code 10 = .ok (.iload_n 3, 1) := by decide +kernel
theorem dEvent_mk_11 : decode prog_71_method_1_code 11 = .ok (.putfield 13, 3) := by decide +kernel
theorem dEvent_mk_14 : decode prog_71_method_1_code 14 = .ok (.aload_n 0, 1) := by decide +kernel
theorem dEvent_mk_15 : decode prog_71_method_1_code 15 = .ok (.iload 4, 2) := by decide +kernel
theorem dEvent_mk_17 : decode prog_71_method_1_code 17 = .ok (.putfield 17, 3) := by decide +kernel
theorem dEvent_mk_20 : decode prog_71_method_1_code 20 = .ok (.aload_n 0, 1) := by decide +kernel
theorem dEvent_mk_21 : decode prog_71_method_1_code 21 = .ok (.iload 5, 2) := by decide +kernel
theorem dEvent_mk_23 : decode prog_71_method_1_code 23 = .ok (.putfield 20, 3) := by decide +kernel
theorem dEvent_mk_26 : decode prog_71_method_1_code 26 = .ok (.aload_n 0, 1) := by decide +kernel
theorem dEvent_mk_27 : decode prog_71_method_1_code 27 = .ok (.iload 6, 2) := by decide +kernel
theorem dEvent_mk_29 : decode prog_71_method_1_code 29 = .ok (.putfield 23, 3) := by decide +kernel
theorem dEvent_mk_32 : decode prog_71_method_1_code 32 = .ok (.aload_n 0, 1) := by decide +kernel
theorem dEvent_mk_33 : decode prog_71_method_1_code 33 = .ok (.iload 7, 2) := by decide +kernel
theorem dEvent_mk_35 : decode prog_71_method_1_code 35 = .ok (.putfield 26, 3) := by decide +kernel
theorem dEvent_mk_38 : decode prog_71_method_1_code 38 = .ok (.return_, 1) := by decide +kernel
theorem dRecord_mk_0 : decode jdk_30_method_1_code 0 = .ok (.aload_n 0, 1) := by decide +kernel
theorem dRecord_mk_1 : decode jdk_30_method_1_code 1 = .ok (.invokespecial 1, 3) := by decide +kernel
theorem dRecord_mk_4 : decode jdk_30_method_1_code 4 = .ok (.return_, 1) := by decide +kernel
theorem dChecksum_mk_0 : decode prog_60_method_1_code 0 = .ok (.aload_n 0, 1) := by decide +kernel
theorem dChecksum_mk_1 : decode prog_60_method_1_code 1 = .ok (.invokespecial 1, 3) := by decide +kernel
theorem dChecksum_mk_4 : decode prog_60_method_1_code 4 = .ok (.aload_n 0, 1) := by decide +kernel
theorem dChecksum_mk_5 : decode prog_60_method_1_code 5 = .ok (.ldc2_w 9, 3) := by decide +kernel
theorem dChecksum_mk_8 : decode prog_60_method_1_code 8 = .ok (.putfield 11, 3) := by decide +kernel
theorem dChecksum_mk_11 : decode prog_60_method_1_code 11 = .ok (.return_, 1) := by decide +kernel
theorem dChecksum_add_0 : decode prog_60_method_2_code 0 = .ok (.aload_n 0, 1) := by decide +kernel
theorem dChecksum_add_1 : decode prog_60_method_2_code 1 = .ok (.aload_n 1, 1) := by decide +kernel
theorem dChecksum_add_2 : decode prog_60_method_2_code 2 = .ok (.invokevirtual 15, 3) := by decide +kernel
theorem dChecksum_add_5 : decode prog_60_method_2_code 5 = .ok (.aload_n 1, 1) := by decide +kernel
theorem dChecksum_add_6 : decode prog_60_method_2_code 6 = .ok (.invokevirtual 21, 3) := by decide +kernel
theorem dChecksum_add_9 : decode prog_60_method_2_code 9 = .ok (.i2l, 1) := by decide +kernel
theorem dChecksum_add_10 : decode prog_60_method_2_code 10 = .ok (.invokevirtual 25, 3) := by decide +kernel
theorem dChecksum_add_13 : decode prog_60_method_2_code 13 = .ok (.return_, 1) := by decide +kernel
theorem dEvent_start_0 : decode prog_71_method_5_code 0 = .ok (.aload_n 0, 1) := by decide +kernel
theorem dEvent_start_1 : decode prog_71_method_5_code 1 = .ok (.getfield 7, 3) := by decide +kernel
theorem dEvent_start_4 : decode prog_71_method_5_code 4 = .ok (.lreturn, 1) := by decide +kernel
theorem dEvent_arrival_0 : decode prog_71_method_6_code 0 = .ok (.aload_n 0, 1) := by decide +kernel
theorem dEvent_arrival_1 : decode prog_71_method_6_code 1 = .ok (.getfield 13, 3) := by decide +kernel
theorem dEvent_arrival_4 : decode prog_71_method_6_code 4 = .ok (.ireturn, 1) := by decide +kernel
theorem dChecksum_add2_0 : decode prog_60_method_3_code 0 = .ok (.aload_n 0, 1) := by decide +kernel
theorem dChecksum_add2_1 : decode prog_60_method_3_code 1 = .ok (.aload_n 0, 1) := by decide +kernel
theorem dChecksum_add2_2 : decode prog_60_method_3_code 2 = .ok (.getfield 11, 3) := by decide +kernel
theorem dChecksum_add2_5 : decode prog_60_method_3_code 5 = .ok (.lload_n 1, 1) := by decide +kernel
theorem dChecksum_add2_6 : decode prog_60_method_3_code 6 = .ok (.ldc2_w 29, 3) := by decide +kernel
theorem dChecksum_add2_9 : decode prog_60_method_3_code 9 = .ok (.lmul, 1) := by decide +kernel
theorem dChecksum_add2_10 : decode prog_60_method_3_code 10 = .ok (.lload_n 3, 1) := by decide +kernel
theorem dChecksum_add2_11 : decode prog_60_method_3_code 11 = .ok (.ladd, 1) := by decide +kernel
theorem dChecksum_add2_12 : decode prog_60_method_3_code 12 = .ok (.lxor, 1) := by decide +kernel
theorem dChecksum_add2_13 : decode prog_60_method_3_code 13 = .ok (.ldc2_w 31, 3) := by decide +kernel
theorem dChecksum_add2_16 : decode prog_60_method_3_code 16 = .ok (.lmul, 1) := by decide +kernel
theorem dChecksum_add2_17 : decode prog_60_method_3_code 17 = .ok (.putfield 11, 3) := by decide +kernel
theorem dChecksum_add2_20 : decode prog_60_method_3_code 20 = .ok (.return_, 1) := by decide +kernel
theorem dChecksum_value_0 : decode prog_60_method_5_code 0 = .ok (.aload_n 0, 1) := by decide +kernel
theorem dChecksum_value_1 : decode prog_60_method_5_code 1 = .ok (.getfield 11, 3) := by decide +kernel
theorem dChecksum_value_4 : decode prog_60_method_5_code 4 = .ok (.lreturn, 1) := by decide +kernel
/-! java/lang/Record.<init>:()V -/
def f_Record_mk (f_a1_a : Int32) (f_a1_arrival : Int32) (f_a1_b : Int32) (f_a1_c : Int32) (f_a1_d : Int32) (f_a1_start : Int64) : Option (Unit) :=
  some ()
def Q_Record_mk (Z : State) (hE : Heap) (n0 : Nat) (a1 : Addr) (r : Unit) (v : Option Value) (h : Heap) (L : List Loc) : Prop := v = none ∧ Fr n0 L ∧ h = hE
def Cx_Record_mk (p : Program) (s : State) (m : MethodId) (meth : Method) (c : Code) (Z : State) (a0 : Array Value) : Prop := p.tables.exec = Jvm.exec ∧ Z.Warmed39 s.vm ∧ (∀ d ∈ tables_1, d.before a0 Z = true) ∧ c.code = jdk_30_method_1_code ∧ c.maxLocals = 1 ∧ s.vm.findClass "java/lang/Record" = some m.cls ∧ meth.sig.returnType = none ∧ meth.locks = false ∧ meth.name = "<init>"
set_option maxRecDepth 65536 in
set_option maxHeartbeats 4000000 in
theorem b_Record_mk {p : Program} {l : Launch} {e : Env} {s : State} {m : MethodId} {args : Array Value} {below : List Frame} {meth : Method} {c : Code} {Z : State} {a0 : Array Value} {n0 : Nat} {hE : Heap} (cx : Cx_Record_mk p s m meth c Z a0) (a1 : Addr) :
    ∀ {T : State} {locs : List Loc} (X : Stand p l e ({ frames := 1, cells := 0, slots := 0, locals := 12 } : Room) s m args below meth c T locs 0 0) (eT : T.heap = hE) (N : Fr n0 locs) (z : n0 ≤ hE.size) (f_a1_a : Int32) (f_a1_arrival : Int32) (f_a1_b : Int32) (f_a1_c : Int32) (f_a1_d : Int32) (f_a1_start : Int64) (E_a1 : Exa Z hE a1 "tidemark/bench/Event") (F_a1_a : Fld Z hE a1 "tidemark/bench/Event" "a" "I" (.int f_a1_a)) (F_a1_arrival : Fld Z hE a1 "tidemark/bench/Event" "arrival" "I" (.int f_a1_arrival)) (F_a1_b : Fld Z hE a1 "tidemark/bench/Event" "b" "I" (.int f_a1_b)) (F_a1_c : Fld Z hE a1 "tidemark/bench/Event" "c" "I" (.int f_a1_c)) (F_a1_d : Fld Z hE a1 "tidemark/bench/Event" "d" "I" (.int f_a1_d)) (F_a1_start : Fld Z hE a1 "tidemark/bench/Event" "start" "J" (.long f_a1_start)) (g_a1 : n0 ≤ a1) (r : Unit), f_Record_mk f_a1_a f_a1_arrival f_a1_b f_a1_c f_a1_d f_a1_start = some r → own_Goes p e below s (Q_Record_mk Z hE n0 a1 r) 0 0 (T.setTop (mkF m 0 #[.val (.ref a1)] [])) := by
  have cx' := cx
  obtain ⟨hx, hZ, hw, hby, hml, hown, hret, hlk, hnm⟩ := cx'
  intro T locs X eT N z f_a1_a f_a1_arrival f_a1_b f_a1_c f_a1_d f_a1_start E_a1 F_a1_a F_a1_arrival F_a1_b F_a1_c F_a1_d F_a1_start g_a1 r hF
  unfold f_Record_mk at hF
  refine own_Goes.via (B := T.setTop (mkF m 1 #[.val (.ref a1)] [(.ref a1)])) (fun t k => ?_) ?_
  · show Steps p.tables e below (T.setTop (mkF m 0 #[.val (.ref a1)] [])) t
    refine XS.aloadN X.here hx rfl (hb hby dRecord_mk_0) rfl rfl ?_
    exact k
  obtain ⟨T7, X7, e7, st7⟩ := initO X hx hZ hown (w11 hw) (w12 hw) (w13 hw) eT (g := (mkF m 1 #[.val (.ref a1)] [(.ref a1)])) rfl (by rw [hml]; rfl) rfl (hb hby dRecord_mk_1) (by decide) (W := 0) (by show 2 * 0 + _ ≤ _; exact Nat.le_of_eq rfl) (by decide)
  refine own_Goes.via st7 ?_
  show own_Goes _ _ _ _ _ _ _ (T7.setTop (mkF m 4 #[.val (.ref a1)] []))
  obtain rfl : () = r := Option.some.inj hF
  exact own_retV X7 hx hret hlk (hb hby dRecord_mk_4) e7 ⟨rfl, N, rfl⟩ (by decide) (by decide)
theorem ef_Record_mk (m : MethodId) (x0 : Addr) : entryFrame m #[(.ref x0)] 1 = mkF m 0 #[.val (.ref x0)] [] := by first | (simp [entryFrame, mkF, argsToLocals, Value.category]; done) | rfl
set_option maxRecDepth 65536 in
set_option maxHeartbeats 4000000 in
theorem rm_Record_mk (l : Launch) (Z : State) (a0 : Array Value) (hw : ∀ d ∈ tables_1, d.before a0 Z = true) (ws : List Jvm.Cond) (hE : Heap) (n0 : Nat) (z : n0 ≤ hE.size) (a1 : Addr) (f_a1_a : Int32) (f_a1_arrival : Int32) (f_a1_b : Int32) (f_a1_c : Int32) (f_a1_d : Int32) (f_a1_start : Int64) (E_a1 : Exa Z hE a1 "tidemark/bench/Event") (F_a1_a : Fld Z hE a1 "tidemark/bench/Event" "a" "I" (.int f_a1_a)) (F_a1_arrival : Fld Z hE a1 "tidemark/bench/Event" "arrival" "I" (.int f_a1_arrival)) (F_a1_b : Fld Z hE a1 "tidemark/bench/Event" "b" "I" (.int f_a1_b)) (F_a1_c : Fld Z hE a1 "tidemark/bench/Event" "c" "I" (.int f_a1_c)) (F_a1_d : Fld Z hE a1 "tidemark/bench/Event" "d" "I" (.int f_a1_d)) (F_a1_start : Fld Z hE a1 "tidemark/bench/Event" "start" "J" (.long f_a1_start)) (g_a1 : n0 ≤ a1) (r : Unit) (hF : (f_Record_mk f_a1_a f_a1_arrival f_a1_b f_a1_c f_a1_d f_a1_start) = some r) :
    MetFree l (⟨"java/lang/Record", "<init>", "()V"⟩ : MethodName) (head1 (Jvm.Cond.code (⟨"java/lang/Record", "<init>", "()V"⟩ : MethodName) jdk_30_method_1_code 1 none :: ws) ({ frames := 1, cells := 0, slots := 0, locals := 12 } : Room)) (fun a U => a = #[(.ref a1)] ∧ Z.Warmed39 U.vm ∧ U.heap = hE) (fun _ _ _ _ _ => True) (fun _ U o U' => ∃ v L, o = .returned v ∧ (Q_Record_mk Z hE n0 a1 r) v U'.heap L ∧ FrameEnd U o U' L ({ frames := 1, cells := 0, slots := 0, locals := 12 } : Room).cells ({ frames := 1, cells := 0, slots := 0, locals := 12 } : Room).slots) := by
  refine MetFree.of_bodySF (plainFor_of_name pn_java_lang_Record) hisR ?_
  intro p e s m args below meth c s₁ Bd hml0 hP hK
  obtain ⟨rfl, hZ, hh⟩ := hP
  have X0 : Stand p l e ({ frames := 1, cells := 0, slots := 0, locals := 12 } : Room) s m #[(.ref a1)] below meth c s₁ [] 0 0 := Stand.of_body Bd
  have e0 : s₁.heap = hE := by rw [← hh, Bd.state]; rfl
  have cx : Cx_Record_mk p s m meth c Z a0 := ⟨Bd.exec, hZ, hw, Bd.bytes, hml0, findClass_of_methodNamed Bd.named, Bd.returns, Bd.notSynchronized, (name_of_methodNamed Bd.named Bd.method).1⟩
  show own_Goes p e below s (Q_Record_mk Z hE n0 a1 r) ({ frames := 1, cells := 0, slots := 0, locals := 12 } : Room).cells ({ frames := 1, cells := 0, slots := 0, locals := 12 } : Room).slots (s₁.setTop (entryFrame m #[(.ref a1)] 1))
  rw [ef_Record_mk]
  exact b_Record_mk cx a1 X0 e0 (Fr.nil n0) z f_a1_a f_a1_arrival f_a1_b f_a1_c f_a1_d f_a1_start E_a1 F_a1_a F_a1_arrival F_a1_b F_a1_c F_a1_d F_a1_start g_a1 _ hF
/-! tidemark/bench/Event.<init>:(JIIIII)V -/
def f_Event_mk (v1 : Int64) (v3 : Int32) (v4 : Int32) (v5 : Int32) (v6 : Int32) (v7 : Int32) (f_a1_a : Int32) (f_a1_arrival : Int32) (f_a1_b : Int32) (f_a1_c : Int32) (f_a1_d : Int32) (f_a1_start : Int64) : Option (Int32 × Int32 × Int32 × Int32 × Int32 × Int64) :=
  own_bd (f_Record_mk f_a1_a f_a1_arrival f_a1_b f_a1_c f_a1_d f_a1_start) fun r29 =>
  some (v4, v3, v5, v6, v7, v1)
def Q_Event_mk (Z : State) (hE : Heap) (n0 : Nat) (a1 : Addr) (r : Int32 × Int32 × Int32 × Int32 × Int32 × Int64) (v : Option Value) (h : Heap) (L : List Loc) : Prop := v = none ∧ Fr n0 L ∧ Keep hE h [a1] ∧ Exa Z h a1 "tidemark/bench/Event" ∧ Fld Z h a1 "tidemark/bench/Event" "a" "I" (.int r.1) ∧ Fld Z h a1 "tidemark/bench/Event" "arrival" "I" (.int r.2.1) ∧ Fld Z h a1 "tidemark/bench/Event" "b" "I" (.int r.2.2.1) ∧ Fld Z h a1 "tidemark/bench/Event" "c" "I" (.int r.2.2.2.1) ∧ Fld Z h a1 "tidemark/bench/Event" "d" "I" (.int r.2.2.2.2.1) ∧ Fld Z h a1 "tidemark/bench/Event" "start" "J" (.long r.2.2.2.2.2)
def Cx_Event_mk (p : Program) (s : State) (m : MethodId) (meth : Method) (c : Code) (Z : State) (a0 : Array Value) : Prop := p.tables.exec = Jvm.exec ∧ Z.Warmed39 s.vm ∧ (∀ d ∈ tables_1, d.before a0 Z = true) ∧ c.code = prog_71_method_1_code ∧ c.maxLocals = 8 ∧ s.vm.findClass "tidemark/bench/Event" = some m.cls ∧ meth.sig.returnType = none ∧ meth.locks = false ∧ meth.name = "<init>"
set_option maxRecDepth 65536 in
set_option maxHeartbeats 4000000 in
theorem b_Event_mk {p : Program} {l : Launch} {e : Env} {s : State} {m : MethodId} {args : Array Value} {below : List Frame} {meth : Method} {c : Code} {Z : State} {a0 : Array Value} {n0 : Nat} {hE : Heap} (cx : Cx_Event_mk p s m meth c Z a0) (a1 : Addr) :
    ∀ {T : State} {locs : List Loc} {h : Heap} (X : Stand p l e ({ frames := 2, cells := 0, slots := 0, locals := 24 } : Room) s m args below meth c T locs 0 0) (eT : T.heap = h) (N : Fr n0 locs) (K : Keep hE h [a1]) (z : n0 ≤ h.size) (v1 : Int64) (v3 : Int32) (v4 : Int32) (v5 : Int32) (v6 : Int32) (v7 : Int32) (f_a1_a : Int32) (f_a1_arrival : Int32) (f_a1_b : Int32) (f_a1_c : Int32) (f_a1_d : Int32) (f_a1_start : Int64) (E_a1 : Exa Z h a1 "tidemark/bench/Event") (F_a1_a : Fld Z h a1 "tidemark/bench/Event" "a" "I" (.int f_a1_a)) (F_a1_arrival : Fld Z h a1 "tidemark/bench/Event" "arrival" "I" (.int f_a1_arrival)) (F_a1_b : Fld Z h a1 "tidemark/bench/Event" "b" "I" (.int f_a1_b)) (F_a1_c : Fld Z h a1 "tidemark/bench/Event" "c" "I" (.int f_a1_c)) (F_a1_d : Fld Z h a1 "tidemark/bench/Event" "d" "I" (.int f_a1_d)) (F_a1_start : Fld Z h a1 "tidemark/bench/Event" "start" "J" (.long f_a1_start)) (g_a1 : n0 ≤ a1) (r : Int32 × Int32 × Int32 × Int32 × Int32 × Int64), f_Event_mk v1 v3 v4 v5 v6 v7 f_a1_a f_a1_arrival f_a1_b f_a1_c f_a1_d f_a1_start = some r → own_Goes p e below s (Q_Event_mk Z hE n0 a1 r) 0 0 (T.setTop (mkF m 0 #[.val (.ref a1), .val (.long v1), .second, .val (.int v3), .val (.int v4), .val (.int v5), .val (.int v6), .val (.int v7)] [])) := by
  have cx' := cx
  obtain ⟨hx, hZ, hw, hby, hml, hown, hret, hlk, hnm⟩ := cx'
  intro T locs h X eT N K z v1 v3 v4 v5 v6 v7 f_a1_a f_a1_arrival f_a1_b f_a1_c f_a1_d f_a1_start E_a1 F_a1_a F_a1_arrival F_a1_b F_a1_c F_a1_d F_a1_start g_a1 r hF
  unfold f_Event_mk at hF
  refine own_Goes.via (B := T.setTop (mkF m 1 #[.val (.ref a1), .val (.long v1), .second, .val (.int v3), .val (.int v4), .val (.int v5), .val (.int v6), .val (.int v7)] [(.ref a1)])) (fun t k => ?_) ?_
  · show Steps p.tables e below (T.setTop (mkF m 0 #[.val (.ref a1), .val (.long v1), .second, .val (.int v3), .val (.int v4), .val (.int v5), .val (.int v6), .val (.int v7)] [])) t
    refine XS.aloadN X.here hx rfl (hb hby dEvent_mk_0) rfl rfl ?_
    exact k
  obtain ⟨r29, hr29, hF⟩ := own_bd_e hF
  obtain ⟨_, _, ⟨T29, L29, k29, n29⟩, -, X29, ⟨Lc29, hQ29, l29, y29, z29⟩, st29⟩ := X.specialBack hx (y := (⟨"java/lang/Record", "<init>", "()V"⟩ : MethodName)) rfl hown (mvT hZ (w6 hw)) (mvT hZ (w7 hw)) (mvT hZ (w10 hw)) (by decide) (backOf (W := 0) (rm_Record_mk l Z a0 hw [] h n0 z a1 f_a1_a f_a1_arrival f_a1_b f_a1_c f_a1_d f_a1_start E_a1 F_a1_a F_a1_arrival F_a1_b F_a1_c F_a1_d F_a1_start g_a1 r29 hr29) hZ (w10 hw) (w9 hw) (by decide) (by decide)) (g := (mkF m 1 #[.val (.ref a1), .val (.long v1), .second, .val (.int v3), .val (.int v4), .val (.int v5), .val (.int v6), .val (.int v7)] [(.ref a1)])) rfl (by rw [hml]; rfl) (Steps.refl _) (a := a1) (argsL := []) (rest := []) (lenOf pd_0 rfl) rfl (by show 2 * 0 + _ ≤ _; exact Nat.le_of_eq rfl) (hb hby dEvent_mk_1) (fun _ _ => ⟨rfl, eT, (by decide : 0 + 0 ≤ _), (by decide : 0 + 0 ≤ _)⟩)
  dsimp only [Pt.U, Pt.locs, Pt.cells, Pt.slots] at X29 l29 y29 z29 st29 hQ29
  subst l29 y29 z29
  obtain ⟨rfl, N29q, e29⟩ := hQ29
  have N29 := Fr.app N N29q
  refine own_Goes.tr st29 ?_
  show own_Goes _ _ _ _ _ _ _ (T29.setTop (mkF m 4 #[.val (.ref a1), .val (.long v1), .second, .val (.int v3), .val (.int v4), .val (.int v5), .val (.int v6), .val (.int v7)] []))
  refine own_Goes.via (B := T29.setTop (mkF m 6 #[.val (.ref a1), .val (.long v1), .second, .val (.int v3), .val (.int v4), .val (.int v5), .val (.int v6), .val (.int v7)] [(.long v1), (.ref a1)])) (fun t k => ?_) ?_
  · show Steps p.tables e below (T29.setTop (mkF m 4 #[.val (.ref a1), .val (.long v1), .second, .val (.int v3), .val (.int v4), .val (.int v5), .val (.int v6), .val (.int v7)] [])) t
    refine XS.aloadN X29.here hx rfl (hb hby dEvent_mk_4) rfl rfl ?_
    show Steps p.tables e below (T29.setTop (mkF m 5 #[.val (.ref a1), .val (.long v1), .second, .val (.int v3), .val (.int v4), .val (.int v5), .val (.int v6), .val (.int v7)] [(.ref a1)])) t
    refine XS.lloadN X29.here hx rfl (hb hby dEvent_mk_5) rfl ?_
    exact k
  obtain ⟨T30, h30, X30, e30, W30, st30⟩ := putF X29 hx hZ hown (host := "") (Or.inl (w14 hw)) Via.refl e29 F_a1_start E_a1 (Or.inr ⟨(w15 hw), rfl, hnm⟩) (w1 hw) (ty := .long) (by decide) rfl rfl (g := (mkF m 6 #[.val (.ref a1), .val (.long v1), .second, .val (.int v3), .val (.int v4), .val (.int v5), .val (.int v6), .val (.int v7)] [(.long v1), (.ref a1)])) rfl rfl (hb hby dEvent_mk_6)
  refine own_Goes.via st30 ?_
  have E30_a1 := E_a1.wr W30
  have F30_a1_a := F_a1_a.other W30 (Or.inr (slot_ne (Or.inr (w19 hw)) (Or.inr (w15 hw)) (by decide) (t := .int) (t' := .long) (by decide) (by decide)))
  have F30_a1_arrival := F_a1_arrival.other W30 (Or.inr (slot_ne (Or.inr (w17 hw)) (Or.inr (w15 hw)) (by decide) (t := .int) (t' := .long) (by decide) (by decide)))
  have F30_a1_b := F_a1_b.other W30 (Or.inr (slot_ne (Or.inr (w21 hw)) (Or.inr (w15 hw)) (by decide) (t := .int) (t' := .long) (by decide) (by decide)))
  have F30_a1_c := F_a1_c.other W30 (Or.inr (slot_ne (Or.inr (w23 hw)) (Or.inr (w15 hw)) (by decide) (t := .int) (t' := .long) (by decide) (by decide)))
  have F30_a1_d := F_a1_d.other W30 (Or.inr (slot_ne (Or.inr (w25 hw)) (Or.inr (w15 hw)) (by decide) (t := .int) (t' := .long) (by decide) (by decide)))
  have F30_a1_start := F_a1_start.same W30
  have z30 := Nat.le_trans z (Keep.of_wr W30).1
  have K30_ := K.wr W30 (Or.inl (List.mem_of_getElem? (i := 0) rfl))
  have N30 := Fr.snoc X30 N29 g_a1
  show own_Goes _ _ _ _ _ _ _ (T30.setTop (mkF m 9 #[.val (.ref a1), .val (.long v1), .second, .val (.int v3), .val (.int v4), .val (.int v5), .val (.int v6), .val (.int v7)] []))
  refine own_Goes.via (B := T30.setTop (mkF m 11 #[.val (.ref a1), .val (.long v1), .second, .val (.int v3), .val (.int v4), .val (.int v5), .val (.int v6), .val (.int v7)] [(.int v3), (.ref a1)])) (fun t k => ?_) ?_
  · show Steps p.tables e below (T30.setTop (mkF m 9 #[.val (.ref a1), .val (.long v1), .second, .val (.int v3), .val (.int v4), .val (.int v5), .val (.int v6), .val (.int v7)] [])) t
    refine XS.aloadN X30.here hx rfl (hb hby dEvent_mk_9) rfl rfl ?_
    show Steps p.tables e below (T30.setTop (mkF m 10 #[.val (.ref a1), .val (.long v1), .second, .val (.int v3), .val (.int v4), .val (.int v5), .val (.int v6), .val (.int v7)] [(.ref a1)])) t
    refine XS.iloadN X30.here hx rfl (hb hby dEvent_mk_10) rfl ?_
    exact k
  obtain ⟨T31, h31, X31, e31, W31, st31⟩ := putF X30 hx hZ hown (host := "") (Or.inl (w16 hw)) Via.refl e30 F30_a1_arrival E30_a1 (Or.inr ⟨(w17 hw), rfl, hnm⟩) (w1 hw) (ty := .int) (by decide) rfl rfl (g := (mkF m 11 #[.val (.ref a1), .val (.long v1), .second, .val (.int v3), .val (.int v4), .val (.int v5), .val (.int v6), .val (.int v7)] [(.int v3), (.ref a1)])) rfl rfl (hb hby dEvent_mk_11)
  refine own_Goes.via st31 ?_
  have E31_a1 := E30_a1.wr W31
  have F31_a1_a := F30_a1_a.other W31 (Or.inr (slot_ne (Or.inr (w19 hw)) (Or.inr (w17 hw)) (by decide) (t := .int) (t' := .int) (by decide) (by decide)))
  have F31_a1_b := F30_a1_b.other W31 (Or.inr (slot_ne (Or.inr (w21 hw)) (Or.inr (w17 hw)) (by decide) (t := .int) (t' := .int) (by decide) (by decide)))
  have F31_a1_c := F30_a1_c.other W31 (Or.inr (slot_ne (Or.inr (w23 hw)) (Or.inr (w17 hw)) (by decide) (t := .int) (t' := .int) (by decide) (by decide)))
  have F31_a1_d := F30_a1_d.other W31 (Or.inr (slot_ne (Or.inr (w25 hw)) (Or.inr (w17 hw)) (by decide) (t := .int) (t' := .int) (by decide) (by decide)))
  have F31_a1_start := F30_a1_start.other W31 (Or.inr (slot_ne (Or.inr (w15 hw)) (Or.inr (w17 hw)) (by decide) (t := .long) (t' := .int) (by decide) (by decide)))
  have F31_a1_arrival := F30_a1_arrival.same W31
  have z31 := Nat.le_trans z30 (Keep.of_wr W31).1
  have K31_ := K30_.wr W31 (Or.inl (List.mem_of_getElem? (i := 0) rfl))
  have N31 := Fr.snoc X31 N30 g_a1
  show own_Goes _ _ _ _ _ _ _ (T31.setTop (mkF m 14 #[.val (.ref a1), .val (.long v1), .second, .val (.int v3), .val (.int v4), .val (.int v5), .val (.int v6), .val (.int v7)] []))
  refine own_Goes.via (B := T31.setTop (mkF m 17 #[.val (.ref a1), .val (.long v1), .second, .val (.int v3), .val (.int v4), .val (.int v5), .val (.int v6), .val (.int v7)] [(.int v4), (.ref a1)])) (fun t k => ?_) ?_
  · show Steps p.tables e below (T31.setTop (mkF m 14 #[.val (.ref a1), .val (.long v1), .second, .val (.int v3), .val (.int v4), .val (.int v5), .val (.int v6), .val (.int v7)] [])) t
    refine XS.aloadN X31.here hx rfl (hb hby dEvent_mk_14) rfl rfl ?_
    show Steps p.tables e below (T31.setTop (mkF m 15 #[.val (.ref a1), .val (.long v1), .second, .val (.int v3), .val (.int v4), .val (.int v5), .val (.int v6), .val (.int v7)] [(.ref a1)])) t
    refine XS.iload X31.here hx rfl (hb hby dEvent_mk_15) rfl ?_
    exact k
  obtain ⟨T32, h32, X32, e32, W32, st32⟩ := putF X31 hx hZ hown (host := "") (Or.inl (w18 hw)) Via.refl e31 F31_a1_a E31_a1 (Or.inr ⟨(w19 hw), rfl, hnm⟩) (w1 hw) (ty := .int) (by decide) rfl rfl (g := (mkF m 17 #[.val (.ref a1), .val (.long v1), .second, .val (.int v3), .val (.int v4), .val (.int v5), .val (.int v6), .val (.int v7)] [(.int v4), (.ref a1)])) rfl rfl (hb hby dEvent_mk_17)
  refine own_Goes.via st32 ?_
  have E32_a1 := E31_a1.wr W32
  have F32_a1_arrival := F31_a1_arrival.other W32 (Or.inr (slot_ne (Or.inr (w17 hw)) (Or.inr (w19 hw)) (by decide) (t := .int) (t' := .int) (by decide) (by decide)))
  have F32_a1_b := F31_a1_b.other W32 (Or.inr (slot_ne (Or.inr (w21 hw)) (Or.inr (w19 hw)) (by decide) (t := .int) (t' := .int) (by decide) (by decide)))
  have F32_a1_c := F31_a1_c.other W32 (Or.inr (slot_ne (Or.inr (w23 hw)) (Or.inr (w19 hw)) (by decide) (t := .int) (t' := .int) (by decide) (by decide)))
  have F32_a1_d := F31_a1_d.other W32 (Or.inr (slot_ne (Or.inr (w25 hw)) (Or.inr (w19 hw)) (by decide) (t := .int) (t' := .int) (by decide) (by decide)))
  have F32_a1_start := F31_a1_start.other W32 (Or.inr (slot_ne (Or.inr (w15 hw)) (Or.inr (w19 hw)) (by decide) (t := .long) (t' := .int) (by decide) (by decide)))
  have F32_a1_a := F31_a1_a.same W32
  have z32 := Nat.le_trans z31 (Keep.of_wr W32).1
  have K32_ := K31_.wr W32 (Or.inl (List.mem_of_getElem? (i := 0) rfl))
  have N32 := Fr.snoc X32 N31 g_a1
  show own_Goes _ _ _ _ _ _ _ (T32.setTop (mkF m 20 #[.val (.ref a1), .val (.long v1), .second, .val (.int v3), .val (.int v4), .val (.int v5), .val (.int v6), .val (.int v7)] []))
  refine own_Goes.via (B := T32.setTop (mkF m 23 #[.val (.ref a1), .val (.long v1), .second, .val (.int v3), .val (.int v4), .val (.int v5), .val (.int v6), .val (.int v7)] [(.int v5), (.ref a1)])) (fun t k => ?_) ?_
  · show Steps p.tables e below (T32.setTop (mkF m 20 #[.val (.ref a1), .val (.long v1), .second, .val (.int v3), .val (.int v4), .val (.int v5), .val (.int v6), .val (.int v7)] [])) t
    refine XS.aloadN X32.here hx rfl (hb hby dEvent_mk_20) rfl rfl ?_
    show Steps p.tables e below (T32.setTop (mkF m 21 #[.val (.ref a1), .val (.long v1), .second, .val (.int v3), .val (.int v4), .val (.int v5), .val (.int v6), .val (.int v7)] [(.ref a1)])) t
    refine XS.iload X32.here hx rfl (hb hby dEvent_mk_21) rfl ?_
    exact k
  obtain ⟨T33, h33, X33, e33, W33, st33⟩ := putF X32 hx hZ hown (host := "") (Or.inl (w20 hw)) Via.refl e32 F32_a1_b E32_a1 (Or.inr ⟨(w21 hw), rfl, hnm⟩) (w1 hw) (ty := .int) (by decide) rfl rfl (g := (mkF m 23 #[.val (.ref a1), .val (.long v1), .second, .val (.int v3), .val (.int v4), .val (.int v5), .val (.int v6), .val (.int v7)] [(.int v5), (.ref a1)])) rfl rfl (hb hby dEvent_mk_23)
  refine own_Goes.via st33 ?_
  have E33_a1 := E32_a1.wr W33
  have F33_a1_a := F32_a1_a.other W33 (Or.inr (slot_ne (Or.inr (w19 hw)) (Or.inr (w21 hw)) (by decide) (t := .int) (t' := .int) (by decide) (by decide)))
  have F33_a1_arrival := F32_a1_arrival.other W33 (Or.inr (slot_ne (Or.inr (w17 hw)) (Or.inr (w21 hw)) (by decide) (t := .int) (t' := .int) (by decide) (by decide)))
  have F33_a1_c := F32_a1_c.other W33 (Or.inr (slot_ne (Or.inr (w23 hw)) (Or.inr (w21 hw)) (by decide) (t := .int) (t' := .int) (by decide) (by decide)))
  have F33_a1_d := F32_a1_d.other W33 (Or.inr (slot_ne (Or.inr (w25 hw)) (Or.inr (w21 hw)) (by decide) (t := .int) (t' := .int) (by decide) (by decide)))
  have F33_a1_start := F32_a1_start.other W33 (Or.inr (slot_ne (Or.inr (w15 hw)) (Or.inr (w21 hw)) (by decide) (t := .long) (t' := .int) (by decide) (by decide)))
  have F33_a1_b := F32_a1_b.same W33
  have z33 := Nat.le_trans z32 (Keep.of_wr W33).1
  have K33_ := K32_.wr W33 (Or.inl (List.mem_of_getElem? (i := 0) rfl))
  have N33 := Fr.snoc X33 N32 g_a1
  show own_Goes _ _ _ _ _ _ _ (T33.setTop (mkF m 26 #[.val (.ref a1), .val (.long v1), .second, .val (.int v3), .val (.int v4), .val (.int v5), .val (.int v6), .val (.int v7)] []))
  refine own_Goes.via (B := T33.setTop (mkF m 29 #[.val (.ref a1), .val (.long v1), .second, .val (.int v3), .val (.int v4), .val (.int v5), .val (.int v6), .val (.int v7)] [(.int v6), (.ref a1)])) (fun t k => ?_) ?_
  · show Steps p.tables e below (T33.setTop (mkF m 26 #[.val (.ref a1), .val (.long v1), .second, .val (.int v3), .val (.int v4), .val (.int v5), .val (.int v6), .val (.int v7)] [])) t
    refine XS.aloadN X33.here hx rfl (hb hby dEvent_mk_26) rfl rfl ?_
    show Steps p.tables e below (T33.setTop (mkF m 27 #[.val (.ref a1), .val (.long v1), .second, .val (.int v3), .val (.int v4), .val (.int v5), .val (.int v6), .val (.int v7)] [(.ref a1)])) t
    refine XS.iload X33.here hx rfl (hb hby dEvent_mk_27) rfl ?_
    exact k
  obtain ⟨T34, h34, X34, e34, W34, st34⟩ := putF X33 hx hZ hown (host := "") (Or.inl (w22 hw)) Via.refl e33 F33_a1_c E33_a1 (Or.inr ⟨(w23 hw), rfl, hnm⟩) (w1 hw) (ty := .int) (by decide) rfl rfl (g := (mkF m 29 #[.val (.ref a1), .val (.long v1), .second, .val (.int v3), .val (.int v4), .val (.int v5), .val (.int v6), .val (.int v7)] [(.int v6), (.ref a1)])) rfl rfl (hb hby dEvent_mk_29)
  refine own_Goes.via st34 ?_
  have E34_a1 := E33_a1.wr W34
  have F34_a1_a := F33_a1_a.other W34 (Or.inr (slot_ne (Or.inr (w19 hw)) (Or.inr (w23 hw)) (by decide) (t := .int) (t' := .int) (by decide) (by decide)))
  have F34_a1_arrival := F33_a1_arrival.other W34 (Or.inr (slot_ne (Or.inr (w17 hw)) (Or.inr (w23 hw)) (by decide) (t := .int) (t' := .int) (by decide) (by decide)))
  have F34_a1_b := F33_a1_b.other W34 (Or.inr (slot_ne (Or.inr (w21 hw)) (Or.inr (w23 hw)) (by decide) (t := .int) (t' := .int) (by decide) (by decide)))
  have F34_a1_d := F33_a1_d.other W34 (Or.inr (slot_ne (Or.inr (w25 hw)) (Or.inr (w23 hw)) (by decide) (t := .int) (t' := .int) (by decide) (by decide)))
  have F34_a1_start := F33_a1_start.other W34 (Or.inr (slot_ne (Or.inr (w15 hw)) (Or.inr (w23 hw)) (by decide) (t := .long) (t' := .int) (by decide) (by decide)))
  have F34_a1_c := F33_a1_c.same W34
  have z34 := Nat.le_trans z33 (Keep.of_wr W34).1
  have K34_ := K33_.wr W34 (Or.inl (List.mem_of_getElem? (i := 0) rfl))
  have N34 := Fr.snoc X34 N33 g_a1
  show own_Goes _ _ _ _ _ _ _ (T34.setTop (mkF m 32 #[.val (.ref a1), .val (.long v1), .second, .val (.int v3), .val (.int v4), .val (.int v5), .val (.int v6), .val (.int v7)] []))
  refine own_Goes.via (B := T34.setTop (mkF m 35 #[.val (.ref a1), .val (.long v1), .second, .val (.int v3), .val (.int v4), .val (.int v5), .val (.int v6), .val (.int v7)] [(.int v7), (.ref a1)])) (fun t k => ?_) ?_
  · show Steps p.tables e below (T34.setTop (mkF m 32 #[.val (.ref a1), .val (.long v1), .second, .val (.int v3), .val (.int v4), .val (.int v5), .val (.int v6), .val (.int v7)] [])) t
    refine XS.aloadN X34.here hx rfl (hb hby dEvent_mk_32) rfl rfl ?_
    show Steps p.tables e below (T34.setTop (mkF m 33 #[.val (.ref a1), .val (.long v1), .second, .val (.int v3), .val (.int v4), .val (.int v5), .val (.int v6), .val (.int v7)] [(.ref a1)])) t
    refine XS.iload X34.here hx rfl (hb hby dEvent_mk_33) rfl ?_
    exact k
  obtain ⟨T35, h35, X35, e35, W35, st35⟩ := putF X34 hx hZ hown (host := "") (Or.inl (w24 hw)) Via.refl e34 F34_a1_d E34_a1 (Or.inr ⟨(w25 hw), rfl, hnm⟩) (w1 hw) (ty := .int) (by decide) rfl rfl (g := (mkF m 35 #[.val (.ref a1), .val (.long v1), .second, .val (.int v3), .val (.int v4), .val (.int v5), .val (.int v6), .val (.int v7)] [(.int v7), (.ref a1)])) rfl rfl (hb hby dEvent_mk_35)
  refine own_Goes.via st35 ?_
  have E35_a1 := E34_a1.wr W35
  have F35_a1_a := F34_a1_a.other W35 (Or.inr (slot_ne (Or.inr (w19 hw)) (Or.inr (w25 hw)) (by decide) (t := .int) (t' := .int) (by decide) (by decide)))
  have F35_a1_arrival := F34_a1_arrival.other W35 (Or.inr (slot_ne (Or.inr (w17 hw)) (Or.inr (w25 hw)) (by decide) (t := .int) (t' := .int) (by decide) (by decide)))
  have F35_a1_b := F34_a1_b.other W35 (Or.inr (slot_ne (Or.inr (w21 hw)) (Or.inr (w25 hw)) (by decide) (t := .int) (t' := .int) (by decide) (by decide)))
  have F35_a1_c := F34_a1_c.other W35 (Or.inr (slot_ne (Or.inr (w23 hw)) (Or.inr (w25 hw)) (by decide) (t := .int) (t' := .int) (by decide) (by decide)))
  have F35_a1_start := F34_a1_start.other W35 (Or.inr (slot_ne (Or.inr (w15 hw)) (Or.inr (w25 hw)) (by decide) (t := .long) (t' := .int) (by decide) (by decide)))
  have F35_a1_d := F34_a1_d.same W35
  have z35 := Nat.le_trans z34 (Keep.of_wr W35).1
  have K35_ := K34_.wr W35 (Or.inl (List.mem_of_getElem? (i := 0) rfl))
  have N35 := Fr.snoc X35 N34 g_a1
  show own_Goes _ _ _ _ _ _ _ (T35.setTop (mkF m 38 #[.val (.ref a1), .val (.long v1), .second, .val (.int v3), .val (.int v4), .val (.int v5), .val (.int v6), .val (.int v7)] []))
  obtain rfl : (v4, v3, v5, v6, v7, v1) = r := Option.some.inj hF
  exact own_retV X35 hx hret hlk (hb hby dEvent_mk_38) e35 ⟨rfl, N35, K35_, E35_a1, F35_a1_a, F35_a1_arrival, F35_a1_b, F35_a1_c, F35_a1_d, F35_a1_start⟩ (by decide) (by decide)
theorem ef_Event_mk (m : MethodId) (x0 : Addr) (x1 : Int64) (x2 : Int32) (x3 : Int32) (x4 : Int32) (x5 : Int32) (x6 : Int32) : entryFrame m #[(.ref x0), (.long x1), (.int x2), (.int x3), (.int x4), (.int x5), (.int x6)] 8 = mkF m 0 #[.val (.ref x0), .val (.long x1), .second, .val (.int x2), .val (.int x3), .val (.int x4), .val (.int x5), .val (.int x6)] [] := by first | (simp [entryFrame, mkF, argsToLocals, Value.category]; done) | rfl
set_option maxRecDepth 65536 in
set_option maxHeartbeats 4000000 in
theorem rm_Event_mk (l : Launch) (Z : State) (a0 : Array Value) (hw : ∀ d ∈ tables_1, d.before a0 Z = true) (ws : List Jvm.Cond) (hE : Heap) (n0 : Nat) (z : n0 ≤ hE.size) (a1 : Addr) (v1 : Int64) (v3 : Int32) (v4 : Int32) (v5 : Int32) (v6 : Int32) (v7 : Int32) (f_a1_a : Int32) (f_a1_arrival : Int32) (f_a1_b : Int32) (f_a1_c : Int32) (f_a1_d : Int32) (f_a1_start : Int64) (E_a1 : Exa Z hE a1 "tidemark/bench/Event") (F_a1_a : Fld Z hE a1 "tidemark/bench/Event" "a" "I" (.int f_a1_a)) (F_a1_arrival : Fld Z hE a1 "tidemark/bench/Event" "arrival" "I" (.int f_a1_arrival)) (F_a1_b : Fld Z hE a1 "tidemark/bench/Event" "b" "I" (.int f_a1_b)) (F_a1_c : Fld Z hE a1 "tidemark/bench/Event" "c" "I" (.int f_a1_c)) (F_a1_d : Fld Z hE a1 "tidemark/bench/Event" "d" "I" (.int f_a1_d)) (F_a1_start : Fld Z hE a1 "tidemark/bench/Event" "start" "J" (.long f_a1_start)) (g_a1 : n0 ≤ a1) (r : Int32 × Int32 × Int32 × Int32 × Int32 × Int64) (hF : (f_Event_mk v1 v3 v4 v5 v6 v7 f_a1_a f_a1_arrival f_a1_b f_a1_c f_a1_d f_a1_start) = some r) :
    MetFree l (⟨"tidemark/bench/Event", "<init>", "(JIIIII)V"⟩ : MethodName) (head1 (Jvm.Cond.code (⟨"tidemark/bench/Event", "<init>", "(JIIIII)V"⟩ : MethodName) prog_71_method_1_code 8 none :: ws) ({ frames := 2, cells := 0, slots := 0, locals := 24 } : Room)) (fun a U => a = #[(.ref a1), (.long v1), (.int v3), (.int v4), (.int v5), (.int v6), (.int v7)] ∧ Z.Warmed39 U.vm ∧ U.heap = hE) (fun _ _ _ _ _ => True) (fun _ U o U' => ∃ v L, o = .returned v ∧ (Q_Event_mk Z hE n0 a1 r) v U'.heap L ∧ FrameEnd U o U' L ({ frames := 2, cells := 0, slots := 0, locals := 24 } : Room).cells ({ frames := 2, cells := 0, slots := 0, locals := 24 } : Room).slots) := by
  refine MetFree.of_bodySF (plainFor_of_name pn_tidemark_bench_Event) hisR ?_
  intro p e s m args below meth c s₁ Bd hml0 hP hK
  obtain ⟨rfl, hZ, hh⟩ := hP
  have X0 : Stand p l e ({ frames := 2, cells := 0, slots := 0, locals := 24 } : Room) s m #[(.ref a1), (.long v1), (.int v3), (.int v4), (.int v5), (.int v6), (.int v7)] below meth c s₁ [] 0 0 := Stand.of_body Bd
  have e0 : s₁.heap = hE := by rw [← hh, Bd.state]; rfl
  have cx : Cx_Event_mk p s m meth c Z a0 := ⟨Bd.exec, hZ, hw, Bd.bytes, hml0, findClass_of_methodNamed Bd.named, Bd.returns, Bd.notSynchronized, (name_of_methodNamed Bd.named Bd.method).1⟩
  show own_Goes p e below s (Q_Event_mk Z hE n0 a1 r) ({ frames := 2, cells := 0, slots := 0, locals := 24 } : Room).cells ({ frames := 2, cells := 0, slots := 0, locals := 24 } : Room).slots (s₁.setTop (entryFrame m #[(.ref a1), (.long v1), (.int v3), (.int v4), (.int v5), (.int v6), (.int v7)] 8))
  rw [ef_Event_mk]
  exact b_Event_mk cx a1 X0 e0 (Fr.nil n0) (Keep.refl _ _) z v1 v3 v4 v5 v6 v7 f_a1_a f_a1_arrival f_a1_b f_a1_c f_a1_d f_a1_start E_a1 F_a1_a F_a1_arrival F_a1_b F_a1_c F_a1_d F_a1_start g_a1 _ hF
/-! tidemark/bench/Checksum.<init>:()V -/
def f_Checksum_mk (f_a1_value : Int64) : Option (Int64) :=
  some (-3750763034362895579 : Int64)
def Q_Checksum_mk (Z : State) (hE : Heap) (n0 : Nat) (a1 : Addr) (r : Int64) (v : Option Value) (h : Heap) (L : List Loc) : Prop := v = none ∧ Fr n0 L ∧ Keep hE h [a1] ∧ Exa Z h a1 "tidemark/bench/Checksum" ∧ Fld Z h a1 "tidemark/bench/Checksum" "value" "J" (.long r)
def Cx_Checksum_mk (p : Program) (s : State) (m : MethodId) (meth : Method) (c : Code) (Z : State) (a0 : Array Value) : Prop := p.tables.exec = Jvm.exec ∧ Z.Warmed39 s.vm ∧ (∀ d ∈ tables_1, d.before a0 Z = true) ∧ c.code = prog_60_method_1_code ∧ c.maxLocals = 1 ∧ s.vm.findClass "tidemark/bench/Checksum" = some m.cls ∧ meth.sig.returnType = none ∧ meth.locks = false ∧ meth.name = "<init>"
set_option maxRecDepth 65536 in
set_option maxHeartbeats 4000000 in
theorem b_Checksum_mk {p : Program} {l : Launch} {e : Env} {s : State} {m : MethodId} {args : Array Value} {below : List Frame} {meth : Method} {c : Code} {Z : State} {a0 : Array Value} {n0 : Nat} {hE : Heap} (cx : Cx_Checksum_mk p s m meth c Z a0) (a1 : Addr) :
    ∀ {T : State} {locs : List Loc} {h : Heap} (X : Stand p l e ({ frames := 1, cells := 0, slots := 0, locals := 12 } : Room) s m args below meth c T locs 0 0) (eT : T.heap = h) (N : Fr n0 locs) (K : Keep hE h [a1]) (z : n0 ≤ h.size) (f_a1_value : Int64) (E_a1 : Exa Z h a1 "tidemark/bench/Checksum") (F_a1_value : Fld Z h a1 "tidemark/bench/Checksum" "value" "J" (.long f_a1_value)) (g_a1 : n0 ≤ a1) (r : Int64), f_Checksum_mk f_a1_value = some r → own_Goes p e below s (Q_Checksum_mk Z hE n0 a1 r) 0 0 (T.setTop (mkF m 0 #[.val (.ref a1)] [])) := by
  have cx' := cx
  obtain ⟨hx, hZ, hw, hby, hml, hown, hret, hlk, hnm⟩ := cx'
  intro T locs h X eT N K z f_a1_value E_a1 F_a1_value g_a1 r hF
  unfold f_Checksum_mk at hF
  refine own_Goes.via (B := T.setTop (mkF m 1 #[.val (.ref a1)] [(.ref a1)])) (fun t k => ?_) ?_
  · show Steps p.tables e below (T.setTop (mkF m 0 #[.val (.ref a1)] [])) t
    refine XS.aloadN X.here hx rfl (hb hby dChecksum_mk_0) rfl rfl ?_
    exact k
  obtain ⟨T48, X48, e48, st48⟩ := initO X hx hZ hown (w32 hw) (w12 hw) (w13 hw) eT (g := (mkF m 1 #[.val (.ref a1)] [(.ref a1)])) rfl (by rw [hml]; rfl) rfl (hb hby dChecksum_mk_1) (by decide) (W := 0) (by show 2 * 0 + _ ≤ _; exact Nat.le_of_eq rfl) (by decide)
  refine own_Goes.via st48 ?_
  show own_Goes _ _ _ _ _ _ _ (T48.setTop (mkF m 4 #[.val (.ref a1)] []))
  refine own_Goes.via (B := T48.setTop (mkF m 8 #[.val (.ref a1)] [(.long (-3750763034362895579 : Int64)), (.ref a1)])) (fun t k => ?_) ?_
  · show Steps p.tables e below (T48.setTop (mkF m 4 #[.val (.ref a1)] [])) t
    refine XS.aloadN X48.here hx rfl (hb hby dChecksum_mk_4) rfl rfl ?_
    show Steps p.tables e below (T48.setTop (mkF m 5 #[.val (.ref a1)] [(.ref a1)])) t
    refine X48.ldc2Long hx hown (mvT hZ (w33 hw)) (g := (mkF m 5 #[.val (.ref a1)] [(.ref a1)])) rfl (hb hby dChecksum_mk_5) _ ?_
    exact k
  obtain ⟨T49, h49, X49, e49, W49, st49⟩ := putF X48 hx hZ hown (host := "") (Or.inl (w34 hw)) Via.refl e48 F_a1_value E_a1 (Or.inl (w35 hw)) (w27 hw) (ty := .long) (by decide) rfl rfl (g := (mkF m 8 #[.val (.ref a1)] [(.long (-3750763034362895579 : Int64)), (.ref a1)])) rfl rfl (hb hby dChecksum_mk_8)
  refine own_Goes.via st49 ?_
  have E49_a1 := E_a1.wr W49
  have F49_a1_value := F_a1_value.same W49
  have z49 := Nat.le_trans z (Keep.of_wr W49).1
  have K49_ := K.wr W49 (Or.inl (List.mem_of_getElem? (i := 0) rfl))
  have N49 := Fr.snoc X49 N g_a1
  show own_Goes _ _ _ _ _ _ _ (T49.setTop (mkF m 11 #[.val (.ref a1)] []))
  obtain rfl : (-3750763034362895579 : Int64) = r := Option.some.inj hF
  exact own_retV X49 hx hret hlk (hb hby dChecksum_mk_11) e49 ⟨rfl, N49, K49_, E49_a1, F49_a1_value⟩ (by decide) (by decide)
theorem ef_Checksum_mk (m : MethodId) (x0 : Addr) : entryFrame m #[(.ref x0)] 1 = mkF m 0 #[.val (.ref x0)] [] := by first | (simp [entryFrame, mkF, argsToLocals, Value.category]; done) | rfl
set_option maxRecDepth 65536 in
set_option maxHeartbeats 4000000 in
theorem rm_Checksum_mk (l : Launch) (Z : State) (a0 : Array Value) (hw : ∀ d ∈ tables_1, d.before a0 Z = true) (ws : List Jvm.Cond) (hE : Heap) (n0 : Nat) (z : n0 ≤ hE.size) (a1 : Addr) (f_a1_value : Int64) (E_a1 : Exa Z hE a1 "tidemark/bench/Checksum") (F_a1_value : Fld Z hE a1 "tidemark/bench/Checksum" "value" "J" (.long f_a1_value)) (g_a1 : n0 ≤ a1) (r : Int64) (hF : (f_Checksum_mk f_a1_value) = some r) :
    MetFree l (⟨"tidemark/bench/Checksum", "<init>", "()V"⟩ : MethodName) (head1 (Jvm.Cond.code (⟨"tidemark/bench/Checksum", "<init>", "()V"⟩ : MethodName) prog_60_method_1_code 1 none :: ws) ({ frames := 1, cells := 0, slots := 0, locals := 12 } : Room)) (fun a U => a = #[(.ref a1)] ∧ Z.Warmed39 U.vm ∧ U.heap = hE) (fun _ _ _ _ _ => True) (fun _ U o U' => ∃ v L, o = .returned v ∧ (Q_Checksum_mk Z hE n0 a1 r) v U'.heap L ∧ FrameEnd U o U' L ({ frames := 1, cells := 0, slots := 0, locals := 12 } : Room).cells ({ frames := 1, cells := 0, slots := 0, locals := 12 } : Room).slots) := by
  refine MetFree.of_bodySF (plainFor_of_name pn_tidemark_bench_Checksum) hisR ?_
  intro p e s m args below meth c s₁ Bd hml0 hP hK
  obtain ⟨rfl, hZ, hh⟩ := hP
  have X0 : Stand p l e ({ frames := 1, cells := 0, slots := 0, locals := 12 } : Room) s m #[(.ref a1)] below meth c s₁ [] 0 0 := Stand.of_body Bd
  have e0 : s₁.heap = hE := by rw [← hh, Bd.state]; rfl
  have cx : Cx_Checksum_mk p s m meth c Z a0 := ⟨Bd.exec, hZ, hw, Bd.bytes, hml0, findClass_of_methodNamed Bd.named, Bd.returns, Bd.notSynchronized, (name_of_methodNamed Bd.named Bd.method).1⟩
  show own_Goes p e below s (Q_Checksum_mk Z hE n0 a1 r) ({ frames := 1, cells := 0, slots := 0, locals := 12 } : Room).cells ({ frames := 1, cells := 0, slots := 0, locals := 12 } : Room).slots (s₁.setTop (entryFrame m #[(.ref a1)] 1))
  rw [ef_Checksum_mk]
  exact b_Checksum_mk cx a1 X0 e0 (Fr.nil n0) (Keep.refl _ _) z f_a1_value E_a1 F_a1_value g_a1 _ hF
/-! tidemark/bench/Event.start:()J -/
def f_Event_start (f_a1_a : Int32) (f_a1_arrival : Int32) (f_a1_b : Int32) (f_a1_c : Int32) (f_a1_d : Int32) (f_a1_start : Int64) : Option (Int64) :=
  some f_a1_start
def Q_Event_start (Z : State) (hE : Heap) (n0 : Nat) (a1 : Addr) (r : Int64) (v : Option Value) (h : Heap) (L : List Loc) : Prop := v = some (.long r) ∧ Fr n0 L ∧ h = hE
def Cx_Event_start (p : Program) (s : State) (m : MethodId) (meth : Method) (c : Code) (Z : State) (a0 : Array Value) : Prop := p.tables.exec = Jvm.exec ∧ Z.Warmed39 s.vm ∧ (∀ d ∈ tables_1, d.before a0 Z = true) ∧ c.code = prog_71_method_5_code ∧ c.maxLocals = 1 ∧ s.vm.findClass "tidemark/bench/Event" = some m.cls ∧ meth.sig.returnType = some .long ∧ meth.locks = false ∧ meth.name = "start"
set_option maxRecDepth 65536 in
set_option maxHeartbeats 4000000 in
theorem b_Event_start {p : Program} {l : Launch} {e : Env} {s : State} {m : MethodId} {args : Array Value} {below : List Frame} {meth : Method} {c : Code} {Z : State} {a0 : Array Value} {n0 : Nat} {hE : Heap} (cx : Cx_Event_start p s m meth c Z a0) (a1 : Addr) :
    ∀ {T : State} {locs : List Loc} (X : Stand p l e ({ frames := 0, cells := 0, slots := 0, locals := 0 } : Room) s m args below meth c T locs 0 0) (eT : T.heap = hE) (N : Fr n0 locs) (z : n0 ≤ hE.size) (f_a1_a : Int32) (f_a1_arrival : Int32) (f_a1_b : Int32) (f_a1_c : Int32) (f_a1_d : Int32) (f_a1_start : Int64) (E_a1 : Exa Z hE a1 "tidemark/bench/Event") (F_a1_a : Fld Z hE a1 "tidemark/bench/Event" "a" "I" (.int f_a1_a)) (F_a1_arrival : Fld Z hE a1 "tidemark/bench/Event" "arrival" "I" (.int f_a1_arrival)) (F_a1_b : Fld Z hE a1 "tidemark/bench/Event" "b" "I" (.int f_a1_b)) (F_a1_c : Fld Z hE a1 "tidemark/bench/Event" "c" "I" (.int f_a1_c)) (F_a1_d : Fld Z hE a1 "tidemark/bench/Event" "d" "I" (.int f_a1_d)) (F_a1_start : Fld Z hE a1 "tidemark/bench/Event" "start" "J" (.long f_a1_start)) (g_a1 : n0 ≤ a1) (r : Int64), f_Event_start f_a1_a f_a1_arrival f_a1_b f_a1_c f_a1_d f_a1_start = some r → own_Goes p e below s (Q_Event_start Z hE n0 a1 r) 0 0 (T.setTop (mkF m 0 #[.val (.ref a1)] [])) := by
  have cx' := cx
  obtain ⟨hx, hZ, hw, hby, hml, hown, hret, hlk, hnm⟩ := cx'
  intro T locs X eT N z f_a1_a f_a1_arrival f_a1_b f_a1_c f_a1_d f_a1_start E_a1 F_a1_a F_a1_arrival F_a1_b F_a1_c F_a1_d F_a1_start g_a1 r hF
  unfold f_Event_start at hF
  refine own_Goes.via (B := T.setTop (mkF m 1 #[.val (.ref a1)] [(.ref a1)])) (fun t k => ?_) ?_
  · show Steps p.tables e below (T.setTop (mkF m 0 #[.val (.ref a1)] [])) t
    refine XS.aloadN X.here hx rfl (hb hby dEvent_start_0) rfl rfl ?_
    exact k
  obtain ⟨T56, X56, e56, st56⟩ := getF X hx hZ hown (host := "") (Or.inl (w14 hw)) Via.refl eT F_a1_start (g := (mkF m 1 #[.val (.ref a1)] [(.ref a1)])) rfl rfl (hb hby dEvent_start_1)
  refine own_Goes.via st56 ?_
  show own_Goes _ _ _ _ _ _ _ (T56.setTop (mkF m 4 #[.val (.ref a1)] [(.long f_a1_start)]))
  obtain rfl : f_a1_start = r := Option.some.inj hF
  exact own_retJ X56 hx hret hlk (hb hby dEvent_start_4) e56 ⟨rfl, N, rfl⟩ (by decide) (by decide)
theorem ef_Event_start (m : MethodId) (x0 : Addr) : entryFrame m #[(.ref x0)] 1 = mkF m 0 #[.val (.ref x0)] [] := by first | (simp [entryFrame, mkF, argsToLocals, Value.category]; done) | rfl
set_option maxRecDepth 65536 in
set_option maxHeartbeats 4000000 in
theorem rm_Event_start (l : Launch) (Z : State) (a0 : Array Value) (hw : ∀ d ∈ tables_1, d.before a0 Z = true) (ws : List Jvm.Cond) (hE : Heap) (n0 : Nat) (z : n0 ≤ hE.size) (a1 : Addr) (f_a1_a : Int32) (f_a1_arrival : Int32) (f_a1_b : Int32) (f_a1_c : Int32) (f_a1_d : Int32) (f_a1_start : Int64) (E_a1 : Exa Z hE a1 "tidemark/bench/Event") (F_a1_a : Fld Z hE a1 "tidemark/bench/Event" "a" "I" (.int f_a1_a)) (F_a1_arrival : Fld Z hE a1 "tidemark/bench/Event" "arrival" "I" (.int f_a1_arrival)) (F_a1_b : Fld Z hE a1 "tidemark/bench/Event" "b" "I" (.int f_a1_b)) (F_a1_c : Fld Z hE a1 "tidemark/bench/Event" "c" "I" (.int f_a1_c)) (F_a1_d : Fld Z hE a1 "tidemark/bench/Event" "d" "I" (.int f_a1_d)) (F_a1_start : Fld Z hE a1 "tidemark/bench/Event" "start" "J" (.long f_a1_start)) (g_a1 : n0 ≤ a1) (r : Int64) (hF : (f_Event_start f_a1_a f_a1_arrival f_a1_b f_a1_c f_a1_d f_a1_start) = some r) :
    MetFree l (⟨"tidemark/bench/Event", "start", "()J"⟩ : MethodName) (head1 (Jvm.Cond.code (⟨"tidemark/bench/Event", "start", "()J"⟩ : MethodName) prog_71_method_5_code 1 (some .long) :: ws) ({ frames := 0, cells := 0, slots := 0, locals := 0 } : Room)) (fun a U => a = #[(.ref a1)] ∧ Z.Warmed39 U.vm ∧ U.heap = hE) (fun _ _ _ _ _ => True) (fun _ U o U' => ∃ v L, o = .returned v ∧ (Q_Event_start Z hE n0 a1 r) v U'.heap L ∧ FrameEnd U o U' L ({ frames := 0, cells := 0, slots := 0, locals := 0 } : Room).cells ({ frames := 0, cells := 0, slots := 0, locals := 0 } : Room).slots) := by
  refine MetFree.of_bodySF (plainFor_of_name pn_tidemark_bench_Event) hisR ?_
  intro p e s m args below meth c s₁ Bd hml0 hP hK
  obtain ⟨rfl, hZ, hh⟩ := hP
  have X0 : Stand p l e ({ frames := 0, cells := 0, slots := 0, locals := 0 } : Room) s m #[(.ref a1)] below meth c s₁ [] 0 0 := Stand.of_body Bd
  have e0 : s₁.heap = hE := by rw [← hh, Bd.state]; rfl
  have cx : Cx_Event_start p s m meth c Z a0 := ⟨Bd.exec, hZ, hw, Bd.bytes, hml0, findClass_of_methodNamed Bd.named, Bd.returns, Bd.notSynchronized, (name_of_methodNamed Bd.named Bd.method).1⟩
  show own_Goes p e below s (Q_Event_start Z hE n0 a1 r) ({ frames := 0, cells := 0, slots := 0, locals := 0 } : Room).cells ({ frames := 0, cells := 0, slots := 0, locals := 0 } : Room).slots (s₁.setTop (entryFrame m #[(.ref a1)] 1))
  rw [ef_Event_start]
  exact b_Event_start cx a1 X0 e0 (Fr.nil n0) z f_a1_a f_a1_arrival f_a1_b f_a1_c f_a1_d f_a1_start E_a1 F_a1_a F_a1_arrival F_a1_b F_a1_c F_a1_d F_a1_start g_a1 _ hF
/-! tidemark/bench/Event.arrival:()I -/
def f_Event_arrival (f_a1_a : Int32) (f_a1_arrival : Int32) (f_a1_b : Int32) (f_a1_c : Int32) (f_a1_d : Int32) (f_a1_start : Int64) : Option (Int32) :=
  some f_a1_arrival
def Q_Event_arrival (Z : State) (hE : Heap) (n0 : Nat) (a1 : Addr) (r : Int32) (v : Option Value) (h : Heap) (L : List Loc) : Prop := v = some (.int r) ∧ Fr n0 L ∧ h = hE
def Cx_Event_arrival (p : Program) (s : State) (m : MethodId) (meth : Method) (c : Code) (Z : State) (a0 : Array Value) : Prop := p.tables.exec = Jvm.exec ∧ Z.Warmed39 s.vm ∧ (∀ d ∈ tables_1, d.before a0 Z = true) ∧ c.code = prog_71_method_6_code ∧ c.maxLocals = 1 ∧ s.vm.findClass "tidemark/bench/Event" = some m.cls ∧ meth.sig.returnType = some .int ∧ meth.locks = false ∧ meth.name = "arrival"
set_option maxRecDepth 65536 in
set_option maxHeartbeats 4000000 in
theorem b_Event_arrival {p : Program} {l : Launch} {e : Env} {s : State} {m : MethodId} {args : Array Value} {below : List Frame} {meth : Method} {c : Code} {Z : State} {a0 : Array Value} {n0 : Nat} {hE : Heap} (cx : Cx_Event_arrival p s m meth c Z a0) (a1 : Addr) :
    ∀ {T : State} {locs : List Loc} (X : Stand p l e ({ frames := 0, cells := 0, slots := 0, locals := 0 } : Room) s m args below meth c T locs 0 0) (eT : T.heap = hE) (N : Fr n0 locs) (z : n0 ≤ hE.size) (f_a1_a : Int32) (f_a1_arrival : Int32) (f_a1_b : Int32) (f_a1_c : Int32) (f_a1_d : Int32) (f_a1_start : Int64) (E_a1 : Exa Z hE a1 "tidemark/bench/Event") (F_a1_a : Fld Z hE a1 "tidemark/bench/Event" "a" "I" (.int f_a1_a)) (F_a1_arrival : Fld Z hE a1 "tidemark/bench/Event" "arrival" "I" (.int f_a1_arrival)) (F_a1_b : Fld Z hE a1 "tidemark/bench/Event" "b" "I" (.int f_a1_b)) (F_a1_c : Fld Z hE a1 "tidemark/bench/Event" "c" "I" (.int f_a1_c)) (F_a1_d : Fld Z hE a1 "tidemark/bench/Event" "d" "I" (.int f_a1_d)) (F_a1_start : Fld Z hE a1 "tidemark/bench/Event" "start" "J" (.long f_a1_start)) (g_a1 : n0 ≤ a1) (r : Int32), f_Event_arrival f_a1_a f_a1_arrival f_a1_b f_a1_c f_a1_d f_a1_start = some r → own_Goes p e below s (Q_Event_arrival Z hE n0 a1 r) 0 0 (T.setTop (mkF m 0 #[.val (.ref a1)] [])) := by
  have cx' := cx
  obtain ⟨hx, hZ, hw, hby, hml, hown, hret, hlk, hnm⟩ := cx'
  intro T locs X eT N z f_a1_a f_a1_arrival f_a1_b f_a1_c f_a1_d f_a1_start E_a1 F_a1_a F_a1_arrival F_a1_b F_a1_c F_a1_d F_a1_start g_a1 r hF
  unfold f_Event_arrival at hF
  refine own_Goes.via (B := T.setTop (mkF m 1 #[.val (.ref a1)] [(.ref a1)])) (fun t k => ?_) ?_
  · show Steps p.tables e below (T.setTop (mkF m 0 #[.val (.ref a1)] [])) t
    refine XS.aloadN X.here hx rfl (hb hby dEvent_arrival_0) rfl rfl ?_
    exact k
  obtain ⟨T61, X61, e61, st61⟩ := getF X hx hZ hown (host := "") (Or.inl (w16 hw)) Via.refl eT F_a1_arrival (g := (mkF m 1 #[.val (.ref a1)] [(.ref a1)])) rfl rfl (hb hby dEvent_arrival_1)
  refine own_Goes.via st61 ?_
  show own_Goes _ _ _ _ _ _ _ (T61.setTop (mkF m 4 #[.val (.ref a1)] [(.int f_a1_arrival)]))
  obtain rfl : f_a1_arrival = r := Option.some.inj hF
  exact own_retI X61 hx hret hlk (hb hby dEvent_arrival_4) e61 ⟨rfl, N, rfl⟩ (by decide) (by decide)
theorem ef_Event_arrival (m : MethodId) (x0 : Addr) : entryFrame m #[(.ref x0)] 1 = mkF m 0 #[.val (.ref x0)] [] := by first | (simp [entryFrame, mkF, argsToLocals, Value.category]; done) | rfl
set_option maxRecDepth 65536 in
set_option maxHeartbeats 4000000 in
theorem rm_Event_arrival (l : Launch) (Z : State) (a0 : Array Value) (hw : ∀ d ∈ tables_1, d.before a0 Z = true) (ws : List Jvm.Cond) (hE : Heap) (n0 : Nat) (z : n0 ≤ hE.size) (a1 : Addr) (f_a1_a : Int32) (f_a1_arrival : Int32) (f_a1_b : Int32) (f_a1_c : Int32) (f_a1_d : Int32) (f_a1_start : Int64) (E_a1 : Exa Z hE a1 "tidemark/bench/Event") (F_a1_a : Fld Z hE a1 "tidemark/bench/Event" "a" "I" (.int f_a1_a)) (F_a1_arrival : Fld Z hE a1 "tidemark/bench/Event" "arrival" "I" (.int f_a1_arrival)) (F_a1_b : Fld Z hE a1 "tidemark/bench/Event" "b" "I" (.int f_a1_b)) (F_a1_c : Fld Z hE a1 "tidemark/bench/Event" "c" "I" (.int f_a1_c)) (F_a1_d : Fld Z hE a1 "tidemark/bench/Event" "d" "I" (.int f_a1_d)) (F_a1_start : Fld Z hE a1 "tidemark/bench/Event" "start" "J" (.long f_a1_start)) (g_a1 : n0 ≤ a1) (r : Int32) (hF : (f_Event_arrival f_a1_a f_a1_arrival f_a1_b f_a1_c f_a1_d f_a1_start) = some r) :
    MetFree l (⟨"tidemark/bench/Event", "arrival", "()I"⟩ : MethodName) (head1 (Jvm.Cond.code (⟨"tidemark/bench/Event", "arrival", "()I"⟩ : MethodName) prog_71_method_6_code 1 (some .int) :: ws) ({ frames := 0, cells := 0, slots := 0, locals := 0 } : Room)) (fun a U => a = #[(.ref a1)] ∧ Z.Warmed39 U.vm ∧ U.heap = hE) (fun _ _ _ _ _ => True) (fun _ U o U' => ∃ v L, o = .returned v ∧ (Q_Event_arrival Z hE n0 a1 r) v U'.heap L ∧ FrameEnd U o U' L ({ frames := 0, cells := 0, slots := 0, locals := 0 } : Room).cells ({ frames := 0, cells := 0, slots := 0, locals := 0 } : Room).slots) := by
  refine MetFree.of_bodySF (plainFor_of_name pn_tidemark_bench_Event) hisR ?_
  intro p e s m args below meth c s₁ Bd hml0 hP hK
  obtain ⟨rfl, hZ, hh⟩ := hP
  have X0 : Stand p l e ({ frames := 0, cells := 0, slots := 0, locals := 0 } : Room) s m #[(.ref a1)] below meth c s₁ [] 0 0 := Stand.of_body Bd
  have e0 : s₁.heap = hE := by rw [← hh, Bd.state]; rfl
  have cx : Cx_Event_arrival p s m meth c Z a0 := ⟨Bd.exec, hZ, hw, Bd.bytes, hml0, findClass_of_methodNamed Bd.named, Bd.returns, Bd.notSynchronized, (name_of_methodNamed Bd.named Bd.method).1⟩
  show own_Goes p e below s (Q_Event_arrival Z hE n0 a1 r) ({ frames := 0, cells := 0, slots := 0, locals := 0 } : Room).cells ({ frames := 0, cells := 0, slots := 0, locals := 0 } : Room).slots (s₁.setTop (entryFrame m #[(.ref a1)] 1))
  rw [ef_Event_arrival]
  exact b_Event_arrival cx a1 X0 e0 (Fr.nil n0) z f_a1_a f_a1_arrival f_a1_b f_a1_c f_a1_d f_a1_start E_a1 F_a1_a F_a1_arrival F_a1_b F_a1_c F_a1_d F_a1_start g_a1 _ hF
/-! tidemark/bench/Checksum.add:(JJ)V -/
def f_Checksum_add2 (v1 : Int64) (v3 : Int64) (f_a1_value : Int64) : Option (Int64) :=
  own_lt ((f_a1_value ^^^ ((v1 * (-7046029254386353131 : Int64)) + v3)) * (1099511628211 : Int64)) fun x74 =>
  some x74
def Q_Checksum_add2 (Z : State) (hE : Heap) (n0 : Nat) (a1 : Addr) (r : Int64) (v : Option Value) (h : Heap) (L : List Loc) : Prop := v = none ∧ Fr n0 L ∧ Keep hE h [a1] ∧ Exa Z h a1 "tidemark/bench/Checksum" ∧ Fld Z h a1 "tidemark/bench/Checksum" "value" "J" (.long r)
def Cx_Checksum_add2 (p : Program) (s : State) (m : MethodId) (meth : Method) (c : Code) (Z : State) (a0 : Array Value) : Prop := p.tables.exec = Jvm.exec ∧ Z.Warmed39 s.vm ∧ (∀ d ∈ tables_1, d.before a0 Z = true) ∧ c.code = prog_60_method_3_code ∧ c.maxLocals = 5 ∧ s.vm.findClass "tidemark/bench/Checksum" = some m.cls ∧ meth.sig.returnType = none ∧ meth.locks = false ∧ meth.name = "add"
set_option maxRecDepth 65536 in
set_option maxHeartbeats 4000000 in
theorem b_Checksum_add2 {p : Program} {l : Launch} {e : Env} {s : State} {m : MethodId} {args : Array Value} {below : List Frame} {meth : Method} {c : Code} {Z : State} {a0 : Array Value} {n0 : Nat} {hE : Heap} (cx : Cx_Checksum_add2 p s m meth c Z a0) (a1 : Addr) :
    ∀ {T : State} {locs : List Loc} {h : Heap} (X : Stand p l e ({ frames := 0, cells := 0, slots := 0, locals := 0 } : Room) s m args below meth c T locs 0 0) (eT : T.heap = h) (N : Fr n0 locs) (K : Keep hE h [a1]) (z : n0 ≤ h.size) (v1 : Int64) (v3 : Int64) (f_a1_value : Int64) (E_a1 : Exa Z h a1 "tidemark/bench/Checksum") (F_a1_value : Fld Z h a1 "tidemark/bench/Checksum" "value" "J" (.long f_a1_value)) (g_a1 : n0 ≤ a1) (r : Int64), f_Checksum_add2 v1 v3 f_a1_value = some r → own_Goes p e below s (Q_Checksum_add2 Z hE n0 a1 r) 0 0 (T.setTop (mkF m 0 #[.val (.ref a1), .val (.long v1), .second, .val (.long v3), .second] [])) := by
  have cx' := cx
  obtain ⟨hx, hZ, hw, hby, hml, hown, hret, hlk, hnm⟩ := cx'
  intro T locs h X eT N K z v1 v3 f_a1_value E_a1 F_a1_value g_a1 r hF
  unfold f_Checksum_add2 at hF
  refine own_Goes.via (B := T.setTop (mkF m 2 #[.val (.ref a1), .val (.long v1), .second, .val (.long v3), .second] [(.ref a1), (.ref a1)])) (fun t k => ?_) ?_
  · show Steps p.tables e below (T.setTop (mkF m 0 #[.val (.ref a1), .val (.long v1), .second, .val (.long v3), .second] [])) t
    refine XS.aloadN X.here hx rfl (hb hby dChecksum_add2_0) rfl rfl ?_
    show Steps p.tables e below (T.setTop (mkF m 1 #[.val (.ref a1), .val (.long v1), .second, .val (.long v3), .second] [(.ref a1)])) t
    refine XS.aloadN X.here hx rfl (hb hby dChecksum_add2_1) rfl rfl ?_
    exact k
  obtain ⟨T73, X73, e73, st73⟩ := getF X hx hZ hown (host := "") (Or.inl (w34 hw)) Via.refl eT F_a1_value (g := (mkF m 2 #[.val (.ref a1), .val (.long v1), .second, .val (.long v3), .second] [(.ref a1), (.ref a1)])) rfl rfl (hb hby dChecksum_add2_2)
  refine own_Goes.via st73 ?_
  show own_Goes _ _ _ _ _ _ _ (T73.setTop (mkF m 5 #[.val (.ref a1), .val (.long v1), .second, .val (.long v3), .second] [(.long f_a1_value), (.ref a1)]))
  refine own_Goes.via (B := T73.setTop (mkF m 17 #[.val (.ref a1), .val (.long v1), .second, .val (.long v3), .second] [(.long ((f_a1_value ^^^ ((v1 * (-7046029254386353131 : Int64)) + v3)) * (1099511628211 : Int64))), (.ref a1)])) (fun t k => ?_) ?_
  · show Steps p.tables e below (T73.setTop (mkF m 5 #[.val (.ref a1), .val (.long v1), .second, .val (.long v3), .second] [(.long f_a1_value), (.ref a1)])) t
    refine XS.lloadN X73.here hx rfl (hb hby dChecksum_add2_5) rfl ?_
    show Steps p.tables e below (T73.setTop (mkF m 6 #[.val (.ref a1), .val (.long v1), .second, .val (.long v3), .second] [(.long v1), (.long f_a1_value), (.ref a1)])) t
    refine X73.ldc2Long hx hown (mvT hZ (w56 hw)) (g := (mkF m 6 #[.val (.ref a1), .val (.long v1), .second, .val (.long v3), .second] [(.long v1), (.long f_a1_value), (.ref a1)])) rfl (hb hby dChecksum_add2_6) _ ?_
    show Steps p.tables e below (T73.setTop (mkF m 9 #[.val (.ref a1), .val (.long v1), .second, .val (.long v3), .second] [(.long (-7046029254386353131 : Int64)), (.long v1), (.long f_a1_value), (.ref a1)])) t
    refine XS.lmul X73.here hx rfl (hb hby dChecksum_add2_9) rfl ?_
    show Steps p.tables e below (T73.setTop (mkF m 10 #[.val (.ref a1), .val (.long v1), .second, .val (.long v3), .second] [(.long (v1 * (-7046029254386353131 : Int64))), (.long f_a1_value), (.ref a1)])) t
    refine XS.lloadN X73.here hx rfl (hb hby dChecksum_add2_10) rfl ?_
    show Steps p.tables e below (T73.setTop (mkF m 11 #[.val (.ref a1), .val (.long v1), .second, .val (.long v3), .second] [(.long v3), (.long (v1 * (-7046029254386353131 : Int64))), (.long f_a1_value), (.ref a1)])) t
    refine XS.ladd X73.here hx rfl (hb hby dChecksum_add2_11) rfl ?_
    show Steps p.tables e below (T73.setTop (mkF m 12 #[.val (.ref a1), .val (.long v1), .second, .val (.long v3), .second] [(.long ((v1 * (-7046029254386353131 : Int64)) + v3)), (.long f_a1_value), (.ref a1)])) t
    refine XS.lxor X73.here hx rfl (hb hby dChecksum_add2_12) rfl ?_
    show Steps p.tables e below (T73.setTop (mkF m 13 #[.val (.ref a1), .val (.long v1), .second, .val (.long v3), .second] [(.long (f_a1_value ^^^ ((v1 * (-7046029254386353131 : Int64)) + v3))), (.ref a1)])) t
    refine X73.ldc2Long hx hown (mvT hZ (w57 hw)) (g := (mkF m 13 #[.val (.ref a1), .val (.long v1), .second, .val (.long v3), .second] [(.long (f_a1_value ^^^ ((v1 * (-7046029254386353131 : Int64)) + v3))), (.ref a1)])) rfl (hb hby dChecksum_add2_13) _ ?_
    show Steps p.tables e below (T73.setTop (mkF m 16 #[.val (.ref a1), .val (.long v1), .second, .val (.long v3), .second] [(.long (1099511628211 : Int64)), (.long (f_a1_value ^^^ ((v1 * (-7046029254386353131 : Int64)) + v3))), (.ref a1)])) t
    refine XS.lmul X73.here hx rfl (hb hby dChecksum_add2_16) rfl ?_
    exact k
  obtain ⟨x74, hx74, hF⟩ := own_lt_e hF
  rw [← hx74]
  obtain ⟨T75, h75, X75, e75, W75, st75⟩ := putF X73 hx hZ hown (host := "") (Or.inl (w34 hw)) Via.refl e73 F_a1_value E_a1 (Or.inl (w35 hw)) (w27 hw) (ty := .long) (by decide) rfl rfl (g := (mkF m 17 #[.val (.ref a1), .val (.long v1), .second, .val (.long v3), .second] [(.long x74), (.ref a1)])) rfl rfl (hb hby dChecksum_add2_17)
  refine own_Goes.via st75 ?_
  have E75_a1 := E_a1.wr W75
  have F75_a1_value := F_a1_value.same W75
  have z75 := Nat.le_trans z (Keep.of_wr W75).1
  have K75_ := K.wr W75 (Or.inl (List.mem_of_getElem? (i := 0) rfl))
  have N75 := Fr.snoc X75 N g_a1
  show own_Goes _ _ _ _ _ _ _ (T75.setTop (mkF m 20 #[.val (.ref a1), .val (.long v1), .second, .val (.long v3), .second] []))
  obtain rfl : x74 = r := Option.some.inj hF
  exact own_retV X75 hx hret hlk (hb hby dChecksum_add2_20) e75 ⟨rfl, N75, K75_, E75_a1, F75_a1_value⟩ (by decide) (by decide)
theorem ef_Checksum_add2 (m : MethodId) (x0 : Addr) (x1 : Int64) (x2 : Int64) : entryFrame m #[(.ref x0), (.long x1), (.long x2)] 5 = mkF m 0 #[.val (.ref x0), .val (.long x1), .second, .val (.long x2), .second] [] := by first | (simp [entryFrame, mkF, argsToLocals, Value.category]; done) | rfl
set_option maxRecDepth 65536 in
set_option maxHeartbeats 4000000 in
theorem rm_Checksum_add2 (l : Launch) (Z : State) (a0 : Array Value) (hw : ∀ d ∈ tables_1, d.before a0 Z = true) (ws : List Jvm.Cond) (hE : Heap) (n0 : Nat) (z : n0 ≤ hE.size) (a1 : Addr) (v1 : Int64) (v3 : Int64) (f_a1_value : Int64) (E_a1 : Exa Z hE a1 "tidemark/bench/Checksum") (F_a1_value : Fld Z hE a1 "tidemark/bench/Checksum" "value" "J" (.long f_a1_value)) (g_a1 : n0 ≤ a1) (r : Int64) (hF : (f_Checksum_add2 v1 v3 f_a1_value) = some r) :
    MetFree l (⟨"tidemark/bench/Checksum", "add", "(JJ)V"⟩ : MethodName) (head1 (Jvm.Cond.code (⟨"tidemark/bench/Checksum", "add", "(JJ)V"⟩ : MethodName) prog_60_method_3_code 5 none :: ws) ({ frames := 0, cells := 0, slots := 0, locals := 0 } : Room)) (fun a U => a = #[(.ref a1), (.long v1), (.long v3)] ∧ Z.Warmed39 U.vm ∧ U.heap = hE) (fun _ _ _ _ _ => True) (fun _ U o U' => ∃ v L, o = .returned v ∧ (Q_Checksum_add2 Z hE n0 a1 r) v U'.heap L ∧ FrameEnd U o U' L ({ frames := 0, cells := 0, slots := 0, locals := 0 } : Room).cells ({ frames := 0, cells := 0, slots := 0, locals := 0 } : Room).slots) := by
  refine MetFree.of_bodySF (plainFor_of_name pn_tidemark_bench_Checksum) hisR ?_
  intro p e s m args below meth c s₁ Bd hml0 hP hK
  obtain ⟨rfl, hZ, hh⟩ := hP
  have X0 : Stand p l e ({ frames := 0, cells := 0, slots := 0, locals := 0 } : Room) s m #[(.ref a1), (.long v1), (.long v3)] below meth c s₁ [] 0 0 := Stand.of_body Bd
  have e0 : s₁.heap = hE := by rw [← hh, Bd.state]; rfl
  have cx : Cx_Checksum_add2 p s m meth c Z a0 := ⟨Bd.exec, hZ, hw, Bd.bytes, hml0, findClass_of_methodNamed Bd.named, Bd.returns, Bd.notSynchronized, (name_of_methodNamed Bd.named Bd.method).1⟩
  show own_Goes p e below s (Q_Checksum_add2 Z hE n0 a1 r) ({ frames := 0, cells := 0, slots := 0, locals := 0 } : Room).cells ({ frames := 0, cells := 0, slots := 0, locals := 0 } : Room).slots (s₁.setTop (entryFrame m #[(.ref a1), (.long v1), (.long v3)] 5))
  rw [ef_Checksum_add2]
  exact b_Checksum_add2 cx a1 X0 e0 (Fr.nil n0) (Keep.refl _ _) z v1 v3 f_a1_value E_a1 F_a1_value g_a1 _ hF
/-! tidemark/bench/Checksum.add:(Ltidemark/bench/Event;)V -/
def f_Checksum_add (f_a1_value : Int64) (f_a2_a : Int32) (f_a2_arrival : Int32) (f_a2_b : Int32) (f_a2_c : Int32) (f_a2_d : Int32) (f_a2_start : Int64) : Option (Int64) :=
  own_bd (f_Event_start f_a2_a f_a2_arrival f_a2_b f_a2_c f_a2_d f_a2_start) fun r85 =>
  own_bd (f_Event_arrival f_a2_a f_a2_arrival f_a2_b f_a2_c f_a2_d f_a2_start) fun r86 =>
  own_lt (r86.toInt64) fun x87 =>
  own_bd (f_Checksum_add2 r85 x87 f_a1_value) fun r88 =>
  some r88
def Q_Checksum_add (Z : State) (hE : Heap) (n0 : Nat) (a1 : Addr) (a2 : Addr) (r : Int64) (v : Option Value) (h : Heap) (L : List Loc) : Prop := v = none ∧ Fr n0 L ∧ Keep hE h [a1] ∧ Exa Z h a1 "tidemark/bench/Checksum" ∧ Fld Z h a1 "tidemark/bench/Checksum" "value" "J" (.long r)
def Cx_Checksum_add (p : Program) (s : State) (m : MethodId) (meth : Method) (c : Code) (Z : State) (a0 : Array Value) : Prop := p.tables.exec = Jvm.exec ∧ Z.Warmed39 s.vm ∧ (∀ d ∈ tables_1, d.before a0 Z = true) ∧ c.code = prog_60_method_2_code ∧ c.maxLocals = 2 ∧ s.vm.findClass "tidemark/bench/Checksum" = some m.cls ∧ meth.sig.returnType = none ∧ meth.locks = false ∧ meth.name = "add"
set_option maxRecDepth 65536 in
set_option maxHeartbeats 4000000 in
theorem b_Checksum_add {p : Program} {l : Launch} {e : Env} {s : State} {m : MethodId} {args : Array Value} {below : List Frame} {meth : Method} {c : Code} {Z : State} {a0 : Array Value} {n0 : Nat} {hE : Heap} (cx : Cx_Checksum_add p s m meth c Z a0) (a1 : Addr) (a2 : Addr) :
    ∀ {T : State} {locs : List Loc} {h : Heap} (X : Stand p l e ({ frames := 1, cells := 0, slots := 0, locals := 16 } : Room) s m args below meth c T locs 0 0) (eT : T.heap = h) (N : Fr n0 locs) (K : Keep hE h [a1]) (z : n0 ≤ h.size) (f_a1_value : Int64) (f_a2_a : Int32) (f_a2_arrival : Int32) (f_a2_b : Int32) (f_a2_c : Int32) (f_a2_d : Int32) (f_a2_start : Int64) (E_a1 : Exa Z h a1 "tidemark/bench/Checksum") (F_a1_value : Fld Z h a1 "tidemark/bench/Checksum" "value" "J" (.long f_a1_value)) (g_a1 : n0 ≤ a1) (E_a2 : Exa Z h a2 "tidemark/bench/Event") (F_a2_a : Fld Z h a2 "tidemark/bench/Event" "a" "I" (.int f_a2_a)) (F_a2_arrival : Fld Z h a2 "tidemark/bench/Event" "arrival" "I" (.int f_a2_arrival)) (F_a2_b : Fld Z h a2 "tidemark/bench/Event" "b" "I" (.int f_a2_b)) (F_a2_c : Fld Z h a2 "tidemark/bench/Event" "c" "I" (.int f_a2_c)) (F_a2_d : Fld Z h a2 "tidemark/bench/Event" "d" "I" (.int f_a2_d)) (F_a2_start : Fld Z h a2 "tidemark/bench/Event" "start" "J" (.long f_a2_start)) (g_a2 : n0 ≤ a2) (ne_a1_a2 : a1 ≠ a2) (r : Int64), f_Checksum_add f_a1_value f_a2_a f_a2_arrival f_a2_b f_a2_c f_a2_d f_a2_start = some r → own_Goes p e below s (Q_Checksum_add Z hE n0 a1 a2 r) 0 0 (T.setTop (mkF m 0 #[.val (.ref a1), .val (.ref a2)] [])) := by
  have cx' := cx
  obtain ⟨hx, hZ, hw, hby, hml, hown, hret, hlk, hnm⟩ := cx'
  intro T locs h X eT N K z f_a1_value f_a2_a f_a2_arrival f_a2_b f_a2_c f_a2_d f_a2_start E_a1 F_a1_value g_a1 E_a2 F_a2_a F_a2_arrival F_a2_b F_a2_c F_a2_d F_a2_start g_a2 ne_a1_a2 r hF
  unfold f_Checksum_add at hF
  refine own_Goes.via (B := T.setTop (mkF m 2 #[.val (.ref a1), .val (.ref a2)] [(.ref a2), (.ref a1)])) (fun t k => ?_) ?_
  · show Steps p.tables e below (T.setTop (mkF m 0 #[.val (.ref a1), .val (.ref a2)] [])) t
    refine XS.aloadN X.here hx rfl (hb hby dChecksum_add_0) rfl rfl ?_
    show Steps p.tables e below (T.setTop (mkF m 1 #[.val (.ref a1), .val (.ref a2)] [(.ref a1)])) t
    refine XS.aloadN X.here hx rfl (hb hby dChecksum_add_1) rfl rfl ?_
    exact k
  obtain ⟨r85, hr85, hF⟩ := own_bd_e hF
  obtain ⟨cq85, kq85, q85a, q85b, q85c⟩ := isOf hZ eT E_a2
  obtain ⟨_, _, ⟨T85, L85, k85, n85⟩, -, X85, ⟨Lc85, hQ85, l85, y85, z85⟩, st85⟩ := X.virtualBack hx (y := (⟨"tidemark/bench/Event", "start", "()J"⟩ : MethodName)) (z := (⟨"tidemark/bench/Event", "start", "()J"⟩ : MethodName)) hown (mvT hZ (w41 hw)) (mvT hZ (w42 hw)) (notFace_of_selects (args := #[]) (mvT hZ (w44 hw))) (mvT hZ (w44 hw)) (mvT hZ (w43 hw)) (by decide) (backOf (W := 1) (rm_Event_start l Z a0 hw [] h n0 z a2 f_a2_a f_a2_arrival f_a2_b f_a2_c f_a2_d f_a2_start E_a2 F_a2_a F_a2_arrival F_a2_b F_a2_c F_a2_d F_a2_start g_a2 r85 hr85) hZ (w45 hw) (w2 hw) (by decide) (by decide)) q85a q85c (g := (mkF m 2 #[.val (.ref a1), .val (.ref a2)] [(.ref a2), (.ref a1)])) rfl (by rw [hml]; rfl) (Steps.refl _) (argsL := []) (rest := [(.ref a1)]) (lenOf pd_2 rfl) rfl (by show 2 * 0 + _ ≤ _; exact Nat.le_of_eq rfl) (hb hby dChecksum_add_2) (fun _ _ => ⟨rfl, eT, (by decide : 0 + 0 ≤ _), (by decide : 0 + 0 ≤ _)⟩)
  dsimp only [Pt.U, Pt.locs, Pt.cells, Pt.slots] at X85 l85 y85 z85 st85 hQ85
  subst l85 y85 z85
  obtain ⟨rfl, N85q, e85⟩ := hQ85
  have N85 := Fr.app N N85q
  refine own_Goes.tr st85 ?_
  show own_Goes _ _ _ _ _ _ _ (T85.setTop (mkF m 5 #[.val (.ref a1), .val (.ref a2)] [(.long r85), (.ref a1)]))
  refine own_Goes.via (B := T85.setTop (mkF m 6 #[.val (.ref a1), .val (.ref a2)] [(.ref a2), (.long r85), (.ref a1)])) (fun t k => ?_) ?_
  · show Steps p.tables e below (T85.setTop (mkF m 5 #[.val (.ref a1), .val (.ref a2)] [(.long r85), (.ref a1)])) t
    refine XS.aloadN X85.here hx rfl (hb hby dChecksum_add_5) rfl rfl ?_
    exact k
  obtain ⟨r86, hr86, hF⟩ := own_bd_e hF
  obtain ⟨cq86, kq86, q86a, q86b, q86c⟩ := isOf hZ e85 E_a2
  obtain ⟨_, _, ⟨T86, L86, k86, n86⟩, -, X86, ⟨Lc86, hQ86, l86, y86, z86⟩, st86⟩ := X85.virtualBack hx (y := (⟨"tidemark/bench/Event", "arrival", "()I"⟩ : MethodName)) (z := (⟨"tidemark/bench/Event", "arrival", "()I"⟩ : MethodName)) hown (mvT hZ (w46 hw)) (mvT hZ (w47 hw)) (notFace_of_selects (args := #[]) (mvT hZ (w49 hw))) (mvT hZ (w49 hw)) (mvT hZ (w48 hw)) (by decide) (backOf (W := 3) (rm_Event_arrival l Z a0 hw [] h n0 z a2 f_a2_a f_a2_arrival f_a2_b f_a2_c f_a2_d f_a2_start E_a2 F_a2_a F_a2_arrival F_a2_b F_a2_c F_a2_d F_a2_start g_a2 r86 hr86) hZ (w50 hw) (w2 hw) (by decide) (by decide)) q86a q86c (g := (mkF m 6 #[.val (.ref a1), .val (.ref a2)] [(.ref a2), (.long r85), (.ref a1)])) rfl (by rw [hml]; rfl) (Steps.refl _) (argsL := []) (rest := [(.long r85), (.ref a1)]) (lenOf pd_3 rfl) rfl (by show 2 * 0 + _ ≤ _; exact Nat.le_of_eq rfl) (hb hby dChecksum_add_6) (fun _ _ => ⟨rfl, e85, (by decide : 0 + 0 ≤ _), (by decide : 0 + 0 ≤ _)⟩)
  dsimp only [Pt.U, Pt.locs, Pt.cells, Pt.slots] at X86 l86 y86 z86 st86 hQ86
  subst l86 y86 z86
  obtain ⟨rfl, N86q, e86⟩ := hQ86
  have N86 := Fr.app N85 N86q
  refine own_Goes.tr st86 ?_
  show own_Goes _ _ _ _ _ _ _ (T86.setTop (mkF m 9 #[.val (.ref a1), .val (.ref a2)] [(.int r86), (.long r85), (.ref a1)]))
  refine own_Goes.via (B := T86.setTop (mkF m 10 #[.val (.ref a1), .val (.ref a2)] [(.long (r86.toInt64)), (.long r85), (.ref a1)])) (fun t k => ?_) ?_
  · show Steps p.tables e below (T86.setTop (mkF m 9 #[.val (.ref a1), .val (.ref a2)] [(.int r86), (.long r85), (.ref a1)])) t
    refine XS.i2l X86.here hx rfl (hb hby dChecksum_add_9) rfl ?_
    exact k
  obtain ⟨x87, hx87, hF⟩ := own_lt_e hF
  rw [← hx87]
  obtain ⟨r88, hr88, hF⟩ := own_bd_e hF
  obtain ⟨cq88, kq88, q88a, q88b, q88c⟩ := isOf hZ e86 E_a1
  obtain ⟨_, _, ⟨T88, L88, k88, n88⟩, -, X88, ⟨Lc88, hQ88, l88, y88, z88⟩, st88⟩ := X86.virtualBack hx (y := (⟨"tidemark/bench/Checksum", "add", "(JJ)V"⟩ : MethodName)) (z := (⟨"tidemark/bench/Checksum", "add", "(JJ)V"⟩ : MethodName)) hown (mvT hZ (w51 hw)) (mvT hZ (w52 hw)) (notFace_of_selects (args := #[]) (mvT hZ (w54 hw))) (mvT hZ (w54 hw)) (mvT hZ (w53 hw)) (by decide) (backOf (W := 0) (rm_Checksum_add2 l Z a0 hw [] h n0 z a1 r85 x87 f_a1_value E_a1 F_a1_value g_a1 r88 hr88) hZ (w55 hw) (w28 hw) (by decide) (by decide)) q88a q88c (g := (mkF m 10 #[.val (.ref a1), .val (.ref a2)] [(.long x87), (.long r85), (.ref a1)])) rfl (by rw [hml]; rfl) (Steps.refl _) (argsL := [(.long r85), (.long x87)]) (rest := []) (lenOf pd_4 rfl) rfl (by show 2 * 0 + _ ≤ _; exact Nat.le_of_eq rfl) (hb hby dChecksum_add_10) (fun _ _ => ⟨rfl, e86, (by decide : 0 + 0 ≤ _), (by decide : 0 + 0 ≤ _)⟩)
  dsimp only [Pt.U, Pt.locs, Pt.cells, Pt.slots] at X88 l88 y88 z88 st88 hQ88
  subst l88 y88 z88
  obtain ⟨rfl, N88q, K88, E88_a1, F88_a1_value⟩ := hQ88
  have N88 := Fr.app N86 N88q
  have E88_a2 := E_a2.keep K88
  have F88_a2_a := F_a2_a.keep K88 (ninS (Ne.symm ne_a1_a2) nin0)
  have F88_a2_arrival := F_a2_arrival.keep K88 (ninS (Ne.symm ne_a1_a2) nin0)
  have F88_a2_b := F_a2_b.keep K88 (ninS (Ne.symm ne_a1_a2) nin0)
  have F88_a2_c := F_a2_c.keep K88 (ninS (Ne.symm ne_a1_a2) nin0)
  have F88_a2_d := F_a2_d.keep K88 (ninS (Ne.symm ne_a1_a2) nin0)
  have F88_a2_start := F_a2_start.keep K88 (ninS (Ne.symm ne_a1_a2) nin0)
  have K88_ := K.trans K88 (allS (Or.inl (List.mem_of_getElem? (i := 0) rfl)) all0)
  have z88_ := Nat.le_trans z K88.1
  refine own_Goes.tr st88 ?_
  show own_Goes _ _ _ _ _ _ _ (T88.setTop (mkF m 13 #[.val (.ref a1), .val (.ref a2)] []))
  obtain rfl : r88 = r := Option.some.inj hF
  exact own_retV X88 hx hret hlk (hb hby dChecksum_add_13) rfl ⟨rfl, N88, K88_, E88_a1, F88_a1_value⟩ (by decide) (by decide)
theorem ef_Checksum_add (m : MethodId) (x0 : Addr) (x1 : Addr) : entryFrame m #[(.ref x0), (.ref x1)] 2 = mkF m 0 #[.val (.ref x0), .val (.ref x1)] [] := by first | (simp [entryFrame, mkF, argsToLocals, Value.category]; done) | rfl
set_option maxRecDepth 65536 in
set_option maxHeartbeats 4000000 in
theorem rm_Checksum_add (l : Launch) (Z : State) (a0 : Array Value) (hw : ∀ d ∈ tables_1, d.before a0 Z = true) (ws : List Jvm.Cond) (hE : Heap) (n0 : Nat) (z : n0 ≤ hE.size) (a1 : Addr) (a2 : Addr) (f_a1_value : Int64) (f_a2_a : Int32) (f_a2_arrival : Int32) (f_a2_b : Int32) (f_a2_c : Int32) (f_a2_d : Int32) (f_a2_start : Int64) (E_a1 : Exa Z hE a1 "tidemark/bench/Checksum") (F_a1_value : Fld Z hE a1 "tidemark/bench/Checksum" "value" "J" (.long f_a1_value)) (g_a1 : n0 ≤ a1) (E_a2 : Exa Z hE a2 "tidemark/bench/Event") (F_a2_a : Fld Z hE a2 "tidemark/bench/Event" "a" "I" (.int f_a2_a)) (F_a2_arrival : Fld Z hE a2 "tidemark/bench/Event" "arrival" "I" (.int f_a2_arrival)) (F_a2_b : Fld Z hE a2 "tidemark/bench/Event" "b" "I" (.int f_a2_b)) (F_a2_c : Fld Z hE a2 "tidemark/bench/Event" "c" "I" (.int f_a2_c)) (F_a2_d : Fld Z hE a2 "tidemark/bench/Event" "d" "I" (.int f_a2_d)) (F_a2_start : Fld Z hE a2 "tidemark/bench/Event" "start" "J" (.long f_a2_start)) (g_a2 : n0 ≤ a2) (ne_a1_a2 : a1 ≠ a2) (r : Int64) (hF : (f_Checksum_add f_a1_value f_a2_a f_a2_arrival f_a2_b f_a2_c f_a2_d f_a2_start) = some r) :
    MetFree l (⟨"tidemark/bench/Checksum", "add", "(Ltidemark/bench/Event;)V"⟩ : MethodName) (head1 (Jvm.Cond.code (⟨"tidemark/bench/Checksum", "add", "(Ltidemark/bench/Event;)V"⟩ : MethodName) prog_60_method_2_code 2 none :: ws) ({ frames := 1, cells := 0, slots := 0, locals := 16 } : Room)) (fun a U => a = #[(.ref a1), (.ref a2)] ∧ Z.Warmed39 U.vm ∧ U.heap = hE) (fun _ _ _ _ _ => True) (fun _ U o U' => ∃ v L, o = .returned v ∧ (Q_Checksum_add Z hE n0 a1 a2 r) v U'.heap L ∧ FrameEnd U o U' L ({ frames := 1, cells := 0, slots := 0, locals := 16 } : Room).cells ({ frames := 1, cells := 0, slots := 0, locals := 16 } : Room).slots) := by
  refine MetFree.of_bodySF (plainFor_of_name pn_tidemark_bench_Checksum) hisR ?_
  intro p e s m args below meth c s₁ Bd hml0 hP hK
  obtain ⟨rfl, hZ, hh⟩ := hP
  have X0 : Stand p l e ({ frames := 1, cells := 0, slots := 0, locals := 16 } : Room) s m #[(.ref a1), (.ref a2)] below meth c s₁ [] 0 0 := Stand.of_body Bd
  have e0 : s₁.heap = hE := by rw [← hh, Bd.state]; rfl
  have cx : Cx_Checksum_add p s m meth c Z a0 := ⟨Bd.exec, hZ, hw, Bd.bytes, hml0, findClass_of_methodNamed Bd.named, Bd.returns, Bd.notSynchronized, (name_of_methodNamed Bd.named Bd.method).1⟩
  show own_Goes p e below s (Q_Checksum_add Z hE n0 a1 a2 r) ({ frames := 1, cells := 0, slots := 0, locals := 16 } : Room).cells ({ frames := 1, cells := 0, slots := 0, locals := 16 } : Room).slots (s₁.setTop (entryFrame m #[(.ref a1), (.ref a2)] 2))
  rw [ef_Checksum_add]
  exact b_Checksum_add cx a1 a2 X0 e0 (Fr.nil n0) (Keep.refl _ _) z f_a1_value f_a2_a f_a2_arrival f_a2_b f_a2_c f_a2_d f_a2_start E_a1 F_a1_value g_a1 E_a2 F_a2_a F_a2_arrival F_a2_b F_a2_c F_a2_d F_a2_start g_a2 ne_a1_a2 _ hF
/-! tidemark/bench/Checksum.value:()J -/
def f_Checksum_value (f_a1_value : Int64) : Option (Int64) :=
  some f_a1_value
def Q_Checksum_value (Z : State) (hE : Heap) (n0 : Nat) (a1 : Addr) (r : Int64) (v : Option Value) (h : Heap) (L : List Loc) : Prop := v = some (.long r) ∧ Fr n0 L ∧ h = hE
def Cx_Checksum_value (p : Program) (s : State) (m : MethodId) (meth : Method) (c : Code) (Z : State) (a0 : Array Value) : Prop := p.tables.exec = Jvm.exec ∧ Z.Warmed39 s.vm ∧ (∀ d ∈ tables_1, d.before a0 Z = true) ∧ c.code = prog_60_method_5_code ∧ c.maxLocals = 1 ∧ s.vm.findClass "tidemark/bench/Checksum" = some m.cls ∧ meth.sig.returnType = some .long ∧ meth.locks = false ∧ meth.name = "value"
set_option maxRecDepth 65536 in
set_option maxHeartbeats 4000000 in
theorem b_Checksum_value {p : Program} {l : Launch} {e : Env} {s : State} {m : MethodId} {args : Array Value} {below : List Frame} {meth : Method} {c : Code} {Z : State} {a0 : Array Value} {n0 : Nat} {hE : Heap} (cx : Cx_Checksum_value p s m meth c Z a0) (a1 : Addr) :
    ∀ {T : State} {locs : List Loc} (X : Stand p l e ({ frames := 0, cells := 0, slots := 0, locals := 0 } : Room) s m args below meth c T locs 0 0) (eT : T.heap = hE) (N : Fr n0 locs) (z : n0 ≤ hE.size) (f_a1_value : Int64) (E_a1 : Exa Z hE a1 "tidemark/bench/Checksum") (F_a1_value : Fld Z hE a1 "tidemark/bench/Checksum" "value" "J" (.long f_a1_value)) (g_a1 : n0 ≤ a1) (r : Int64), f_Checksum_value f_a1_value = some r → own_Goes p e below s (Q_Checksum_value Z hE n0 a1 r) 0 0 (T.setTop (mkF m 0 #[.val (.ref a1)] [])) := by
  have cx' := cx
  obtain ⟨hx, hZ, hw, hby, hml, hown, hret, hlk, hnm⟩ := cx'
  intro T locs X eT N z f_a1_value E_a1 F_a1_value g_a1 r hF
  unfold f_Checksum_value at hF
  refine own_Goes.via (B := T.setTop (mkF m 1 #[.val (.ref a1)] [(.ref a1)])) (fun t k => ?_) ?_
  · show Steps p.tables e below (T.setTop (mkF m 0 #[.val (.ref a1)] [])) t
    refine XS.aloadN X.here hx rfl (hb hby dChecksum_value_0) rfl rfl ?_
    exact k
  obtain ⟨T98, X98, e98, st98⟩ := getF X hx hZ hown (host := "") (Or.inl (w34 hw)) Via.refl eT F_a1_value (g := (mkF m 1 #[.val (.ref a1)] [(.ref a1)])) rfl rfl (hb hby dChecksum_value_1)
  refine own_Goes.via st98 ?_
  show own_Goes _ _ _ _ _ _ _ (T98.setTop (mkF m 4 #[.val (.ref a1)] [(.long f_a1_value)]))
  obtain rfl : f_a1_value = r := Option.some.inj hF
  exact own_retJ X98 hx hret hlk (hb hby dChecksum_value_4) e98 ⟨rfl, N, rfl⟩ (by decide) (by decide)
theorem ef_Checksum_value (m : MethodId) (x0 : Addr) : entryFrame m #[(.ref x0)] 1 = mkF m 0 #[.val (.ref x0)] [] := by first | (simp [entryFrame, mkF, argsToLocals, Value.category]; done) | rfl
set_option maxRecDepth 65536 in
set_option maxHeartbeats 4000000 in
theorem rm_Checksum_value (l : Launch) (Z : State) (a0 : Array Value) (hw : ∀ d ∈ tables_1, d.before a0 Z = true) (ws : List Jvm.Cond) (hE : Heap) (n0 : Nat) (z : n0 ≤ hE.size) (a1 : Addr) (f_a1_value : Int64) (E_a1 : Exa Z hE a1 "tidemark/bench/Checksum") (F_a1_value : Fld Z hE a1 "tidemark/bench/Checksum" "value" "J" (.long f_a1_value)) (g_a1 : n0 ≤ a1) (r : Int64) (hF : (f_Checksum_value f_a1_value) = some r) :
    MetFree l (⟨"tidemark/bench/Checksum", "value", "()J"⟩ : MethodName) (head1 (Jvm.Cond.code (⟨"tidemark/bench/Checksum", "value", "()J"⟩ : MethodName) prog_60_method_5_code 1 (some .long) :: ws) ({ frames := 0, cells := 0, slots := 0, locals := 0 } : Room)) (fun a U => a = #[(.ref a1)] ∧ Z.Warmed39 U.vm ∧ U.heap = hE) (fun _ _ _ _ _ => True) (fun _ U o U' => ∃ v L, o = .returned v ∧ (Q_Checksum_value Z hE n0 a1 r) v U'.heap L ∧ FrameEnd U o U' L ({ frames := 0, cells := 0, slots := 0, locals := 0 } : Room).cells ({ frames := 0, cells := 0, slots := 0, locals := 0 } : Room).slots) := by
  refine MetFree.of_bodySF (plainFor_of_name pn_tidemark_bench_Checksum) hisR ?_
  intro p e s m args below meth c s₁ Bd hml0 hP hK
  obtain ⟨rfl, hZ, hh⟩ := hP
  have X0 : Stand p l e ({ frames := 0, cells := 0, slots := 0, locals := 0 } : Room) s m #[(.ref a1)] below meth c s₁ [] 0 0 := Stand.of_body Bd
  have e0 : s₁.heap = hE := by rw [← hh, Bd.state]; rfl
  have cx : Cx_Checksum_value p s m meth c Z a0 := ⟨Bd.exec, hZ, hw, Bd.bytes, hml0, findClass_of_methodNamed Bd.named, Bd.returns, Bd.notSynchronized, (name_of_methodNamed Bd.named Bd.method).1⟩
  show own_Goes p e below s (Q_Checksum_value Z hE n0 a1 r) ({ frames := 0, cells := 0, slots := 0, locals := 0 } : Room).cells ({ frames := 0, cells := 0, slots := 0, locals := 0 } : Room).slots (s₁.setTop (entryFrame m #[(.ref a1)] 1))
  rw [ef_Checksum_value]
  exact b_Checksum_value cx a1 X0 e0 (Fr.nil n0) z f_a1_value E_a1 F_a1_value g_a1 _ hF
/-! tidemark/bench/ChecksumAddPinLaw.law:(JIJIII)Z -/
def f_law (v0 : Int64) (v2 : Int32) (v3 : Int64) (v5 : Int32) (v6 : Int32) (v7 : Int32) : Option (Int32) :=
  own_lt (v6 ^^^ (-1 : Int32)) fun x142 =>
  own_lt (v6 ^^^ v7) fun x143 =>
  own_bd (f_Event_mk v0 v2 v6 v7 x143 x142 (0 : Int32) (0 : Int32) (0 : Int32) (0 : Int32) (0 : Int32) (0 : Int64)) fun r144 =>
  own_lt (v6 + v7) fun x146 =>
  own_lt (v7 ^^^ (-1 : Int32)) fun x147 =>
  own_bd (f_Event_mk v3 v5 v7 v6 x147 x146 (0 : Int32) (0 : Int32) (0 : Int32) (0 : Int32) (0 : Int32) (0 : Int64)) fun r148 =>
  own_bd (f_Checksum_mk (0 : Int64)) fun r150 =>
  own_bd (f_Checksum_mk (0 : Int64)) fun r152 =>
  own_bd (f_Checksum_add r150 r144.1 r144.2.1 r144.2.2.1 r144.2.2.2.1 r144.2.2.2.2.1 r144.2.2.2.2.2) fun r153 =>
  own_bd (f_Checksum_add r153 r148.1 r148.2.1 r148.2.2.1 r148.2.2.2.1 r148.2.2.2.2.1 r148.2.2.2.2.2) fun r154 =>
  own_lt (v2.toInt64) fun x155 =>
  own_bd (f_Checksum_add2 v0 x155 r152) fun r156 =>
  own_lt (v5.toInt64) fun x157 =>
  own_bd (f_Checksum_add2 v3 x157 r156) fun r158 =>
  own_bd (f_Checksum_value r154) fun r159 =>
  own_bd (f_Checksum_value r158) fun r160 =>
  if r159 = r160 then
    some (1 : Int32)
  else
    some (0 : Int32)
def Q_law (Z : State) (hE : Heap) (n0 : Nat)  (r : Int32) (v : Option Value) (h : Heap) (L : List Loc) : Prop := v = some (.int r) ∧ Fr n0 L ∧ Keep hE h []
def Cx_law (p : Program) (s : State) (m : MethodId) (meth : Method) (c : Code) (Z : State) (a0 : Array Value) : Prop := p.tables.exec = Jvm.exec ∧ Z.Warmed39 s.vm ∧ (∀ d ∈ tables_1, d.before a0 Z = true) ∧ c.code = code ∧ c.maxLocals = 12 ∧ s.vm.findClass "tidemark/bench/ChecksumAddPinLaw" = some m.cls ∧ meth.sig.returnType = some .boolean ∧ meth.locks = false ∧ meth.name = "law"
set_option maxRecDepth 65536 in
set_option maxHeartbeats 4000000 in
theorem b_law {p : Program} {l : Launch} {e : Env} {s : State} {m : MethodId} {args : Array Value} {below : List Frame} {meth : Method} {c : Code} {Z : State} {a0 : Array Value} {n0 : Nat} {hE : Heap} (cx : Cx_law p s m meth c Z a0) :
    ∀ {T : State} {locs : List Loc} {h : Heap} (X : Stand p l e room_1 s m args below meth c T locs 0 0) (eT : T.heap = h) (N : Fr n0 locs) (K : Keep hE h []) (z : n0 ≤ h.size) (v0 : Int64) (v2 : Int32) (v3 : Int64) (v5 : Int32) (v6 : Int32) (v7 : Int32) (r : Int32), f_law v0 v2 v3 v5 v6 v7 = some r → own_Goes p e below s (Q_law Z hE n0 r) 4 14 (T.setTop (mkF m 0 #[.val (.long v0), .second, .val (.int v2), .val (.long v3), .second, .val (.int v5), .val (.int v6), .val (.int v7), .unset, .unset, .unset, .unset] [])) := by
  have cx' := cx
  obtain ⟨hx, hZ, hw, hby, hml, hown, hret, hlk, hnm⟩ := cx'
  intro T locs h X eT N K z v0 v2 v3 v5 v6 v7 r hF
  unfold f_law at hF
  obtain ⟨T141, h141, X141, e141, E141, A141, D141, -, st141⟩ := newO X hx hZ hown (w0 hw) (w1 hw) (w2 hw) eT (g := (mkF m 0 #[.val (.long v0), .second, .val (.int v2), .val (.long v3), .second, .val (.int v5), .val (.int v6), .val (.int v7), .unset, .unset, .unset, .unset] [])) rfl (hb hby at_0) (by decide) (by decide)
  obtain ⟨c141, q141⟩ : ∃ z, z = h.size := ⟨_, rfl⟩
  rw [← q141] at A141 D141 st141
  have F141_c141_start : Fld Z h141 c141 "tidemark/bench/Event" "start" "J" (.long (0 : Int64)) := D141 (Or.inr (w15 hw)) (ty := .long) (by decide)
  have F141_c141_arrival : Fld Z h141 c141 "tidemark/bench/Event" "arrival" "I" (.int (0 : Int32)) := D141 (Or.inr (w17 hw)) (ty := .int) (by decide)
  have F141_c141_a : Fld Z h141 c141 "tidemark/bench/Event" "a" "I" (.int (0 : Int32)) := D141 (Or.inr (w19 hw)) (ty := .int) (by decide)
  have F141_c141_b : Fld Z h141 c141 "tidemark/bench/Event" "b" "I" (.int (0 : Int32)) := D141 (Or.inr (w21 hw)) (ty := .int) (by decide)
  have F141_c141_c : Fld Z h141 c141 "tidemark/bench/Event" "c" "I" (.int (0 : Int32)) := D141 (Or.inr (w23 hw)) (ty := .int) (by decide)
  have F141_c141_d : Fld Z h141 c141 "tidemark/bench/Event" "d" "I" (.int (0 : Int32)) := D141 (Or.inr (w25 hw)) (ty := .int) (by decide)
  have g141_c141 : n0 ≤ c141 := Nat.le_trans z (Nat.le_of_eq q141.symm)
  have nE141_c141 : hE.size ≤ c141 := Nat.le_trans K.1 (Nat.le_of_eq q141.symm)
  have z141 := Nat.le_trans z E141.1
  have K141_ := K.ext E141
  refine own_Goes.via st141 ?_
  show own_Goes _ _ _ _ _ _ _ (T141.setTop (mkF m 3 #[.val (.long v0), .second, .val (.int v2), .val (.long v3), .second, .val (.int v5), .val (.int v6), .val (.int v7), .unset, .unset, .unset, .unset] [(.ref c141)]))
  refine own_Goes.via (B := T141.setTop (mkF m 19 #[.val (.long v0), .second, .val (.int v2), .val (.long v3), .second, .val (.int v5), .val (.int v6), .val (.int v7), .unset, .unset, .unset, .unset] [(.int (v6 ^^^ (-1 : Int32))), (.int (v6 ^^^ v7)), (.int v7), (.int v6), (.int v2), (.long v0), (.ref c141), (.ref c141)])) (fun t k => ?_) ?_
  · show Steps p.tables e below (T141.setTop (mkF m 3 #[.val (.long v0), .second, .val (.int v2), .val (.long v3), .second, .val (.int v5), .val (.int v6), .val (.int v7), .unset, .unset, .unset, .unset] [(.ref c141)])) t
    refine XS.dup X141.here hx rfl (hb hby at_3) rfl rfl ?_
    show Steps p.tables e below (T141.setTop (mkF m 4 #[.val (.long v0), .second, .val (.int v2), .val (.long v3), .second, .val (.int v5), .val (.int v6), .val (.int v7), .unset, .unset, .unset, .unset] [(.ref c141), (.ref c141)])) t
    refine XS.lloadN X141.here hx rfl (hb hby at_4) rfl ?_
    show Steps p.tables e below (T141.setTop (mkF m 5 #[.val (.long v0), .second, .val (.int v2), .val (.long v3), .second, .val (.int v5), .val (.int v6), .val (.int v7), .unset, .unset, .unset, .unset] [(.long v0), (.ref c141), (.ref c141)])) t
    refine XS.iloadN X141.here hx rfl (hb hby at_5) rfl ?_
    show Steps p.tables e below (T141.setTop (mkF m 6 #[.val (.long v0), .second, .val (.int v2), .val (.long v3), .second, .val (.int v5), .val (.int v6), .val (.int v7), .unset, .unset, .unset, .unset] [(.int v2), (.long v0), (.ref c141), (.ref c141)])) t
    refine XS.iload X141.here hx rfl (hb hby at_6) rfl ?_
    show Steps p.tables e below (T141.setTop (mkF m 8 #[.val (.long v0), .second, .val (.int v2), .val (.long v3), .second, .val (.int v5), .val (.int v6), .val (.int v7), .unset, .unset, .unset, .unset] [(.int v6), (.int v2), (.long v0), (.ref c141), (.ref c141)])) t
    refine XS.iload X141.here hx rfl (hb hby at_8) rfl ?_
    show Steps p.tables e below (T141.setTop (mkF m 10 #[.val (.long v0), .second, .val (.int v2), .val (.long v3), .second, .val (.int v5), .val (.int v6), .val (.int v7), .unset, .unset, .unset, .unset] [(.int v7), (.int v6), (.int v2), (.long v0), (.ref c141), (.ref c141)])) t
    refine XS.iload X141.here hx rfl (hb hby at_10) rfl ?_
    show Steps p.tables e below (T141.setTop (mkF m 12 #[.val (.long v0), .second, .val (.int v2), .val (.long v3), .second, .val (.int v5), .val (.int v6), .val (.int v7), .unset, .unset, .unset, .unset] [(.int v6), (.int v7), (.int v6), (.int v2), (.long v0), (.ref c141), (.ref c141)])) t
    refine XS.iload X141.here hx rfl (hb hby at_12) rfl ?_
    show Steps p.tables e below (T141.setTop (mkF m 14 #[.val (.long v0), .second, .val (.int v2), .val (.long v3), .second, .val (.int v5), .val (.int v6), .val (.int v7), .unset, .unset, .unset, .unset] [(.int v7), (.int v6), (.int v7), (.int v6), (.int v2), (.long v0), (.ref c141), (.ref c141)])) t
    refine XS.ixor X141.here hx rfl (hb hby at_14) rfl ?_
    show Steps p.tables e below (T141.setTop (mkF m 15 #[.val (.long v0), .second, .val (.int v2), .val (.long v3), .second, .val (.int v5), .val (.int v6), .val (.int v7), .unset, .unset, .unset, .unset] [(.int (v6 ^^^ v7)), (.int v7), (.int v6), (.int v2), (.long v0), (.ref c141), (.ref c141)])) t
    refine XS.iload X141.here hx rfl (hb hby at_15) rfl ?_
    show Steps p.tables e below (T141.setTop (mkF m 17 #[.val (.long v0), .second, .val (.int v2), .val (.long v3), .second, .val (.int v5), .val (.int v6), .val (.int v7), .unset, .unset, .unset, .unset] [(.int v6), (.int (v6 ^^^ v7)), (.int v7), (.int v6), (.int v2), (.long v0), (.ref c141), (.ref c141)])) t
    refine XS.iconst X141.here hx rfl (hb hby at_17) ?_
    show Steps p.tables e below (T141.setTop (mkF m 18 #[.val (.long v0), .second, .val (.int v2), .val (.long v3), .second, .val (.int v5), .val (.int v6), .val (.int v7), .unset, .unset, .unset, .unset] [(.int (-1 : Int32)), (.int v6), (.int (v6 ^^^ v7)), (.int v7), (.int v6), (.int v2), (.long v0), (.ref c141), (.ref c141)])) t
    refine XS.ixor X141.here hx rfl (hb hby at_18) rfl ?_
    exact k
  obtain ⟨x142, hx142, hF⟩ := own_lt_e hF
  rw [← hx142]
  obtain ⟨x143, hx143, hF⟩ := own_lt_e hF
  rw [← hx143]
  obtain ⟨r144, hr144, hF⟩ := own_bd_e hF
  obtain ⟨_, _, ⟨T144, L144, k144, n144⟩, -, X144, ⟨Lc144, hQ144, l144, y144, z144⟩, st144⟩ := X141.specialBack hx (y := (⟨"tidemark/bench/Event", "<init>", "(JIIIII)V"⟩ : MethodName)) rfl hown (mvT hZ (w3 hw)) (mvT hZ (w4 hw)) (mvT hZ (w5 hw)) (by decide) (backOf (W := 1) (rm_Event_mk l Z a0 hw [] h141 n0 z141 c141 v0 v2 v6 v7 x143 x142 (0 : Int32) (0 : Int32) (0 : Int32) (0 : Int32) (0 : Int32) (0 : Int64) A141 F141_c141_a F141_c141_arrival F141_c141_b F141_c141_c F141_c141_d F141_c141_start g141_c141 r144 hr144) hZ (w5 hw) (w2 hw) (by decide) (by decide)) (g := (mkF m 19 #[.val (.long v0), .second, .val (.int v2), .val (.long v3), .second, .val (.int v5), .val (.int v6), .val (.int v7), .unset, .unset, .unset, .unset] [(.int x142), (.int x143), (.int v7), (.int v6), (.int v2), (.long v0), (.ref c141), (.ref c141)])) rfl (by rw [hml]; rfl) (Steps.refl _) (a := c141) (argsL := [(.long v0), (.int v2), (.int v6), (.int v7), (.int x143), (.int x142)]) (rest := [(.ref c141)]) (lenOf pd_1 rfl) rfl (by show 2 * 0 + _ ≤ _; exact Nat.le_of_eq rfl) (hb hby at_19) (fun _ _ => ⟨rfl, e141, (by decide : 1 + 0 ≤ _), (by decide : 6 + 0 ≤ _)⟩)
  dsimp only [Pt.U, Pt.locs, Pt.cells, Pt.slots] at X144 l144 y144 z144 st144 hQ144
  subst l144 y144 z144
  obtain ⟨rfl, N144q, K144, E144_c141, F144_c141_a, F144_c141_arrival, F144_c141_b, F144_c141_c, F144_c141_d, F144_c141_start⟩ := hQ144
  have N144 := Fr.app N N144q
  have K144_ := K141_.trans K144 (allS (Or.inr nE141_c141) all0)
  have z144_ := Nat.le_trans z141 K144.1
  refine own_Goes.tr st144 ?_
  show own_Goes _ _ _ _ _ _ _ (T144.setTop (mkF m 22 #[.val (.long v0), .second, .val (.int v2), .val (.long v3), .second, .val (.int v5), .val (.int v6), .val (.int v7), .unset, .unset, .unset, .unset] [(.ref c141)]))
  refine own_Goes.via (B := T144.setTop (mkF m 24 #[.val (.long v0), .second, .val (.int v2), .val (.long v3), .second, .val (.int v5), .val (.int v6), .val (.int v7), .val (.ref c141), .unset, .unset, .unset] [])) (fun t k => ?_) ?_
  · show Steps p.tables e below (T144.setTop (mkF m 22 #[.val (.long v0), .second, .val (.int v2), .val (.long v3), .second, .val (.int v5), .val (.int v6), .val (.int v7), .unset, .unset, .unset, .unset] [(.ref c141)])) t
    refine XS.astore X144.here hx rfl (hb hby at_22) rfl rfl (l' := #[.val (.long v0), .second, .val (.int v2), .val (.long v3), .second, .val (.int v5), .val (.int v6), .val (.int v7), .val (.ref c141), .unset, .unset, .unset]) rfl ?_
    exact k
  obtain ⟨T145, h145, X145, e145, E145, A145, D145, -, st145⟩ := newO X144 hx hZ hown (w0 hw) (w1 hw) (w2 hw) rfl (g := (mkF m 24 #[.val (.long v0), .second, .val (.int v2), .val (.long v3), .second, .val (.int v5), .val (.int v6), .val (.int v7), .val (.ref c141), .unset, .unset, .unset] [])) rfl (hb hby at_24) (by decide) (by decide)
  obtain ⟨c145, q145⟩ : ∃ z, z = T144.heap.size := ⟨_, rfl⟩
  rw [← q145] at A145 D145 st145
  have F145_c145_start : Fld Z h145 c145 "tidemark/bench/Event" "start" "J" (.long (0 : Int64)) := D145 (Or.inr (w15 hw)) (ty := .long) (by decide)
  have F145_c145_arrival : Fld Z h145 c145 "tidemark/bench/Event" "arrival" "I" (.int (0 : Int32)) := D145 (Or.inr (w17 hw)) (ty := .int) (by decide)
  have F145_c145_a : Fld Z h145 c145 "tidemark/bench/Event" "a" "I" (.int (0 : Int32)) := D145 (Or.inr (w19 hw)) (ty := .int) (by decide)
  have F145_c145_b : Fld Z h145 c145 "tidemark/bench/Event" "b" "I" (.int (0 : Int32)) := D145 (Or.inr (w21 hw)) (ty := .int) (by decide)
  have F145_c145_c : Fld Z h145 c145 "tidemark/bench/Event" "c" "I" (.int (0 : Int32)) := D145 (Or.inr (w23 hw)) (ty := .int) (by decide)
  have F145_c145_d : Fld Z h145 c145 "tidemark/bench/Event" "d" "I" (.int (0 : Int32)) := D145 (Or.inr (w25 hw)) (ty := .int) (by decide)
  have g145_c145 : n0 ≤ c145 := Nat.le_trans z144_ (Nat.le_of_eq q145.symm)
  have nE145_c145 : hE.size ≤ c145 := Nat.le_trans K144_.1 (Nat.le_of_eq q145.symm)
  have ne_c141_c145 : c141 ≠ c145 := Nat.ne_of_lt (Nat.lt_of_lt_of_le E144_c141.lt (Nat.le_of_eq q145.symm))
  have F145_c141_start := F144_c141_start.ext E145
  have F145_c141_arrival := F144_c141_arrival.ext E145
  have F145_c141_a := F144_c141_a.ext E145
  have F145_c141_b := F144_c141_b.ext E145
  have F145_c141_c := F144_c141_c.ext E145
  have F145_c141_d := F144_c141_d.ext E145
  have E145_c141 := E144_c141.ext E145
  have z145 := Nat.le_trans z144_ E145.1
  have K145_ := K144_.ext E145
  refine own_Goes.via st145 ?_
  show own_Goes _ _ _ _ _ _ _ (T145.setTop (mkF m 27 #[.val (.long v0), .second, .val (.int v2), .val (.long v3), .second, .val (.int v5), .val (.int v6), .val (.int v7), .val (.ref c141), .unset, .unset, .unset] [(.ref c145)]))
  refine own_Goes.via (B := T145.setTop (mkF m 44 #[.val (.long v0), .second, .val (.int v2), .val (.long v3), .second, .val (.int v5), .val (.int v6), .val (.int v7), .val (.ref c141), .unset, .unset, .unset] [(.int (v6 + v7)), (.int (v7 ^^^ (-1 : Int32))), (.int v6), (.int v7), (.int v5), (.long v3), (.ref c145), (.ref c145)])) (fun t k => ?_) ?_
  · show Steps p.tables e below (T145.setTop (mkF m 27 #[.val (.long v0), .second, .val (.int v2), .val (.long v3), .second, .val (.int v5), .val (.int v6), .val (.int v7), .val (.ref c141), .unset, .unset, .unset] [(.ref c145)])) t
    refine XS.dup X145.here hx rfl (hb hby at_27) rfl rfl ?_
    show Steps p.tables e below (T145.setTop (mkF m 28 #[.val (.long v0), .second, .val (.int v2), .val (.long v3), .second, .val (.int v5), .val (.int v6), .val (.int v7), .val (.ref c141), .unset, .unset, .unset] [(.ref c145), (.ref c145)])) t
    refine XS.lloadN X145.here hx rfl (hb hby at_28) rfl ?_
    show Steps p.tables e below (T145.setTop (mkF m 29 #[.val (.long v0), .second, .val (.int v2), .val (.long v3), .second, .val (.int v5), .val (.int v6), .val (.int v7), .val (.ref c141), .unset, .unset, .unset] [(.long v3), (.ref c145), (.ref c145)])) t
    refine XS.iload X145.here hx rfl (hb hby at_29) rfl ?_
    show Steps p.tables e below (T145.setTop (mkF m 31 #[.val (.long v0), .second, .val (.int v2), .val (.long v3), .second, .val (.int v5), .val (.int v6), .val (.int v7), .val (.ref c141), .unset, .unset, .unset] [(.int v5), (.long v3), (.ref c145), (.ref c145)])) t
    refine XS.iload X145.here hx rfl (hb hby at_31) rfl ?_
    show Steps p.tables e below (T145.setTop (mkF m 33 #[.val (.long v0), .second, .val (.int v2), .val (.long v3), .second, .val (.int v5), .val (.int v6), .val (.int v7), .val (.ref c141), .unset, .unset, .unset] [(.int v7), (.int v5), (.long v3), (.ref c145), (.ref c145)])) t
    refine XS.iload X145.here hx rfl (hb hby at_33) rfl ?_
    show Steps p.tables e below (T145.setTop (mkF m 35 #[.val (.long v0), .second, .val (.int v2), .val (.long v3), .second, .val (.int v5), .val (.int v6), .val (.int v7), .val (.ref c141), .unset, .unset, .unset] [(.int v6), (.int v7), (.int v5), (.long v3), (.ref c145), (.ref c145)])) t
    refine XS.iload X145.here hx rfl (hb hby at_35) rfl ?_
    show Steps p.tables e below (T145.setTop (mkF m 37 #[.val (.long v0), .second, .val (.int v2), .val (.long v3), .second, .val (.int v5), .val (.int v6), .val (.int v7), .val (.ref c141), .unset, .unset, .unset] [(.int v7), (.int v6), (.int v7), (.int v5), (.long v3), (.ref c145), (.ref c145)])) t
    refine XS.iconst X145.here hx rfl (hb hby at_37) ?_
    show Steps p.tables e below (T145.setTop (mkF m 38 #[.val (.long v0), .second, .val (.int v2), .val (.long v3), .second, .val (.int v5), .val (.int v6), .val (.int v7), .val (.ref c141), .unset, .unset, .unset] [(.int (-1 : Int32)), (.int v7), (.int v6), (.int v7), (.int v5), (.long v3), (.ref c145), (.ref c145)])) t
    refine XS.ixor X145.here hx rfl (hb hby at_38) rfl ?_
    show Steps p.tables e below (T145.setTop (mkF m 39 #[.val (.long v0), .second, .val (.int v2), .val (.long v3), .second, .val (.int v5), .val (.int v6), .val (.int v7), .val (.ref c141), .unset, .unset, .unset] [(.int (v7 ^^^ (-1 : Int32))), (.int v6), (.int v7), (.int v5), (.long v3), (.ref c145), (.ref c145)])) t
    refine XS.iload X145.here hx rfl (hb hby at_39) rfl ?_
    show Steps p.tables e below (T145.setTop (mkF m 41 #[.val (.long v0), .second, .val (.int v2), .val (.long v3), .second, .val (.int v5), .val (.int v6), .val (.int v7), .val (.ref c141), .unset, .unset, .unset] [(.int v6), (.int (v7 ^^^ (-1 : Int32))), (.int v6), (.int v7), (.int v5), (.long v3), (.ref c145), (.ref c145)])) t
    refine XS.iload X145.here hx rfl (hb hby at_41) rfl ?_
    show Steps p.tables e below (T145.setTop (mkF m 43 #[.val (.long v0), .second, .val (.int v2), .val (.long v3), .second, .val (.int v5), .val (.int v6), .val (.int v7), .val (.ref c141), .unset, .unset, .unset] [(.int v7), (.int v6), (.int (v7 ^^^ (-1 : Int32))), (.int v6), (.int v7), (.int v5), (.long v3), (.ref c145), (.ref c145)])) t
    refine XS.iadd X145.here hx rfl (hb hby at_43) rfl ?_
    exact k
  obtain ⟨x146, hx146, hF⟩ := own_lt_e hF
  rw [← hx146]
  obtain ⟨x147, hx147, hF⟩ := own_lt_e hF
  rw [← hx147]
  obtain ⟨r148, hr148, hF⟩ := own_bd_e hF
  obtain ⟨_, _, ⟨T148, L148, k148, n148⟩, -, X148, ⟨Lc148, hQ148, l148, y148, z148⟩, st148⟩ := X145.specialBack hx (y := (⟨"tidemark/bench/Event", "<init>", "(JIIIII)V"⟩ : MethodName)) rfl hown (mvT hZ (w3 hw)) (mvT hZ (w4 hw)) (mvT hZ (w5 hw)) (by decide) (backOf (W := 1) (rm_Event_mk l Z a0 hw [] h145 n0 z145 c145 v3 v5 v7 v6 x147 x146 (0 : Int32) (0 : Int32) (0 : Int32) (0 : Int32) (0 : Int32) (0 : Int64) A145 F145_c145_a F145_c145_arrival F145_c145_b F145_c145_c F145_c145_d F145_c145_start g145_c145 r148 hr148) hZ (w5 hw) (w2 hw) (by decide) (by decide)) (g := (mkF m 44 #[.val (.long v0), .second, .val (.int v2), .val (.long v3), .second, .val (.int v5), .val (.int v6), .val (.int v7), .val (.ref c141), .unset, .unset, .unset] [(.int x146), (.int x147), (.int v6), (.int v7), (.int v5), (.long v3), (.ref c145), (.ref c145)])) rfl (by rw [hml]; rfl) (Steps.refl _) (a := c145) (argsL := [(.long v3), (.int v5), (.int v7), (.int v6), (.int x147), (.int x146)]) (rest := [(.ref c145)]) (lenOf pd_1 rfl) rfl (by show 2 * 0 + _ ≤ _; exact Nat.le_of_eq rfl) (hb hby at_44) (fun _ _ => ⟨rfl, e145, (by decide : 2 + 0 ≤ _), (by decide : 12 + 0 ≤ _)⟩)
  dsimp only [Pt.U, Pt.locs, Pt.cells, Pt.slots] at X148 l148 y148 z148 st148 hQ148
  subst l148 y148 z148
  obtain ⟨rfl, N148q, K148, E148_c145, F148_c145_a, F148_c145_arrival, F148_c145_b, F148_c145_c, F148_c145_d, F148_c145_start⟩ := hQ148
  have N148 := Fr.app N144 N148q
  have F148_c141_start := F145_c141_start.keep K148 (ninS ne_c141_c145 nin0)
  have F148_c141_arrival := F145_c141_arrival.keep K148 (ninS ne_c141_c145 nin0)
  have F148_c141_a := F145_c141_a.keep K148 (ninS ne_c141_c145 nin0)
  have F148_c141_b := F145_c141_b.keep K148 (ninS ne_c141_c145 nin0)
  have F148_c141_c := F145_c141_c.keep K148 (ninS ne_c141_c145 nin0)
  have F148_c141_d := F145_c141_d.keep K148 (ninS ne_c141_c145 nin0)
  have E148_c141 := E145_c141.keep K148
  have K148_ := K145_.trans K148 (allS (Or.inr nE145_c145) all0)
  have z148_ := Nat.le_trans z145 K148.1
  refine own_Goes.tr st148 ?_
  show own_Goes _ _ _ _ _ _ _ (T148.setTop (mkF m 47 #[.val (.long v0), .second, .val (.int v2), .val (.long v3), .second, .val (.int v5), .val (.int v6), .val (.int v7), .val (.ref c141), .unset, .unset, .unset] [(.ref c145)]))
  refine own_Goes.via (B := T148.setTop (mkF m 49 #[.val (.long v0), .second, .val (.int v2), .val (.long v3), .second, .val (.int v5), .val (.int v6), .val (.int v7), .val (.ref c141), .val (.ref c145), .unset, .unset] [])) (fun t k => ?_) ?_
  · show Steps p.tables e below (T148.setTop (mkF m 47 #[.val (.long v0), .second, .val (.int v2), .val (.long v3), .second, .val (.int v5), .val (.int v6), .val (.int v7), .val (.ref c141), .unset, .unset, .unset] [(.ref c145)])) t
    refine XS.astore X148.here hx rfl (hb hby at_47) rfl rfl (l' := #[.val (.long v0), .second, .val (.int v2), .val (.long v3), .second, .val (.int v5), .val (.int v6), .val (.int v7), .val (.ref c141), .val (.ref c145), .unset, .unset]) rfl ?_
    exact k
  obtain ⟨T149, h149, X149, e149, E149, A149, D149, -, st149⟩ := newO X148 hx hZ hown (w26 hw) (w27 hw) (w28 hw) rfl (g := (mkF m 49 #[.val (.long v0), .second, .val (.int v2), .val (.long v3), .second, .val (.int v5), .val (.int v6), .val (.int v7), .val (.ref c141), .val (.ref c145), .unset, .unset] [])) rfl (hb hby at_49) (by decide) (by decide)
  obtain ⟨c149, q149⟩ : ∃ z, z = T148.heap.size := ⟨_, rfl⟩
  rw [← q149] at A149 D149 st149
  have F149_c149_value : Fld Z h149 c149 "tidemark/bench/Checksum" "value" "J" (.long (0 : Int64)) := D149 (Or.inl (w35 hw)) (ty := .long) (by decide)
  have g149_c149 : n0 ≤ c149 := Nat.le_trans z148_ (Nat.le_of_eq q149.symm)
  have nE149_c149 : hE.size ≤ c149 := Nat.le_trans K148_.1 (Nat.le_of_eq q149.symm)
  have ne_c141_c149 : c141 ≠ c149 := Nat.ne_of_lt (Nat.lt_of_lt_of_le E148_c141.lt (Nat.le_of_eq q149.symm))
  have ne_c145_c149 : c145 ≠ c149 := Nat.ne_of_lt (Nat.lt_of_lt_of_le E148_c145.lt (Nat.le_of_eq q149.symm))
  have F149_c141_start := F148_c141_start.ext E149
  have F149_c141_arrival := F148_c141_arrival.ext E149
  have F149_c141_a := F148_c141_a.ext E149
  have F149_c141_b := F148_c141_b.ext E149
  have F149_c141_c := F148_c141_c.ext E149
  have F149_c141_d := F148_c141_d.ext E149
  have E149_c141 := E148_c141.ext E149
  have F149_c145_start := F148_c145_start.ext E149
  have F149_c145_arrival := F148_c145_arrival.ext E149
  have F149_c145_a := F148_c145_a.ext E149
  have F149_c145_b := F148_c145_b.ext E149
  have F149_c145_c := F148_c145_c.ext E149
  have F149_c145_d := F148_c145_d.ext E149
  have E149_c145 := E148_c145.ext E149
  have z149 := Nat.le_trans z148_ E149.1
  have K149_ := K148_.ext E149
  refine own_Goes.via st149 ?_
  show own_Goes _ _ _ _ _ _ _ (T149.setTop (mkF m 52 #[.val (.long v0), .second, .val (.int v2), .val (.long v3), .second, .val (.int v5), .val (.int v6), .val (.int v7), .val (.ref c141), .val (.ref c145), .unset, .unset] [(.ref c149)]))
  refine own_Goes.via (B := T149.setTop (mkF m 53 #[.val (.long v0), .second, .val (.int v2), .val (.long v3), .second, .val (.int v5), .val (.int v6), .val (.int v7), .val (.ref c141), .val (.ref c145), .unset, .unset] [(.ref c149), (.ref c149)])) (fun t k => ?_) ?_
  · show Steps p.tables e below (T149.setTop (mkF m 52 #[.val (.long v0), .second, .val (.int v2), .val (.long v3), .second, .val (.int v5), .val (.int v6), .val (.int v7), .val (.ref c141), .val (.ref c145), .unset, .unset] [(.ref c149)])) t
    refine XS.dup X149.here hx rfl (hb hby at_52) rfl rfl ?_
    exact k
  obtain ⟨r150, hr150, hF⟩ := own_bd_e hF
  obtain ⟨_, _, ⟨T150, L150, k150, n150⟩, -, X150, ⟨Lc150, hQ150, l150, y150, z150⟩, st150⟩ := X149.specialBack hx (y := (⟨"tidemark/bench/Checksum", "<init>", "()V"⟩ : MethodName)) rfl hown (mvT hZ (w29 hw)) (mvT hZ (w30 hw)) (mvT hZ (w31 hw)) (by decide) (backOf (W := 1) (rm_Checksum_mk l Z a0 hw [] h149 n0 z149 c149 (0 : Int64) A149 F149_c149_value g149_c149 r150 hr150) hZ (w31 hw) (w28 hw) (by decide) (by decide)) (g := (mkF m 53 #[.val (.long v0), .second, .val (.int v2), .val (.long v3), .second, .val (.int v5), .val (.int v6), .val (.int v7), .val (.ref c141), .val (.ref c145), .unset, .unset] [(.ref c149), (.ref c149)])) rfl (by rw [hml]; rfl) (Steps.refl _) (a := c149) (argsL := []) (rest := [(.ref c149)]) (lenOf pd_0 rfl) rfl (by show 2 * 0 + _ ≤ _; exact Nat.le_of_eq rfl) (hb hby at_53) (fun _ _ => ⟨rfl, e149, (by decide : 3 + 0 ≤ _), (by decide : 13 + 0 ≤ _)⟩)
  dsimp only [Pt.U, Pt.locs, Pt.cells, Pt.slots] at X150 l150 y150 z150 st150 hQ150
  subst l150 y150 z150
  obtain ⟨rfl, N150q, K150, E150_c149, F150_c149_value⟩ := hQ150
  have N150 := Fr.app N148 N150q
  have F150_c141_start := F149_c141_start.keep K150 (ninS ne_c141_c149 nin0)
  have F150_c141_arrival := F149_c141_arrival.keep K150 (ninS ne_c141_c149 nin0)
  have F150_c141_a := F149_c141_a.keep K150 (ninS ne_c141_c149 nin0)
  have F150_c141_b := F149_c141_b.keep K150 (ninS ne_c141_c149 nin0)
  have F150_c141_c := F149_c141_c.keep K150 (ninS ne_c141_c149 nin0)
  have F150_c141_d := F149_c141_d.keep K150 (ninS ne_c141_c149 nin0)
  have E150_c141 := E149_c141.keep K150
  have F150_c145_start := F149_c145_start.keep K150 (ninS ne_c145_c149 nin0)
  have F150_c145_arrival := F149_c145_arrival.keep K150 (ninS ne_c145_c149 nin0)
  have F150_c145_a := F149_c145_a.keep K150 (ninS ne_c145_c149 nin0)
  have F150_c145_b := F149_c145_b.keep K150 (ninS ne_c145_c149 nin0)
  have F150_c145_c := F149_c145_c.keep K150 (ninS ne_c145_c149 nin0)
  have F150_c145_d := F149_c145_d.keep K150 (ninS ne_c145_c149 nin0)
  have E150_c145 := E149_c145.keep K150
  have K150_ := K149_.trans K150 (allS (Or.inr nE149_c149) all0)
  have z150_ := Nat.le_trans z149 K150.1
  refine own_Goes.tr st150 ?_
  show own_Goes _ _ _ _ _ _ _ (T150.setTop (mkF m 56 #[.val (.long v0), .second, .val (.int v2), .val (.long v3), .second, .val (.int v5), .val (.int v6), .val (.int v7), .val (.ref c141), .val (.ref c145), .unset, .unset] [(.ref c149)]))
  refine own_Goes.via (B := T150.setTop (mkF m 58 #[.val (.long v0), .second, .val (.int v2), .val (.long v3), .second, .val (.int v5), .val (.int v6), .val (.int v7), .val (.ref c141), .val (.ref c145), .val (.ref c149), .unset] [])) (fun t k => ?_) ?_
  · show Steps p.tables e below (T150.setTop (mkF m 56 #[.val (.long v0), .second, .val (.int v2), .val (.long v3), .second, .val (.int v5), .val (.int v6), .val (.int v7), .val (.ref c141), .val (.ref c145), .unset, .unset] [(.ref c149)])) t
    refine XS.astore X150.here hx rfl (hb hby at_56) rfl rfl (l' := #[.val (.long v0), .second, .val (.int v2), .val (.long v3), .second, .val (.int v5), .val (.int v6), .val (.int v7), .val (.ref c141), .val (.ref c145), .val (.ref c149), .unset]) rfl ?_
    exact k
  obtain ⟨T151, h151, X151, e151, E151, A151, D151, -, st151⟩ := newO X150 hx hZ hown (w26 hw) (w27 hw) (w28 hw) rfl (g := (mkF m 58 #[.val (.long v0), .second, .val (.int v2), .val (.long v3), .second, .val (.int v5), .val (.int v6), .val (.int v7), .val (.ref c141), .val (.ref c145), .val (.ref c149), .unset] [])) rfl (hb hby at_58) (by decide) (by decide)
  obtain ⟨c151, q151⟩ : ∃ z, z = T150.heap.size := ⟨_, rfl⟩
  rw [← q151] at A151 D151 st151
  have F151_c151_value : Fld Z h151 c151 "tidemark/bench/Checksum" "value" "J" (.long (0 : Int64)) := D151 (Or.inl (w35 hw)) (ty := .long) (by decide)
  have g151_c151 : n0 ≤ c151 := Nat.le_trans z150_ (Nat.le_of_eq q151.symm)
  have nE151_c151 : hE.size ≤ c151 := Nat.le_trans K150_.1 (Nat.le_of_eq q151.symm)
  have ne_c141_c151 : c141 ≠ c151 := Nat.ne_of_lt (Nat.lt_of_lt_of_le E150_c141.lt (Nat.le_of_eq q151.symm))
  have ne_c145_c151 : c145 ≠ c151 := Nat.ne_of_lt (Nat.lt_of_lt_of_le E150_c145.lt (Nat.le_of_eq q151.symm))
  have ne_c149_c151 : c149 ≠ c151 := Nat.ne_of_lt (Nat.lt_of_lt_of_le E150_c149.lt (Nat.le_of_eq q151.symm))
  have F151_c141_start := F150_c141_start.ext E151
  have F151_c141_arrival := F150_c141_arrival.ext E151
  have F151_c141_a := F150_c141_a.ext E151
  have F151_c141_b := F150_c141_b.ext E151
  have F151_c141_c := F150_c141_c.ext E151
  have F151_c141_d := F150_c141_d.ext E151
  have E151_c141 := E150_c141.ext E151
  have F151_c145_start := F150_c145_start.ext E151
  have F151_c145_arrival := F150_c145_arrival.ext E151
  have F151_c145_a := F150_c145_a.ext E151
  have F151_c145_b := F150_c145_b.ext E151
  have F151_c145_c := F150_c145_c.ext E151
  have F151_c145_d := F150_c145_d.ext E151
  have E151_c145 := E150_c145.ext E151
  have F151_c149_value := F150_c149_value.ext E151
  have E151_c149 := E150_c149.ext E151
  have z151 := Nat.le_trans z150_ E151.1
  have K151_ := K150_.ext E151
  refine own_Goes.via st151 ?_
  show own_Goes _ _ _ _ _ _ _ (T151.setTop (mkF m 61 #[.val (.long v0), .second, .val (.int v2), .val (.long v3), .second, .val (.int v5), .val (.int v6), .val (.int v7), .val (.ref c141), .val (.ref c145), .val (.ref c149), .unset] [(.ref c151)]))
  refine own_Goes.via (B := T151.setTop (mkF m 62 #[.val (.long v0), .second, .val (.int v2), .val (.long v3), .second, .val (.int v5), .val (.int v6), .val (.int v7), .val (.ref c141), .val (.ref c145), .val (.ref c149), .unset] [(.ref c151), (.ref c151)])) (fun t k => ?_) ?_
  · show Steps p.tables e below (T151.setTop (mkF m 61 #[.val (.long v0), .second, .val (.int v2), .val (.long v3), .second, .val (.int v5), .val (.int v6), .val (.int v7), .val (.ref c141), .val (.ref c145), .val (.ref c149), .unset] [(.ref c151)])) t
    refine XS.dup X151.here hx rfl (hb hby at_61) rfl rfl ?_
    exact k
  obtain ⟨r152, hr152, hF⟩ := own_bd_e hF
  obtain ⟨_, _, ⟨T152, L152, k152, n152⟩, -, X152, ⟨Lc152, hQ152, l152, y152, z152⟩, st152⟩ := X151.specialBack hx (y := (⟨"tidemark/bench/Checksum", "<init>", "()V"⟩ : MethodName)) rfl hown (mvT hZ (w29 hw)) (mvT hZ (w30 hw)) (mvT hZ (w31 hw)) (by decide) (backOf (W := 1) (rm_Checksum_mk l Z a0 hw [] h151 n0 z151 c151 (0 : Int64) A151 F151_c151_value g151_c151 r152 hr152) hZ (w31 hw) (w28 hw) (by decide) (by decide)) (g := (mkF m 62 #[.val (.long v0), .second, .val (.int v2), .val (.long v3), .second, .val (.int v5), .val (.int v6), .val (.int v7), .val (.ref c141), .val (.ref c145), .val (.ref c149), .unset] [(.ref c151), (.ref c151)])) rfl (by rw [hml]; rfl) (Steps.refl _) (a := c151) (argsL := []) (rest := [(.ref c151)]) (lenOf pd_0 rfl) rfl (by show 2 * 0 + _ ≤ _; exact Nat.le_of_eq rfl) (hb hby at_62) (fun _ _ => ⟨rfl, e151, (by decide : 4 + 0 ≤ _), (by decide : 14 + 0 ≤ _)⟩)
  dsimp only [Pt.U, Pt.locs, Pt.cells, Pt.slots] at X152 l152 y152 z152 st152 hQ152
  subst l152 y152 z152
  obtain ⟨rfl, N152q, K152, E152_c151, F152_c151_value⟩ := hQ152
  have N152 := Fr.app N150 N152q
  have F152_c141_start := F151_c141_start.keep K152 (ninS ne_c141_c151 nin0)
  have F152_c141_arrival := F151_c141_arrival.keep K152 (ninS ne_c141_c151 nin0)
  have F152_c141_a := F151_c141_a.keep K152 (ninS ne_c141_c151 nin0)
  have F152_c141_b := F151_c141_b.keep K152 (ninS ne_c141_c151 nin0)
  have F152_c141_c := F151_c141_c.keep K152 (ninS ne_c141_c151 nin0)
  have F152_c141_d := F151_c141_d.keep K152 (ninS ne_c141_c151 nin0)
  have E152_c141 := E151_c141.keep K152
  have F152_c145_start := F151_c145_start.keep K152 (ninS ne_c145_c151 nin0)
  have F152_c145_arrival := F151_c145_arrival.keep K152 (ninS ne_c145_c151 nin0)
  have F152_c145_a := F151_c145_a.keep K152 (ninS ne_c145_c151 nin0)
  have F152_c145_b := F151_c145_b.keep K152 (ninS ne_c145_c151 nin0)
  have F152_c145_c := F151_c145_c.keep K152 (ninS ne_c145_c151 nin0)
  have F152_c145_d := F151_c145_d.keep K152 (ninS ne_c145_c151 nin0)
  have E152_c145 := E151_c145.keep K152
  have F152_c149_value := F151_c149_value.keep K152 (ninS ne_c149_c151 nin0)
  have E152_c149 := E151_c149.keep K152
  have K152_ := K151_.trans K152 (allS (Or.inr nE151_c151) all0)
  have z152_ := Nat.le_trans z151 K152.1
  refine own_Goes.tr st152 ?_
  show own_Goes _ _ _ _ _ _ _ (T152.setTop (mkF m 65 #[.val (.long v0), .second, .val (.int v2), .val (.long v3), .second, .val (.int v5), .val (.int v6), .val (.int v7), .val (.ref c141), .val (.ref c145), .val (.ref c149), .unset] [(.ref c151)]))
  refine own_Goes.via (B := T152.setTop (mkF m 71 #[.val (.long v0), .second, .val (.int v2), .val (.long v3), .second, .val (.int v5), .val (.int v6), .val (.int v7), .val (.ref c141), .val (.ref c145), .val (.ref c149), .val (.ref c151)] [(.ref c141), (.ref c149)])) (fun t k => ?_) ?_
  · show Steps p.tables e below (T152.setTop (mkF m 65 #[.val (.long v0), .second, .val (.int v2), .val (.long v3), .second, .val (.int v5), .val (.int v6), .val (.int v7), .val (.ref c141), .val (.ref c145), .val (.ref c149), .unset] [(.ref c151)])) t
    refine XS.astore X152.here hx rfl (hb hby at_65) rfl rfl (l' := #[.val (.long v0), .second, .val (.int v2), .val (.long v3), .second, .val (.int v5), .val (.int v6), .val (.int v7), .val (.ref c141), .val (.ref c145), .val (.ref c149), .val (.ref c151)]) rfl ?_
    show Steps p.tables e below (T152.setTop (mkF m 67 #[.val (.long v0), .second, .val (.int v2), .val (.long v3), .second, .val (.int v5), .val (.int v6), .val (.int v7), .val (.ref c141), .val (.ref c145), .val (.ref c149), .val (.ref c151)] [])) t
    refine XS.aload X152.here hx rfl (hb hby at_67) rfl rfl ?_
    show Steps p.tables e below (T152.setTop (mkF m 69 #[.val (.long v0), .second, .val (.int v2), .val (.long v3), .second, .val (.int v5), .val (.int v6), .val (.int v7), .val (.ref c141), .val (.ref c145), .val (.ref c149), .val (.ref c151)] [(.ref c149)])) t
    refine XS.aload X152.here hx rfl (hb hby at_69) rfl rfl ?_
    exact k
  obtain ⟨r153, hr153, hF⟩ := own_bd_e hF
  obtain ⟨cq153, kq153, q153a, q153b, q153c⟩ := isOf hZ rfl E152_c149
  obtain ⟨_, _, ⟨T153, L153, k153, n153⟩, -, X153, ⟨Lc153, hQ153, l153, y153, z153⟩, st153⟩ := X152.virtualBack hx (y := (⟨"tidemark/bench/Checksum", "add", "(Ltidemark/bench/Event;)V"⟩ : MethodName)) (z := (⟨"tidemark/bench/Checksum", "add", "(Ltidemark/bench/Event;)V"⟩ : MethodName)) hown (mvT hZ (w36 hw)) (mvT hZ (w37 hw)) (notFace_of_selects (args := #[]) (mvT hZ (w39 hw))) (mvT hZ (w39 hw)) (mvT hZ (w38 hw)) (by decide) (backOf (W := 0) (rm_Checksum_add l Z a0 hw [] T152.heap n0 z152_ c149 c141 r150 r144.1 r144.2.1 r144.2.2.1 r144.2.2.2.1 r144.2.2.2.2.1 r144.2.2.2.2.2 E152_c149 F152_c149_value g149_c149 E152_c141 F152_c141_a F152_c141_arrival F152_c141_b F152_c141_c F152_c141_d F152_c141_start g141_c141 (Ne.symm ne_c141_c149) r153 hr153) hZ (w40 hw) (w28 hw) (by decide) (by decide)) q153a q153c (g := (mkF m 71 #[.val (.long v0), .second, .val (.int v2), .val (.long v3), .second, .val (.int v5), .val (.int v6), .val (.int v7), .val (.ref c141), .val (.ref c145), .val (.ref c149), .val (.ref c151)] [(.ref c141), (.ref c149)])) rfl (by rw [hml]; rfl) (Steps.refl _) (argsL := [(.ref c141)]) (rest := []) (lenOf pd_5 rfl) rfl (by show 2 * 0 + _ ≤ _; exact Nat.le_of_eq rfl) (hb hby at_71) (fun _ _ => ⟨rfl, rfl, (by decide : 4 + 0 ≤ _), (by decide : 14 + 0 ≤ _)⟩)
  dsimp only [Pt.U, Pt.locs, Pt.cells, Pt.slots] at X153 l153 y153 z153 st153 hQ153
  subst l153 y153 z153
  obtain ⟨rfl, N153q, K153, E153_c149, F153_c149_value⟩ := hQ153
  have N153 := Fr.app N152 N153q
  have F153_c141_start := F152_c141_start.keep K153 (ninS ne_c141_c149 nin0)
  have F153_c141_arrival := F152_c141_arrival.keep K153 (ninS ne_c141_c149 nin0)
  have F153_c141_a := F152_c141_a.keep K153 (ninS ne_c141_c149 nin0)
  have F153_c141_b := F152_c141_b.keep K153 (ninS ne_c141_c149 nin0)
  have F153_c141_c := F152_c141_c.keep K153 (ninS ne_c141_c149 nin0)
  have F153_c141_d := F152_c141_d.keep K153 (ninS ne_c141_c149 nin0)
  have E153_c141 := E152_c141.keep K153
  have F153_c145_start := F152_c145_start.keep K153 (ninS ne_c145_c149 nin0)
  have F153_c145_arrival := F152_c145_arrival.keep K153 (ninS ne_c145_c149 nin0)
  have F153_c145_a := F152_c145_a.keep K153 (ninS ne_c145_c149 nin0)
  have F153_c145_b := F152_c145_b.keep K153 (ninS ne_c145_c149 nin0)
  have F153_c145_c := F152_c145_c.keep K153 (ninS ne_c145_c149 nin0)
  have F153_c145_d := F152_c145_d.keep K153 (ninS ne_c145_c149 nin0)
  have E153_c145 := E152_c145.keep K153
  have F153_c151_value := F152_c151_value.keep K153 (ninS (Ne.symm ne_c149_c151) nin0)
  have E153_c151 := E152_c151.keep K153
  have K153_ := K152_.trans K153 (allS (Or.inr nE149_c149) all0)
  have z153_ := Nat.le_trans z152_ K153.1
  refine own_Goes.tr st153 ?_
  show own_Goes _ _ _ _ _ _ _ (T153.setTop (mkF m 74 #[.val (.long v0), .second, .val (.int v2), .val (.long v3), .second, .val (.int v5), .val (.int v6), .val (.int v7), .val (.ref c141), .val (.ref c145), .val (.ref c149), .val (.ref c151)] []))
  refine own_Goes.via (B := T153.setTop (mkF m 78 #[.val (.long v0), .second, .val (.int v2), .val (.long v3), .second, .val (.int v5), .val (.int v6), .val (.int v7), .val (.ref c141), .val (.ref c145), .val (.ref c149), .val (.ref c151)] [(.ref c145), (.ref c149)])) (fun t k => ?_) ?_
  · show Steps p.tables e below (T153.setTop (mkF m 74 #[.val (.long v0), .second, .val (.int v2), .val (.long v3), .second, .val (.int v5), .val (.int v6), .val (.int v7), .val (.ref c141), .val (.ref c145), .val (.ref c149), .val (.ref c151)] [])) t
    refine XS.aload X153.here hx rfl (hb hby at_74) rfl rfl ?_
    show Steps p.tables e below (T153.setTop (mkF m 76 #[.val (.long v0), .second, .val (.int v2), .val (.long v3), .second, .val (.int v5), .val (.int v6), .val (.int v7), .val (.ref c141), .val (.ref c145), .val (.ref c149), .val (.ref c151)] [(.ref c149)])) t
    refine XS.aload X153.here hx rfl (hb hby at_76) rfl rfl ?_
    exact k
  obtain ⟨r154, hr154, hF⟩ := own_bd_e hF
  obtain ⟨cq154, kq154, q154a, q154b, q154c⟩ := isOf hZ rfl E153_c149
  obtain ⟨_, _, ⟨T154, L154, k154, n154⟩, -, X154, ⟨Lc154, hQ154, l154, y154, z154⟩, st154⟩ := X153.virtualBack hx (y := (⟨"tidemark/bench/Checksum", "add", "(Ltidemark/bench/Event;)V"⟩ : MethodName)) (z := (⟨"tidemark/bench/Checksum", "add", "(Ltidemark/bench/Event;)V"⟩ : MethodName)) hown (mvT hZ (w36 hw)) (mvT hZ (w37 hw)) (notFace_of_selects (args := #[]) (mvT hZ (w39 hw))) (mvT hZ (w39 hw)) (mvT hZ (w38 hw)) (by decide) (backOf (W := 0) (rm_Checksum_add l Z a0 hw [] T153.heap n0 z153_ c149 c145 r153 r148.1 r148.2.1 r148.2.2.1 r148.2.2.2.1 r148.2.2.2.2.1 r148.2.2.2.2.2 E153_c149 F153_c149_value g149_c149 E153_c145 F153_c145_a F153_c145_arrival F153_c145_b F153_c145_c F153_c145_d F153_c145_start g145_c145 (Ne.symm ne_c145_c149) r154 hr154) hZ (w40 hw) (w28 hw) (by decide) (by decide)) q154a q154c (g := (mkF m 78 #[.val (.long v0), .second, .val (.int v2), .val (.long v3), .second, .val (.int v5), .val (.int v6), .val (.int v7), .val (.ref c141), .val (.ref c145), .val (.ref c149), .val (.ref c151)] [(.ref c145), (.ref c149)])) rfl (by rw [hml]; rfl) (Steps.refl _) (argsL := [(.ref c145)]) (rest := []) (lenOf pd_5 rfl) rfl (by show 2 * 0 + _ ≤ _; exact Nat.le_of_eq rfl) (hb hby at_78) (fun _ _ => ⟨rfl, rfl, (by decide : 4 + 0 ≤ _), (by decide : 14 + 0 ≤ _)⟩)
  dsimp only [Pt.U, Pt.locs, Pt.cells, Pt.slots] at X154 l154 y154 z154 st154 hQ154
  subst l154 y154 z154
  obtain ⟨rfl, N154q, K154, E154_c149, F154_c149_value⟩ := hQ154
  have N154 := Fr.app N153 N154q
  have F154_c141_start := F153_c141_start.keep K154 (ninS ne_c141_c149 nin0)
  have F154_c141_arrival := F153_c141_arrival.keep K154 (ninS ne_c141_c149 nin0)
  have F154_c141_a := F153_c141_a.keep K154 (ninS ne_c141_c149 nin0)
  have F154_c141_b := F153_c141_b.keep K154 (ninS ne_c141_c149 nin0)
  have F154_c141_c := F153_c141_c.keep K154 (ninS ne_c141_c149 nin0)
  have F154_c141_d := F153_c141_d.keep K154 (ninS ne_c141_c149 nin0)
  have E154_c141 := E153_c141.keep K154
  have F154_c145_start := F153_c145_start.keep K154 (ninS ne_c145_c149 nin0)
  have F154_c145_arrival := F153_c145_arrival.keep K154 (ninS ne_c145_c149 nin0)
  have F154_c145_a := F153_c145_a.keep K154 (ninS ne_c145_c149 nin0)
  have F154_c145_b := F153_c145_b.keep K154 (ninS ne_c145_c149 nin0)
  have F154_c145_c := F153_c145_c.keep K154 (ninS ne_c145_c149 nin0)
  have F154_c145_d := F153_c145_d.keep K154 (ninS ne_c145_c149 nin0)
  have E154_c145 := E153_c145.keep K154
  have F154_c151_value := F153_c151_value.keep K154 (ninS (Ne.symm ne_c149_c151) nin0)
  have E154_c151 := E153_c151.keep K154
  have K154_ := K153_.trans K154 (allS (Or.inr nE149_c149) all0)
  have z154_ := Nat.le_trans z153_ K154.1
  refine own_Goes.tr st154 ?_
  show own_Goes _ _ _ _ _ _ _ (T154.setTop (mkF m 81 #[.val (.long v0), .second, .val (.int v2), .val (.long v3), .second, .val (.int v5), .val (.int v6), .val (.int v7), .val (.ref c141), .val (.ref c145), .val (.ref c149), .val (.ref c151)] []))
  refine own_Goes.via (B := T154.setTop (mkF m 86 #[.val (.long v0), .second, .val (.int v2), .val (.long v3), .second, .val (.int v5), .val (.int v6), .val (.int v7), .val (.ref c141), .val (.ref c145), .val (.ref c149), .val (.ref c151)] [(.long (v2.toInt64)), (.long v0), (.ref c151)])) (fun t k => ?_) ?_
  · show Steps p.tables e below (T154.setTop (mkF m 81 #[.val (.long v0), .second, .val (.int v2), .val (.long v3), .second, .val (.int v5), .val (.int v6), .val (.int v7), .val (.ref c141), .val (.ref c145), .val (.ref c149), .val (.ref c151)] [])) t
    refine XS.aload X154.here hx rfl (hb hby at_81) rfl rfl ?_
    show Steps p.tables e below (T154.setTop (mkF m 83 #[.val (.long v0), .second, .val (.int v2), .val (.long v3), .second, .val (.int v5), .val (.int v6), .val (.int v7), .val (.ref c141), .val (.ref c145), .val (.ref c149), .val (.ref c151)] [(.ref c151)])) t
    refine XS.lloadN X154.here hx rfl (hb hby at_83) rfl ?_
    show Steps p.tables e below (T154.setTop (mkF m 84 #[.val (.long v0), .second, .val (.int v2), .val (.long v3), .second, .val (.int v5), .val (.int v6), .val (.int v7), .val (.ref c141), .val (.ref c145), .val (.ref c149), .val (.ref c151)] [(.long v0), (.ref c151)])) t
    refine XS.iloadN X154.here hx rfl (hb hby at_84) rfl ?_
    show Steps p.tables e below (T154.setTop (mkF m 85 #[.val (.long v0), .second, .val (.int v2), .val (.long v3), .second, .val (.int v5), .val (.int v6), .val (.int v7), .val (.ref c141), .val (.ref c145), .val (.ref c149), .val (.ref c151)] [(.int v2), (.long v0), (.ref c151)])) t
    refine XS.i2l X154.here hx rfl (hb hby at_85) rfl ?_
    exact k
  obtain ⟨x155, hx155, hF⟩ := own_lt_e hF
  rw [← hx155]
  obtain ⟨r156, hr156, hF⟩ := own_bd_e hF
  obtain ⟨cq156, kq156, q156a, q156b, q156c⟩ := isOf hZ rfl E154_c151
  obtain ⟨_, _, ⟨T156, L156, k156, n156⟩, -, X156, ⟨Lc156, hQ156, l156, y156, z156⟩, st156⟩ := X154.virtualBack hx (y := (⟨"tidemark/bench/Checksum", "add", "(JJ)V"⟩ : MethodName)) (z := (⟨"tidemark/bench/Checksum", "add", "(JJ)V"⟩ : MethodName)) hown (mvT hZ (w58 hw)) (mvT hZ (w52 hw)) (notFace_of_selects (args := #[]) (mvT hZ (w54 hw))) (mvT hZ (w54 hw)) (mvT hZ (w53 hw)) (by decide) (backOf (W := 0) (rm_Checksum_add2 l Z a0 hw [] T154.heap n0 z154_ c151 v0 x155 r152 E154_c151 F154_c151_value g151_c151 r156 hr156) hZ (w55 hw) (w28 hw) (by decide) (by decide)) q156a q156c (g := (mkF m 86 #[.val (.long v0), .second, .val (.int v2), .val (.long v3), .second, .val (.int v5), .val (.int v6), .val (.int v7), .val (.ref c141), .val (.ref c145), .val (.ref c149), .val (.ref c151)] [(.long x155), (.long v0), (.ref c151)])) rfl (by rw [hml]; rfl) (Steps.refl _) (argsL := [(.long v0), (.long x155)]) (rest := []) (lenOf pd_4 rfl) rfl (by show 2 * 0 + _ ≤ _; exact Nat.le_of_eq rfl) (hb hby at_86) (fun _ _ => ⟨rfl, rfl, (by decide : 4 + 0 ≤ _), (by decide : 14 + 0 ≤ _)⟩)
  dsimp only [Pt.U, Pt.locs, Pt.cells, Pt.slots] at X156 l156 y156 z156 st156 hQ156
  subst l156 y156 z156
  obtain ⟨rfl, N156q, K156, E156_c151, F156_c151_value⟩ := hQ156
  have N156 := Fr.app N154 N156q
  have F156_c141_start := F154_c141_start.keep K156 (ninS ne_c141_c151 nin0)
  have F156_c141_arrival := F154_c141_arrival.keep K156 (ninS ne_c141_c151 nin0)
  have F156_c141_a := F154_c141_a.keep K156 (ninS ne_c141_c151 nin0)
  have F156_c141_b := F154_c141_b.keep K156 (ninS ne_c141_c151 nin0)
  have F156_c141_c := F154_c141_c.keep K156 (ninS ne_c141_c151 nin0)
  have F156_c141_d := F154_c141_d.keep K156 (ninS ne_c141_c151 nin0)
  have E156_c141 := E154_c141.keep K156
  have F156_c145_start := F154_c145_start.keep K156 (ninS ne_c145_c151 nin0)
  have F156_c145_arrival := F154_c145_arrival.keep K156 (ninS ne_c145_c151 nin0)
  have F156_c145_a := F154_c145_a.keep K156 (ninS ne_c145_c151 nin0)
  have F156_c145_b := F154_c145_b.keep K156 (ninS ne_c145_c151 nin0)
  have F156_c145_c := F154_c145_c.keep K156 (ninS ne_c145_c151 nin0)
  have F156_c145_d := F154_c145_d.keep K156 (ninS ne_c145_c151 nin0)
  have E156_c145 := E154_c145.keep K156
  have F156_c149_value := F154_c149_value.keep K156 (ninS ne_c149_c151 nin0)
  have E156_c149 := E154_c149.keep K156
  have K156_ := K154_.trans K156 (allS (Or.inr nE151_c151) all0)
  have z156_ := Nat.le_trans z154_ K156.1
  refine own_Goes.tr st156 ?_
  show own_Goes _ _ _ _ _ _ _ (T156.setTop (mkF m 89 #[.val (.long v0), .second, .val (.int v2), .val (.long v3), .second, .val (.int v5), .val (.int v6), .val (.int v7), .val (.ref c141), .val (.ref c145), .val (.ref c149), .val (.ref c151)] []))
  refine own_Goes.via (B := T156.setTop (mkF m 95 #[.val (.long v0), .second, .val (.int v2), .val (.long v3), .second, .val (.int v5), .val (.int v6), .val (.int v7), .val (.ref c141), .val (.ref c145), .val (.ref c149), .val (.ref c151)] [(.long (v5.toInt64)), (.long v3), (.ref c151)])) (fun t k => ?_) ?_
  · show Steps p.tables e below (T156.setTop (mkF m 89 #[.val (.long v0), .second, .val (.int v2), .val (.long v3), .second, .val (.int v5), .val (.int v6), .val (.int v7), .val (.ref c141), .val (.ref c145), .val (.ref c149), .val (.ref c151)] [])) t
    refine XS.aload X156.here hx rfl (hb hby at_89) rfl rfl ?_
    show Steps p.tables e below (T156.setTop (mkF m 91 #[.val (.long v0), .second, .val (.int v2), .val (.long v3), .second, .val (.int v5), .val (.int v6), .val (.int v7), .val (.ref c141), .val (.ref c145), .val (.ref c149), .val (.ref c151)] [(.ref c151)])) t
    refine XS.lloadN X156.here hx rfl (hb hby at_91) rfl ?_
    show Steps p.tables e below (T156.setTop (mkF m 92 #[.val (.long v0), .second, .val (.int v2), .val (.long v3), .second, .val (.int v5), .val (.int v6), .val (.int v7), .val (.ref c141), .val (.ref c145), .val (.ref c149), .val (.ref c151)] [(.long v3), (.ref c151)])) t
    refine XS.iload X156.here hx rfl (hb hby at_92) rfl ?_
    show Steps p.tables e below (T156.setTop (mkF m 94 #[.val (.long v0), .second, .val (.int v2), .val (.long v3), .second, .val (.int v5), .val (.int v6), .val (.int v7), .val (.ref c141), .val (.ref c145), .val (.ref c149), .val (.ref c151)] [(.int v5), (.long v3), (.ref c151)])) t
    refine XS.i2l X156.here hx rfl (hb hby at_94) rfl ?_
    exact k
  obtain ⟨x157, hx157, hF⟩ := own_lt_e hF
  rw [← hx157]
  obtain ⟨r158, hr158, hF⟩ := own_bd_e hF
  obtain ⟨cq158, kq158, q158a, q158b, q158c⟩ := isOf hZ rfl E156_c151
  obtain ⟨_, _, ⟨T158, L158, k158, n158⟩, -, X158, ⟨Lc158, hQ158, l158, y158, z158⟩, st158⟩ := X156.virtualBack hx (y := (⟨"tidemark/bench/Checksum", "add", "(JJ)V"⟩ : MethodName)) (z := (⟨"tidemark/bench/Checksum", "add", "(JJ)V"⟩ : MethodName)) hown (mvT hZ (w58 hw)) (mvT hZ (w52 hw)) (notFace_of_selects (args := #[]) (mvT hZ (w54 hw))) (mvT hZ (w54 hw)) (mvT hZ (w53 hw)) (by decide) (backOf (W := 0) (rm_Checksum_add2 l Z a0 hw [] T156.heap n0 z156_ c151 v3 x157 r156 E156_c151 F156_c151_value g151_c151 r158 hr158) hZ (w55 hw) (w28 hw) (by decide) (by decide)) q158a q158c (g := (mkF m 95 #[.val (.long v0), .second, .val (.int v2), .val (.long v3), .second, .val (.int v5), .val (.int v6), .val (.int v7), .val (.ref c141), .val (.ref c145), .val (.ref c149), .val (.ref c151)] [(.long x157), (.long v3), (.ref c151)])) rfl (by rw [hml]; rfl) (Steps.refl _) (argsL := [(.long v3), (.long x157)]) (rest := []) (lenOf pd_4 rfl) rfl (by show 2 * 0 + _ ≤ _; exact Nat.le_of_eq rfl) (hb hby at_95) (fun _ _ => ⟨rfl, rfl, (by decide : 4 + 0 ≤ _), (by decide : 14 + 0 ≤ _)⟩)
  dsimp only [Pt.U, Pt.locs, Pt.cells, Pt.slots] at X158 l158 y158 z158 st158 hQ158
  subst l158 y158 z158
  obtain ⟨rfl, N158q, K158, E158_c151, F158_c151_value⟩ := hQ158
  have N158 := Fr.app N156 N158q
  have F158_c141_start := F156_c141_start.keep K158 (ninS ne_c141_c151 nin0)
  have F158_c141_arrival := F156_c141_arrival.keep K158 (ninS ne_c141_c151 nin0)
  have F158_c141_a := F156_c141_a.keep K158 (ninS ne_c141_c151 nin0)
  have F158_c141_b := F156_c141_b.keep K158 (ninS ne_c141_c151 nin0)
  have F158_c141_c := F156_c141_c.keep K158 (ninS ne_c141_c151 nin0)
  have F158_c141_d := F156_c141_d.keep K158 (ninS ne_c141_c151 nin0)
  have E158_c141 := E156_c141.keep K158
  have F158_c145_start := F156_c145_start.keep K158 (ninS ne_c145_c151 nin0)
  have F158_c145_arrival := F156_c145_arrival.keep K158 (ninS ne_c145_c151 nin0)
  have F158_c145_a := F156_c145_a.keep K158 (ninS ne_c145_c151 nin0)
  have F158_c145_b := F156_c145_b.keep K158 (ninS ne_c145_c151 nin0)
  have F158_c145_c := F156_c145_c.keep K158 (ninS ne_c145_c151 nin0)
  have F158_c145_d := F156_c145_d.keep K158 (ninS ne_c145_c151 nin0)
  have E158_c145 := E156_c145.keep K158
  have F158_c149_value := F156_c149_value.keep K158 (ninS ne_c149_c151 nin0)
  have E158_c149 := E156_c149.keep K158
  have K158_ := K156_.trans K158 (allS (Or.inr nE151_c151) all0)
  have z158_ := Nat.le_trans z156_ K158.1
  refine own_Goes.tr st158 ?_
  show own_Goes _ _ _ _ _ _ _ (T158.setTop (mkF m 98 #[.val (.long v0), .second, .val (.int v2), .val (.long v3), .second, .val (.int v5), .val (.int v6), .val (.int v7), .val (.ref c141), .val (.ref c145), .val (.ref c149), .val (.ref c151)] []))
  refine own_Goes.via (B := T158.setTop (mkF m 100 #[.val (.long v0), .second, .val (.int v2), .val (.long v3), .second, .val (.int v5), .val (.int v6), .val (.int v7), .val (.ref c141), .val (.ref c145), .val (.ref c149), .val (.ref c151)] [(.ref c149)])) (fun t k => ?_) ?_
  · show Steps p.tables e below (T158.setTop (mkF m 98 #[.val (.long v0), .second, .val (.int v2), .val (.long v3), .second, .val (.int v5), .val (.int v6), .val (.int v7), .val (.ref c141), .val (.ref c145), .val (.ref c149), .val (.ref c151)] [])) t
    refine XS.aload X158.here hx rfl (hb hby at_98) rfl rfl ?_
    exact k
  obtain ⟨r159, hr159, hF⟩ := own_bd_e hF
  obtain ⟨cq159, kq159, q159a, q159b, q159c⟩ := isOf hZ rfl E158_c149
  obtain ⟨_, _, ⟨T159, L159, k159, n159⟩, -, X159, ⟨Lc159, hQ159, l159, y159, z159⟩, st159⟩ := X158.virtualBack hx (y := (⟨"tidemark/bench/Checksum", "value", "()J"⟩ : MethodName)) (z := (⟨"tidemark/bench/Checksum", "value", "()J"⟩ : MethodName)) hown (mvT hZ (w59 hw)) (mvT hZ (w60 hw)) (notFace_of_selects (args := #[]) (mvT hZ (w62 hw))) (mvT hZ (w62 hw)) (mvT hZ (w61 hw)) (by decide) (backOf (W := 0) (rm_Checksum_value l Z a0 hw [] T158.heap n0 z158_ c149 r154 E158_c149 F158_c149_value g149_c149 r159 hr159) hZ (w63 hw) (w28 hw) (by decide) (by decide)) q159a q159c (g := (mkF m 100 #[.val (.long v0), .second, .val (.int v2), .val (.long v3), .second, .val (.int v5), .val (.int v6), .val (.int v7), .val (.ref c141), .val (.ref c145), .val (.ref c149), .val (.ref c151)] [(.ref c149)])) rfl (by rw [hml]; rfl) (Steps.refl _) (argsL := []) (rest := []) (lenOf pd_2 rfl) rfl (by show 2 * 0 + _ ≤ _; exact Nat.le_of_eq rfl) (hb hby at_100) (fun _ _ => ⟨rfl, rfl, (by decide : 4 + 0 ≤ _), (by decide : 14 + 0 ≤ _)⟩)
  dsimp only [Pt.U, Pt.locs, Pt.cells, Pt.slots] at X159 l159 y159 z159 st159 hQ159
  subst l159 y159 z159
  obtain ⟨rfl, N159q, e159⟩ := hQ159
  have N159 := Fr.app N158 N159q
  refine own_Goes.tr st159 ?_
  show own_Goes _ _ _ _ _ _ _ (T159.setTop (mkF m 103 #[.val (.long v0), .second, .val (.int v2), .val (.long v3), .second, .val (.int v5), .val (.int v6), .val (.int v7), .val (.ref c141), .val (.ref c145), .val (.ref c149), .val (.ref c151)] [(.long r159)]))
  refine own_Goes.via (B := T159.setTop (mkF m 105 #[.val (.long v0), .second, .val (.int v2), .val (.long v3), .second, .val (.int v5), .val (.int v6), .val (.int v7), .val (.ref c141), .val (.ref c145), .val (.ref c149), .val (.ref c151)] [(.ref c151), (.long r159)])) (fun t k => ?_) ?_
  · show Steps p.tables e below (T159.setTop (mkF m 103 #[.val (.long v0), .second, .val (.int v2), .val (.long v3), .second, .val (.int v5), .val (.int v6), .val (.int v7), .val (.ref c141), .val (.ref c145), .val (.ref c149), .val (.ref c151)] [(.long r159)])) t
    refine XS.aload X159.here hx rfl (hb hby at_103) rfl rfl ?_
    exact k
  obtain ⟨r160, hr160, hF⟩ := own_bd_e hF
  obtain ⟨cq160, kq160, q160a, q160b, q160c⟩ := isOf hZ e159 E158_c151
  obtain ⟨_, _, ⟨T160, L160, k160, n160⟩, -, X160, ⟨Lc160, hQ160, l160, y160, z160⟩, st160⟩ := X159.virtualBack hx (y := (⟨"tidemark/bench/Checksum", "value", "()J"⟩ : MethodName)) (z := (⟨"tidemark/bench/Checksum", "value", "()J"⟩ : MethodName)) hown (mvT hZ (w59 hw)) (mvT hZ (w60 hw)) (notFace_of_selects (args := #[]) (mvT hZ (w62 hw))) (mvT hZ (w62 hw)) (mvT hZ (w61 hw)) (by decide) (backOf (W := 2) (rm_Checksum_value l Z a0 hw [] T158.heap n0 z158_ c151 r158 E158_c151 F158_c151_value g151_c151 r160 hr160) hZ (w63 hw) (w28 hw) (by decide) (by decide)) q160a q160c (g := (mkF m 105 #[.val (.long v0), .second, .val (.int v2), .val (.long v3), .second, .val (.int v5), .val (.int v6), .val (.int v7), .val (.ref c141), .val (.ref c145), .val (.ref c149), .val (.ref c151)] [(.ref c151), (.long r159)])) rfl (by rw [hml]; rfl) (Steps.refl _) (argsL := []) (rest := [(.long r159)]) (lenOf pd_2 rfl) rfl (by show 2 * 0 + _ ≤ _; exact Nat.le_of_eq rfl) (hb hby at_105) (fun _ _ => ⟨rfl, e159, (by decide : 4 + 0 ≤ _), (by decide : 14 + 0 ≤ _)⟩)
  dsimp only [Pt.U, Pt.locs, Pt.cells, Pt.slots] at X160 l160 y160 z160 st160 hQ160
  subst l160 y160 z160
  obtain ⟨rfl, N160q, e160⟩ := hQ160
  have N160 := Fr.app N159 N160q
  refine own_Goes.tr st160 ?_
  show own_Goes _ _ _ _ _ _ _ (T160.setTop (mkF m 108 #[.val (.long v0), .second, .val (.int v2), .val (.long v3), .second, .val (.int v5), .val (.int v6), .val (.int v7), .val (.ref c141), .val (.ref c145), .val (.ref c149), .val (.ref c151)] [(.long r160), (.long r159)]))
  refine own_Goes.via (B := T160.setTop (mkF m 109 #[.val (.long v0), .second, .val (.int v2), .val (.long v3), .second, .val (.int v5), .val (.int v6), .val (.int v7), .val (.ref c141), .val (.ref c145), .val (.ref c149), .val (.ref c151)] [(.int (lcmpW r159 r160))])) (fun t k => ?_) ?_
  · show Steps p.tables e below (T160.setTop (mkF m 108 #[.val (.long v0), .second, .val (.int v2), .val (.long v3), .second, .val (.int v5), .val (.int v6), .val (.int v7), .val (.ref c141), .val (.ref c145), .val (.ref c149), .val (.ref c151)] [(.long r160), (.long r159)])) t
    refine XS.lcmp X160.here hx rfl (hb hby at_108) rfl ?_
    exact k
  by_cases hc109 : r159 = r160
  · rw [if_pos hc109] at hF
    refine own_Goes.via (B := T160.setTop (mkF m 117 #[.val (.long v0), .second, .val (.int v2), .val (.long v3), .second, .val (.int v5), .val (.int v6), .val (.int v7), .val (.ref c141), .val (.ref c145), .val (.ref c149), .val (.ref c151)] [(.int (1 : Int32))])) (fun t k => ?_) ?_
    · show Steps p.tables e below (T160.setTop (mkF m 109 #[.val (.long v0), .second, .val (.int v2), .val (.long v3), .second, .val (.int v5), .val (.int v6), .val (.int v7), .val (.ref c141), .val (.ref c145), .val (.ref c149), .val (.ref c151)] [(.int (lcmpW r159 r160))])) t
      refine XS.ifNo X160.here hx rfl (hb hby at_109) rfl (own_teqL hc109).2 ?_
      show Steps p.tables e below (T160.setTop (mkF m 112 #[.val (.long v0), .second, .val (.int v2), .val (.long v3), .second, .val (.int v5), .val (.int v6), .val (.int v7), .val (.ref c141), .val (.ref c145), .val (.ref c149), .val (.ref c151)] [])) t
      refine XS.iconst X160.here hx rfl (hb hby at_112) ?_
      show Steps p.tables e below (T160.setTop (mkF m 113 #[.val (.long v0), .second, .val (.int v2), .val (.long v3), .second, .val (.int v5), .val (.int v6), .val (.int v7), .val (.ref c141), .val (.ref c145), .val (.ref c149), .val (.ref c151)] [(.int (1 : Int32))])) t
      refine XS.goto X160.here hx rfl (pc0 := 113) (pc' := 117) rfl (hb hby at_113) (by decide) (by decide) ?_
      exact k
    obtain rfl : (1 : Int32) = r := Option.some.inj hF
    exact own_retN X160 hx (t := .boolean) hret hlk (by simp) (hb hby at_117) e160 (v := (1 : Int32)) (by decide) ⟨rfl, N160, K158_⟩ (by decide) (by decide)
  · rw [if_neg hc109] at hF
    refine own_Goes.via (B := T160.setTop (mkF m 117 #[.val (.long v0), .second, .val (.int v2), .val (.long v3), .second, .val (.int v5), .val (.int v6), .val (.int v7), .val (.ref c141), .val (.ref c145), .val (.ref c149), .val (.ref c151)] [(.int (0 : Int32))])) (fun t k => ?_) ?_
    · show Steps p.tables e below (T160.setTop (mkF m 109 #[.val (.long v0), .second, .val (.int v2), .val (.long v3), .second, .val (.int v5), .val (.int v6), .val (.int v7), .val (.ref c141), .val (.ref c145), .val (.ref c149), .val (.ref c151)] [(.int (lcmpW r159 r160))])) t
      refine XS.ifYes X160.here hx rfl (pc0 := 109) (pc' := 116) rfl (hb hby at_109) rfl (own_feqL hc109).2 (by decide) (by decide) ?_
      show Steps p.tables e below (T160.setTop (mkF m 116 #[.val (.long v0), .second, .val (.int v2), .val (.long v3), .second, .val (.int v5), .val (.int v6), .val (.int v7), .val (.ref c141), .val (.ref c145), .val (.ref c149), .val (.ref c151)] [])) t
      refine XS.iconst X160.here hx rfl (hb hby at_116) ?_
      exact k
    obtain rfl : (0 : Int32) = r := Option.some.inj hF
    exact own_retN X160 hx (t := .boolean) hret hlk (by simp) (hb hby at_117) e160 (v := (0 : Int32)) (by decide) ⟨rfl, N160, K158_⟩ (by decide) (by decide)
theorem ef_law (m : MethodId) (x0 : Int64) (x1 : Int32) (x2 : Int64) (x3 : Int32) (x4 : Int32) (x5 : Int32) : entryFrame m #[(.long x0), (.int x1), (.long x2), (.int x3), (.int x4), (.int x5)] maxLocals = mkF m 0 #[.val (.long x0), .second, .val (.int x1), .val (.long x2), .second, .val (.int x3), .val (.int x4), .val (.int x5), .unset, .unset, .unset, .unset] [] := by first | (simp [entryFrame, mkF, argsToLocals, Value.category, maxLocals]; done) | rfl
set_option maxRecDepth 65536 in
set_option maxHeartbeats 4000000 in
theorem rm_law (l : Launch) (Z : State) (a0 : Array Value) (hw : ∀ d ∈ tables_1, d.before a0 Z = true) (ws : List Jvm.Cond) (hE : Heap) (n0 : Nat) (z : n0 ≤ hE.size)  (v0 : Int64) (v2 : Int32) (v3 : Int64) (v5 : Int32) (v6 : Int32) (v7 : Int32) (r : Int32) (hF : (f_law v0 v2 v3 v5 v6 v7) = some r) :
    MetFree l x (head1 (Jvm.Cond.code x code maxLocals ret :: ws) room_1) (fun a U => a = #[(.long v0), (.int v2), (.long v3), (.int v5), (.int v6), (.int v7)] ∧ Z.Warmed39 U.vm ∧ U.heap = hE) (fun _ _ _ _ _ => True) (fun _ U o U' => ∃ v L, o = .returned v ∧ (Q_law Z hE n0 r) v U'.heap L ∧ FrameEnd U o U' L 4 14) := by
  refine MetFree.of_bodySF (plainFor_of_name pn_tidemark_bench_ChecksumAddPinLaw) hisR ?_
  intro p e s m args below meth c s₁ Bd hml0 hP hK
  obtain ⟨rfl, hZ, hh⟩ := hP
  have X0 : Stand p l e room_1 s m #[(.long v0), (.int v2), (.long v3), (.int v5), (.int v6), (.int v7)] below meth c s₁ [] 0 0 := Stand.of_body Bd
  have e0 : s₁.heap = hE := by rw [← hh, Bd.state]; rfl
  have cx : Cx_law p s m meth c Z a0 := ⟨Bd.exec, hZ, hw, Bd.bytes, hml0, findClass_of_methodNamed Bd.named, Bd.returns, Bd.notSynchronized, (name_of_methodNamed Bd.named Bd.method).1⟩
  show own_Goes p e below s (Q_law Z hE n0 r) 4 14 (s₁.setTop (entryFrame m #[(.long v0), (.int v2), (.long v3), (.int v5), (.int v6), (.int v7)] maxLocals))
  rw [ef_law]
  exact b_law cx X0 e0 (Fr.nil n0) (Keep.refl _ _) z v0 v2 v3 v5 v6 v7 _ hF
/-! the words of the mirrors -/
theorem own_bs {α β : Type} (x : α) (f : α → Option β) : own_bd (some x) f = f x := by unfold own_bd; exact rfl
theorem own_ls {α β : Type} (x : α) (f : α → Option β) : own_lt x f = f x := by unfold own_lt; exact rfl
theorem own_bn {α : Type} (x : Option α) : own_bd x (fun y => some y) = x := by cases x <;> exact rfl
theorem own_ct {β : Type} {P : Prop} [Decidable P] (x : Option β) (h : P) : own_ck P x = x := by unfold own_ck; exact if_pos h
/-! numbers: ints and longs as integers -/
theorem own_i1 (x : Int32) : -2147483648 ≤ x.toInt := Int32.le_toInt x
theorem own_i2 (x : Int32) : x.toInt < 2147483648 := Int32.toInt_lt x
theorem own_j1 (x : Int64) : -9223372036854775808 ≤ x.toInt := Int64.le_toInt x
theorem own_j2 (x : Int64) : x.toInt < 9223372036854775808 := Int64.toInt_lt x
theorem own_iadd {a b : Int32} (h1 : -2147483648 ≤ a.toInt + b.toInt) (h2 : a.toInt + b.toInt < 2147483648) : (a + b).toInt = a.toInt + b.toInt := by
  rw [Int32.toInt_add]; exact Int.bmod_eq_of_le (by omega) (by omega)
theorem own_isub {a b : Int32} (h1 : -2147483648 ≤ a.toInt - b.toInt) (h2 : a.toInt - b.toInt < 2147483648) : (a - b).toInt = a.toInt - b.toInt := by
  rw [Int32.toInt_sub]; exact Int.bmod_eq_of_le (by omega) (by omega)
theorem own_imul {a b : Int32} (h1 : -2147483648 ≤ a.toInt * b.toInt) (h2 : a.toInt * b.toInt < 2147483648) : (a * b).toInt = a.toInt * b.toInt := by
  rw [Int32.toInt_mul]; exact Int.bmod_eq_of_le (by omega) (by omega)
theorem own_ladd {a b : Int64} (h1 : -9223372036854775808 ≤ a.toInt + b.toInt) (h2 : a.toInt + b.toInt < 9223372036854775808) : (a + b).toInt = a.toInt + b.toInt := by
  rw [Int64.toInt_add]; exact Int.bmod_eq_of_le (by omega) (by omega)
theorem own_lsub {a b : Int64} (h1 : -9223372036854775808 ≤ a.toInt - b.toInt) (h2 : a.toInt - b.toInt < 9223372036854775808) : (a - b).toInt = a.toInt - b.toInt := by
  rw [Int64.toInt_sub]; exact Int.bmod_eq_of_le (by omega) (by omega)
theorem own_lmul {a b : Int64} (h1 : -9223372036854775808 ≤ a.toInt * b.toInt) (h2 : a.toInt * b.toInt < 9223372036854775808) : (a * b).toInt = a.toInt * b.toInt := by
  rw [Int64.toInt_mul]; exact Int.bmod_eq_of_le (by omega) (by omega)
theorem own_imask {x m : Int32} (k : Nat) (hk : k ≤ 31) (hm : m.toBitVec.toNat = 2 ^ k - 1) : (x &&& m).toInt = x.toInt % 2 ^ k := by
  have h1 : (x &&& m).toBitVec.toNat = x.toBitVec.toNat % 2 ^ k := by rw [Int32.toBitVec_and, BitVec.toNat_and, hm, Nat.and_two_pow_sub_one_eq_mod]
  have h3 : x.toBitVec.toNat % 2 ^ k < 2 ^ k := Nat.mod_lt _ (Nat.pow_pos (by decide))
  have h4 : (2 : Nat) ^ k ≤ 2 ^ 31 := Nat.pow_le_pow_right (by decide) hk
  have h2 : (x &&& m).toInt = ((x.toBitVec.toNat % 2 ^ k : Nat) : Int) := by
    show (x &&& m).toBitVec.toInt = _
    rw [BitVec.toInt_eq_toNat_of_lt (by rw [h1]; omega), h1]
  rw [h2]
  have h5 : x.toInt = x.toBitVec.toInt := rfl
  have h6 : ((2 : Int) ^ k) ∣ 4294967296 := by
    have : (4294967296 : Int) = 2 ^ k * 2 ^ (32 - k) := by rw [← Int.pow_add, show k + (32 - k) = 32 by omega]; rfl
    exact ⟨_, this⟩
  rw [h5, BitVec.toInt_eq_toNat_cond]
  split
  · exact Int.natCast_emod _ _
  · rw [Int.natCast_emod, show (((2 ^ 32 : Nat) : Int)) = 4294967296 from rfl, Int.sub_emod, Int.emod_eq_zero_of_dvd h6]; simp
theorem own_lmask {x m : Int64} (k : Nat) (hk : k ≤ 63) (hm : m.toBitVec.toNat = 2 ^ k - 1) : (x &&& m).toInt = x.toInt % 2 ^ k := by
  have h1 : (x &&& m).toBitVec.toNat = x.toBitVec.toNat % 2 ^ k := by rw [Int64.toBitVec_and, BitVec.toNat_and, hm, Nat.and_two_pow_sub_one_eq_mod]
  have h3 : x.toBitVec.toNat % 2 ^ k < 2 ^ k := Nat.mod_lt _ (Nat.pow_pos (by decide))
  have h4 : (2 : Nat) ^ k ≤ 2 ^ 63 := Nat.pow_le_pow_right (by decide) hk
  have h2 : (x &&& m).toInt = ((x.toBitVec.toNat % 2 ^ k : Nat) : Int) := by
    show (x &&& m).toBitVec.toInt = _
    rw [BitVec.toInt_eq_toNat_of_lt (by rw [h1]; omega), h1]
  rw [h2]
  have h5 : x.toInt = x.toBitVec.toInt := rfl
  have h6 : ((2 : Int) ^ k) ∣ 18446744073709551616 := by
    have : (18446744073709551616 : Int) = 2 ^ k * 2 ^ (64 - k) := by rw [← Int.pow_add, show k + (64 - k) = 64 by omega]; rfl
    exact ⟨_, this⟩
  rw [h5, BitVec.toInt_eq_toNat_cond]
  split
  · exact Int.natCast_emod _ _
  · rw [Int.natCast_emod, show (((2 ^ 64 : Nat) : Int)) = 18446744073709551616 from rfl, Int.sub_emod, Int.emod_eq_zero_of_dvd h6]; simp
theorem own_es (a b c d r : Int32) (s : Int64) : f_Event_start a r b c d s = some s := by unfold f_Event_start; exact rfl
theorem own_ea (a b c d r : Int32) (s : Int64) : f_Event_arrival a r b c d s = some r := by unfold f_Event_arrival; exact rfl
theorem own_add (v : Int64) (a b c d : Int32) (r : Int32) (s : Int64) : f_Checksum_add v a r b c d s = f_Checksum_add2 s r.toInt64 v := by
  unfold f_Checksum_add
  rw [own_es, own_bs, own_ea, own_bs, own_ls, own_bn]
theorem own_mk : ∃ k, f_Checksum_mk 0 = some k := ⟨_, rfl⟩
theorem own_add2 (s r v : Int64) : ∃ k, f_Checksum_add2 s r v = some k := ⟨_, rfl⟩
theorem own_ev (s : Int64) (r a b c d : Int32) : f_Event_mk s r a b c d 0 0 0 0 0 0 = some (a, r, b, c, d, s) := by
  unfold f_Event_mk f_Record_mk own_bd
  exact rfl
theorem own_val (k : Int64) : f_Checksum_value k = some k := by unfold f_Checksum_value; exact rfl
theorem own_law (s1 : Int64) (r1 : Int32) (s2 : Int64) (r2 p q : Int32) : f_law s1 r1 s2 r2 p q = some 1 := by
  obtain ⟨k, hk⟩ := own_mk
  obtain ⟨k1, h1⟩ := own_add2 s1 r1.toInt64 k
  obtain ⟨k2, h2⟩ := own_add2 s2 r2.toInt64 k1
  unfold f_law
  rw [own_ls, own_ls, own_ev, own_bs, own_ls, own_ls, own_ev, own_bs, hk, own_bs, own_bs, own_add, h1, own_bs, own_add, h2, own_bs, own_ls, h1, own_bs, own_ls, h2, own_bs, own_val, own_bs, own_bs, if_pos rfl]

set_option maxRecDepth 65536 in
set_option maxHeartbeats 4000000 in
theorem comes_1 {Post : Tables → Env → Array Value → State → Outcome → State → Prop} (hpost : ∀ tb e args s v u, (limb_1_1.after args s (.returned v) u = true ∧ limb_1_2.after args s (.returned v) u = true ∧ True) → FrameEnd s (.returned v) u (Jvm.fieldLocs frame_1_writes args s ++ Jvm.arrayLocs frame_1_arrays args s ++ Jvm.staticLocs frame_1_statics s) 16 128 → Post tb e args s (.returned v) u) :
    ArmFor flags0 classFile x code maxLocals ret World_1 tables_1 room_1 Calls_1 rest_1 Pre_1 Post := by
  intro l hfl _ _ p e ha hc hk s m args below hf hA hF happ hP
  obtain ⟨hcalls, hrest, hpre⟩ := hP
  obtain ⟨-, -, -, hnamed, -, -, -, hat⟩ := (Spec.applies_iff hf).mp happ
  obtain ⟨hg, hn⟩ := and_e (Cond.before_iff.mp (show (Jvm.Cond.and given_1 narrow_1).before args s = true from hpre))
  obtain ⟨gc, g0⟩ := and_e hg
  obtain ⟨ga0, g1⟩ := and_e g0
  obtain ⟨ga1, g2⟩ := and_e g1
  obtain ⟨ga2, g3⟩ := and_e g2
  obtain ⟨ga3, g4⟩ := and_e g3
  obtain ⟨ga4, g5⟩ := and_e g4
  have ga5 := g5
  obtain ⟨w0, w1, w2, w3, w4, w5, rfl⟩ : ∃ w0 w1 w2 w3 w4 w5 : Value, args = #[w0, w1, w2, w3, w4, w5] := by
    have hs : args.size = 6 := by simpa [Cond.value, given_1] using gc
    obtain ⟨L⟩ := args
    match L, hs with
    | [w0, w1, w2, w3, w4, w5], _ => exact ⟨w0, w1, w2, w3, w4, w5, rfl⟩
  have hw := fun d (hd : d ∈ tables_1) => atoms_spec (ws := Jvm.Cond.code x code maxLocals ret :: tables_1) hat d (List.mem_cons_of_mem _ hd)
  obtain ⟨i0, ei0⟩ := isL_v ga0
  obtain rfl : w0 = (.long i0) := Option.some.inj ei0
  obtain ⟨i1, ei1⟩ := is_v ga1
  obtain rfl : w1 = (.int i1) := Option.some.inj ei1
  obtain ⟨i2, ei2⟩ := isL_v ga2
  obtain rfl : w2 = (.long i2) := Option.some.inj ei2
  obtain ⟨i3, ei3⟩ := is_v ga3
  obtain rfl : w3 = (.int i3) := Option.some.inj ei3
  obtain ⟨i4, ei4⟩ := is_v ga4
  obtain rfl : w4 = (.int i4) := Option.some.inj ei4
  obtain ⟨i5, ei5⟩ := is_v ga5
  obtain rfl : w5 = (.int i5) := Option.some.inj ei5
  obtain ⟨n, o, h1, h2, h3, _, L, rfl, hQ, hq⟩ := rm_law l s _ hw tables_1 s.heap s.heap.size (Nat.le_refl _) i0 i1 i2 i3 i4 i5 1 (own_law i0 i1 i2 i3 i4 i5) p e ha hc hk s m _ below hf ((Spec.applies_iff_loose hf).mp happ).1 ⟨rfl, State.Warmed39.refl s, rfl⟩ trivial
  obtain ⟨rfl, N, -⟩ := hQ
  refine ⟨n, _, h1, h2, h3, hpost _ _ _ _ _ _ ⟨Cond.after_iff.mpr rfl, Cond.after_iff.mpr (eq_i res_at (Term.int_eval (1)) rfl), trivial⟩ ⟨hq.1, hq.2.1, (hq.2.2.sift fun y hy => Or.inr (N y hy)).mono (by decide) (by decide)⟩⟩
theorem main_1_1 : Claimed_1_1 := comes_1 fun _ _ _ _ _ _ h hF => ⟨h.1, hF⟩
theorem main_1_2 : Claimed_1_2 := comes_1 fun _ _ _ _ _ _ h hF => ⟨h.2.1, hF⟩
end Jvm.Pilot.@@N@@
namespace Jvm.Pilot.@@N@@
open Jvm Jvm.ClassFile Sem Op Lib Jvm.Free Jvm.Stand Jvm.Pilot.@@N@@.Jvm.D
/-! MADE BY PROGRAM (witnessworld.py) out of the Statement's table words and the real class files: 11 classes; the members and pool entries that the words name. The judged class is class 1, her method 1. -/
namespace start1
open Jvm.ClassFile
def u (s : String) : CpInfo := .utf8 (stringToUtf16 s)
/-- a pool by its gaps: so many unusable entries, then the entry; so many at the end -/
def gap : Nat → List CpInfo → List CpInfo
  | 0, r => r
  | n + 1, r => .unusable :: gap n r
def poolList (es : List (Nat × CpInfo)) (last : Nat) : List CpInfo := es.foldr (fun e r => gap e.1 (e.2 :: r)) (gap last [])
def pool (es : List (Nat × CpInfo)) (last : Nat) : Array CpInfo := ⟨poolList es last⟩
def fileOf (pool : Array CpInfo) (this : Nat) (attrs : Array Attribute := #[]) (ms : Array MethodInfo := #[]) (fl : Nat := 33) (sup : Nat := 0) (ifs : Array Nat := #[]) (fds : Array FieldInfo := #[]) : ClassFile where
  minorVersion := 0
  majorVersion := 65
  constantPool := pool
  accessFlags := fl
  thisClass := this
  superClass := sup
  interfaces := ifs
  fields := fds
  methods := ms
  attributes := attrs
def plain (name : String) (sup : Option ClassId) : Class where
  name := name
  kind := .ordinary
  loader := none
  accessFlags := 33
  super := sup
  interfaces := #[]
  cf := none
  fields := #[]
  methods := #[]
  instanceTypes := #[]
  staticTypes := #[]
  resolved := #[]
  callSites := []
  init := .initialized
  statics := none
  mirror := none

def pool0 : Array CpInfo := pool [(5, u "<init>"), (0, u "()V"), (1, .class_ 10), (1, u "java/lang/Object")] 113

def k0c0 : Code := { maxStack := 0, maxLocals := 1, code := object_method_1_code, exceptionTable := #[], attributes := #[] }
def k0m0 : Method := { name := "<init>", desc := "()V", sig := { parameters := [], returnType := none }, accessFlags := 1, code := some k0c0 }
/-- java/lang/Object -/
def k0 : Class := { plain "java/lang/Object" none with
  accessFlags := 33
  interfaces := #[]
  cf := some (fileOf pool0 8 #[] #[{ accessFlags := 1, nameIndex := 5, descriptorIndex := 6, attributes := #[] }] 33 0 #[] #[])
  fields := #[]
  methods := #[k0m0]
  instanceTypes := #[]
  staticTypes := #[]
  resolved := Array.replicate 124 none
  statics := none }

def pool1 : Array CpInfo := pool [(2, .class_ 4), (0, .nameAndType 5 6), (0, u "java/lang/Object"), (0, u "<init>"), (0, u "()V"), (0, .class_ 8), (0, u "tidemark/bench/Event"), (0, .methodref 7 10), (0, .nameAndType 5 11), (0, u "(JIIIII)V"), (0, .class_ 13), (0, u "tidemark/bench/Checksum"), (0, .methodref 12 3), (0, .methodref 12 16), (0, .nameAndType 17 18), (0, u "add"), (0, u "(Ltidemark/bench/Event;)V"), (0, .methodref 12 20), (0, .nameAndType 17 21), (0, u "(JJ)V"), (0, .methodref 12 23), (0, .nameAndType 24 25), (0, u "value"), (0, u "()J"), (0, .class_ 27), (0, u "tidemark/bench/ChecksumAddPinLaw"), (2, u "law"), (0, u "(JIJIII)Z")] 3

def k1m0 : Method := { name := "<init>", desc := "()V", sig := { parameters := [], returnType := none }, accessFlags := 1, code := none }
def k1c1 : Code := { maxStack := 10, maxLocals := 12, code := code, exceptionTable := #[], attributes := #[] }
def k1m1 : Method := { name := "law", desc := "(JIJIII)Z", sig := { parameters := [.long, .int, .long, .int, .int, .int], returnType := some .boolean }, accessFlags := 9, code := some k1c1 }
/-- tidemark/bench/ChecksumAddPinLaw -/
def k1 : Class := { plain "tidemark/bench/ChecksumAddPinLaw" (some 0) with
  accessFlags := 49
  interfaces := #[]
  cf := some (fileOf pool1 26 #[] #[{ accessFlags := 1, nameIndex := 5, descriptorIndex := 6, attributes := #[] }, { accessFlags := 9, nameIndex := 30, descriptorIndex := 31, attributes := #[] }] 49 2 #[] #[])
  fields := #[]
  methods := #[k1m0, k1m1]
  instanceTypes := #[]
  staticTypes := #[]
  resolved := Array.replicate 35 none
  statics := none }

def pool2 : Array CpInfo := pool [(1, .methodref 2 3), (0, .class_ 4), (0, .nameAndType 5 6), (0, u "java/lang/Object"), (0, u "<init>"), (0, u "()V"), (0, .class_ 8), (0, u "java/lang/Record")] 13

def k2c0 : Code := { maxStack := 1, maxLocals := 1, code := jdk_30_method_1_code, exceptionTable := #[], attributes := #[] }
def k2m0 : Method := { name := "<init>", desc := "()V", sig := { parameters := [], returnType := none }, accessFlags := 4, code := some k2c0 }
/-- java/lang/Record -/
def k2 : Class := { plain "java/lang/Record" (some 0) with
  accessFlags := 1057
  interfaces := #[]
  cf := some (fileOf pool2 7 #[] #[{ accessFlags := 4, nameIndex := 5, descriptorIndex := 6, attributes := #[] }] 1057 2 #[] #[])
  fields := #[]
  methods := #[k2m0]
  instanceTypes := #[]
  staticTypes := #[]
  resolved := Array.replicate 22 none
  statics := none }

def pool3 : Array CpInfo := pool [(1, .methodref 2 3), (0, .class_ 4), (0, .nameAndType 5 6), (0, u "java/lang/Record"), (0, u "<init>"), (0, u "()V"), (0, .fieldref 8 9), (0, .class_ 10), (0, .nameAndType 11 12), (0, u "tidemark/bench/Event"), (0, u "start"), (0, u "J"), (0, .fieldref 8 14), (0, .nameAndType 15 16), (0, u "arrival"), (0, u "I"), (0, .fieldref 8 18), (0, .nameAndType 19 16), (0, u "a"), (0, .fieldref 8 21), (0, .nameAndType 22 16), (0, u "b"), (0, .fieldref 8 24), (0, .nameAndType 25 16), (0, u "c"), (0, .fieldref 8 27), (0, .nameAndType 28 16), (0, u "d"), (12, u "(JIIIII)V"), (4, u "()I"), (1, u "()J")] 25

def k3c0 : Code := { maxStack := 3, maxLocals := 8, code := prog_71_method_1_code, exceptionTable := #[], attributes := #[] }
def k3m0 : Method := { name := "<init>", desc := "(JIIIII)V", sig := { parameters := [.long, .int, .int, .int, .int, .int], returnType := none }, accessFlags := 1, code := some k3c0 }
def k3c1 : Code := { maxStack := 2, maxLocals := 1, code := prog_71_method_5_code, exceptionTable := #[], attributes := #[] }
def k3m1 : Method := { name := "start", desc := "()J", sig := { parameters := [], returnType := some .long }, accessFlags := 1, code := some k3c1 }
def k3c2 : Code := { maxStack := 1, maxLocals := 1, code := prog_71_method_6_code, exceptionTable := #[], attributes := #[] }
def k3m2 : Method := { name := "arrival", desc := "()I", sig := { parameters := [], returnType := some .int }, accessFlags := 1, code := some k3c2 }
/-- tidemark/bench/Event -/
def k3 : Class := { plain "tidemark/bench/Event" (some 2) with
  accessFlags := 49
  interfaces := #[]
  cf := some (fileOf pool3 8 #[] #[{ accessFlags := 1, nameIndex := 5, descriptorIndex := 41, attributes := #[] }, { accessFlags := 1, nameIndex := 11, descriptorIndex := 48, attributes := #[] }, { accessFlags := 1, nameIndex := 15, descriptorIndex := 46, attributes := #[] }] 49 2 #[] #[{ accessFlags := 18, nameIndex := 11, descriptorIndex := 12, attributes := #[] }, { accessFlags := 18, nameIndex := 15, descriptorIndex := 16, attributes := #[] }, { accessFlags := 18, nameIndex := 19, descriptorIndex := 16, attributes := #[] }, { accessFlags := 18, nameIndex := 22, descriptorIndex := 16, attributes := #[] }, { accessFlags := 18, nameIndex := 25, descriptorIndex := 16, attributes := #[] }, { accessFlags := 18, nameIndex := 28, descriptorIndex := 16, attributes := #[] }])
  fields := #[{ name := "start", type := .long, accessFlags := 18, slot := 0, constantValue := 0 }, { name := "arrival", type := .int, accessFlags := 18, slot := 1, constantValue := 0 }, { name := "a", type := .int, accessFlags := 18, slot := 2, constantValue := 0 }, { name := "b", type := .int, accessFlags := 18, slot := 3, constantValue := 0 }, { name := "c", type := .int, accessFlags := 18, slot := 4, constantValue := 0 }, { name := "d", type := .int, accessFlags := 18, slot := 5, constantValue := 0 }]
  methods := #[k3m0, k3m1, k3m2]
  instanceTypes := #[.long, .int, .int, .int, .int, .int]
  staticTypes := #[]
  resolved := Array.replicate 74 none
  statics := none }

def pool4 : Array CpInfo := pool [(1, .methodref 2 3), (0, .class_ 4), (0, .nameAndType 5 6), (0, u "java/lang/Object"), (0, u "<init>"), (0, u "()V"), (0, .class_ 8), (0, u "tidemark/bench/Checksum"), (0, .long 14695981039346656037), (1, .fieldref 7 12), (0, .nameAndType 13 14), (0, u "value"), (0, u "J"), (0, .methodref 16 17), (0, .class_ 18), (0, .nameAndType 19 20), (0, u "tidemark/bench/Event"), (0, u "start"), (0, u "()J"), (0, .methodref 16 22), (0, .nameAndType 23 24), (0, u "arrival"), (0, u "()I"), (0, .methodref 7 26), (0, .nameAndType 27 28), (0, u "add"), (0, u "(JJ)V"), (0, .long 11400714819323198485), (1, .long 1099511628211), (1, u "BASIS"), (1, u "SPREAD"), (0, u "PRIME"), (2, u "(Ltidemark/bench/Event;)V")] 6

def k4c0 : Code := { maxStack := 3, maxLocals := 1, code := prog_60_method_1_code, exceptionTable := #[], attributes := #[] }
def k4m0 : Method := { name := "<init>", desc := "()V", sig := { parameters := [], returnType := none }, accessFlags := 0, code := some k4c0 }
def k4c1 : Code := { maxStack := 5, maxLocals := 2, code := prog_60_method_2_code, exceptionTable := #[], attributes := #[] }
def k4m1 : Method := { name := "add", desc := "(Ltidemark/bench/Event;)V", sig := { parameters := [(.object "tidemark/bench/Event")], returnType := none }, accessFlags := 0, code := some k4c1 }
def k4c2 : Code := { maxStack := 7, maxLocals := 5, code := prog_60_method_3_code, exceptionTable := #[], attributes := #[] }
def k4m2 : Method := { name := "add", desc := "(JJ)V", sig := { parameters := [.long, .long], returnType := none }, accessFlags := 0, code := some k4c2 }
def k4c3 : Code := { maxStack := 2, maxLocals := 1, code := prog_60_method_5_code, exceptionTable := #[], attributes := #[] }
def k4m3 : Method := { name := "value", desc := "()J", sig := { parameters := [], returnType := some .long }, accessFlags := 0, code := some k4c3 }
/-- tidemark/bench/Checksum -/
def k4 : Class := { plain "tidemark/bench/Checksum" (some 0) with
  accessFlags := 48
  interfaces := #[]
  cf := some (fileOf pool4 7 #[] #[{ accessFlags := 0, nameIndex := 5, descriptorIndex := 6, attributes := #[] }, { accessFlags := 0, nameIndex := 27, descriptorIndex := 39, attributes := #[] }, { accessFlags := 0, nameIndex := 27, descriptorIndex := 28, attributes := #[] }, { accessFlags := 0, nameIndex := 13, descriptorIndex := 20, attributes := #[] }] 48 2 #[] #[{ accessFlags := 26, nameIndex := 33, descriptorIndex := 14, attributes := #[] }, { accessFlags := 26, nameIndex := 35, descriptorIndex := 14, attributes := #[] }, { accessFlags := 26, nameIndex := 36, descriptorIndex := 14, attributes := #[] }, { accessFlags := 2, nameIndex := 13, descriptorIndex := 14, attributes := #[] }])
  fields := #[{ name := "BASIS", type := .long, accessFlags := 26, slot := 0, constantValue := 0 }, { name := "SPREAD", type := .long, accessFlags := 26, slot := 1, constantValue := 0 }, { name := "PRIME", type := .long, accessFlags := 26, slot := 2, constantValue := 0 }, { name := "value", type := .long, accessFlags := 2, slot := 0, constantValue := 0 }]
  methods := #[k4m0, k4m1, k4m2, k4m3]
  instanceTypes := #[.long]
  staticTypes := #[.long, .long, .long]
  resolved := Array.replicate 46 none
  statics := none }

def pool5 : Array CpInfo := pool [(1, u "java/lang/Cloneable"), (0, .class_ 1), (0, u "java/lang/Object"), (0, .class_ 3)] 3

/-- java/lang/Cloneable -/
def k5 : Class := { plain "java/lang/Cloneable" (some 0) with
  accessFlags := 1537
  interfaces := #[]
  cf := some (fileOf pool5 2 #[] #[] 1537 4 #[] #[])
  fields := #[]
  methods := #[]
  instanceTypes := #[]
  staticTypes := #[]
  resolved := Array.replicate 8 none
  statics := none }

def pool6 : Array CpInfo := pool [(1, u "java/io/Serializable"), (0, .class_ 1), (0, u "java/lang/Object"), (0, .class_ 3)] 3

/-- java/io/Serializable -/
def k6 : Class := { plain "java/io/Serializable" (some 0) with
  accessFlags := 1537
  interfaces := #[]
  cf := some (fileOf pool6 2 #[] #[] 1537 4 #[] #[])
  fields := #[]
  methods := #[]
  instanceTypes := #[]
  staticTypes := #[]
  resolved := Array.replicate 8 none
  statics := none }

/-- the primitive byte -/
def k7 : Class := { plain "byte" none with kind := .primitive 'B', accessFlags := 0x411 }
/-- [B -/
def k8 : Class := { plain "[B" (some 0) with kind := .array 7 .byte, interfaces := #[5, 6], accessFlags := 1041 }

/-- the primitive int -/
def k9 : Class := { plain "int" none with kind := .primitive 'I', accessFlags := 0x411 }
/-- [I -/
def k10 : Class := { plain "[I" (some 0) with kind := .array 9 .int, interfaces := #[5, 6], accessFlags := 1041 }

def heap : Heap := #[]
def classes : Array Class := #[k0, k1, k2, k3, k4, k5, k6, k7, k8, k9, k10]
def interned : List (Array UInt16 × Addr) := []
def slotsUsed : Nat := 0
def theMethod : MethodId := ⟨1, 1⟩
def args0 : Array Value := #[.long 5, .int 5, .long 5, .int 5, .int 5, .int 5]
def aboutOver (below : List Frame) : State where
  vm := { classes := classes, interned := interned.toArray }
  heap := heap
  slotsUsed := slotsUsed
  threads := #[{ frames := .invoking theMethod args0 :: below }]
def below0 : List Frame := [.native { method := ⟨0, 0⟩, args := #[] }]
def about1 : State := aboutOver below0
def p0 : Program := .bare "" "" ""
def e0 : Env := launch0.env 0 0 0
theorem w_frames : about1.frames = Frame.invoking theMethod args0 :: below0 := rfl
set_option maxRecDepth 65536 in
theorem w_args : argsFit about1.vm theMethod args0 = true := by decide +kernel
set_option maxRecDepth 65536 in
theorem w_heap : heapFits about1 = true := by decide +kernel
set_option maxRecDepth 65536 in
theorem w_runnable : about1.curStatus? = some .runnable := by decide +kernel
set_option maxRecDepth 65536 in
theorem w_alone : about1.alone = true := by decide +kernel
set_option maxRecDepth 65536 in
theorem w_named : about1.methodNamed? x = some theMethod := by decide +kernel
set_option maxRecDepth 65536 in
theorem w_hears : about1.hears theMethod below0 = true := by decide +kernel
set_option maxRecDepth 65536 in
theorem w_ripe : about1.ripe theMethod args0 below0 = true := by decide +kernel
theorem w_running : about1.status = .running := rfl
set_option maxRecDepth 65536 in
theorem w_room : about1.hasRoom e0.platform room_1 = true :=
  launch0.hasRoom_least _ room_1 (by decide +kernel) (by decide +kernel) (by decide +kernel) (by decide +kernel) (by decide +kernel) (by decide +kernel)
theorem allAtoms_all (ts : List Jvm.Cond) (a : Array Jvm.Value) (st : Jvm.State) : (allAtoms ts).before a st = ts.all (fun c => c.before a st) := by
  induction ts with
  | nil => rfl
  | cons c t ih =>
    show (Jvm.Cond.and c (allAtoms t)).before a st = _
    rw [Jvm.Cond.before_and, ih, List.all_cons]
def words1 : List Jvm.Cond := Jvm.Cond.code x code maxLocals ret :: tables_1
/-- a 'code' word, met by the world's own term for the bytes: nothing is compared byte by byte -/
theorem code_word {y : MethodName} {bytes : ByteArray} {mx : Nat} {rt : Option FieldType} {a : Array Value} {s : State} {m : MethodId} {meth : Method} {c : Code} (h1 : s.methodNamed? y = some m) (h2 : s.vm.method? m = some meth) (h3 : meth.code = some c) (h4 : c.code = bytes)
    (h5 : (c.maxLocals == mx && c.exceptionTable.isEmpty && decide (c.maxStack ≤ mostOperands) && decide (meth.sig.returnType = rt) && !meth.locks && decide (parseMethodDescriptor y.desc = some meth.sig)) = true) : (Jvm.Cond.code y bytes mx rt).before a s = true := by
  simp only [Bool.and_eq_true, beq_iff_eq, Bool.not_eq_true', decide_eq_true_eq] at h5
  obtain ⟨⟨⟨⟨⟨g1, g2⟩, g3⟩, g4⟩, g5⟩, g6⟩ := h5
  simp [Cond.before, Cond.holds, Cond.value, h1, h2, h3, h4, g1, g2, g3, g4, g5, g6]
def isCode : Jvm.Cond → Bool
  | .code _ _ _ _ => true
  | _ => false
theorem all_split {L : List Jvm.Cond} {P : Jvm.Cond → Bool} (h1 : L.all (fun c => isCode c || P c) = true) (h2 : ∀ c ∈ L.filter isCode, P c = true) : L.all P = true := by
  refine List.all_eq_true.mpr fun c hc => ?_
  have h := List.all_eq_true.mp h1 c hc
  rcases Bool.eq_false_or_eq_true (isCode c) with hi | hi
  · exact h2 c (List.mem_filter.mpr ⟨hc, hi⟩)
  · simpa [hi] using h
set_option maxRecDepth 65536 in
theorem w_c0 : (Jvm.Cond.code x code maxLocals ret).before args0 about1 = true := code_word (m := ⟨1, 1⟩) (meth := k1m1) (c := k1c1) (by decide +kernel) rfl rfl rfl (by decide +kernel)
set_option maxRecDepth 65536 in
theorem w_c1 : (Jvm.Cond.code ({ cls := "tidemark/bench/Event", name := "<init>", desc := "(JIIIII)V" } : Jvm.MethodName) prog_71_method_1_code (8 : Nat) (Option.none : Option Jvm.ClassFile.FieldType)).before args0 about1 = true := code_word (m := ⟨3, 0⟩) (meth := k3m0) (c := k3c0) (by decide +kernel) rfl rfl rfl (by decide +kernel)
set_option maxRecDepth 65536 in
theorem w_c2 : (Jvm.Cond.code ({ cls := "java/lang/Record", name := "<init>", desc := "()V" } : Jvm.MethodName) jdk_30_method_1_code (1 : Nat) (Option.none : Option Jvm.ClassFile.FieldType)).before args0 about1 = true := code_word (m := ⟨2, 0⟩) (meth := k2m0) (c := k2c0) (by decide +kernel) rfl rfl rfl (by decide +kernel)
set_option maxRecDepth 65536 in
theorem w_c3 : (Jvm.Cond.code ({ cls := "java/lang/Object", name := "<init>", desc := "()V" } : Jvm.MethodName) object_method_1_code (1 : Nat) (Option.none : Option Jvm.ClassFile.FieldType)).before args0 about1 = true := code_word (m := ⟨0, 0⟩) (meth := k0m0) (c := k0c0) (by decide +kernel) rfl rfl rfl (by decide +kernel)
set_option maxRecDepth 65536 in
theorem w_c4 : (Jvm.Cond.code ({ cls := "tidemark/bench/Checksum", name := "<init>", desc := "()V" } : Jvm.MethodName) prog_60_method_1_code (1 : Nat) (Option.none : Option Jvm.ClassFile.FieldType)).before args0 about1 = true := code_word (m := ⟨4, 0⟩) (meth := k4m0) (c := k4c0) (by decide +kernel) rfl rfl rfl (by decide +kernel)
set_option maxRecDepth 65536 in
theorem w_c5 : (Jvm.Cond.code ({ cls := "tidemark/bench/Checksum", name := "add", desc := "(Ltidemark/bench/Event;)V" } : Jvm.MethodName) prog_60_method_2_code (2 : Nat) (Option.none : Option Jvm.ClassFile.FieldType)).before args0 about1 = true := code_word (m := ⟨4, 1⟩) (meth := k4m1) (c := k4c1) (by decide +kernel) rfl rfl rfl (by decide +kernel)
set_option maxRecDepth 65536 in
theorem w_c6 : (Jvm.Cond.code ({ cls := "tidemark/bench/Event", name := "start", desc := "()J" } : Jvm.MethodName) prog_71_method_5_code (1 : Nat) (Option.some Jvm.ClassFile.FieldType.long)).before args0 about1 = true := code_word (m := ⟨3, 1⟩) (meth := k3m1) (c := k3c1) (by decide +kernel) rfl rfl rfl (by decide +kernel)
set_option maxRecDepth 65536 in
theorem w_c7 : (Jvm.Cond.code ({ cls := "tidemark/bench/Event", name := "arrival", desc := "()I" } : Jvm.MethodName) prog_71_method_6_code (1 : Nat) (Option.some Jvm.ClassFile.FieldType.int)).before args0 about1 = true := code_word (m := ⟨3, 2⟩) (meth := k3m2) (c := k3c2) (by decide +kernel) rfl rfl rfl (by decide +kernel)
set_option maxRecDepth 65536 in
theorem w_c8 : (Jvm.Cond.code ({ cls := "tidemark/bench/Checksum", name := "add", desc := "(JJ)V" } : Jvm.MethodName) prog_60_method_3_code (5 : Nat) (Option.none : Option Jvm.ClassFile.FieldType)).before args0 about1 = true := code_word (m := ⟨4, 2⟩) (meth := k4m2) (c := k4c2) (by decide +kernel) rfl rfl rfl (by decide +kernel)
set_option maxRecDepth 65536 in
theorem w_c9 : (Jvm.Cond.code ({ cls := "tidemark/bench/Checksum", name := "value", desc := "()J" } : Jvm.MethodName) prog_60_method_5_code (1 : Nat) (Option.some Jvm.ClassFile.FieldType.long)).before args0 about1 = true := code_word (m := ⟨4, 3⟩) (meth := k4m3) (c := k4c3) (by decide +kernel) rfl rfl rfl (by decide +kernel)
def codes1 : List Jvm.Cond := [Jvm.Cond.code x code maxLocals ret, Jvm.Cond.code ({ cls := "tidemark/bench/Event", name := "<init>", desc := "(JIIIII)V" } : Jvm.MethodName) prog_71_method_1_code (8 : Nat) (Option.none : Option Jvm.ClassFile.FieldType), Jvm.Cond.code ({ cls := "java/lang/Record", name := "<init>", desc := "()V" } : Jvm.MethodName) jdk_30_method_1_code (1 : Nat) (Option.none : Option Jvm.ClassFile.FieldType), Jvm.Cond.code ({ cls := "java/lang/Object", name := "<init>", desc := "()V" } : Jvm.MethodName) object_method_1_code (1 : Nat) (Option.none : Option Jvm.ClassFile.FieldType), Jvm.Cond.code ({ cls := "tidemark/bench/Checksum", name := "<init>", desc := "()V" } : Jvm.MethodName) prog_60_method_1_code (1 : Nat) (Option.none : Option Jvm.ClassFile.FieldType), Jvm.Cond.code ({ cls := "tidemark/bench/Checksum", name := "add", desc := "(Ltidemark/bench/Event;)V" } : Jvm.MethodName) prog_60_method_2_code (2 : Nat) (Option.none : Option Jvm.ClassFile.FieldType), Jvm.Cond.code ({ cls := "tidemark/bench/Event", name := "start", desc := "()J" } : Jvm.MethodName) prog_71_method_5_code (1 : Nat) (Option.some Jvm.ClassFile.FieldType.long), Jvm.Cond.code ({ cls := "tidemark/bench/Event", name := "arrival", desc := "()I" } : Jvm.MethodName) prog_71_method_6_code (1 : Nat) (Option.some Jvm.ClassFile.FieldType.int), Jvm.Cond.code ({ cls := "tidemark/bench/Checksum", name := "add", desc := "(JJ)V" } : Jvm.MethodName) prog_60_method_3_code (5 : Nat) (Option.none : Option Jvm.ClassFile.FieldType), Jvm.Cond.code ({ cls := "tidemark/bench/Checksum", name := "value", desc := "()J" } : Jvm.MethodName) prog_60_method_5_code (1 : Nat) (Option.some Jvm.ClassFile.FieldType.long)]
set_option maxRecDepth 65536 in
theorem codes_eq : words1.filter isCode = codes1 := rfl
theorem w_codes : ∀ c ∈ words1.filter isCode, c.before args0 about1 = true := by
  rw [codes_eq]
  intro c hc
  simp only [codes1, List.mem_cons, List.not_mem_nil, or_false] at hc
  rcases hc with rfl | rfl | rfl | rfl | rfl | rfl | rfl | rfl | rfl | rfl
  · exact w_c0
  · exact w_c1
  · exact w_c2
  · exact w_c3
  · exact w_c4
  · exact w_c5
  · exact w_c6
  · exact w_c7
  · exact w_c8
  · exact w_c9
set_option maxRecDepth 65536 in
theorem w_t1 : (words1.take 24).all (fun c => isCode c || c.before args0 about1) = true := by decide +kernel
set_option maxRecDepth 65536 in
theorem w_t2 : ((words1.drop 24).take 24).all (fun c => isCode c || c.before args0 about1) = true := by decide +kernel
set_option maxRecDepth 65536 in
theorem w_t3 : ((words1.drop 24).drop 24).all (fun c => isCode c || c.before args0 about1) = true := by decide +kernel
theorem w_tables : (allAtoms (Jvm.Cond.code x code maxLocals ret :: tables_1)).before args0 about1 = true := by
  rw [allAtoms_all]
  show words1.all (fun c => c.before args0 about1) = true
  refine all_split ?_ w_codes
  rw [← List.take_append_drop 24 words1, List.all_append, w_t1, ← List.take_append_drop 24 (words1.drop 24), List.all_append, w_t2, w_t3]
  rfl
set_option maxRecDepth 65536 in
theorem w_case : (Jvm.Cond.and given_1 narrow_1).before args0 about1 = true := by decide +kernel
theorem w_applies : (headSpec (Jvm.Cond.code x code maxLocals ret :: tables_1) room_1).applies x e0.platform about1 = true :=
  (Spec.applies_iff w_frames).mpr ⟨w_running, w_runnable, w_alone, w_named, w_hears, w_ripe, w_room, w_tables⟩
theorem atStart : AtStart classFile x code maxLocals ret World_1 tables_1 room_1 Calls_1 rest_1 Pre_1 launch0 p0 e0 about1 theMethod args0 below0 :=
  ⟨lists_1, trivial, launch0.admits_env _ _ _, launch0.least_env, fairChoices_fair.cas, fairChoices_fair.clock, w_frames, w_args, w_heap, w_applies, trivial, trivial, w_case⟩
end start1
theorem witness_1 : WitnessClaimed_1 := ⟨start1.p0, start1.e0, start1.about1, start1.theMethod, start1.args0, start1.below0, start1.atStart⟩
end Jvm.Pilot.@@N@@
