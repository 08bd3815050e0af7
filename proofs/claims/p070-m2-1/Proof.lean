import JvmDerived
import JvmDerived.Pilot.@@N@@Statement
import JvmDerived.Pilot.@@N@@Code
set_option linter.unusedVariables false
set_option linter.unusedSimpArgs false
namespace Jvm.Pilot.@@N@@
open Jvm Jvm.ClassFile Sem Op Lib Jvm.Free Jvm.Stand Jvm.LawKit Jvm.RoadKit Bundle Jvm.Pilot.@@N@@.Jvm.D
/-! 1. the words of the mirrors: a named value, a check, a call -/
def own_lt {α β : Type} (x : α) (f : α → Option β) : Option β := f x
def own_ck {β : Type} (P : Prop) [Decidable P] (x : Option β) : Option β := if P then x else none
def own_bd {α β : Type} (x : Option α) (f : α → Option β) : Option β := x.bind f
theorem own_lt_e {α β : Type} {x : α} {f : α → Option β} {r : β} (h : own_lt x f = some r) : ∃ v, v = x ∧ f v = some r := ⟨x, rfl, h⟩
theorem own_ck_e {β : Type} {P : Prop} [Decidable P] {x : Option β} {r : β} (h : own_ck P x = some r) : P ∧ x = some r := by
  unfold own_ck at h
  by_cases q : P
  · rw [if_pos q] at h; exact ⟨q, h⟩
  · rw [if_neg q] at h; cases h
theorem own_bd_e {α β : Type} {x : Option α} {f : α → Option β} {r : β} (h : own_bd x f = some r) : ∃ v, x = some v ∧ f v = some r := by
  unfold own_bd at h
  cases x with
  | none => cases h
  | some v => exact ⟨v, rfl, h⟩
abbrev own_inb {α : Type} (bs : List α) (j : Int32) : Prop := ¬ j < 0 ∧ j.toNatClampNeg < bs.length
def own_rd {α : Type} [OfNat α 0] (bs : List α) (j : Int32) : α := bs.getD j.toNatClampNeg 0
def own_wr {α : Type} (bs : List α) (j : Int32) (v : α) : List α := bs.set j.toNatClampNeg v
def own_sz {α : Type} (bs : List α) : Int32 := bs.length.toInt32
/-! 2. a run that comes to an end as Q says -/
def own_Goes (p : Program) (e : Env) (below : List Frame) (s : State) (Q : Option Value → Heap → List Loc → Prop) (ce sl : Nat) (A : State) : Prop :=
  ∃ s₂ o, Steps p.tables e below A s₂ ∧ s₂.status = .running ∧ Ended s₂ below o ∧ ∃ v L, o = .returned v ∧ Q v s₂.heap L ∧ FrameEnd s o s₂ L ce sl
section Own
variable {p : Program} {l : Launch} {e : Env} {R : Room} {s : State} {m : MethodId} {args : Array Value} {below : List Frame} {meth : Method} {c : Code} {T : State} {locs : List Loc} {cells slots : Nat} {Z : State} {h h' : Heap} {Q : Option Value → Heap → List Loc → Prop} {ce sl : Nat}
theorem own_Goes.via {A B : State} (q : ∀ t, Steps p.tables e below B t → Steps p.tables e below A t) (g : own_Goes p e below s Q ce sl B) : own_Goes p e below s Q ce sl A := by
  obtain ⟨s₂, o, h1, r⟩ := g
  exact ⟨s₂, o, q _ h1, r⟩
theorem own_Goes.tr {A B : State} (q : Steps p.tables e below A B) (g : own_Goes p e below s Q ce sl B) : own_Goes p e below s Q ce sl A := g.via fun _ k => q.trans k
theorem own_retV (X : Stand p l e R s m args below meth c T locs cells slots) (hx : p.tables.exec = Jvm.exec) {pc : Nat} {Ls : Array Slot} (hret : meth.sig.returnType = none) (hlk : meth.locks = false) (hd : decode c.code pc = .ok (.return_, 1)) (eT : T.heap = h) (hQ : Q none h locs) (hc : cells ≤ ce) (hs : slots ≤ sl) :
    own_Goes p e below s Q ce sl (T.setTop (mkF m pc Ls [])) := by
  obtain ⟨fs, hr, hrun, hended, hW, hsame⟩ := X.leave (v := none) (fun _ => rfl) hlk
  refine ⟨_, _, ?_, hrun, hended, _, _, rfl, ?_, ⟨_, rfl⟩, hW, hsame.mono hc hs⟩
  · exact X.returnOut hx hret hd hr
  · show Q none T.heap locs
    rw [eT]; exact hQ
theorem own_retI (X : Stand p l e R s m args below meth c T locs cells slots) (hx : p.tables.exec = Jvm.exec) {pc : Nat} {Ls : Array Slot} {z : Int32} {rest : List Value} (hret : meth.sig.returnType = some .int) (hlk : meth.locks = false) (hd : decode c.code pc = .ok (.ireturn, 1)) (eT : T.heap = h) (hQ : Q (some (.int z)) h locs) (hc : cells ≤ ce) (hs : slots ≤ sl) :
    own_Goes p e below s Q ce sl (T.setTop (mkF m pc Ls (.int z :: rest))) := by
  obtain ⟨fs, hr, hrun, hended, hW, hsame⟩ := X.leave (v := some (.int z)) (fun h => by rw [hret] at h; cases h) hlk
  refine ⟨_, _, ?_, hrun, hended, _, _, rfl, ?_, ⟨_, rfl⟩, hW, hsame.mono hc hs⟩
  · exact retOut X hx hret rfl (Or.inl ⟨rfl, Or.inl rfl, z, rfl⟩) hd hr
  · show Q _ T.heap locs
    rw [eT]; exact hQ
theorem own_retJ (X : Stand p l e R s m args below meth c T locs cells slots) (hx : p.tables.exec = Jvm.exec) {pc : Nat} {Ls : Array Slot} {z : Int64} {rest : List Value} (hret : meth.sig.returnType = some .long) (hlk : meth.locks = false) (hd : decode c.code pc = .ok (.lreturn, 1)) (eT : T.heap = h) (hQ : Q (some (.long z)) h locs) (hc : cells ≤ ce) (hs : slots ≤ sl) :
    own_Goes p e below s Q ce sl (T.setTop (mkF m pc Ls (.long z :: rest))) := by
  obtain ⟨fs, hr, hrun, hended, hW, hsame⟩ := X.leave (v := some (.long z)) (fun h => by rw [hret] at h; cases h) hlk
  refine ⟨_, _, ?_, hrun, hended, _, _, rfl, ?_, ⟨_, rfl⟩, hW, hsame.mono hc hs⟩
  · exact retOut X hx hret rfl (Or.inr (Or.inl ⟨rfl, rfl, z, rfl⟩)) hd hr
  · show Q _ T.heap locs
    rw [eT]; exact hQ
theorem own_retR (X : Stand p l e R s m args below meth c T locs cells slots) (hx : p.tables.exec = Jvm.exec) {pc : Nat} {Ls : Array Slot} {t : FieldType} {w : Value} {rest : List Value} (hret : meth.sig.returnType = some t) (hlk : meth.locks = false) (hd : decode c.code pc = .ok (.areturn, 1)) (ht : t.isReference = true) (eT : T.heap = h) (hw : w.isRef = true) (hQ : Q (some w) h locs) (hc : cells ≤ ce) (hs : slots ≤ sl) :
    own_Goes p e below s Q ce sl (T.setTop (mkF m pc Ls (w :: rest))) := by
  obtain ⟨fs, hr, hrun, hended, hW, hsame⟩ := X.leave (v := some w) (fun h => by rw [hret] at h; cases h) hlk
  refine ⟨_, _, ?_, hrun, hended, _, _, rfl, ?_, ⟨_, rfl⟩, hW, hsame.mono hc hs⟩
  · exact retOut X hx hret (by cases t <;> first | (cases ht; done) | rfl) (Or.inr (Or.inr (Or.inr (Or.inr ⟨rfl, ht, hw⟩)))) hd hr
  · show Q _ T.heap locs
    rw [eT]; exact hQ
theorem own_retN (X : Stand p l e R s m args below meth c T locs cells slots) (hx : p.tables.exec = Jvm.exec) {pc : Nat} {Ls : Array Slot} {z v : Int32} {t : FieldType} {rest : List Value} (hret : meth.sig.returnType = some t) (hlk : meth.locks = false) (ht : t = .boolean ∨ t = .byte ∨ t = .char ∨ t = .short) (hd : decode c.code pc = .ok (.ireturn, 1)) (eT : T.heap = h) (hv : nar t z = v) (hQ : Q (some (.int v)) h locs) (hc : cells ≤ ce) (hs : slots ≤ sl) :
    own_Goes p e below s Q ce sl (T.setTop (mkF m pc Ls (.int z :: rest))) := by
  subst hv
  obtain ⟨fs, hr, hrun, hended, hW, hsame⟩ := X.leave (v := some (.int (nar t z))) (fun h => by rw [hret] at h; cases h) hlk
  refine ⟨_, _, ?_, hrun, hended, _, _, rfl, ?_, ⟨_, rfl⟩, hW, hsame.mono hc hs⟩
  · exact retN X hx hret ht hd hr
  · show Q _ T.heap locs
    rw [eT]; exact hQ
/-! 3. single steps -/
theorem own_irem {g : JFrame} {target : State} (X : Stand p l e R s m args below meth c T locs cells slots) (hx : p.tables.exec = Jvm.exec) (hg : g.method = m) {x y : Int32} {rest : List Value} (hd : decode c.code g.pc = .ok (.irem, 1)) (hs : g.stack = .int y :: .int x :: rest) (hy : y ≠ 0)
    (hr : Steps p.tables e below (T.setTop { g with pc := g.pc + 1, stack := .int (x % y) :: rest }) target) : Steps p.tables e below (T.setTop g) target := iremM X hx hg hd hs hy hr
theorem own_lrem {g : JFrame} {target : State} (X : Stand p l e R s m args below meth c T locs cells slots) (hx : p.tables.exec = Jvm.exec) (hg : g.method = m) {x y : Int64} {rest : List Value} (hd : decode c.code g.pc = .ok (.lrem, 1)) (hs : g.stack = .long y :: .long x :: rest) (hy : y ≠ 0)
    (hr : Steps p.tables e below (T.setTop { g with pc := g.pc + 1, stack := .long (x % y) :: rest }) target) : Steps p.tables e below (T.setTop g) target :=
  XS.lrem X.here hx hg hd hs hy (by rw [lrem_mod]; exact hr)
theorem own_tltL {x y : Int64} (q : x < y) : ifCond.holds .lt (lcmpW x y) = true ∧ ifCond.holds .ge (lcmpW x y) = false := by
  rw [if0, if0]; exact ⟨(tlt ((lw_lt x y).mpr q)).1, (tlt ((lw_lt x y).mpr q)).2.1⟩
theorem own_fltL {x y : Int64} (q : ¬ x < y) : ifCond.holds .lt (lcmpW x y) = false ∧ ifCond.holds .ge (lcmpW x y) = true := by
  rw [if0, if0]; exact ⟨(flt fun z => q ((lw_lt x y).mp z)).1, (flt fun z => q ((lw_lt x y).mp z)).2.1⟩
theorem own_tgtL {x y : Int64} (q : y < x) : ifCond.holds .gt (lcmpW x y) = true ∧ ifCond.holds .le (lcmpW x y) = false := by
  rw [if0, if0]; exact ⟨(tlt ((lw_gt x y).mpr q)).2.2.1, (tlt ((lw_gt x y).mpr q)).2.2.2⟩
theorem own_fgtL {x y : Int64} (q : ¬ y < x) : ifCond.holds .gt (lcmpW x y) = false ∧ ifCond.holds .le (lcmpW x y) = true := by
  rw [if0, if0]; exact ⟨(flt fun z => q ((lw_gt x y).mp z)).2.2.1, (flt fun z => q ((lw_gt x y).mp z)).2.2.2⟩
theorem own_teqL {x y : Int64} (q : x = y) : ifCond.holds .eq (lcmpW x y) = true ∧ ifCond.holds .ne (lcmpW x y) = false := by
  rw [if0, if0]; exact ⟨(teq ((lw_eq x y).mpr q)).1, (teq ((lw_eq x y).mpr q)).2⟩
theorem own_feqL {x y : Int64} (q : ¬ x = y) : ifCond.holds .eq (lcmpW x y) = false ∧ ifCond.holds .ne (lcmpW x y) = true := by
  rw [if0, if0]; exact ⟨(feq fun z => q ((lw_eq x y).mp z)).1, (feq fun z => q ((lw_eq x y).mp z)).2⟩
theorem own_st1 {L : Array Slot} {i : Nat} {v : Value} {o : Slot} {L' : Array Slot} (hold : L[i]? = some o) (ho : One o) (hv : v.category = 1) (hL : L.setIfInBounds i (.val v) = L' := by rfl) : storeLocals L i v = some L' := hL ▸ XS.store1 hold ho hv
theorem own_privSel {s : State} {args : Array Value} {y : MethodName} {n : Nat} (wi : (Cond.instantiable y.cls n).before args s = true) (hp : s.PrivateAt y) (hinst : (Cond.instanceMethod y).before args s = true) (hy : y.cls ≠ "java/lang/invoke/MethodHandle" ∧ y.cls ≠ "java/lang/invoke/VarHandle") : (Cond.selects y.cls y y).before args s = true := by
  obtain ⟨c, k, h1, h2, -, h3, -⟩ := Cond.instantiable_spec wi
  exact selects_self_of_private h1 h2 (Bool.or_eq_false_iff.mp h3).1 hp hinst hy
theorem own_st2 {L L' : Array Slot} {i : Nat} {x : Int64} {o1 o2 : Slot} (h1 : L[i]? = some o1) (h2 : L[i + 1]? = some o2) (q1 : One o1) (q2 : One o2) (hL : (L.setIfInBounds i (.val (.long x))).setIfInBounds (i + 1) .second = L' := by rfl) : storeLocals L i (.long x) = some L' := by
  subst hL
  obtain ⟨b1, g1⟩ := Array.getElem?_eq_some_iff.mp h1
  obtain ⟨b2, g2⟩ := Array.getElem?_eq_some_iff.mp h2
  have hc : (Value.long x).category = 2 := rfl
  rcases q1 with rfl | ⟨w, rfl, hw⟩ <;> rcases q2 with rfl | ⟨w', rfl, hw'⟩ <;> simp [storeLocals, storeSelf, setAt, hc, *]
/-! 4. arrays: what lies in them, as a list -/
def own_Ar (Z : State) (h : Heap) (a : Addr) (ty : FieldType) (vs : List Value) : Prop := ∃ c : Cell, Arr Z h a c ty ∧ c.slots.toList = vs ∧ vs.length < 2 ^ 31 ∧ ∀ v ∈ vs, fits ty v = true
variable {a b : Addr} {ty : FieldType} {vs : List Value}
theorem own_Ar.lt (F : own_Ar Z h a ty vs) : a < h.size := by obtain ⟨c, A, -⟩ := F; exact A.lt
theorem own_Ar.ext (F : own_Ar Z h a ty vs) (E : Ext h h') : own_Ar Z h' a ty vs := by obtain ⟨c, A, r⟩ := F; exact ⟨c, A.ext E, r⟩
theorem own_Ar.other {k : Nat} {v : Value} (F : own_Ar Z h b ty vs) (W : Wr h h' a k v) (q : b ≠ a) : own_Ar Z h' b ty vs := by obtain ⟨c, A, r⟩ := F; exact ⟨c, A.other W q, r⟩
theorem own_Ar.keep {ws : List Addr} (F : own_Ar Z h a ty vs) (K : Keep h h' ws) (q : a ∉ ws) : own_Ar Z h' a ty vs := by obtain ⟨c, A, r⟩ := F; exact ⟨c, ⟨K.2.1 a c A.1 q, A.2⟩, r⟩
theorem own_Ar.size {c : Cell} (q : c.slots.toList = vs) : c.slots.size = vs.length := by rw [← q]; simp
theorem own_in {c : Cell} {j : Int32} (q : c.slots.toList = vs) (hj : own_inb vs j) : ¬ (j < 0 ∨ c.slots.size ≤ j.toNatClampNeg) := by
  rw [own_Ar.size q]
  rintro (r | r)
  · exact hj.1 r
  · exact absurd hj.2 (Nat.not_lt.mpr r)
theorem own_get {c : Cell} {i : Nat} (q : c.slots.toList = vs) (d : Value) (hi : i < vs.length) : c.slots[i]? = some (vs.getD i d) := by
  have e : c.slots = vs.toArray := by rw [← q]
  rw [e]
  simp [List.getD, hi]
theorem own_set {c : Cell} {i : Nat} {v : Value} (q : c.slots.toList = vs) : (c.setSlot i v).slots.toList = vs.set i v := by
  have e : c.slots = vs.toArray := by rw [← q]
  simp [Cell.setSlot, e]
theorem own_fits {i : Nat} {v : Value} (q : ∀ v ∈ vs, fits ty v = true) (hv : fits ty v = true) : ∀ u ∈ vs.set i v, fits ty u = true := fun u hu => by
  rcases List.mem_or_eq_of_mem_set hu with r | r
  · exact q u r
  · rw [r]; exact hv
theorem own_mapGet {bs : List Int32} {i : Nat} (hi : i < bs.length) : (bs.map Value.int).getD i (.int 0) = .int (bs.getD i 0) := by simp [List.getD, hi]
theorem own_mapGetJ {bs : List Int64} {i : Nat} (hi : i < bs.length) : (bs.map Value.long).getD i (.long 0) = .long (bs.getD i 0) := by simp [List.getD, hi]
theorem own_mapSet {bs : List Int32} {i : Nat} {v : Int32} : (bs.map Value.int).set i (.int v) = (bs.set i v).map Value.int := by simp
theorem own_mapSetJ {bs : List Int64} {i : Nat} {v : Int64} : (bs.map Value.long).set i (.long v) = (bs.set i v).map Value.long := by simp
theorem own_inbM {α : Type} {f : α → Value} {bs : List α} {j : Int32} (q : own_inb bs j) : own_inb (bs.map f) j := ⟨q.1, by rw [List.length_map]; exact q.2⟩
theorem own_wrk {α : Type} {bs : List α} {j : Int32} {v : α} (k : Nat) (hk : j.toNatClampNeg = k) : own_wr bs j v = bs.set k v := by rw [own_wr, hk]
theorem own_rdk {α : Type} [OfNat α 0] {bs : List α} {j : Int32} (k : Nat) (hk : j.toNatClampNeg = k) : own_rd bs j = bs.getD k 0 := by rw [own_rd, hk]
theorem own_inbk {α : Type} {bs : List α} {j : Int32} (k n : Nat) (h0 : ¬ j < 0) (hk : j.toNatClampNeg = k) (hl : bs.length = n) (hkn : k < n) : own_inb bs j := ⟨h0, by rw [hk, hl]; exact hkn⟩
theorem own_len {α : Type} {f : α → Value} {bs : List α} (X : Stand p l e R s m args below meth c T locs cells slots) (hx : p.tables.exec = Jvm.exec) (hZ : Z.Warmed39 s.vm) (eT : T.heap = h) (A : own_Ar Z h a ty (bs.map f)) {g : JFrame} (hg : g.method = m) {rest : List Value} (hs : g.stack = .ref a :: rest) (hd : decode c.code g.pc = .ok (.arraylength, 1)) {target : State}
    (hr : Steps p.tables e below (T.setTop { g with pc := g.pc + 1, stack := .int (own_sz bs) :: rest }) target) : Steps p.tables e below (T.setTop g) target := by
  obtain ⟨cl, A, q, -⟩ := A
  refine X.arraylength hx (by rw [eT]; exact A.1) (State.isArrayOf_alike hZ.alike A.2.1) hg hs hd _ ?_
  rw [own_Ar.size q, List.length_map]; exact hr
theorem own_ldI {bs : List Int32} {j v : Int32} (X : Stand p l e R s m args below meth c T locs cells slots) (hx : p.tables.exec = Jvm.exec) (hZ : Z.Warmed39 s.vm) (eT : T.heap = h) (A : own_Ar Z h a .int (bs.map Value.int)) (hj : own_inb bs j) (hv : own_rd bs j = v) {g : JFrame} (hg : g.method = m) {rest : List Value} (hs : g.stack = .int j :: .ref a :: rest) (hd : decode c.code g.pc = .ok (.iaload, 1)) {target : State}
    (hr : Steps p.tables e below (T.setTop { g with pc := g.pc + 1, stack := .int v :: rest }) target) : Steps p.tables e below (T.setTop g) target := by
  subst hv
  obtain ⟨cl, A, q, -⟩ := A
  exact X.iaload hx (by rw [eT]; exact A.1) (State.isArrayOf_alike hZ.alike A.2.1) A.2.2 (own_in q (own_inbM hj)) ((own_get q (.int 0) (own_inbM hj).2).trans (congrArg some (own_mapGet hj.2))) hg hs hd _ hr
theorem own_ldB {bs : List Int32} {j v : Int32} (X : Stand p l e R s m args below meth c T locs cells slots) (hx : p.tables.exec = Jvm.exec) (hZ : Z.Warmed39 s.vm) (eT : T.heap = h) (A : own_Ar Z h a .byte (bs.map Value.int)) (hj : own_inb bs j) (hv : own_rd bs j = v) {g : JFrame} (hg : g.method = m) {rest : List Value} (hs : g.stack = .int j :: .ref a :: rest) (hd : decode c.code g.pc = .ok (.baload, 1)) {target : State}
    (hr : Steps p.tables e below (T.setTop { g with pc := g.pc + 1, stack := .int v :: rest }) target) : Steps p.tables e below (T.setTop g) target := by
  subst hv
  obtain ⟨cl, A, q, -⟩ := A
  exact X.baloadBytes hx (by rw [eT]; exact A.1) (State.isArrayOf_alike hZ.alike A.2.1) A.2.2 (own_in q (own_inbM hj)) ((own_get q (.int 0) (own_inbM hj).2).trans (congrArg some (own_mapGet hj.2))) hg hs hd _ hr
theorem own_ldZ {bs : List Int32} {j v : Int32} (X : Stand p l e R s m args below meth c T locs cells slots) (hx : p.tables.exec = Jvm.exec) (hZ : Z.Warmed39 s.vm) (eT : T.heap = h) (A : own_Ar Z h a .boolean (bs.map Value.int)) (hj : own_inb bs j) (hv : own_rd bs j = v) {g : JFrame} (hg : g.method = m) {rest : List Value} (hs : g.stack = .int j :: .ref a :: rest) (hd : decode c.code g.pc = .ok (.baload, 1)) {target : State}
    (hr : Steps p.tables e below (T.setTop { g with pc := g.pc + 1, stack := .int v :: rest }) target) : Steps p.tables e below (T.setTop g) target := by
  subst hv
  obtain ⟨cl, A, q, -⟩ := A
  exact X.baloadBooleans hx (by rw [eT]; exact A.1) (State.isArrayOf_alike hZ.alike A.2.1) A.2.2 (own_in q (own_inbM hj)) ((own_get q (.int 0) (own_inbM hj).2).trans (congrArg some (own_mapGet hj.2))) hg hs hd _ hr
theorem own_ldJ {bs : List Int64} {j : Int32} {v : Int64} (X : Stand p l e R s m args below meth c T locs cells slots) (hx : p.tables.exec = Jvm.exec) (hZ : Z.Warmed39 s.vm) (eT : T.heap = h) (A : own_Ar Z h a .long (bs.map Value.long)) (hj : own_inb bs j) (hv : own_rd bs j = v) {g : JFrame} (hg : g.method = m) {rest : List Value} (hs : g.stack = .int j :: .ref a :: rest) (hd : decode c.code g.pc = .ok (.laload, 1)) {target : State}
    (hr : Steps p.tables e below (T.setTop { g with pc := g.pc + 1, stack := .long v :: rest }) target) : Steps p.tables e below (T.setTop g) target := by
  subst hv
  obtain ⟨cl, A, q, -⟩ := A
  exact X.laload hx (by rw [eT]; exact A.1) (State.isArrayOf_alike hZ.alike A.2.1) A.2.2 (own_in q (own_inbM hj)) ((own_get q (.long 0) (own_inbM hj).2).trans (congrArg some (own_mapGetJ hj.2))) hg hs hd _ hr
theorem own_stI {bs : List Int32} {j x : Int32} (X : Stand p l e R s m args below meth c T locs cells slots) (hx : p.tables.exec = Jvm.exec) (hZ : Z.Warmed39 s.vm) (eT : T.heap = h) (A : own_Ar Z h a .int (bs.map Value.int)) (hj : own_inb bs j) {g : JFrame} (hg : g.method = m) {rest : List Value} (hs : g.stack = .int x :: .int j :: .ref a :: rest) (hd : decode c.code g.pc = .ok (.iastore, 1)) :
    ∃ T' h', Stand p l e R s m args below meth c T' (locs ++ [⟨a, j.toNatClampNeg⟩]) cells slots ∧ T'.heap = h' ∧ Wr h h' a j.toNatClampNeg (.int x) ∧ own_Ar Z h' a .int ((own_wr bs j x).map Value.int) ∧ ∀ target, Steps p.tables e below (T'.setTop { g with pc := g.pc + 1, stack := rest }) target → Steps p.tables e below (T.setTop g) target := by
  obtain ⟨cl, A, q, r, ft⟩ := A
  obtain ⟨T', h', X', e', W, st⟩ := stI X hx hZ eT A (own_in q (own_inbM hj)) hg hs hd
  exact ⟨T', h', X', e', W, ⟨_, A.same W, (own_set q).trans own_mapSet, by simpa [own_wr] using r, own_mapSet ▸ own_fits ft rfl⟩, st⟩
theorem own_stB {bs : List Int32} {j x : Int32} (X : Stand p l e R s m args below meth c T locs cells slots) (hx : p.tables.exec = Jvm.exec) (hZ : Z.Warmed39 s.vm) (eT : T.heap = h) (A : own_Ar Z h a .byte (bs.map Value.int)) (hj : own_inb bs j) {g : JFrame} (hg : g.method = m) {rest : List Value} (hs : g.stack = .int x :: .int j :: .ref a :: rest) (hd : decode c.code g.pc = .ok (.bastore, 1)) :
    ∃ T' h', Stand p l e R s m args below meth c T' (locs ++ [⟨a, j.toNatClampNeg⟩]) cells slots ∧ T'.heap = h' ∧ Wr h h' a j.toNatClampNeg (.int x.toInt8.toInt32) ∧ own_Ar Z h' a .byte ((own_wr bs j x.toInt8.toInt32).map Value.int) ∧ ∀ target, Steps p.tables e below (T'.setTop { g with pc := g.pc + 1, stack := rest }) target → Steps p.tables e below (T.setTop g) target := by
  obtain ⟨cl, A, q, r, ft⟩ := A
  obtain ⟨T', h', X', e', W, st⟩ := stB X hx hZ eT A (own_in q (own_inbM hj)) hg hs hd
  exact ⟨T', h', X', e', W, ⟨_, A.same W, (own_set q).trans own_mapSet, by simpa [own_wr] using r, own_mapSet ▸ own_fits ft (fits_nar_byte _)⟩, st⟩
theorem own_stZ {bs : List Int32} {j x : Int32} (X : Stand p l e R s m args below meth c T locs cells slots) (hx : p.tables.exec = Jvm.exec) (hZ : Z.Warmed39 s.vm) (eT : T.heap = h) (A : own_Ar Z h a .boolean (bs.map Value.int)) (hj : own_inb bs j) {g : JFrame} (hg : g.method = m) {rest : List Value} (hs : g.stack = .int x :: .int j :: .ref a :: rest) (hd : decode c.code g.pc = .ok (.bastore, 1)) :
    ∃ T' h', Stand p l e R s m args below meth c T' (locs ++ [⟨a, j.toNatClampNeg⟩]) cells slots ∧ T'.heap = h' ∧ Wr h h' a j.toNatClampNeg (.int (x &&& 1)) ∧ own_Ar Z h' a .boolean ((own_wr bs j (x &&& 1)).map Value.int) ∧ ∀ target, Steps p.tables e below (T'.setTop { g with pc := g.pc + 1, stack := rest }) target → Steps p.tables e below (T.setTop g) target := by
  obtain ⟨cl, A, q, r, ft⟩ := A
  obtain ⟨T', h', X', e', W, st⟩ := stZ X hx hZ eT A (own_in q (own_inbM hj)) hg hs hd
  exact ⟨T', h', X', e', W, ⟨_, A.same W, (own_set q).trans own_mapSet, by simpa [own_wr] using r, own_mapSet ▸ own_fits ft (fits_nar_bool _)⟩, st⟩
theorem own_stJ {bs : List Int64} {j : Int32} {x : Int64} (X : Stand p l e R s m args below meth c T locs cells slots) (hx : p.tables.exec = Jvm.exec) (hZ : Z.Warmed39 s.vm) (eT : T.heap = h) (A : own_Ar Z h a .long (bs.map Value.long)) (hj : own_inb bs j) {g : JFrame} (hg : g.method = m) {rest : List Value} (hs : g.stack = .long x :: .int j :: .ref a :: rest) (hd : decode c.code g.pc = .ok (.lastore, 1)) :
    ∃ T' h', Stand p l e R s m args below meth c T' (locs ++ [⟨a, j.toNatClampNeg⟩]) cells slots ∧ T'.heap = h' ∧ Wr h h' a j.toNatClampNeg (.long x) ∧ own_Ar Z h' a .long ((own_wr bs j x).map Value.long) ∧ ∀ target, Steps p.tables e below (T'.setTop { g with pc := g.pc + 1, stack := rest }) target → Steps p.tables e below (T.setTop g) target := by
  obtain ⟨cl, A, q, r, ft⟩ := A
  obtain ⟨T', h', X', e', W, st⟩ := stJ X hx hZ eT A (own_in q (own_inbM hj)) hg hs hd
  exact ⟨T', h', X', e', W, ⟨_, A.same W, (own_set q).trans own_mapSetJ, by simpa [own_wr] using r, own_mapSetJ ▸ own_fits ft rfl⟩, st⟩
theorem own_newI {k : ClassId} {n : Int32} {kk : Nat} (A : Arr Z h a (newA k ty n) ty) (q : ¬ n < 0) (hd : defaultValue ty = .int 0) (hk : n.toNatClampNeg = kk) : own_Ar Z h a ty ((List.replicate kk (0 : Int32)).map Value.int) := hk ▸
  ⟨_, A, by simp [newA, hd], by rw [List.length_map, List.length_replicate]; exact (back32 q).2, fun v hv => by
    rw [List.map_replicate] at hv
    rw [(List.mem_replicate.mp hv).2, ← hd]; cases ty <;> rfl⟩
theorem own_newJ {k : ClassId} {n : Int32} {kk : Nat} (A : Arr Z h a (newA k ty n) ty) (q : ¬ n < 0) (hd : defaultValue ty = .long 0) (hk : n.toNatClampNeg = kk) : own_Ar Z h a ty ((List.replicate kk (0 : Int64)).map Value.long) := hk ▸
  ⟨_, A, by simp [newA, hd], by rw [List.length_map, List.length_replicate]; exact (back32 q).2, fun v hv => by
    rw [List.map_replicate] at hv
    rw [(List.mem_replicate.mp hv).2, ← hd]; cases ty <;> rfl⟩
end Own
theorem w0 {a0 : Array Value} {Z : State} (hw : ∀ d ∈ tables_1, d.before a0 Z = true) : ((Jvm.Cond.constant "tidemark/cli/ElementReaderLineFillsHeapPinLaw" (7 : Nat) (2147483647 : Int32))).before a0 Z = true := hw _ (List.mem_of_getElem? (i := 0) rfl)
theorem w1 {a0 : Array Value} {Z : State} (hw : ∀ d ∈ tables_1, d.before a0 Z = true) : ((Jvm.Cond.constantLong "tidemark/cli/ElementReaderLineFillsHeapPinLaw" (20 : Nat) (9223372036854775807 : Int64))).before a0 Z = true := hw _ (List.mem_of_getElem? (i := 1) rfl)
theorem w2 {a0 : Array Value} {Z : State} (hw : ∀ d ∈ tables_1, d.before a0 Z = true) : ((Jvm.Cond.constantLong "tidemark/cli/ElementReaderLineFillsHeapPinLaw" (8 : Nat) (2 : Int64))).before a0 Z = true := hw _ (List.mem_of_getElem? (i := 2) rfl)
theorem w3 {a0 : Array Value} {Z : State} (hw : ∀ d ∈ tables_1, d.before a0 Z = true) : ((Jvm.Cond.methodLink "tidemark/cli/ElementReaderLineFillsHeapPinLaw" (22 : Nat) ({ cls := "tidemark/cli/ElementReader", name := "lineFillsHeap", desc := "(IIJJ)Z" } : Jvm.MethodName))).before a0 Z = true := hw _ (List.mem_of_getElem? (i := 3) rfl)
theorem w4 {a0 : Array Value} {Z : State} (hw : ∀ d ∈ tables_1, d.before a0 Z = true) : ((Jvm.Cond.static ({ cls := "tidemark/cli/ElementReader", name := "lineFillsHeap", desc := "(IIJJ)Z" } : Jvm.MethodName))).before a0 Z = true := hw _ (List.mem_of_getElem? (i := 4) rfl)
theorem w5 {a0 : Array Value} {Z : State} (hw : ∀ d ∈ tables_1, d.before a0 Z = true) : ((Jvm.Cond.initialized "tidemark/cli/ElementReader")).before a0 Z = true := hw _ (List.mem_of_getElem? (i := 5) rfl)
theorem w6 {a0 : Array Value} {Z : State} (hw : ∀ d ∈ tables_1, d.before a0 Z = true) : ((Jvm.Cond.code ({ cls := "tidemark/cli/ElementReader", name := "lineFillsHeap", desc := "(IIJJ)Z" } : Jvm.MethodName) prog_122_method_58_code (8 : Nat) (Option.some Jvm.ClassFile.FieldType.boolean))).before a0 Z = true := hw _ (List.mem_of_getElem? (i := 6) rfl)
theorem w7 {a0 : Array Value} {Z : State} (hw : ∀ d ∈ tables_1, d.before a0 Z = true) : ((Jvm.Cond.constantLong "tidemark/cli/ElementReader" (474 : Nat) (2 : Int64))).before a0 Z = true := hw _ (List.mem_of_getElem? (i := 7) rfl)
theorem w8 {a0 : Array Value} {Z : State} (hw : ∀ d ∈ tables_1, d.before a0 Z = true) : ((Jvm.Cond.constantLong "tidemark/cli/ElementReaderLineFillsHeapPinLaw" (10 : Nat) (4 : Int64))).before a0 Z = true := hw _ (List.mem_of_getElem? (i := 8) rfl)
theorem w9 {a0 : Array Value} {Z : State} (hw : ∀ d ∈ tables_1, d.before a0 Z = true) : ((Jvm.Cond.methodLink "tidemark/cli/ElementReaderLineFillsHeapPinLaw" (12 : Nat) ({ cls := "java/lang/Math", name := "max", desc := "(JJ)J" } : Jvm.MethodName))).before a0 Z = true := hw _ (List.mem_of_getElem? (i := 9) rfl)
theorem w10 {a0 : Array Value} {Z : State} (hw : ∀ d ∈ tables_1, d.before a0 Z = true) : ((Jvm.Cond.static ({ cls := "java/lang/Math", name := "max", desc := "(JJ)J" } : Jvm.MethodName))).before a0 Z = true := hw _ (List.mem_of_getElem? (i := 10) rfl)
theorem w11 {a0 : Array Value} {Z : State} (hw : ∀ d ∈ tables_1, d.before a0 Z = true) : ((Jvm.Cond.initialized "java/lang/Math")).before a0 Z = true := hw _ (List.mem_of_getElem? (i := 11) rfl)
theorem w12 {a0 : Array Value} {Z : State} (hw : ∀ d ∈ tables_1, d.before a0 Z = true) : ((Jvm.Cond.code ({ cls := "java/lang/Math", name := "max", desc := "(JJ)J" } : Jvm.MethodName) jdk_29_method_66_code (4 : Nat) (Option.some Jvm.ClassFile.FieldType.long))).before a0 Z = true := hw _ (List.mem_of_getElem? (i := 12) rfl)
theorem pn_tidemark_cli_ElementReader : plainName "tidemark/cli/ElementReader" = true := by first | (simp [plainName, overriddenIn]; done) | decide +kernel
theorem pn_tidemark_cli_ElementReaderLineFillsHeapPinLaw : plainName "tidemark/cli/ElementReaderLineFillsHeapPinLaw" = true := by first | (simp [plainName, overriddenIn]; done) | decide +kernel
theorem pd_0 : parseMethodDescriptor "(IIJJ)Z" = some ⟨[.int, .int, .long, .long], some .boolean⟩ := by decide +kernel
theorem pd_1 : parseMethodDescriptor "(JJ)J" = some ⟨[.long, .long], some .long⟩ := by decide +kernel
theorem dElementReader_lineFillsHeap_0 : decode prog_122_method_58_code 0 = .ok (.iload_n 0, 1) := by decide +kernel
theorem dElementReader_lineFillsHeap_1 : decode prog_122_method_58_code 1 = .ok (.i2l, 1) := by decide +kernel
theorem dElementReader_lineFillsHeap_2 : decode prog_122_method_58_code 2 = .ok (.iload_n 1, 1) := by decide +kernel
theorem dElementReader_lineFillsHeap_3 : decode prog_122_method_58_code 3 = .ok (.i2l, 1) := by decide +kernel
theorem dElementReader_lineFillsHeap_4 : decode prog_122_method_58_code 4 = .ok (.ladd, 1) := by decide +kernel
theorem dElementReader_lineFillsHeap_5 : decode prog_122_method_58_code 5 = .ok (.lstore 6, 2) := by decide +kernel
theorem dElementReader_lineFillsHeap_7 : decode prog_122_method_58_code 7 = .ok (.lload 6, 2) := by decide +kernel
theorem dElementReader_lineFillsHeap_9 : decode prog_122_method_58_code 9 = .ok (.lload 4, 2) := by decide +kernel
theorem dElementReader_lineFillsHeap_11 : decode prog_122_method_58_code 11 = .ok (.ldc2_w 474, 3) := by decide +kernel
theorem dElementReader_lineFillsHeap_14 : decode prog_122_method_58_code 14 = .ok (.ldiv, 1) := by decide +kernel
theorem dElementReader_lineFillsHeap_15 : decode prog_122_method_58_code 15 = .ok (.lcmp, 1) := by decide +kernel
theorem dElementReader_lineFillsHeap_16 : decode prog_122_method_58_code 16 = .ok (.ifCond .le 17, 3) := by decide +kernel
theorem dElementReader_lineFillsHeap_19 : decode prog_122_method_58_code 19 = .ok (.lload 6, 2) := by decide +kernel
theorem dElementReader_lineFillsHeap_21 : decode prog_122_method_58_code 21 = .ok (.lload_n 2, 1) := by decide +kernel
theorem dElementReader_lineFillsHeap_22 : decode prog_122_method_58_code 22 = .ok (.iload_n 0, 1) := by decide +kernel
theorem dElementReader_lineFillsHeap_23 : decode prog_122_method_58_code 23 = .ok (.i2l, 1) := by decide +kernel
theorem dElementReader_lineFillsHeap_24 : decode prog_122_method_58_code 24 = .ok (.lsub, 1) := by decide +kernel
theorem dElementReader_lineFillsHeap_25 : decode prog_122_method_58_code 25 = .ok (.lcmp, 1) := by decide +kernel
theorem dElementReader_lineFillsHeap_26 : decode prog_122_method_58_code 26 = .ok (.ifCond .le 7, 3) := by decide +kernel
theorem dElementReader_lineFillsHeap_29 : decode prog_122_method_58_code 29 = .ok (.iconst 1, 1) := by decide +kernel
theorem dElementReader_lineFillsHeap_30 : decode prog_122_method_58_code 30 = .ok (.goto 4, 3) := by decide +kernel
theorem dElementReader_lineFillsHeap_33 : decode prog_122_method_58_code 33 = .ok (.iconst 0, 1) := by decide +kernel
theorem dElementReader_lineFillsHeap_34 : decode prog_122_method_58_code 34 = .ok (.ireturn, 1) := by decide +kernel
theorem dMath_max_0 : decode jdk_29_method_66_code 0 = .ok (.lload_n 0, 1) := by decide +kernel
theorem dMath_max_1 : decode jdk_29_method_66_code 1 = .ok (.lload_n 2, 1) := by decide +kernel
theorem dMath_max_2 : decode jdk_29_method_66_code 2 = .ok (.lcmp, 1) := by decide +kernel
theorem dMath_max_3 : decode jdk_29_method_66_code 3 = .ok (.ifCond .lt 7, 3) := by decide +kernel
theorem dMath_max_6 : decode jdk_29_method_66_code 6 = .ok (.lload_n 0, 1) := by decide +kernel
theorem dMath_max_7 : decode jdk_29_method_66_code 7 = .ok (.goto 4, 3) := by decide +kernel
theorem dMath_max_10 : decode jdk_29_method_66_code 10 = .ok (.lload_n 2, 1) := by decide +kernel
theorem dMath_max_11 : decode jdk_29_method_66_code 11 = .ok (.lreturn, 1) := by decide +kernel
/-! tidemark/cli/ElementReader.lineFillsHeap:(IIJJ)Z -/
def f_ElementReader_lineFillsHeap (v0 : Int32) (v1 : Int32) (v2 : Int64) (v4 : Int64) : Option (Int32) :=
  own_lt ((v0.toInt64) + (v1.toInt64)) fun x9 =>
  if (v4 / (2 : Int64)) < x9 then
    if (v2 - (v0.toInt64)) < x9 then
      some (1 : Int32)
    else
      some (0 : Int32)
  else
    some (0 : Int32)
def Q_ElementReader_lineFillsHeap (Z : State) (hE : Heap) (n0 : Nat)  (r : Int32) (v : Option Value) (h : Heap) (L : List Loc) : Prop := v = some (.int r) ∧ Fr n0 L ∧ h = hE
def Cx_ElementReader_lineFillsHeap (p : Program) (s : State) (m : MethodId) (meth : Method) (c : Code) (Z : State) (a0 : Array Value) : Prop := p.tables.exec = Jvm.exec ∧ Z.Warmed39 s.vm ∧ (∀ d ∈ tables_1, d.before a0 Z = true) ∧ c.code = prog_122_method_58_code ∧ c.maxLocals = 8 ∧ s.vm.findClass "tidemark/cli/ElementReader" = some m.cls ∧ meth.sig.returnType = some .boolean ∧ meth.locks = false ∧ meth.name = "lineFillsHeap"
set_option maxRecDepth 65536 in
set_option maxHeartbeats 4000000 in
theorem b_ElementReader_lineFillsHeap {p : Program} {l : Launch} {e : Env} {s : State} {m : MethodId} {args : Array Value} {below : List Frame} {meth : Method} {c : Code} {Z : State} {a0 : Array Value} {n0 : Nat} {hE : Heap} (cx : Cx_ElementReader_lineFillsHeap p s m meth c Z a0) :
    ∀ {T : State} {locs : List Loc} (X : Stand p l e ({ frames := 0, cells := 0, slots := 0, locals := 0 } : Room) s m args below meth c T locs 0 0) (eT : T.heap = hE) (N : Fr n0 locs) (z : n0 ≤ hE.size) (v0 : Int32) (v1 : Int32) (v2 : Int64) (v4 : Int64) (r : Int32), f_ElementReader_lineFillsHeap v0 v1 v2 v4 = some r → own_Goes p e below s (Q_ElementReader_lineFillsHeap Z hE n0 r) 0 0 (T.setTop (mkF m 0 #[.val (.int v0), .val (.int v1), .val (.long v2), .second, .val (.long v4), .second, .unset, .unset] [])) := by
  have cx' := cx
  obtain ⟨hx, hZ, hw, hby, hml, hown, hret, hlk, hnm⟩ := cx'
  intro T locs X eT N z v0 v1 v2 v4 r hF
  unfold f_ElementReader_lineFillsHeap at hF
  refine own_Goes.via (B := T.setTop (mkF m 5 #[.val (.int v0), .val (.int v1), .val (.long v2), .second, .val (.long v4), .second, .unset, .unset] [(.long ((v0.toInt64) + (v1.toInt64)))])) (fun t k => ?_) ?_
  · show Steps p.tables e below (T.setTop (mkF m 0 #[.val (.int v0), .val (.int v1), .val (.long v2), .second, .val (.long v4), .second, .unset, .unset] [])) t
    refine XS.iloadN X.here hx rfl (hb hby dElementReader_lineFillsHeap_0) rfl ?_
    show Steps p.tables e below (T.setTop (mkF m 1 #[.val (.int v0), .val (.int v1), .val (.long v2), .second, .val (.long v4), .second, .unset, .unset] [(.int v0)])) t
    refine XS.i2l X.here hx rfl (hb hby dElementReader_lineFillsHeap_1) rfl ?_
    show Steps p.tables e below (T.setTop (mkF m 2 #[.val (.int v0), .val (.int v1), .val (.long v2), .second, .val (.long v4), .second, .unset, .unset] [(.long (v0.toInt64))])) t
    refine XS.iloadN X.here hx rfl (hb hby dElementReader_lineFillsHeap_2) rfl ?_
    show Steps p.tables e below (T.setTop (mkF m 3 #[.val (.int v0), .val (.int v1), .val (.long v2), .second, .val (.long v4), .second, .unset, .unset] [(.int v1), (.long (v0.toInt64))])) t
    refine XS.i2l X.here hx rfl (hb hby dElementReader_lineFillsHeap_3) rfl ?_
    show Steps p.tables e below (T.setTop (mkF m 4 #[.val (.int v0), .val (.int v1), .val (.long v2), .second, .val (.long v4), .second, .unset, .unset] [(.long (v1.toInt64)), (.long (v0.toInt64))])) t
    refine XS.ladd X.here hx rfl (hb hby dElementReader_lineFillsHeap_4) rfl ?_
    exact k
  obtain ⟨x9, hx9, hF⟩ := own_lt_e hF
  rw [← hx9]
  refine own_Goes.via (B := T.setTop (mkF m 16 #[.val (.int v0), .val (.int v1), .val (.long v2), .second, .val (.long v4), .second, .val (.long x9), .second] [(.int (lcmpW x9 (v4 / (2 : Int64))))])) (fun t k => ?_) ?_
  · show Steps p.tables e below (T.setTop (mkF m 5 #[.val (.int v0), .val (.int v1), .val (.long v2), .second, .val (.long v4), .second, .unset, .unset] [(.long x9)])) t
    refine XS.lstore X.here hx rfl (hb hby dElementReader_lineFillsHeap_5) rfl (l' := #[.val (.int v0), .val (.int v1), .val (.long v2), .second, .val (.long v4), .second, .val (.long x9), .second]) rfl ?_
    show Steps p.tables e below (T.setTop (mkF m 7 #[.val (.int v0), .val (.int v1), .val (.long v2), .second, .val (.long v4), .second, .val (.long x9), .second] [])) t
    refine XS.lload X.here hx rfl (hb hby dElementReader_lineFillsHeap_7) rfl ?_
    show Steps p.tables e below (T.setTop (mkF m 9 #[.val (.int v0), .val (.int v1), .val (.long v2), .second, .val (.long v4), .second, .val (.long x9), .second] [(.long x9)])) t
    refine XS.lload X.here hx rfl (hb hby dElementReader_lineFillsHeap_9) rfl ?_
    show Steps p.tables e below (T.setTop (mkF m 11 #[.val (.int v0), .val (.int v1), .val (.long v2), .second, .val (.long v4), .second, .val (.long x9), .second] [(.long v4), (.long x9)])) t
    refine X.ldc2Long hx hown (mvT hZ (w7 hw)) (g := (mkF m 11 #[.val (.int v0), .val (.int v1), .val (.long v2), .second, .val (.long v4), .second, .val (.long x9), .second] [(.long v4), (.long x9)])) rfl (hb hby dElementReader_lineFillsHeap_11) _ ?_
    show Steps p.tables e below (T.setTop (mkF m 14 #[.val (.int v0), .val (.int v1), .val (.long v2), .second, .val (.long v4), .second, .val (.long x9), .second] [(.long (2 : Int64)), (.long v4), (.long x9)])) t
    refine XS.ldiv X.here hx rfl (hb hby dElementReader_lineFillsHeap_14) rfl (by decide) ?_
    show Steps p.tables e below (T.setTop (mkF m 15 #[.val (.int v0), .val (.int v1), .val (.long v2), .second, .val (.long v4), .second, .val (.long x9), .second] [(.long (v4 / (2 : Int64))), (.long x9)])) t
    refine XS.lcmp X.here hx rfl (hb hby dElementReader_lineFillsHeap_15) rfl ?_
    exact k
  by_cases hc16 : (v4 / (2 : Int64)) < x9
  · rw [if_pos hc16] at hF
    refine own_Goes.via (B := T.setTop (mkF m 26 #[.val (.int v0), .val (.int v1), .val (.long v2), .second, .val (.long v4), .second, .val (.long x9), .second] [(.int (lcmpW x9 (v2 - (v0.toInt64))))])) (fun t k => ?_) ?_
    · show Steps p.tables e below (T.setTop (mkF m 16 #[.val (.int v0), .val (.int v1), .val (.long v2), .second, .val (.long v4), .second, .val (.long x9), .second] [(.int (lcmpW x9 (v4 / (2 : Int64))))])) t
      refine XS.ifNo X.here hx rfl (hb hby dElementReader_lineFillsHeap_16) rfl (own_tgtL hc16).2 ?_
      show Steps p.tables e below (T.setTop (mkF m 19 #[.val (.int v0), .val (.int v1), .val (.long v2), .second, .val (.long v4), .second, .val (.long x9), .second] [])) t
      refine XS.lload X.here hx rfl (hb hby dElementReader_lineFillsHeap_19) rfl ?_
      show Steps p.tables e below (T.setTop (mkF m 21 #[.val (.int v0), .val (.int v1), .val (.long v2), .second, .val (.long v4), .second, .val (.long x9), .second] [(.long x9)])) t
      refine XS.lloadN X.here hx rfl (hb hby dElementReader_lineFillsHeap_21) rfl ?_
      show Steps p.tables e below (T.setTop (mkF m 22 #[.val (.int v0), .val (.int v1), .val (.long v2), .second, .val (.long v4), .second, .val (.long x9), .second] [(.long v2), (.long x9)])) t
      refine XS.iloadN X.here hx rfl (hb hby dElementReader_lineFillsHeap_22) rfl ?_
      show Steps p.tables e below (T.setTop (mkF m 23 #[.val (.int v0), .val (.int v1), .val (.long v2), .second, .val (.long v4), .second, .val (.long x9), .second] [(.int v0), (.long v2), (.long x9)])) t
      refine XS.i2l X.here hx rfl (hb hby dElementReader_lineFillsHeap_23) rfl ?_
      show Steps p.tables e below (T.setTop (mkF m 24 #[.val (.int v0), .val (.int v1), .val (.long v2), .second, .val (.long v4), .second, .val (.long x9), .second] [(.long (v0.toInt64)), (.long v2), (.long x9)])) t
      refine XS.lsub X.here hx rfl (hb hby dElementReader_lineFillsHeap_24) rfl ?_
      show Steps p.tables e below (T.setTop (mkF m 25 #[.val (.int v0), .val (.int v1), .val (.long v2), .second, .val (.long v4), .second, .val (.long x9), .second] [(.long (v2 - (v0.toInt64))), (.long x9)])) t
      refine XS.lcmp X.here hx rfl (hb hby dElementReader_lineFillsHeap_25) rfl ?_
      exact k
    by_cases hc26 : (v2 - (v0.toInt64)) < x9
    · rw [if_pos hc26] at hF
      refine own_Goes.via (B := T.setTop (mkF m 34 #[.val (.int v0), .val (.int v1), .val (.long v2), .second, .val (.long v4), .second, .val (.long x9), .second] [(.int (1 : Int32))])) (fun t k => ?_) ?_
      · show Steps p.tables e below (T.setTop (mkF m 26 #[.val (.int v0), .val (.int v1), .val (.long v2), .second, .val (.long v4), .second, .val (.long x9), .second] [(.int (lcmpW x9 (v2 - (v0.toInt64))))])) t
        refine XS.ifNo X.here hx rfl (hb hby dElementReader_lineFillsHeap_26) rfl (own_tgtL hc26).2 ?_
        show Steps p.tables e below (T.setTop (mkF m 29 #[.val (.int v0), .val (.int v1), .val (.long v2), .second, .val (.long v4), .second, .val (.long x9), .second] [])) t
        refine XS.iconst X.here hx rfl (hb hby dElementReader_lineFillsHeap_29) ?_
        show Steps p.tables e below (T.setTop (mkF m 30 #[.val (.int v0), .val (.int v1), .val (.long v2), .second, .val (.long v4), .second, .val (.long x9), .second] [(.int (1 : Int32))])) t
        refine XS.goto X.here hx rfl (pc0 := 30) (pc' := 34) rfl (hb hby dElementReader_lineFillsHeap_30) (by decide) (by decide) ?_
        exact k
      obtain rfl : (1 : Int32) = r := Option.some.inj hF
      exact own_retN X hx (t := .boolean) hret hlk (by simp) (hb hby dElementReader_lineFillsHeap_34) eT (v := (1 : Int32)) (by decide) ⟨rfl, N, rfl⟩ (by decide) (by decide)
    · rw [if_neg hc26] at hF
      refine own_Goes.via (B := T.setTop (mkF m 34 #[.val (.int v0), .val (.int v1), .val (.long v2), .second, .val (.long v4), .second, .val (.long x9), .second] [(.int (0 : Int32))])) (fun t k => ?_) ?_
      · show Steps p.tables e below (T.setTop (mkF m 26 #[.val (.int v0), .val (.int v1), .val (.long v2), .second, .val (.long v4), .second, .val (.long x9), .second] [(.int (lcmpW x9 (v2 - (v0.toInt64))))])) t
        refine XS.ifYes X.here hx rfl (pc0 := 26) (pc' := 33) rfl (hb hby dElementReader_lineFillsHeap_26) rfl (own_fgtL hc26).2 (by decide) (by decide) ?_
        show Steps p.tables e below (T.setTop (mkF m 33 #[.val (.int v0), .val (.int v1), .val (.long v2), .second, .val (.long v4), .second, .val (.long x9), .second] [])) t
        refine XS.iconst X.here hx rfl (hb hby dElementReader_lineFillsHeap_33) ?_
        exact k
      obtain rfl : (0 : Int32) = r := Option.some.inj hF
      exact own_retN X hx (t := .boolean) hret hlk (by simp) (hb hby dElementReader_lineFillsHeap_34) eT (v := (0 : Int32)) (by decide) ⟨rfl, N, rfl⟩ (by decide) (by decide)
  · rw [if_neg hc16] at hF
    refine own_Goes.via (B := T.setTop (mkF m 34 #[.val (.int v0), .val (.int v1), .val (.long v2), .second, .val (.long v4), .second, .val (.long x9), .second] [(.int (0 : Int32))])) (fun t k => ?_) ?_
    · show Steps p.tables e below (T.setTop (mkF m 16 #[.val (.int v0), .val (.int v1), .val (.long v2), .second, .val (.long v4), .second, .val (.long x9), .second] [(.int (lcmpW x9 (v4 / (2 : Int64))))])) t
      refine XS.ifYes X.here hx rfl (pc0 := 16) (pc' := 33) rfl (hb hby dElementReader_lineFillsHeap_16) rfl (own_fgtL hc16).2 (by decide) (by decide) ?_
      show Steps p.tables e below (T.setTop (mkF m 33 #[.val (.int v0), .val (.int v1), .val (.long v2), .second, .val (.long v4), .second, .val (.long x9), .second] [])) t
      refine XS.iconst X.here hx rfl (hb hby dElementReader_lineFillsHeap_33) ?_
      exact k
    obtain rfl : (0 : Int32) = r := Option.some.inj hF
    exact own_retN X hx (t := .boolean) hret hlk (by simp) (hb hby dElementReader_lineFillsHeap_34) eT (v := (0 : Int32)) (by decide) ⟨rfl, N, rfl⟩ (by decide) (by decide)
theorem ef_ElementReader_lineFillsHeap (m : MethodId) (x0 : Int32) (x1 : Int32) (x2 : Int64) (x3 : Int64) : entryFrame m #[(.int x0), (.int x1), (.long x2), (.long x3)] 8 = mkF m 0 #[.val (.int x0), .val (.int x1), .val (.long x2), .second, .val (.long x3), .second, .unset, .unset] [] := by first | (simp [entryFrame, mkF, argsToLocals, Value.category]; done) | rfl
set_option maxRecDepth 65536 in
set_option maxHeartbeats 4000000 in
theorem rm_ElementReader_lineFillsHeap (l : Launch) (Z : State) (a0 : Array Value) (hw : ∀ d ∈ tables_1, d.before a0 Z = true) (ws : List Jvm.Cond) (hE : Heap) (n0 : Nat) (z : n0 ≤ hE.size)  (v0 : Int32) (v1 : Int32) (v2 : Int64) (v4 : Int64) (r : Int32) (hF : (f_ElementReader_lineFillsHeap v0 v1 v2 v4) = some r) :
    MetFree l (⟨"tidemark/cli/ElementReader", "lineFillsHeap", "(IIJJ)Z"⟩ : MethodName) (head1 (Jvm.Cond.code (⟨"tidemark/cli/ElementReader", "lineFillsHeap", "(IIJJ)Z"⟩ : MethodName) prog_122_method_58_code 8 (some .boolean) :: ws) ({ frames := 0, cells := 0, slots := 0, locals := 0 } : Room)) (fun a U => a = #[(.int v0), (.int v1), (.long v2), (.long v4)] ∧ Z.Warmed39 U.vm ∧ U.heap = hE) (fun _ _ _ _ _ => True) (fun _ U o U' => ∃ v L, o = .returned v ∧ (Q_ElementReader_lineFillsHeap Z hE n0 r) v U'.heap L ∧ FrameEnd U o U' L ({ frames := 0, cells := 0, slots := 0, locals := 0 } : Room).cells ({ frames := 0, cells := 0, slots := 0, locals := 0 } : Room).slots) := by
  refine MetFree.of_bodySF (plainFor_of_name pn_tidemark_cli_ElementReader) hisR ?_
  intro p e s m args below meth c s₁ Bd hml0 hP hK
  obtain ⟨rfl, hZ, hh⟩ := hP
  have X0 : Stand p l e ({ frames := 0, cells := 0, slots := 0, locals := 0 } : Room) s m #[(.int v0), (.int v1), (.long v2), (.long v4)] below meth c s₁ [] 0 0 := Stand.of_body Bd
  have e0 : s₁.heap = hE := by rw [← hh, Bd.state]; rfl
  have cx : Cx_ElementReader_lineFillsHeap p s m meth c Z a0 := ⟨Bd.exec, hZ, hw, Bd.bytes, hml0, findClass_of_methodNamed Bd.named, Bd.returns, Bd.notSynchronized, (name_of_methodNamed Bd.named Bd.method).1⟩
  show own_Goes p e below s (Q_ElementReader_lineFillsHeap Z hE n0 r) ({ frames := 0, cells := 0, slots := 0, locals := 0 } : Room).cells ({ frames := 0, cells := 0, slots := 0, locals := 0 } : Room).slots (s₁.setTop (entryFrame m #[(.int v0), (.int v1), (.long v2), (.long v4)] 8))
  rw [ef_ElementReader_lineFillsHeap]
  exact b_ElementReader_lineFillsHeap cx X0 e0 (Fr.nil n0) z v0 v1 v2 v4 _ hF
/-! java/lang/Math.max:(JJ)J -/
def f_Math_max (v0 : Int64) (v2 : Int64) : Option (Int64) :=
  if v0 < v2 then
    some v2
  else
    some v0
def Q_Math_max (Z : State) (hE : Heap) (n0 : Nat)  (r : Int64) (v : Option Value) (h : Heap) (L : List Loc) : Prop := v = some (.long r) ∧ Fr n0 L ∧ h = hE
def Cx_Math_max (p : Program) (s : State) (m : MethodId) (meth : Method) (c : Code) (Z : State) (a0 : Array Value) : Prop := p.tables.exec = Jvm.exec ∧ Z.Warmed39 s.vm ∧ (∀ d ∈ tables_1, d.before a0 Z = true) ∧ c.code = jdk_29_method_66_code ∧ c.maxLocals = 4 ∧ s.vm.findClass "java/lang/Math" = some m.cls ∧ meth.sig.returnType = some .long ∧ meth.locks = false ∧ meth.name = "max"
set_option maxRecDepth 65536 in
set_option maxHeartbeats 4000000 in
theorem b_Math_max {p : Program} {l : Launch} {e : Env} {s : State} {m : MethodId} {args : Array Value} {below : List Frame} {meth : Method} {c : Code} {Z : State} {a0 : Array Value} {n0 : Nat} {hE : Heap} (cx : Cx_Math_max p s m meth c Z a0) :
    ∀ {T : State} {locs : List Loc} (X : Stand p l e ({ frames := 0, cells := 0, slots := 0, locals := 0 } : Room) s m args below meth c T locs 0 0) (eT : T.heap = hE) (N : Fr n0 locs) (z : n0 ≤ hE.size) (v0 : Int64) (v2 : Int64) (r : Int64), f_Math_max v0 v2 = some r → own_Goes p e below s (Q_Math_max Z hE n0 r) 0 0 (T.setTop (mkF m 0 #[.val (.long v0), .second, .val (.long v2), .second] [])) := by
  have cx' := cx
  obtain ⟨hx, hZ, hw, hby, hml, hown, hret, hlk, hnm⟩ := cx'
  intro T locs X eT N z v0 v2 r hF
  unfold f_Math_max at hF
  refine own_Goes.via (B := T.setTop (mkF m 3 #[.val (.long v0), .second, .val (.long v2), .second] [(.int (lcmpW v0 v2))])) (fun t k => ?_) ?_
  · show Steps p.tables e below (T.setTop (mkF m 0 #[.val (.long v0), .second, .val (.long v2), .second] [])) t
    refine XS.lloadN X.here hx rfl (hb hby dMath_max_0) rfl ?_
    show Steps p.tables e below (T.setTop (mkF m 1 #[.val (.long v0), .second, .val (.long v2), .second] [(.long v0)])) t
    refine XS.lloadN X.here hx rfl (hb hby dMath_max_1) rfl ?_
    show Steps p.tables e below (T.setTop (mkF m 2 #[.val (.long v0), .second, .val (.long v2), .second] [(.long v2), (.long v0)])) t
    refine XS.lcmp X.here hx rfl (hb hby dMath_max_2) rfl ?_
    exact k
  by_cases hc3 : v0 < v2
  · rw [if_pos hc3] at hF
    refine own_Goes.via (B := T.setTop (mkF m 11 #[.val (.long v0), .second, .val (.long v2), .second] [(.long v2)])) (fun t k => ?_) ?_
    · show Steps p.tables e below (T.setTop (mkF m 3 #[.val (.long v0), .second, .val (.long v2), .second] [(.int (lcmpW v0 v2))])) t
      refine XS.ifYes X.here hx rfl (pc0 := 3) (pc' := 10) rfl (hb hby dMath_max_3) rfl (own_tltL hc3).1 (by decide) (by decide) ?_
      show Steps p.tables e below (T.setTop (mkF m 10 #[.val (.long v0), .second, .val (.long v2), .second] [])) t
      refine XS.lloadN X.here hx rfl (hb hby dMath_max_10) rfl ?_
      exact k
    obtain rfl : v2 = r := Option.some.inj hF
    exact own_retJ X hx hret hlk (hb hby dMath_max_11) eT ⟨rfl, N, rfl⟩ (by decide) (by decide)
  · rw [if_neg hc3] at hF
    refine own_Goes.via (B := T.setTop (mkF m 11 #[.val (.long v0), .second, .val (.long v2), .second] [(.long v0)])) (fun t k => ?_) ?_
    · show Steps p.tables e below (T.setTop (mkF m 3 #[.val (.long v0), .second, .val (.long v2), .second] [(.int (lcmpW v0 v2))])) t
      refine XS.ifNo X.here hx rfl (hb hby dMath_max_3) rfl (own_fltL hc3).1 ?_
      show Steps p.tables e below (T.setTop (mkF m 6 #[.val (.long v0), .second, .val (.long v2), .second] [])) t
      refine XS.lloadN X.here hx rfl (hb hby dMath_max_6) rfl ?_
      show Steps p.tables e below (T.setTop (mkF m 7 #[.val (.long v0), .second, .val (.long v2), .second] [(.long v0)])) t
      refine XS.goto X.here hx rfl (pc0 := 7) (pc' := 11) rfl (hb hby dMath_max_7) (by decide) (by decide) ?_
      exact k
    obtain rfl : v0 = r := Option.some.inj hF
    exact own_retJ X hx hret hlk (hb hby dMath_max_11) eT ⟨rfl, N, rfl⟩ (by decide) (by decide)
theorem ef_Math_max (m : MethodId) (x0 : Int64) (x1 : Int64) : entryFrame m #[(.long x0), (.long x1)] 4 = mkF m 0 #[.val (.long x0), .second, .val (.long x1), .second] [] := by first | (simp [entryFrame, mkF, argsToLocals, Value.category]; done) | rfl
set_option maxRecDepth 65536 in
set_option maxHeartbeats 4000000 in
theorem rm_Math_max (l : Launch) (Z : State) (a0 : Array Value) (hw : ∀ d ∈ tables_1, d.before a0 Z = true) (ws : List Jvm.Cond) (hE : Heap) (n0 : Nat) (z : n0 ≤ hE.size)  (v0 : Int64) (v2 : Int64) (r : Int64) (hF : (f_Math_max v0 v2) = some r) :
    MetFree l (⟨"java/lang/Math", "max", "(JJ)J"⟩ : MethodName) (head1 (Jvm.Cond.code (⟨"java/lang/Math", "max", "(JJ)J"⟩ : MethodName) jdk_29_method_66_code 4 (some .long) :: ws) ({ frames := 0, cells := 0, slots := 0, locals := 0 } : Room)) (fun a U => a = #[(.long v0), (.long v2)] ∧ Z.Warmed39 U.vm ∧ U.heap = hE) (fun _ _ _ _ _ => True) (fun _ U o U' => ∃ v L, o = .returned v ∧ (Q_Math_max Z hE n0 r) v U'.heap L ∧ FrameEnd U o U' L ({ frames := 0, cells := 0, slots := 0, locals := 0 } : Room).cells ({ frames := 0, cells := 0, slots := 0, locals := 0 } : Room).slots) := by
  refine MetFree.of_bodySF (Jvm.Free.JP.mathPlain rfl (by decide +kernel)) hisR ?_
  intro p e s m args below meth c s₁ Bd hml0 hP hK
  obtain ⟨rfl, hZ, hh⟩ := hP
  have X0 : Stand p l e ({ frames := 0, cells := 0, slots := 0, locals := 0 } : Room) s m #[(.long v0), (.long v2)] below meth c s₁ [] 0 0 := Stand.of_body Bd
  have e0 : s₁.heap = hE := by rw [← hh, Bd.state]; rfl
  have cx : Cx_Math_max p s m meth c Z a0 := ⟨Bd.exec, hZ, hw, Bd.bytes, hml0, findClass_of_methodNamed Bd.named, Bd.returns, Bd.notSynchronized, (name_of_methodNamed Bd.named Bd.method).1⟩
  show own_Goes p e below s (Q_Math_max Z hE n0 r) ({ frames := 0, cells := 0, slots := 0, locals := 0 } : Room).cells ({ frames := 0, cells := 0, slots := 0, locals := 0 } : Room).slots (s₁.setTop (entryFrame m #[(.long v0), (.long v2)] 4))
  rw [ef_Math_max]
  exact b_Math_max cx X0 e0 (Fr.nil n0) z v0 v2 _ hF
/-! tidemark/cli/ElementReaderLineFillsHeapPinLaw.law:(IIJJI)Z -/
def f_law_132 (v7 : Int32) (v8 : Int32) (v11 : Int64) (v13 : Int64) (v15 : Int32) (t0 : Int32) : Option (Int32) :=
  if v15 = (0 : Int32) then
    own_bd (f_ElementReader_lineFillsHeap v7 v8 v13 v11) fun r37 =>
    if r37 = (0 : Int32) then
      some (1 : Int32)
    else
      some (0 : Int32)
  else
    if t0 = (0 : Int32) then
      own_bd (f_ElementReader_lineFillsHeap v7 v8 v13 v11) fun r38 =>
      if r38 = (0 : Int32) then
        some (1 : Int32)
      else
        some (0 : Int32)
    else
      own_bd (f_ElementReader_lineFillsHeap v7 v8 v13 v11) fun r39 =>
      if r39 = (1 : Int32) then
        some (1 : Int32)
      else
        some (0 : Int32)
def f_law_96 (v7 : Int32) (v8 : Int32) (v9 : Int64) (v11 : Int64) (v13 : Int64) : Option (Int32) :=
  if v11 < ((2 : Int64) * v9) then
    if v13 < (v9 + (v7.toInt64)) then
      (f_law_132 v7 v8 v11 v13 (1 : Int32) (1 : Int32))
    else
      (f_law_132 v7 v8 v11 v13 (1 : Int32) (0 : Int32))
  else
    if v13 < (v9 + (v7.toInt64)) then
      (f_law_132 v7 v8 v11 v13 (0 : Int32) (1 : Int32))
    else
      (f_law_132 v7 v8 v11 v13 (0 : Int32) (0 : Int32))
def f_law (v0 : Int32) (v1 : Int32) (v2 : Int64) (v4 : Int64) (v6 : Int32) : Option (Int32) :=
  own_lt (v0 &&& (2147483647 : Int32)) fun x44 =>
  own_lt (v1 &&& (2147483647 : Int32)) fun x45 =>
  own_lt ((x44.toInt64) + (x45.toInt64)) fun x46 =>
  if (v6 &&& (1 : Int32)) = (0 : Int32) then
    own_lt (v4 &&& (9223372036854775807 : Int64)) fun x47 =>
    own_lt (v2 &&& (9223372036854775807 : Int64)) fun x48 =>
    (f_law_96 x44 x45 x46 x47 x48)
  else
    own_lt ((((2 : Int64) * x46) + (((v6 >>> ((1 : Int32) &&& 31)) &&& (7 : Int32)).toInt64)) - (4 : Int64)) fun x49 =>
    own_bd (f_Math_max (0 : Int64) x49) fun r50 =>
    own_lt (((x46 + (x44.toInt64)) + (((v6 >>> ((4 : Int32) &&& 31)) &&& (7 : Int32)).toInt64)) - (4 : Int64)) fun x51 =>
    own_bd (f_Math_max (0 : Int64) x51) fun r52 =>
    (f_law_96 x44 x45 x46 r50 r52)
def Q_law (Z : State) (hE : Heap) (n0 : Nat)  (r : Int32) (v : Option Value) (h : Heap) (L : List Loc) : Prop := v = some (.int r) ∧ Fr n0 L ∧ h = hE
def Cx_law (p : Program) (s : State) (m : MethodId) (meth : Method) (c : Code) (Z : State) (a0 : Array Value) : Prop := p.tables.exec = Jvm.exec ∧ Z.Warmed39 s.vm ∧ (∀ d ∈ tables_1, d.before a0 Z = true) ∧ c.code = code ∧ c.maxLocals = 18 ∧ s.vm.findClass "tidemark/cli/ElementReaderLineFillsHeapPinLaw" = some m.cls ∧ meth.sig.returnType = some .boolean ∧ meth.locks = false ∧ meth.name = "law"
set_option maxRecDepth 65536 in
set_option maxHeartbeats 4000000 in
theorem b_law_132 {p : Program} {l : Launch} {e : Env} {s : State} {m : MethodId} {args : Array Value} {below : List Frame} {meth : Method} {c : Code} {Z : State} {a0 : Array Value} {n0 : Nat} {hE : Heap} (cx : Cx_law p s m meth c Z a0) :
    ∀ {T : State} {locs : List Loc} (X : Stand p l e room_1 s m args below meth c T locs 0 0) (eT : T.heap = hE) (N : Fr n0 locs) (z : n0 ≤ hE.size) (v7 : Int32) (v8 : Int32) (v11 : Int64) (v13 : Int64) (v15 : Int32) (t0 : Int32) (d0 : Slot) (d1 : Slot) (v2 : Int64) (v4 : Int64) (d6 : Slot) (v9 : Int64) (d16 : Slot) (d17 : Slot) (o_d0 : One d0) (o_d1 : One d1) (o_d6 : One d6) (o_d16 : One d16) (o_d17 : One d17) (r : Int32), f_law_132 v7 v8 v11 v13 v15 t0 = some r → own_Goes p e below s (Q_law Z hE n0 r) 0 0 (T.setTop (mkF m 132 #[d0, d1, .val (.long v2), .second, .val (.long v4), .second, d6, .val (.int v7), .val (.int v8), .val (.long v9), .second, .val (.long v11), .second, .val (.long v13), .second, .val (.int v15), d16, d17] [(.int t0)])) := by
  have cx' := cx
  obtain ⟨hx, hZ, hw, hby, hml, hown, hret, hlk, hnm⟩ := cx'
  intro T locs X eT N z v7 v8 v11 v13 v15 t0 d0 d1 v2 v4 d6 v9 d16 d17 o_d0 o_d1 o_d6 o_d16 o_d17 r hF
  unfold f_law_132 at hF
  refine own_Goes.via (B := T.setTop (mkF m 136 #[d0, d1, .val (.long v2), .second, .val (.long v4), .second, d6, .val (.int v7), .val (.int v8), .val (.long v9), .second, .val (.long v11), .second, .val (.long v13), .second, .val (.int v15), .val (.int t0), d17] [(.int v15)])) (fun t k => ?_) ?_
  · show Steps p.tables e below (T.setTop (mkF m 132 #[d0, d1, .val (.long v2), .second, .val (.long v4), .second, d6, .val (.int v7), .val (.int v8), .val (.long v9), .second, .val (.long v11), .second, .val (.long v13), .second, .val (.int v15), d16, d17] [(.int t0)])) t
    refine XS.istoreS X.here hx rfl (hb hby at_132) rfl rfl o_d16 ?_
    show Steps p.tables e below (T.setTop (mkF m 134 #[d0, d1, .val (.long v2), .second, .val (.long v4), .second, d6, .val (.int v7), .val (.int v8), .val (.long v9), .second, .val (.long v11), .second, .val (.long v13), .second, .val (.int v15), .val (.int t0), d17] [])) t
    refine XS.iload X.here hx rfl (hb hby at_134) rfl ?_
    exact k
  by_cases hc136 : v15 = (0 : Int32)
  · rw [if_pos hc136] at hF
    refine own_Goes.via (B := T.setTop (mkF m 159 #[d0, d1, .val (.long v2), .second, .val (.long v4), .second, d6, .val (.int v7), .val (.int v8), .val (.long v9), .second, .val (.long v11), .second, .val (.long v13), .second, .val (.int v15), .val (.int t0), .val (.int (0 : Int32))] [(.long v11), (.long v13), (.int v8), (.int v7)])) (fun t k => ?_) ?_
    · show Steps p.tables e below (T.setTop (mkF m 136 #[d0, d1, .val (.long v2), .second, .val (.long v4), .second, d6, .val (.int v7), .val (.int v8), .val (.long v9), .second, .val (.long v11), .second, .val (.long v13), .second, .val (.int v15), .val (.int t0), d17] [(.int v15)])) t
      refine XS.ifYes X.here hx rfl (pc0 := 136) (pc' := 148) rfl (hb hby at_136) rfl ((if0 _ _).trans (teq hc136).1) (by decide) (by decide) ?_
      show Steps p.tables e below (T.setTop (mkF m 148 #[d0, d1, .val (.long v2), .second, .val (.long v4), .second, d6, .val (.int v7), .val (.int v8), .val (.long v9), .second, .val (.long v11), .second, .val (.long v13), .second, .val (.int v15), .val (.int t0), d17] [])) t
      refine XS.iconst X.here hx rfl (hb hby at_148) ?_
      show Steps p.tables e below (T.setTop (mkF m 149 #[d0, d1, .val (.long v2), .second, .val (.long v4), .second, d6, .val (.int v7), .val (.int v8), .val (.long v9), .second, .val (.long v11), .second, .val (.long v13), .second, .val (.int v15), .val (.int t0), d17] [(.int (0 : Int32))])) t
      refine XS.istoreS X.here hx rfl (hb hby at_149) rfl rfl o_d17 ?_
      show Steps p.tables e below (T.setTop (mkF m 151 #[d0, d1, .val (.long v2), .second, .val (.long v4), .second, d6, .val (.int v7), .val (.int v8), .val (.long v9), .second, .val (.long v11), .second, .val (.long v13), .second, .val (.int v15), .val (.int t0), .val (.int (0 : Int32))] [])) t
      refine XS.iload X.here hx rfl (hb hby at_151) rfl ?_
      show Steps p.tables e below (T.setTop (mkF m 153 #[d0, d1, .val (.long v2), .second, .val (.long v4), .second, d6, .val (.int v7), .val (.int v8), .val (.long v9), .second, .val (.long v11), .second, .val (.long v13), .second, .val (.int v15), .val (.int t0), .val (.int (0 : Int32))] [(.int v7)])) t
      refine XS.iload X.here hx rfl (hb hby at_153) rfl ?_
      show Steps p.tables e below (T.setTop (mkF m 155 #[d0, d1, .val (.long v2), .second, .val (.long v4), .second, d6, .val (.int v7), .val (.int v8), .val (.long v9), .second, .val (.long v11), .second, .val (.long v13), .second, .val (.int v15), .val (.int t0), .val (.int (0 : Int32))] [(.int v8), (.int v7)])) t
      refine XS.lload X.here hx rfl (hb hby at_155) rfl ?_
      show Steps p.tables e below (T.setTop (mkF m 157 #[d0, d1, .val (.long v2), .second, .val (.long v4), .second, d6, .val (.int v7), .val (.int v8), .val (.long v9), .second, .val (.long v11), .second, .val (.long v13), .second, .val (.int v15), .val (.int t0), .val (.int (0 : Int32))] [(.long v13), (.int v8), (.int v7)])) t
      refine XS.lload X.here hx rfl (hb hby at_157) rfl ?_
      exact k
    obtain ⟨r37, hr37, hF⟩ := own_bd_e hF
    obtain ⟨_, _, ⟨T37, L37, k37, n37⟩, -, X37, ⟨Lc37, hQ37, l37, y37, z37⟩, st37⟩ := Jvm.LawKit.callS X hx (y := (⟨"tidemark/cli/ElementReader", "lineFillsHeap", "(IIJJ)Z"⟩ : MethodName)) hown (mvT hZ (w3 hw)) (mvT hZ (w4 hw)) (mvT hZ (w5 hw)) (mvT hZ (w6 hw)) (by decide) (backOf (W := 0) (rm_ElementReader_lineFillsHeap l Z a0 hw [] hE n0 z v7 v8 v13 v11 r37 hr37) hZ (w6 hw) (w5 hw) (by decide) (by decide)) (g := (mkF m 159 #[d0, d1, .val (.long v2), .second, .val (.long v4), .second, d6, .val (.int v7), .val (.int v8), .val (.long v9), .second, .val (.long v11), .second, .val (.long v13), .second, .val (.int v15), .val (.int t0), .val (.int (0 : Int32))] [(.long v11), (.long v13), (.int v8), (.int v7)])) rfl (by rw [hml]; rfl) (argsL := [(.int v7), (.int v8), (.long v13), (.long v11)]) (rest := []) (lenOf pd_0 rfl) rfl (by show 2 * 0 + _ ≤ _; exact Nat.le_of_eq rfl) (hb hby at_159) (fun _ _ => ⟨rfl, eT, (by decide : 0 + 0 ≤ _), (by decide : 0 + 0 ≤ _)⟩)
    dsimp only [Pt.U, Pt.locs, Pt.cells, Pt.slots] at X37 l37 y37 z37 st37 hQ37
    subst l37 y37 z37
    obtain ⟨rfl, N37q, e37⟩ := hQ37
    have N37 := Fr.app N N37q
    refine own_Goes.via st37 ?_
    show own_Goes _ _ _ _ _ _ _ (T37.setTop (mkF m 162 #[d0, d1, .val (.long v2), .second, .val (.long v4), .second, d6, .val (.int v7), .val (.int v8), .val (.long v9), .second, .val (.long v11), .second, .val (.long v13), .second, .val (.int v15), .val (.int t0), .val (.int (0 : Int32))] [(.int r37)]))
    refine own_Goes.via (B := T37.setTop (mkF m 164 #[d0, d1, .val (.long v2), .second, .val (.long v4), .second, d6, .val (.int v7), .val (.int v8), .val (.long v9), .second, .val (.long v11), .second, .val (.long v13), .second, .val (.int v15), .val (.int t0), .val (.int (0 : Int32))] [(.int (0 : Int32)), (.int r37)])) (fun t k => ?_) ?_
    · show Steps p.tables e below (T37.setTop (mkF m 162 #[d0, d1, .val (.long v2), .second, .val (.long v4), .second, d6, .val (.int v7), .val (.int v8), .val (.long v9), .second, .val (.long v11), .second, .val (.long v13), .second, .val (.int v15), .val (.int t0), .val (.int (0 : Int32))] [(.int r37)])) t
      refine XS.iload X37.here hx rfl (hb hby at_162) rfl ?_
      exact k
    by_cases hc164 : r37 = (0 : Int32)
    · rw [if_pos hc164] at hF
      refine own_Goes.via (B := T37.setTop (mkF m 172 #[d0, d1, .val (.long v2), .second, .val (.long v4), .second, d6, .val (.int v7), .val (.int v8), .val (.long v9), .second, .val (.long v11), .second, .val (.long v13), .second, .val (.int v15), .val (.int t0), .val (.int (0 : Int32))] [(.int (1 : Int32))])) (fun t k => ?_) ?_
      · show Steps p.tables e below (T37.setTop (mkF m 164 #[d0, d1, .val (.long v2), .second, .val (.long v4), .second, d6, .val (.int v7), .val (.int v8), .val (.long v9), .second, .val (.long v11), .second, .val (.long v13), .second, .val (.int v15), .val (.int t0), .val (.int (0 : Int32))] [(.int (0 : Int32)), (.int r37)])) t
        refine XS.icmpNo X37.here hx rfl (hb hby at_164) rfl (teq hc164).2 ?_
        show Steps p.tables e below (T37.setTop (mkF m 167 #[d0, d1, .val (.long v2), .second, .val (.long v4), .second, d6, .val (.int v7), .val (.int v8), .val (.long v9), .second, .val (.long v11), .second, .val (.long v13), .second, .val (.int v15), .val (.int t0), .val (.int (0 : Int32))] [])) t
        refine XS.iconst X37.here hx rfl (hb hby at_167) ?_
        show Steps p.tables e below (T37.setTop (mkF m 168 #[d0, d1, .val (.long v2), .second, .val (.long v4), .second, d6, .val (.int v7), .val (.int v8), .val (.long v9), .second, .val (.long v11), .second, .val (.long v13), .second, .val (.int v15), .val (.int t0), .val (.int (0 : Int32))] [(.int (1 : Int32))])) t
        refine XS.goto X37.here hx rfl (pc0 := 168) (pc' := 172) rfl (hb hby at_168) (by decide) (by decide) ?_
        exact k
      obtain rfl : (1 : Int32) = r := Option.some.inj hF
      exact own_retN X37 hx (t := .boolean) hret hlk (by simp) (hb hby at_172) e37 (v := (1 : Int32)) (by decide) ⟨rfl, N37, rfl⟩ (by decide) (by decide)
    · rw [if_neg hc164] at hF
      refine own_Goes.via (B := T37.setTop (mkF m 172 #[d0, d1, .val (.long v2), .second, .val (.long v4), .second, d6, .val (.int v7), .val (.int v8), .val (.long v9), .second, .val (.long v11), .second, .val (.long v13), .second, .val (.int v15), .val (.int t0), .val (.int (0 : Int32))] [(.int (0 : Int32))])) (fun t k => ?_) ?_
      · show Steps p.tables e below (T37.setTop (mkF m 164 #[d0, d1, .val (.long v2), .second, .val (.long v4), .second, d6, .val (.int v7), .val (.int v8), .val (.long v9), .second, .val (.long v11), .second, .val (.long v13), .second, .val (.int v15), .val (.int t0), .val (.int (0 : Int32))] [(.int (0 : Int32)), (.int r37)])) t
        refine XS.icmpYes X37.here hx rfl (pc0 := 164) (pc' := 171) rfl (hb hby at_164) rfl (feq hc164).2 (by decide) (by decide) ?_
        show Steps p.tables e below (T37.setTop (mkF m 171 #[d0, d1, .val (.long v2), .second, .val (.long v4), .second, d6, .val (.int v7), .val (.int v8), .val (.long v9), .second, .val (.long v11), .second, .val (.long v13), .second, .val (.int v15), .val (.int t0), .val (.int (0 : Int32))] [])) t
        refine XS.iconst X37.here hx rfl (hb hby at_171) ?_
        exact k
      obtain rfl : (0 : Int32) = r := Option.some.inj hF
      exact own_retN X37 hx (t := .boolean) hret hlk (by simp) (hb hby at_172) e37 (v := (0 : Int32)) (by decide) ⟨rfl, N37, rfl⟩ (by decide) (by decide)
  · rw [if_neg hc136] at hF
    refine own_Goes.via (B := T.setTop (mkF m 141 #[d0, d1, .val (.long v2), .second, .val (.long v4), .second, d6, .val (.int v7), .val (.int v8), .val (.long v9), .second, .val (.long v11), .second, .val (.long v13), .second, .val (.int v15), .val (.int t0), d17] [(.int t0)])) (fun t k => ?_) ?_
    · show Steps p.tables e below (T.setTop (mkF m 136 #[d0, d1, .val (.long v2), .second, .val (.long v4), .second, d6, .val (.int v7), .val (.int v8), .val (.long v9), .second, .val (.long v11), .second, .val (.long v13), .second, .val (.int v15), .val (.int t0), d17] [(.int v15)])) t
      refine XS.ifNo X.here hx rfl (hb hby at_136) rfl ((if0 _ _).trans (feq hc136).1) ?_
      show Steps p.tables e below (T.setTop (mkF m 139 #[d0, d1, .val (.long v2), .second, .val (.long v4), .second, d6, .val (.int v7), .val (.int v8), .val (.long v9), .second, .val (.long v11), .second, .val (.long v13), .second, .val (.int v15), .val (.int t0), d17] [])) t
      refine XS.iload X.here hx rfl (hb hby at_139) rfl ?_
      exact k
    by_cases hc141 : t0 = (0 : Int32)
    · rw [if_pos hc141] at hF
      refine own_Goes.via (B := T.setTop (mkF m 159 #[d0, d1, .val (.long v2), .second, .val (.long v4), .second, d6, .val (.int v7), .val (.int v8), .val (.long v9), .second, .val (.long v11), .second, .val (.long v13), .second, .val (.int v15), .val (.int t0), .val (.int (0 : Int32))] [(.long v11), (.long v13), (.int v8), (.int v7)])) (fun t k => ?_) ?_
      · show Steps p.tables e below (T.setTop (mkF m 141 #[d0, d1, .val (.long v2), .second, .val (.long v4), .second, d6, .val (.int v7), .val (.int v8), .val (.long v9), .second, .val (.long v11), .second, .val (.long v13), .second, .val (.int v15), .val (.int t0), d17] [(.int t0)])) t
        refine XS.ifYes X.here hx rfl (pc0 := 141) (pc' := 148) rfl (hb hby at_141) rfl ((if0 _ _).trans (teq hc141).1) (by decide) (by decide) ?_
        show Steps p.tables e below (T.setTop (mkF m 148 #[d0, d1, .val (.long v2), .second, .val (.long v4), .second, d6, .val (.int v7), .val (.int v8), .val (.long v9), .second, .val (.long v11), .second, .val (.long v13), .second, .val (.int v15), .val (.int t0), d17] [])) t
        refine XS.iconst X.here hx rfl (hb hby at_148) ?_
        show Steps p.tables e below (T.setTop (mkF m 149 #[d0, d1, .val (.long v2), .second, .val (.long v4), .second, d6, .val (.int v7), .val (.int v8), .val (.long v9), .second, .val (.long v11), .second, .val (.long v13), .second, .val (.int v15), .val (.int t0), d17] [(.int (0 : Int32))])) t
        refine XS.istoreS X.here hx rfl (hb hby at_149) rfl rfl o_d17 ?_
        show Steps p.tables e below (T.setTop (mkF m 151 #[d0, d1, .val (.long v2), .second, .val (.long v4), .second, d6, .val (.int v7), .val (.int v8), .val (.long v9), .second, .val (.long v11), .second, .val (.long v13), .second, .val (.int v15), .val (.int t0), .val (.int (0 : Int32))] [])) t
        refine XS.iload X.here hx rfl (hb hby at_151) rfl ?_
        show Steps p.tables e below (T.setTop (mkF m 153 #[d0, d1, .val (.long v2), .second, .val (.long v4), .second, d6, .val (.int v7), .val (.int v8), .val (.long v9), .second, .val (.long v11), .second, .val (.long v13), .second, .val (.int v15), .val (.int t0), .val (.int (0 : Int32))] [(.int v7)])) t
        refine XS.iload X.here hx rfl (hb hby at_153) rfl ?_
        show Steps p.tables e below (T.setTop (mkF m 155 #[d0, d1, .val (.long v2), .second, .val (.long v4), .second, d6, .val (.int v7), .val (.int v8), .val (.long v9), .second, .val (.long v11), .second, .val (.long v13), .second, .val (.int v15), .val (.int t0), .val (.int (0 : Int32))] [(.int v8), (.int v7)])) t
        refine XS.lload X.here hx rfl (hb hby at_155) rfl ?_
        show Steps p.tables e below (T.setTop (mkF m 157 #[d0, d1, .val (.long v2), .second, .val (.long v4), .second, d6, .val (.int v7), .val (.int v8), .val (.long v9), .second, .val (.long v11), .second, .val (.long v13), .second, .val (.int v15), .val (.int t0), .val (.int (0 : Int32))] [(.long v13), (.int v8), (.int v7)])) t
        refine XS.lload X.here hx rfl (hb hby at_157) rfl ?_
        exact k
      obtain ⟨r38, hr38, hF⟩ := own_bd_e hF
      obtain ⟨_, _, ⟨T38, L38, k38, n38⟩, -, X38, ⟨Lc38, hQ38, l38, y38, z38⟩, st38⟩ := Jvm.LawKit.callS X hx (y := (⟨"tidemark/cli/ElementReader", "lineFillsHeap", "(IIJJ)Z"⟩ : MethodName)) hown (mvT hZ (w3 hw)) (mvT hZ (w4 hw)) (mvT hZ (w5 hw)) (mvT hZ (w6 hw)) (by decide) (backOf (W := 0) (rm_ElementReader_lineFillsHeap l Z a0 hw [] hE n0 z v7 v8 v13 v11 r38 hr38) hZ (w6 hw) (w5 hw) (by decide) (by decide)) (g := (mkF m 159 #[d0, d1, .val (.long v2), .second, .val (.long v4), .second, d6, .val (.int v7), .val (.int v8), .val (.long v9), .second, .val (.long v11), .second, .val (.long v13), .second, .val (.int v15), .val (.int t0), .val (.int (0 : Int32))] [(.long v11), (.long v13), (.int v8), (.int v7)])) rfl (by rw [hml]; rfl) (argsL := [(.int v7), (.int v8), (.long v13), (.long v11)]) (rest := []) (lenOf pd_0 rfl) rfl (by show 2 * 0 + _ ≤ _; exact Nat.le_of_eq rfl) (hb hby at_159) (fun _ _ => ⟨rfl, eT, (by decide : 0 + 0 ≤ _), (by decide : 0 + 0 ≤ _)⟩)
      dsimp only [Pt.U, Pt.locs, Pt.cells, Pt.slots] at X38 l38 y38 z38 st38 hQ38
      subst l38 y38 z38
      obtain ⟨rfl, N38q, e38⟩ := hQ38
      have N38 := Fr.app N N38q
      refine own_Goes.via st38 ?_
      show own_Goes _ _ _ _ _ _ _ (T38.setTop (mkF m 162 #[d0, d1, .val (.long v2), .second, .val (.long v4), .second, d6, .val (.int v7), .val (.int v8), .val (.long v9), .second, .val (.long v11), .second, .val (.long v13), .second, .val (.int v15), .val (.int t0), .val (.int (0 : Int32))] [(.int r38)]))
      refine own_Goes.via (B := T38.setTop (mkF m 164 #[d0, d1, .val (.long v2), .second, .val (.long v4), .second, d6, .val (.int v7), .val (.int v8), .val (.long v9), .second, .val (.long v11), .second, .val (.long v13), .second, .val (.int v15), .val (.int t0), .val (.int (0 : Int32))] [(.int (0 : Int32)), (.int r38)])) (fun t k => ?_) ?_
      · show Steps p.tables e below (T38.setTop (mkF m 162 #[d0, d1, .val (.long v2), .second, .val (.long v4), .second, d6, .val (.int v7), .val (.int v8), .val (.long v9), .second, .val (.long v11), .second, .val (.long v13), .second, .val (.int v15), .val (.int t0), .val (.int (0 : Int32))] [(.int r38)])) t
        refine XS.iload X38.here hx rfl (hb hby at_162) rfl ?_
        exact k
      by_cases hc164 : r38 = (0 : Int32)
      · rw [if_pos hc164] at hF
        refine own_Goes.via (B := T38.setTop (mkF m 172 #[d0, d1, .val (.long v2), .second, .val (.long v4), .second, d6, .val (.int v7), .val (.int v8), .val (.long v9), .second, .val (.long v11), .second, .val (.long v13), .second, .val (.int v15), .val (.int t0), .val (.int (0 : Int32))] [(.int (1 : Int32))])) (fun t k => ?_) ?_
        · show Steps p.tables e below (T38.setTop (mkF m 164 #[d0, d1, .val (.long v2), .second, .val (.long v4), .second, d6, .val (.int v7), .val (.int v8), .val (.long v9), .second, .val (.long v11), .second, .val (.long v13), .second, .val (.int v15), .val (.int t0), .val (.int (0 : Int32))] [(.int (0 : Int32)), (.int r38)])) t
          refine XS.icmpNo X38.here hx rfl (hb hby at_164) rfl (teq hc164).2 ?_
          show Steps p.tables e below (T38.setTop (mkF m 167 #[d0, d1, .val (.long v2), .second, .val (.long v4), .second, d6, .val (.int v7), .val (.int v8), .val (.long v9), .second, .val (.long v11), .second, .val (.long v13), .second, .val (.int v15), .val (.int t0), .val (.int (0 : Int32))] [])) t
          refine XS.iconst X38.here hx rfl (hb hby at_167) ?_
          show Steps p.tables e below (T38.setTop (mkF m 168 #[d0, d1, .val (.long v2), .second, .val (.long v4), .second, d6, .val (.int v7), .val (.int v8), .val (.long v9), .second, .val (.long v11), .second, .val (.long v13), .second, .val (.int v15), .val (.int t0), .val (.int (0 : Int32))] [(.int (1 : Int32))])) t
          refine XS.goto X38.here hx rfl (pc0 := 168) (pc' := 172) rfl (hb hby at_168) (by decide) (by decide) ?_
          exact k
        obtain rfl : (1 : Int32) = r := Option.some.inj hF
        exact own_retN X38 hx (t := .boolean) hret hlk (by simp) (hb hby at_172) e38 (v := (1 : Int32)) (by decide) ⟨rfl, N38, rfl⟩ (by decide) (by decide)
      · rw [if_neg hc164] at hF
        refine own_Goes.via (B := T38.setTop (mkF m 172 #[d0, d1, .val (.long v2), .second, .val (.long v4), .second, d6, .val (.int v7), .val (.int v8), .val (.long v9), .second, .val (.long v11), .second, .val (.long v13), .second, .val (.int v15), .val (.int t0), .val (.int (0 : Int32))] [(.int (0 : Int32))])) (fun t k => ?_) ?_
        · show Steps p.tables e below (T38.setTop (mkF m 164 #[d0, d1, .val (.long v2), .second, .val (.long v4), .second, d6, .val (.int v7), .val (.int v8), .val (.long v9), .second, .val (.long v11), .second, .val (.long v13), .second, .val (.int v15), .val (.int t0), .val (.int (0 : Int32))] [(.int (0 : Int32)), (.int r38)])) t
          refine XS.icmpYes X38.here hx rfl (pc0 := 164) (pc' := 171) rfl (hb hby at_164) rfl (feq hc164).2 (by decide) (by decide) ?_
          show Steps p.tables e below (T38.setTop (mkF m 171 #[d0, d1, .val (.long v2), .second, .val (.long v4), .second, d6, .val (.int v7), .val (.int v8), .val (.long v9), .second, .val (.long v11), .second, .val (.long v13), .second, .val (.int v15), .val (.int t0), .val (.int (0 : Int32))] [])) t
          refine XS.iconst X38.here hx rfl (hb hby at_171) ?_
          exact k
        obtain rfl : (0 : Int32) = r := Option.some.inj hF
        exact own_retN X38 hx (t := .boolean) hret hlk (by simp) (hb hby at_172) e38 (v := (0 : Int32)) (by decide) ⟨rfl, N38, rfl⟩ (by decide) (by decide)
    · rw [if_neg hc141] at hF
      refine own_Goes.via (B := T.setTop (mkF m 159 #[d0, d1, .val (.long v2), .second, .val (.long v4), .second, d6, .val (.int v7), .val (.int v8), .val (.long v9), .second, .val (.long v11), .second, .val (.long v13), .second, .val (.int v15), .val (.int t0), .val (.int (1 : Int32))] [(.long v11), (.long v13), (.int v8), (.int v7)])) (fun t k => ?_) ?_
      · show Steps p.tables e below (T.setTop (mkF m 141 #[d0, d1, .val (.long v2), .second, .val (.long v4), .second, d6, .val (.int v7), .val (.int v8), .val (.long v9), .second, .val (.long v11), .second, .val (.long v13), .second, .val (.int v15), .val (.int t0), d17] [(.int t0)])) t
        refine XS.ifNo X.here hx rfl (hb hby at_141) rfl ((if0 _ _).trans (feq hc141).1) ?_
        show Steps p.tables e below (T.setTop (mkF m 144 #[d0, d1, .val (.long v2), .second, .val (.long v4), .second, d6, .val (.int v7), .val (.int v8), .val (.long v9), .second, .val (.long v11), .second, .val (.long v13), .second, .val (.int v15), .val (.int t0), d17] [])) t
        refine XS.iconst X.here hx rfl (hb hby at_144) ?_
        show Steps p.tables e below (T.setTop (mkF m 145 #[d0, d1, .val (.long v2), .second, .val (.long v4), .second, d6, .val (.int v7), .val (.int v8), .val (.long v9), .second, .val (.long v11), .second, .val (.long v13), .second, .val (.int v15), .val (.int t0), d17] [(.int (1 : Int32))])) t
        refine XS.goto X.here hx rfl (pc0 := 145) (pc' := 149) rfl (hb hby at_145) (by decide) (by decide) ?_
        show Steps p.tables e below (T.setTop (mkF m 149 #[d0, d1, .val (.long v2), .second, .val (.long v4), .second, d6, .val (.int v7), .val (.int v8), .val (.long v9), .second, .val (.long v11), .second, .val (.long v13), .second, .val (.int v15), .val (.int t0), d17] [(.int (1 : Int32))])) t
        refine XS.istoreS X.here hx rfl (hb hby at_149) rfl rfl o_d17 ?_
        show Steps p.tables e below (T.setTop (mkF m 151 #[d0, d1, .val (.long v2), .second, .val (.long v4), .second, d6, .val (.int v7), .val (.int v8), .val (.long v9), .second, .val (.long v11), .second, .val (.long v13), .second, .val (.int v15), .val (.int t0), .val (.int (1 : Int32))] [])) t
        refine XS.iload X.here hx rfl (hb hby at_151) rfl ?_
        show Steps p.tables e below (T.setTop (mkF m 153 #[d0, d1, .val (.long v2), .second, .val (.long v4), .second, d6, .val (.int v7), .val (.int v8), .val (.long v9), .second, .val (.long v11), .second, .val (.long v13), .second, .val (.int v15), .val (.int t0), .val (.int (1 : Int32))] [(.int v7)])) t
        refine XS.iload X.here hx rfl (hb hby at_153) rfl ?_
        show Steps p.tables e below (T.setTop (mkF m 155 #[d0, d1, .val (.long v2), .second, .val (.long v4), .second, d6, .val (.int v7), .val (.int v8), .val (.long v9), .second, .val (.long v11), .second, .val (.long v13), .second, .val (.int v15), .val (.int t0), .val (.int (1 : Int32))] [(.int v8), (.int v7)])) t
        refine XS.lload X.here hx rfl (hb hby at_155) rfl ?_
        show Steps p.tables e below (T.setTop (mkF m 157 #[d0, d1, .val (.long v2), .second, .val (.long v4), .second, d6, .val (.int v7), .val (.int v8), .val (.long v9), .second, .val (.long v11), .second, .val (.long v13), .second, .val (.int v15), .val (.int t0), .val (.int (1 : Int32))] [(.long v13), (.int v8), (.int v7)])) t
        refine XS.lload X.here hx rfl (hb hby at_157) rfl ?_
        exact k
      obtain ⟨r39, hr39, hF⟩ := own_bd_e hF
      obtain ⟨_, _, ⟨T39, L39, k39, n39⟩, -, X39, ⟨Lc39, hQ39, l39, y39, z39⟩, st39⟩ := Jvm.LawKit.callS X hx (y := (⟨"tidemark/cli/ElementReader", "lineFillsHeap", "(IIJJ)Z"⟩ : MethodName)) hown (mvT hZ (w3 hw)) (mvT hZ (w4 hw)) (mvT hZ (w5 hw)) (mvT hZ (w6 hw)) (by decide) (backOf (W := 0) (rm_ElementReader_lineFillsHeap l Z a0 hw [] hE n0 z v7 v8 v13 v11 r39 hr39) hZ (w6 hw) (w5 hw) (by decide) (by decide)) (g := (mkF m 159 #[d0, d1, .val (.long v2), .second, .val (.long v4), .second, d6, .val (.int v7), .val (.int v8), .val (.long v9), .second, .val (.long v11), .second, .val (.long v13), .second, .val (.int v15), .val (.int t0), .val (.int (1 : Int32))] [(.long v11), (.long v13), (.int v8), (.int v7)])) rfl (by rw [hml]; rfl) (argsL := [(.int v7), (.int v8), (.long v13), (.long v11)]) (rest := []) (lenOf pd_0 rfl) rfl (by show 2 * 0 + _ ≤ _; exact Nat.le_of_eq rfl) (hb hby at_159) (fun _ _ => ⟨rfl, eT, (by decide : 0 + 0 ≤ _), (by decide : 0 + 0 ≤ _)⟩)
      dsimp only [Pt.U, Pt.locs, Pt.cells, Pt.slots] at X39 l39 y39 z39 st39 hQ39
      subst l39 y39 z39
      obtain ⟨rfl, N39q, e39⟩ := hQ39
      have N39 := Fr.app N N39q
      refine own_Goes.via st39 ?_
      show own_Goes _ _ _ _ _ _ _ (T39.setTop (mkF m 162 #[d0, d1, .val (.long v2), .second, .val (.long v4), .second, d6, .val (.int v7), .val (.int v8), .val (.long v9), .second, .val (.long v11), .second, .val (.long v13), .second, .val (.int v15), .val (.int t0), .val (.int (1 : Int32))] [(.int r39)]))
      refine own_Goes.via (B := T39.setTop (mkF m 164 #[d0, d1, .val (.long v2), .second, .val (.long v4), .second, d6, .val (.int v7), .val (.int v8), .val (.long v9), .second, .val (.long v11), .second, .val (.long v13), .second, .val (.int v15), .val (.int t0), .val (.int (1 : Int32))] [(.int (1 : Int32)), (.int r39)])) (fun t k => ?_) ?_
      · show Steps p.tables e below (T39.setTop (mkF m 162 #[d0, d1, .val (.long v2), .second, .val (.long v4), .second, d6, .val (.int v7), .val (.int v8), .val (.long v9), .second, .val (.long v11), .second, .val (.long v13), .second, .val (.int v15), .val (.int t0), .val (.int (1 : Int32))] [(.int r39)])) t
        refine XS.iload X39.here hx rfl (hb hby at_162) rfl ?_
        exact k
      by_cases hc164 : r39 = (1 : Int32)
      · rw [if_pos hc164] at hF
        refine own_Goes.via (B := T39.setTop (mkF m 172 #[d0, d1, .val (.long v2), .second, .val (.long v4), .second, d6, .val (.int v7), .val (.int v8), .val (.long v9), .second, .val (.long v11), .second, .val (.long v13), .second, .val (.int v15), .val (.int t0), .val (.int (1 : Int32))] [(.int (1 : Int32))])) (fun t k => ?_) ?_
        · show Steps p.tables e below (T39.setTop (mkF m 164 #[d0, d1, .val (.long v2), .second, .val (.long v4), .second, d6, .val (.int v7), .val (.int v8), .val (.long v9), .second, .val (.long v11), .second, .val (.long v13), .second, .val (.int v15), .val (.int t0), .val (.int (1 : Int32))] [(.int (1 : Int32)), (.int r39)])) t
          refine XS.icmpNo X39.here hx rfl (hb hby at_164) rfl (teq hc164).2 ?_
          show Steps p.tables e below (T39.setTop (mkF m 167 #[d0, d1, .val (.long v2), .second, .val (.long v4), .second, d6, .val (.int v7), .val (.int v8), .val (.long v9), .second, .val (.long v11), .second, .val (.long v13), .second, .val (.int v15), .val (.int t0), .val (.int (1 : Int32))] [])) t
          refine XS.iconst X39.here hx rfl (hb hby at_167) ?_
          show Steps p.tables e below (T39.setTop (mkF m 168 #[d0, d1, .val (.long v2), .second, .val (.long v4), .second, d6, .val (.int v7), .val (.int v8), .val (.long v9), .second, .val (.long v11), .second, .val (.long v13), .second, .val (.int v15), .val (.int t0), .val (.int (1 : Int32))] [(.int (1 : Int32))])) t
          refine XS.goto X39.here hx rfl (pc0 := 168) (pc' := 172) rfl (hb hby at_168) (by decide) (by decide) ?_
          exact k
        obtain rfl : (1 : Int32) = r := Option.some.inj hF
        exact own_retN X39 hx (t := .boolean) hret hlk (by simp) (hb hby at_172) e39 (v := (1 : Int32)) (by decide) ⟨rfl, N39, rfl⟩ (by decide) (by decide)
      · rw [if_neg hc164] at hF
        refine own_Goes.via (B := T39.setTop (mkF m 172 #[d0, d1, .val (.long v2), .second, .val (.long v4), .second, d6, .val (.int v7), .val (.int v8), .val (.long v9), .second, .val (.long v11), .second, .val (.long v13), .second, .val (.int v15), .val (.int t0), .val (.int (1 : Int32))] [(.int (0 : Int32))])) (fun t k => ?_) ?_
        · show Steps p.tables e below (T39.setTop (mkF m 164 #[d0, d1, .val (.long v2), .second, .val (.long v4), .second, d6, .val (.int v7), .val (.int v8), .val (.long v9), .second, .val (.long v11), .second, .val (.long v13), .second, .val (.int v15), .val (.int t0), .val (.int (1 : Int32))] [(.int (1 : Int32)), (.int r39)])) t
          refine XS.icmpYes X39.here hx rfl (pc0 := 164) (pc' := 171) rfl (hb hby at_164) rfl (feq hc164).2 (by decide) (by decide) ?_
          show Steps p.tables e below (T39.setTop (mkF m 171 #[d0, d1, .val (.long v2), .second, .val (.long v4), .second, d6, .val (.int v7), .val (.int v8), .val (.long v9), .second, .val (.long v11), .second, .val (.long v13), .second, .val (.int v15), .val (.int t0), .val (.int (1 : Int32))] [])) t
          refine XS.iconst X39.here hx rfl (hb hby at_171) ?_
          exact k
        obtain rfl : (0 : Int32) = r := Option.some.inj hF
        exact own_retN X39 hx (t := .boolean) hret hlk (by simp) (hb hby at_172) e39 (v := (0 : Int32)) (by decide) ⟨rfl, N39, rfl⟩ (by decide) (by decide)
set_option maxRecDepth 65536 in
set_option maxHeartbeats 4000000 in
theorem b_law_96 {p : Program} {l : Launch} {e : Env} {s : State} {m : MethodId} {args : Array Value} {below : List Frame} {meth : Method} {c : Code} {Z : State} {a0 : Array Value} {n0 : Nat} {hE : Heap} (cx : Cx_law p s m meth c Z a0) :
    ∀ {T : State} {locs : List Loc} (X : Stand p l e room_1 s m args below meth c T locs 0 0) (eT : T.heap = hE) (N : Fr n0 locs) (z : n0 ≤ hE.size) (v7 : Int32) (v8 : Int32) (v9 : Int64) (v11 : Int64) (v13 : Int64) (d0 : Slot) (d1 : Slot) (v2 : Int64) (v4 : Int64) (d6 : Slot) (d15 : Slot) (d16 : Slot) (d17 : Slot) (o_d0 : One d0) (o_d1 : One d1) (o_d6 : One d6) (o_d15 : One d15) (o_d16 : One d16) (o_d17 : One d17) (r : Int32), f_law_96 v7 v8 v9 v11 v13 = some r → own_Goes p e below s (Q_law Z hE n0 r) 0 0 (T.setTop (mkF m 96 #[d0, d1, .val (.long v2), .second, .val (.long v4), .second, d6, .val (.int v7), .val (.int v8), .val (.long v9), .second, .val (.long v11), .second, .val (.long v13), .second, d15, d16, d17] [])) := by
  have cx' := cx
  obtain ⟨hx, hZ, hw, hby, hml, hown, hret, hlk, hnm⟩ := cx'
  intro T locs X eT N z v7 v8 v9 v11 v13 d0 d1 v2 v4 d6 d15 d16 d17 o_d0 o_d1 o_d6 o_d15 o_d16 o_d17 r hF
  unfold f_law_96 at hF
  refine own_Goes.via (B := T.setTop (mkF m 105 #[d0, d1, .val (.long v2), .second, .val (.long v4), .second, d6, .val (.int v7), .val (.int v8), .val (.long v9), .second, .val (.long v11), .second, .val (.long v13), .second, d15, d16, d17] [(.int (lcmpW ((2 : Int64) * v9) v11))])) (fun t k => ?_) ?_
  · show Steps p.tables e below (T.setTop (mkF m 96 #[d0, d1, .val (.long v2), .second, .val (.long v4), .second, d6, .val (.int v7), .val (.int v8), .val (.long v9), .second, .val (.long v11), .second, .val (.long v13), .second, d15, d16, d17] [])) t
    refine X.ldc2Long hx hown (mvT hZ (w2 hw)) (g := (mkF m 96 #[d0, d1, .val (.long v2), .second, .val (.long v4), .second, d6, .val (.int v7), .val (.int v8), .val (.long v9), .second, .val (.long v11), .second, .val (.long v13), .second, d15, d16, d17] [])) rfl (hb hby at_96) _ ?_
    show Steps p.tables e below (T.setTop (mkF m 99 #[d0, d1, .val (.long v2), .second, .val (.long v4), .second, d6, .val (.int v7), .val (.int v8), .val (.long v9), .second, .val (.long v11), .second, .val (.long v13), .second, d15, d16, d17] [(.long (2 : Int64))])) t
    refine XS.lload X.here hx rfl (hb hby at_99) rfl ?_
    show Steps p.tables e below (T.setTop (mkF m 101 #[d0, d1, .val (.long v2), .second, .val (.long v4), .second, d6, .val (.int v7), .val (.int v8), .val (.long v9), .second, .val (.long v11), .second, .val (.long v13), .second, d15, d16, d17] [(.long v9), (.long (2 : Int64))])) t
    refine XS.lmul X.here hx rfl (hb hby at_101) rfl ?_
    show Steps p.tables e below (T.setTop (mkF m 102 #[d0, d1, .val (.long v2), .second, .val (.long v4), .second, d6, .val (.int v7), .val (.int v8), .val (.long v9), .second, .val (.long v11), .second, .val (.long v13), .second, d15, d16, d17] [(.long ((2 : Int64) * v9))])) t
    refine XS.lload X.here hx rfl (hb hby at_102) rfl ?_
    show Steps p.tables e below (T.setTop (mkF m 104 #[d0, d1, .val (.long v2), .second, .val (.long v4), .second, d6, .val (.int v7), .val (.int v8), .val (.long v9), .second, .val (.long v11), .second, .val (.long v13), .second, d15, d16, d17] [(.long v11), (.long ((2 : Int64) * v9))])) t
    refine XS.lcmp X.here hx rfl (hb hby at_104) rfl ?_
    exact k
  by_cases hc105 : v11 < ((2 : Int64) * v9)
  · rw [if_pos hc105] at hF
    refine own_Goes.via (B := T.setTop (mkF m 124 #[d0, d1, .val (.long v2), .second, .val (.long v4), .second, d6, .val (.int v7), .val (.int v8), .val (.long v9), .second, .val (.long v11), .second, .val (.long v13), .second, .val (.int (1 : Int32)), d16, d17] [(.int (lcmpW (v9 + (v7.toInt64)) v13))])) (fun t k => ?_) ?_
    · show Steps p.tables e below (T.setTop (mkF m 105 #[d0, d1, .val (.long v2), .second, .val (.long v4), .second, d6, .val (.int v7), .val (.int v8), .val (.long v9), .second, .val (.long v11), .second, .val (.long v13), .second, d15, d16, d17] [(.int (lcmpW ((2 : Int64) * v9) v11))])) t
      refine XS.ifNo X.here hx rfl (hb hby at_105) rfl (own_tgtL hc105).2 ?_
      show Steps p.tables e below (T.setTop (mkF m 108 #[d0, d1, .val (.long v2), .second, .val (.long v4), .second, d6, .val (.int v7), .val (.int v8), .val (.long v9), .second, .val (.long v11), .second, .val (.long v13), .second, d15, d16, d17] [])) t
      refine XS.iconst X.here hx rfl (hb hby at_108) ?_
      show Steps p.tables e below (T.setTop (mkF m 109 #[d0, d1, .val (.long v2), .second, .val (.long v4), .second, d6, .val (.int v7), .val (.int v8), .val (.long v9), .second, .val (.long v11), .second, .val (.long v13), .second, d15, d16, d17] [(.int (1 : Int32))])) t
      refine XS.goto X.here hx rfl (pc0 := 109) (pc' := 113) rfl (hb hby at_109) (by decide) (by decide) ?_
      show Steps p.tables e below (T.setTop (mkF m 113 #[d0, d1, .val (.long v2), .second, .val (.long v4), .second, d6, .val (.int v7), .val (.int v8), .val (.long v9), .second, .val (.long v11), .second, .val (.long v13), .second, d15, d16, d17] [(.int (1 : Int32))])) t
      refine XS.istoreS X.here hx rfl (hb hby at_113) rfl rfl o_d15 ?_
      show Steps p.tables e below (T.setTop (mkF m 115 #[d0, d1, .val (.long v2), .second, .val (.long v4), .second, d6, .val (.int v7), .val (.int v8), .val (.long v9), .second, .val (.long v11), .second, .val (.long v13), .second, .val (.int (1 : Int32)), d16, d17] [])) t
      refine XS.lload X.here hx rfl (hb hby at_115) rfl ?_
      show Steps p.tables e below (T.setTop (mkF m 117 #[d0, d1, .val (.long v2), .second, .val (.long v4), .second, d6, .val (.int v7), .val (.int v8), .val (.long v9), .second, .val (.long v11), .second, .val (.long v13), .second, .val (.int (1 : Int32)), d16, d17] [(.long v9)])) t
      refine XS.iload X.here hx rfl (hb hby at_117) rfl ?_
      show Steps p.tables e below (T.setTop (mkF m 119 #[d0, d1, .val (.long v2), .second, .val (.long v4), .second, d6, .val (.int v7), .val (.int v8), .val (.long v9), .second, .val (.long v11), .second, .val (.long v13), .second, .val (.int (1 : Int32)), d16, d17] [(.int v7), (.long v9)])) t
      refine XS.i2l X.here hx rfl (hb hby at_119) rfl ?_
      show Steps p.tables e below (T.setTop (mkF m 120 #[d0, d1, .val (.long v2), .second, .val (.long v4), .second, d6, .val (.int v7), .val (.int v8), .val (.long v9), .second, .val (.long v11), .second, .val (.long v13), .second, .val (.int (1 : Int32)), d16, d17] [(.long (v7.toInt64)), (.long v9)])) t
      refine XS.ladd X.here hx rfl (hb hby at_120) rfl ?_
      show Steps p.tables e below (T.setTop (mkF m 121 #[d0, d1, .val (.long v2), .second, .val (.long v4), .second, d6, .val (.int v7), .val (.int v8), .val (.long v9), .second, .val (.long v11), .second, .val (.long v13), .second, .val (.int (1 : Int32)), d16, d17] [(.long (v9 + (v7.toInt64)))])) t
      refine XS.lload X.here hx rfl (hb hby at_121) rfl ?_
      show Steps p.tables e below (T.setTop (mkF m 123 #[d0, d1, .val (.long v2), .second, .val (.long v4), .second, d6, .val (.int v7), .val (.int v8), .val (.long v9), .second, .val (.long v11), .second, .val (.long v13), .second, .val (.int (1 : Int32)), d16, d17] [(.long v13), (.long (v9 + (v7.toInt64)))])) t
      refine XS.lcmp X.here hx rfl (hb hby at_123) rfl ?_
      exact k
    by_cases hc124 : v13 < (v9 + (v7.toInt64))
    · rw [if_pos hc124] at hF
      refine own_Goes.via (B := T.setTop (mkF m 132 #[d0, d1, .val (.long v2), .second, .val (.long v4), .second, d6, .val (.int v7), .val (.int v8), .val (.long v9), .second, .val (.long v11), .second, .val (.long v13), .second, .val (.int (1 : Int32)), d16, d17] [(.int (1 : Int32))])) (fun t k => ?_) ?_
      · show Steps p.tables e below (T.setTop (mkF m 124 #[d0, d1, .val (.long v2), .second, .val (.long v4), .second, d6, .val (.int v7), .val (.int v8), .val (.long v9), .second, .val (.long v11), .second, .val (.long v13), .second, .val (.int (1 : Int32)), d16, d17] [(.int (lcmpW (v9 + (v7.toInt64)) v13))])) t
        refine XS.ifNo X.here hx rfl (hb hby at_124) rfl (own_tgtL hc124).2 ?_
        show Steps p.tables e below (T.setTop (mkF m 127 #[d0, d1, .val (.long v2), .second, .val (.long v4), .second, d6, .val (.int v7), .val (.int v8), .val (.long v9), .second, .val (.long v11), .second, .val (.long v13), .second, .val (.int (1 : Int32)), d16, d17] [])) t
        refine XS.iconst X.here hx rfl (hb hby at_127) ?_
        show Steps p.tables e below (T.setTop (mkF m 128 #[d0, d1, .val (.long v2), .second, .val (.long v4), .second, d6, .val (.int v7), .val (.int v8), .val (.long v9), .second, .val (.long v11), .second, .val (.long v13), .second, .val (.int (1 : Int32)), d16, d17] [(.int (1 : Int32))])) t
        refine XS.goto X.here hx rfl (pc0 := 128) (pc' := 132) rfl (hb hby at_128) (by decide) (by decide) ?_
        exact k
      exact b_law_132 cx X eT N z v7 v8 v11 v13 (1 : Int32) (1 : Int32) d0 d1 v2 v4 d6 v9 d16 d17 o_d0 o_d1 o_d6 o_d16 o_d17 _ hF
    · rw [if_neg hc124] at hF
      refine own_Goes.via (B := T.setTop (mkF m 132 #[d0, d1, .val (.long v2), .second, .val (.long v4), .second, d6, .val (.int v7), .val (.int v8), .val (.long v9), .second, .val (.long v11), .second, .val (.long v13), .second, .val (.int (1 : Int32)), d16, d17] [(.int (0 : Int32))])) (fun t k => ?_) ?_
      · show Steps p.tables e below (T.setTop (mkF m 124 #[d0, d1, .val (.long v2), .second, .val (.long v4), .second, d6, .val (.int v7), .val (.int v8), .val (.long v9), .second, .val (.long v11), .second, .val (.long v13), .second, .val (.int (1 : Int32)), d16, d17] [(.int (lcmpW (v9 + (v7.toInt64)) v13))])) t
        refine XS.ifYes X.here hx rfl (pc0 := 124) (pc' := 131) rfl (hb hby at_124) rfl (own_fgtL hc124).2 (by decide) (by decide) ?_
        show Steps p.tables e below (T.setTop (mkF m 131 #[d0, d1, .val (.long v2), .second, .val (.long v4), .second, d6, .val (.int v7), .val (.int v8), .val (.long v9), .second, .val (.long v11), .second, .val (.long v13), .second, .val (.int (1 : Int32)), d16, d17] [])) t
        refine XS.iconst X.here hx rfl (hb hby at_131) ?_
        exact k
      exact b_law_132 cx X eT N z v7 v8 v11 v13 (1 : Int32) (0 : Int32) d0 d1 v2 v4 d6 v9 d16 d17 o_d0 o_d1 o_d6 o_d16 o_d17 _ hF
  · rw [if_neg hc105] at hF
    refine own_Goes.via (B := T.setTop (mkF m 124 #[d0, d1, .val (.long v2), .second, .val (.long v4), .second, d6, .val (.int v7), .val (.int v8), .val (.long v9), .second, .val (.long v11), .second, .val (.long v13), .second, .val (.int (0 : Int32)), d16, d17] [(.int (lcmpW (v9 + (v7.toInt64)) v13))])) (fun t k => ?_) ?_
    · show Steps p.tables e below (T.setTop (mkF m 105 #[d0, d1, .val (.long v2), .second, .val (.long v4), .second, d6, .val (.int v7), .val (.int v8), .val (.long v9), .second, .val (.long v11), .second, .val (.long v13), .second, d15, d16, d17] [(.int (lcmpW ((2 : Int64) * v9) v11))])) t
      refine XS.ifYes X.here hx rfl (pc0 := 105) (pc' := 112) rfl (hb hby at_105) rfl (own_fgtL hc105).2 (by decide) (by decide) ?_
      show Steps p.tables e below (T.setTop (mkF m 112 #[d0, d1, .val (.long v2), .second, .val (.long v4), .second, d6, .val (.int v7), .val (.int v8), .val (.long v9), .second, .val (.long v11), .second, .val (.long v13), .second, d15, d16, d17] [])) t
      refine XS.iconst X.here hx rfl (hb hby at_112) ?_
      show Steps p.tables e below (T.setTop (mkF m 113 #[d0, d1, .val (.long v2), .second, .val (.long v4), .second, d6, .val (.int v7), .val (.int v8), .val (.long v9), .second, .val (.long v11), .second, .val (.long v13), .second, d15, d16, d17] [(.int (0 : Int32))])) t
      refine XS.istoreS X.here hx rfl (hb hby at_113) rfl rfl o_d15 ?_
      show Steps p.tables e below (T.setTop (mkF m 115 #[d0, d1, .val (.long v2), .second, .val (.long v4), .second, d6, .val (.int v7), .val (.int v8), .val (.long v9), .second, .val (.long v11), .second, .val (.long v13), .second, .val (.int (0 : Int32)), d16, d17] [])) t
      refine XS.lload X.here hx rfl (hb hby at_115) rfl ?_
      show Steps p.tables e below (T.setTop (mkF m 117 #[d0, d1, .val (.long v2), .second, .val (.long v4), .second, d6, .val (.int v7), .val (.int v8), .val (.long v9), .second, .val (.long v11), .second, .val (.long v13), .second, .val (.int (0 : Int32)), d16, d17] [(.long v9)])) t
      refine XS.iload X.here hx rfl (hb hby at_117) rfl ?_
      show Steps p.tables e below (T.setTop (mkF m 119 #[d0, d1, .val (.long v2), .second, .val (.long v4), .second, d6, .val (.int v7), .val (.int v8), .val (.long v9), .second, .val (.long v11), .second, .val (.long v13), .second, .val (.int (0 : Int32)), d16, d17] [(.int v7), (.long v9)])) t
      refine XS.i2l X.here hx rfl (hb hby at_119) rfl ?_
      show Steps p.tables e below (T.setTop (mkF m 120 #[d0, d1, .val (.long v2), .second, .val (.long v4), .second, d6, .val (.int v7), .val (.int v8), .val (.long v9), .second, .val (.long v11), .second, .val (.long v13), .second, .val (.int (0 : Int32)), d16, d17] [(.long (v7.toInt64)), (.long v9)])) t
      refine XS.ladd X.here hx rfl (hb hby at_120) rfl ?_
      show Steps p.tables e below (T.setTop (mkF m 121 #[d0, d1, .val (.long v2), .second, .val (.long v4), .second, d6, .val (.int v7), .val (.int v8), .val (.long v9), .second, .val (.long v11), .second, .val (.long v13), .second, .val (.int (0 : Int32)), d16, d17] [(.long (v9 + (v7.toInt64)))])) t
      refine XS.lload X.here hx rfl (hb hby at_121) rfl ?_
      show Steps p.tables e below (T.setTop (mkF m 123 #[d0, d1, .val (.long v2), .second, .val (.long v4), .second, d6, .val (.int v7), .val (.int v8), .val (.long v9), .second, .val (.long v11), .second, .val (.long v13), .second, .val (.int (0 : Int32)), d16, d17] [(.long v13), (.long (v9 + (v7.toInt64)))])) t
      refine XS.lcmp X.here hx rfl (hb hby at_123) rfl ?_
      exact k
    by_cases hc124 : v13 < (v9 + (v7.toInt64))
    · rw [if_pos hc124] at hF
      refine own_Goes.via (B := T.setTop (mkF m 132 #[d0, d1, .val (.long v2), .second, .val (.long v4), .second, d6, .val (.int v7), .val (.int v8), .val (.long v9), .second, .val (.long v11), .second, .val (.long v13), .second, .val (.int (0 : Int32)), d16, d17] [(.int (1 : Int32))])) (fun t k => ?_) ?_
      · show Steps p.tables e below (T.setTop (mkF m 124 #[d0, d1, .val (.long v2), .second, .val (.long v4), .second, d6, .val (.int v7), .val (.int v8), .val (.long v9), .second, .val (.long v11), .second, .val (.long v13), .second, .val (.int (0 : Int32)), d16, d17] [(.int (lcmpW (v9 + (v7.toInt64)) v13))])) t
        refine XS.ifNo X.here hx rfl (hb hby at_124) rfl (own_tgtL hc124).2 ?_
        show Steps p.tables e below (T.setTop (mkF m 127 #[d0, d1, .val (.long v2), .second, .val (.long v4), .second, d6, .val (.int v7), .val (.int v8), .val (.long v9), .second, .val (.long v11), .second, .val (.long v13), .second, .val (.int (0 : Int32)), d16, d17] [])) t
        refine XS.iconst X.here hx rfl (hb hby at_127) ?_
        show Steps p.tables e below (T.setTop (mkF m 128 #[d0, d1, .val (.long v2), .second, .val (.long v4), .second, d6, .val (.int v7), .val (.int v8), .val (.long v9), .second, .val (.long v11), .second, .val (.long v13), .second, .val (.int (0 : Int32)), d16, d17] [(.int (1 : Int32))])) t
        refine XS.goto X.here hx rfl (pc0 := 128) (pc' := 132) rfl (hb hby at_128) (by decide) (by decide) ?_
        exact k
      exact b_law_132 cx X eT N z v7 v8 v11 v13 (0 : Int32) (1 : Int32) d0 d1 v2 v4 d6 v9 d16 d17 o_d0 o_d1 o_d6 o_d16 o_d17 _ hF
    · rw [if_neg hc124] at hF
      refine own_Goes.via (B := T.setTop (mkF m 132 #[d0, d1, .val (.long v2), .second, .val (.long v4), .second, d6, .val (.int v7), .val (.int v8), .val (.long v9), .second, .val (.long v11), .second, .val (.long v13), .second, .val (.int (0 : Int32)), d16, d17] [(.int (0 : Int32))])) (fun t k => ?_) ?_
      · show Steps p.tables e below (T.setTop (mkF m 124 #[d0, d1, .val (.long v2), .second, .val (.long v4), .second, d6, .val (.int v7), .val (.int v8), .val (.long v9), .second, .val (.long v11), .second, .val (.long v13), .second, .val (.int (0 : Int32)), d16, d17] [(.int (lcmpW (v9 + (v7.toInt64)) v13))])) t
        refine XS.ifYes X.here hx rfl (pc0 := 124) (pc' := 131) rfl (hb hby at_124) rfl (own_fgtL hc124).2 (by decide) (by decide) ?_
        show Steps p.tables e below (T.setTop (mkF m 131 #[d0, d1, .val (.long v2), .second, .val (.long v4), .second, d6, .val (.int v7), .val (.int v8), .val (.long v9), .second, .val (.long v11), .second, .val (.long v13), .second, .val (.int (0 : Int32)), d16, d17] [])) t
        refine XS.iconst X.here hx rfl (hb hby at_131) ?_
        exact k
      exact b_law_132 cx X eT N z v7 v8 v11 v13 (0 : Int32) (0 : Int32) d0 d1 v2 v4 d6 v9 d16 d17 o_d0 o_d1 o_d6 o_d16 o_d17 _ hF
set_option maxRecDepth 65536 in
set_option maxHeartbeats 4000000 in
theorem b_law {p : Program} {l : Launch} {e : Env} {s : State} {m : MethodId} {args : Array Value} {below : List Frame} {meth : Method} {c : Code} {Z : State} {a0 : Array Value} {n0 : Nat} {hE : Heap} (cx : Cx_law p s m meth c Z a0) :
    ∀ {T : State} {locs : List Loc} (X : Stand p l e room_1 s m args below meth c T locs 0 0) (eT : T.heap = hE) (N : Fr n0 locs) (z : n0 ≤ hE.size) (v0 : Int32) (v1 : Int32) (v2 : Int64) (v4 : Int64) (v6 : Int32) (r : Int32), f_law v0 v1 v2 v4 v6 = some r → own_Goes p e below s (Q_law Z hE n0 r) 0 0 (T.setTop (mkF m 0 #[.val (.int v0), .val (.int v1), .val (.long v2), .second, .val (.long v4), .second, .val (.int v6), .unset, .unset, .unset, .unset, .unset, .unset, .unset, .unset, .unset, .unset, .unset] [])) := by
  have cx' := cx
  obtain ⟨hx, hZ, hw, hby, hml, hown, hret, hlk, hnm⟩ := cx'
  intro T locs X eT N z v0 v1 v2 v4 v6 r hF
  unfold f_law at hF
  refine own_Goes.via (B := T.setTop (mkF m 4 #[.val (.int v0), .val (.int v1), .val (.long v2), .second, .val (.long v4), .second, .val (.int v6), .unset, .unset, .unset, .unset, .unset, .unset, .unset, .unset, .unset, .unset, .unset] [(.int (v0 &&& (2147483647 : Int32)))])) (fun t k => ?_) ?_
  · show Steps p.tables e below (T.setTop (mkF m 0 #[.val (.int v0), .val (.int v1), .val (.long v2), .second, .val (.long v4), .second, .val (.int v6), .unset, .unset, .unset, .unset, .unset, .unset, .unset, .unset, .unset, .unset, .unset] [])) t
    refine XS.iloadN X.here hx rfl (hb hby at_0) rfl ?_
    show Steps p.tables e below (T.setTop (mkF m 1 #[.val (.int v0), .val (.int v1), .val (.long v2), .second, .val (.long v4), .second, .val (.int v6), .unset, .unset, .unset, .unset, .unset, .unset, .unset, .unset, .unset, .unset, .unset] [(.int v0)])) t
    refine X.ldcInt hx hown (mvT hZ (w0 hw)) (g := (mkF m 1 #[.val (.int v0), .val (.int v1), .val (.long v2), .second, .val (.long v4), .second, .val (.int v6), .unset, .unset, .unset, .unset, .unset, .unset, .unset, .unset, .unset, .unset, .unset] [(.int v0)])) rfl (hb hby at_1) _ ?_
    show Steps p.tables e below (T.setTop (mkF m 3 #[.val (.int v0), .val (.int v1), .val (.long v2), .second, .val (.long v4), .second, .val (.int v6), .unset, .unset, .unset, .unset, .unset, .unset, .unset, .unset, .unset, .unset, .unset] [(.int (2147483647 : Int32)), (.int v0)])) t
    refine XS.iand X.here hx rfl (hb hby at_3) rfl ?_
    exact k
  obtain ⟨x44, hx44, hF⟩ := own_lt_e hF
  rw [← hx44]
  refine own_Goes.via (B := T.setTop (mkF m 10 #[.val (.int v0), .val (.int v1), .val (.long v2), .second, .val (.long v4), .second, .val (.int v6), .val (.int x44), .unset, .unset, .unset, .unset, .unset, .unset, .unset, .unset, .unset, .unset] [(.int (v1 &&& (2147483647 : Int32)))])) (fun t k => ?_) ?_
  · show Steps p.tables e below (T.setTop (mkF m 4 #[.val (.int v0), .val (.int v1), .val (.long v2), .second, .val (.long v4), .second, .val (.int v6), .unset, .unset, .unset, .unset, .unset, .unset, .unset, .unset, .unset, .unset, .unset] [(.int x44)])) t
    refine XS.istore X.here hx rfl (hb hby at_4) rfl (l' := #[.val (.int v0), .val (.int v1), .val (.long v2), .second, .val (.long v4), .second, .val (.int v6), .val (.int x44), .unset, .unset, .unset, .unset, .unset, .unset, .unset, .unset, .unset, .unset]) rfl ?_
    show Steps p.tables e below (T.setTop (mkF m 6 #[.val (.int v0), .val (.int v1), .val (.long v2), .second, .val (.long v4), .second, .val (.int v6), .val (.int x44), .unset, .unset, .unset, .unset, .unset, .unset, .unset, .unset, .unset, .unset] [])) t
    refine XS.iloadN X.here hx rfl (hb hby at_6) rfl ?_
    show Steps p.tables e below (T.setTop (mkF m 7 #[.val (.int v0), .val (.int v1), .val (.long v2), .second, .val (.long v4), .second, .val (.int v6), .val (.int x44), .unset, .unset, .unset, .unset, .unset, .unset, .unset, .unset, .unset, .unset] [(.int v1)])) t
    refine X.ldcInt hx hown (mvT hZ (w0 hw)) (g := (mkF m 7 #[.val (.int v0), .val (.int v1), .val (.long v2), .second, .val (.long v4), .second, .val (.int v6), .val (.int x44), .unset, .unset, .unset, .unset, .unset, .unset, .unset, .unset, .unset, .unset] [(.int v1)])) rfl (hb hby at_7) _ ?_
    show Steps p.tables e below (T.setTop (mkF m 9 #[.val (.int v0), .val (.int v1), .val (.long v2), .second, .val (.long v4), .second, .val (.int v6), .val (.int x44), .unset, .unset, .unset, .unset, .unset, .unset, .unset, .unset, .unset, .unset] [(.int (2147483647 : Int32)), (.int v1)])) t
    refine XS.iand X.here hx rfl (hb hby at_9) rfl ?_
    exact k
  obtain ⟨x45, hx45, hF⟩ := own_lt_e hF
  rw [← hx45]
  refine own_Goes.via (B := T.setTop (mkF m 19 #[.val (.int v0), .val (.int v1), .val (.long v2), .second, .val (.long v4), .second, .val (.int v6), .val (.int x44), .val (.int x45), .unset, .unset, .unset, .unset, .unset, .unset, .unset, .unset, .unset] [(.long ((x44.toInt64) + (x45.toInt64)))])) (fun t k => ?_) ?_
  · show Steps p.tables e below (T.setTop (mkF m 10 #[.val (.int v0), .val (.int v1), .val (.long v2), .second, .val (.long v4), .second, .val (.int v6), .val (.int x44), .unset, .unset, .unset, .unset, .unset, .unset, .unset, .unset, .unset, .unset] [(.int x45)])) t
    refine XS.istore X.here hx rfl (hb hby at_10) rfl (l' := #[.val (.int v0), .val (.int v1), .val (.long v2), .second, .val (.long v4), .second, .val (.int v6), .val (.int x44), .val (.int x45), .unset, .unset, .unset, .unset, .unset, .unset, .unset, .unset, .unset]) rfl ?_
    show Steps p.tables e below (T.setTop (mkF m 12 #[.val (.int v0), .val (.int v1), .val (.long v2), .second, .val (.long v4), .second, .val (.int v6), .val (.int x44), .val (.int x45), .unset, .unset, .unset, .unset, .unset, .unset, .unset, .unset, .unset] [])) t
    refine XS.iload X.here hx rfl (hb hby at_12) rfl ?_
    show Steps p.tables e below (T.setTop (mkF m 14 #[.val (.int v0), .val (.int v1), .val (.long v2), .second, .val (.long v4), .second, .val (.int v6), .val (.int x44), .val (.int x45), .unset, .unset, .unset, .unset, .unset, .unset, .unset, .unset, .unset] [(.int x44)])) t
    refine XS.i2l X.here hx rfl (hb hby at_14) rfl ?_
    show Steps p.tables e below (T.setTop (mkF m 15 #[.val (.int v0), .val (.int v1), .val (.long v2), .second, .val (.long v4), .second, .val (.int v6), .val (.int x44), .val (.int x45), .unset, .unset, .unset, .unset, .unset, .unset, .unset, .unset, .unset] [(.long (x44.toInt64))])) t
    refine XS.iload X.here hx rfl (hb hby at_15) rfl ?_
    show Steps p.tables e below (T.setTop (mkF m 17 #[.val (.int v0), .val (.int v1), .val (.long v2), .second, .val (.long v4), .second, .val (.int v6), .val (.int x44), .val (.int x45), .unset, .unset, .unset, .unset, .unset, .unset, .unset, .unset, .unset] [(.int x45), (.long (x44.toInt64))])) t
    refine XS.i2l X.here hx rfl (hb hby at_17) rfl ?_
    show Steps p.tables e below (T.setTop (mkF m 18 #[.val (.int v0), .val (.int v1), .val (.long v2), .second, .val (.long v4), .second, .val (.int v6), .val (.int x44), .val (.int x45), .unset, .unset, .unset, .unset, .unset, .unset, .unset, .unset, .unset] [(.long (x45.toInt64)), (.long (x44.toInt64))])) t
    refine XS.ladd X.here hx rfl (hb hby at_18) rfl ?_
    exact k
  obtain ⟨x46, hx46, hF⟩ := own_lt_e hF
  rw [← hx46]
  refine own_Goes.via (B := T.setTop (mkF m 25 #[.val (.int v0), .val (.int v1), .val (.long v2), .second, .val (.long v4), .second, .val (.int v6), .val (.int x44), .val (.int x45), .val (.long x46), .second, .unset, .unset, .unset, .unset, .unset, .unset, .unset] [(.int (v6 &&& (1 : Int32)))])) (fun t k => ?_) ?_
  · show Steps p.tables e below (T.setTop (mkF m 19 #[.val (.int v0), .val (.int v1), .val (.long v2), .second, .val (.long v4), .second, .val (.int v6), .val (.int x44), .val (.int x45), .unset, .unset, .unset, .unset, .unset, .unset, .unset, .unset, .unset] [(.long x46)])) t
    refine XS.lstore X.here hx rfl (hb hby at_19) rfl (l' := #[.val (.int v0), .val (.int v1), .val (.long v2), .second, .val (.long v4), .second, .val (.int v6), .val (.int x44), .val (.int x45), .val (.long x46), .second, .unset, .unset, .unset, .unset, .unset, .unset, .unset]) rfl ?_
    show Steps p.tables e below (T.setTop (mkF m 21 #[.val (.int v0), .val (.int v1), .val (.long v2), .second, .val (.long v4), .second, .val (.int v6), .val (.int x44), .val (.int x45), .val (.long x46), .second, .unset, .unset, .unset, .unset, .unset, .unset, .unset] [])) t
    refine XS.iload X.here hx rfl (hb hby at_21) rfl ?_
    show Steps p.tables e below (T.setTop (mkF m 23 #[.val (.int v0), .val (.int v1), .val (.long v2), .second, .val (.long v4), .second, .val (.int v6), .val (.int x44), .val (.int x45), .val (.long x46), .second, .unset, .unset, .unset, .unset, .unset, .unset, .unset] [(.int v6)])) t
    refine XS.iconst X.here hx rfl (hb hby at_23) ?_
    show Steps p.tables e below (T.setTop (mkF m 24 #[.val (.int v0), .val (.int v1), .val (.long v2), .second, .val (.long v4), .second, .val (.int v6), .val (.int x44), .val (.int x45), .val (.long x46), .second, .unset, .unset, .unset, .unset, .unset, .unset, .unset] [(.int (1 : Int32)), (.int v6)])) t
    refine XS.iand X.here hx rfl (hb hby at_24) rfl ?_
    exact k
  by_cases hc25 : (v6 &&& (1 : Int32)) = (0 : Int32)
  · rw [if_pos hc25] at hF
    refine own_Goes.via (B := T.setTop (mkF m 87 #[.val (.int v0), .val (.int v1), .val (.long v2), .second, .val (.long v4), .second, .val (.int v6), .val (.int x44), .val (.int x45), .val (.long x46), .second, .unset, .unset, .unset, .unset, .unset, .unset, .unset] [(.long (v4 &&& (9223372036854775807 : Int64)))])) (fun t k => ?_) ?_
    · show Steps p.tables e below (T.setTop (mkF m 25 #[.val (.int v0), .val (.int v1), .val (.long v2), .second, .val (.long v4), .second, .val (.int v6), .val (.int x44), .val (.int x45), .val (.long x46), .second, .unset, .unset, .unset, .unset, .unset, .unset, .unset] [(.int (v6 &&& (1 : Int32)))])) t
      refine XS.ifYes X.here hx rfl (pc0 := 25) (pc' := 81) rfl (hb hby at_25) rfl ((if0 _ _).trans (teq hc25).1) (by decide) (by decide) ?_
      show Steps p.tables e below (T.setTop (mkF m 81 #[.val (.int v0), .val (.int v1), .val (.long v2), .second, .val (.long v4), .second, .val (.int v6), .val (.int x44), .val (.int x45), .val (.long x46), .second, .unset, .unset, .unset, .unset, .unset, .unset, .unset] [])) t
      refine XS.lload X.here hx rfl (hb hby at_81) rfl ?_
      show Steps p.tables e below (T.setTop (mkF m 83 #[.val (.int v0), .val (.int v1), .val (.long v2), .second, .val (.long v4), .second, .val (.int v6), .val (.int x44), .val (.int x45), .val (.long x46), .second, .unset, .unset, .unset, .unset, .unset, .unset, .unset] [(.long v4)])) t
      refine X.ldc2Long hx hown (mvT hZ (w1 hw)) (g := (mkF m 83 #[.val (.int v0), .val (.int v1), .val (.long v2), .second, .val (.long v4), .second, .val (.int v6), .val (.int x44), .val (.int x45), .val (.long x46), .second, .unset, .unset, .unset, .unset, .unset, .unset, .unset] [(.long v4)])) rfl (hb hby at_83) _ ?_
      show Steps p.tables e below (T.setTop (mkF m 86 #[.val (.int v0), .val (.int v1), .val (.long v2), .second, .val (.long v4), .second, .val (.int v6), .val (.int x44), .val (.int x45), .val (.long x46), .second, .unset, .unset, .unset, .unset, .unset, .unset, .unset] [(.long (9223372036854775807 : Int64)), (.long v4)])) t
      refine XS.land X.here hx rfl (hb hby at_86) rfl ?_
      exact k
    obtain ⟨x47, hx47, hF⟩ := own_lt_e hF
    rw [← hx47]
    refine own_Goes.via (B := T.setTop (mkF m 94 #[.val (.int v0), .val (.int v1), .val (.long v2), .second, .val (.long v4), .second, .val (.int v6), .val (.int x44), .val (.int x45), .val (.long x46), .second, .val (.long x47), .second, .unset, .unset, .unset, .unset, .unset] [(.long (v2 &&& (9223372036854775807 : Int64)))])) (fun t k => ?_) ?_
    · show Steps p.tables e below (T.setTop (mkF m 87 #[.val (.int v0), .val (.int v1), .val (.long v2), .second, .val (.long v4), .second, .val (.int v6), .val (.int x44), .val (.int x45), .val (.long x46), .second, .unset, .unset, .unset, .unset, .unset, .unset, .unset] [(.long x47)])) t
      refine XS.lstore X.here hx rfl (hb hby at_87) rfl (l' := #[.val (.int v0), .val (.int v1), .val (.long v2), .second, .val (.long v4), .second, .val (.int v6), .val (.int x44), .val (.int x45), .val (.long x46), .second, .val (.long x47), .second, .unset, .unset, .unset, .unset, .unset]) rfl ?_
      show Steps p.tables e below (T.setTop (mkF m 89 #[.val (.int v0), .val (.int v1), .val (.long v2), .second, .val (.long v4), .second, .val (.int v6), .val (.int x44), .val (.int x45), .val (.long x46), .second, .val (.long x47), .second, .unset, .unset, .unset, .unset, .unset] [])) t
      refine XS.lloadN X.here hx rfl (hb hby at_89) rfl ?_
      show Steps p.tables e below (T.setTop (mkF m 90 #[.val (.int v0), .val (.int v1), .val (.long v2), .second, .val (.long v4), .second, .val (.int v6), .val (.int x44), .val (.int x45), .val (.long x46), .second, .val (.long x47), .second, .unset, .unset, .unset, .unset, .unset] [(.long v2)])) t
      refine X.ldc2Long hx hown (mvT hZ (w1 hw)) (g := (mkF m 90 #[.val (.int v0), .val (.int v1), .val (.long v2), .second, .val (.long v4), .second, .val (.int v6), .val (.int x44), .val (.int x45), .val (.long x46), .second, .val (.long x47), .second, .unset, .unset, .unset, .unset, .unset] [(.long v2)])) rfl (hb hby at_90) _ ?_
      show Steps p.tables e below (T.setTop (mkF m 93 #[.val (.int v0), .val (.int v1), .val (.long v2), .second, .val (.long v4), .second, .val (.int v6), .val (.int x44), .val (.int x45), .val (.long x46), .second, .val (.long x47), .second, .unset, .unset, .unset, .unset, .unset] [(.long (9223372036854775807 : Int64)), (.long v2)])) t
      refine XS.land X.here hx rfl (hb hby at_93) rfl ?_
      exact k
    obtain ⟨x48, hx48, hF⟩ := own_lt_e hF
    rw [← hx48]
    refine own_Goes.via (B := T.setTop (mkF m 96 #[.val (.int v0), .val (.int v1), .val (.long v2), .second, .val (.long v4), .second, .val (.int v6), .val (.int x44), .val (.int x45), .val (.long x46), .second, .val (.long x47), .second, .val (.long x48), .second, .unset, .unset, .unset] [])) (fun t k => ?_) ?_
    · show Steps p.tables e below (T.setTop (mkF m 94 #[.val (.int v0), .val (.int v1), .val (.long v2), .second, .val (.long v4), .second, .val (.int v6), .val (.int x44), .val (.int x45), .val (.long x46), .second, .val (.long x47), .second, .unset, .unset, .unset, .unset, .unset] [(.long x48)])) t
      refine XS.lstore X.here hx rfl (hb hby at_94) rfl (l' := #[.val (.int v0), .val (.int v1), .val (.long v2), .second, .val (.long v4), .second, .val (.int v6), .val (.int x44), .val (.int x45), .val (.long x46), .second, .val (.long x47), .second, .val (.long x48), .second, .unset, .unset, .unset]) rfl ?_
      exact k
    exact b_law_96 cx X eT N z x44 x45 x46 x47 x48 (.val (.int v0)) (.val (.int v1)) v2 v4 (.val (.int v6)) (.unset) (.unset) (.unset) (One.val rfl) (One.val rfl) (One.val rfl) One.u One.u One.u _ hF
  · rw [if_neg hc25] at hF
    refine own_Goes.via (B := T.setTop (mkF m 48 #[.val (.int v0), .val (.int v1), .val (.long v2), .second, .val (.long v4), .second, .val (.int v6), .val (.int x44), .val (.int x45), .val (.long x46), .second, .unset, .unset, .unset, .unset, .unset, .unset, .unset] [(.long ((((2 : Int64) * x46) + (((v6 >>> ((1 : Int32) &&& 31)) &&& (7 : Int32)).toInt64)) - (4 : Int64))), (.long (0 : Int64))])) (fun t k => ?_) ?_
    · show Steps p.tables e below (T.setTop (mkF m 25 #[.val (.int v0), .val (.int v1), .val (.long v2), .second, .val (.long v4), .second, .val (.int v6), .val (.int x44), .val (.int x45), .val (.long x46), .second, .unset, .unset, .unset, .unset, .unset, .unset, .unset] [(.int (v6 &&& (1 : Int32)))])) t
      refine XS.ifNo X.here hx rfl (hb hby at_25) rfl ((if0 _ _).trans (feq hc25).1) ?_
      show Steps p.tables e below (T.setTop (mkF m 28 #[.val (.int v0), .val (.int v1), .val (.long v2), .second, .val (.long v4), .second, .val (.int v6), .val (.int x44), .val (.int x45), .val (.long x46), .second, .unset, .unset, .unset, .unset, .unset, .unset, .unset] [])) t
      refine XS.lconst X.here hx rfl (hb hby at_28) ?_
      show Steps p.tables e below (T.setTop (mkF m 29 #[.val (.int v0), .val (.int v1), .val (.long v2), .second, .val (.long v4), .second, .val (.int v6), .val (.int x44), .val (.int x45), .val (.long x46), .second, .unset, .unset, .unset, .unset, .unset, .unset, .unset] [(.long (0 : Int64))])) t
      refine X.ldc2Long hx hown (mvT hZ (w2 hw)) (g := (mkF m 29 #[.val (.int v0), .val (.int v1), .val (.long v2), .second, .val (.long v4), .second, .val (.int v6), .val (.int x44), .val (.int x45), .val (.long x46), .second, .unset, .unset, .unset, .unset, .unset, .unset, .unset] [(.long (0 : Int64))])) rfl (hb hby at_29) _ ?_
      show Steps p.tables e below (T.setTop (mkF m 32 #[.val (.int v0), .val (.int v1), .val (.long v2), .second, .val (.long v4), .second, .val (.int v6), .val (.int x44), .val (.int x45), .val (.long x46), .second, .unset, .unset, .unset, .unset, .unset, .unset, .unset] [(.long (2 : Int64)), (.long (0 : Int64))])) t
      refine XS.lload X.here hx rfl (hb hby at_32) rfl ?_
      show Steps p.tables e below (T.setTop (mkF m 34 #[.val (.int v0), .val (.int v1), .val (.long v2), .second, .val (.long v4), .second, .val (.int v6), .val (.int x44), .val (.int x45), .val (.long x46), .second, .unset, .unset, .unset, .unset, .unset, .unset, .unset] [(.long x46), (.long (2 : Int64)), (.long (0 : Int64))])) t
      refine XS.lmul X.here hx rfl (hb hby at_34) rfl ?_
      show Steps p.tables e below (T.setTop (mkF m 35 #[.val (.int v0), .val (.int v1), .val (.long v2), .second, .val (.long v4), .second, .val (.int v6), .val (.int x44), .val (.int x45), .val (.long x46), .second, .unset, .unset, .unset, .unset, .unset, .unset, .unset] [(.long ((2 : Int64) * x46)), (.long (0 : Int64))])) t
      refine XS.iload X.here hx rfl (hb hby at_35) rfl ?_
      show Steps p.tables e below (T.setTop (mkF m 37 #[.val (.int v0), .val (.int v1), .val (.long v2), .second, .val (.long v4), .second, .val (.int v6), .val (.int x44), .val (.int x45), .val (.long x46), .second, .unset, .unset, .unset, .unset, .unset, .unset, .unset] [(.int v6), (.long ((2 : Int64) * x46)), (.long (0 : Int64))])) t
      refine XS.iconst X.here hx rfl (hb hby at_37) ?_
      show Steps p.tables e below (T.setTop (mkF m 38 #[.val (.int v0), .val (.int v1), .val (.long v2), .second, .val (.long v4), .second, .val (.int v6), .val (.int x44), .val (.int x45), .val (.long x46), .second, .unset, .unset, .unset, .unset, .unset, .unset, .unset] [(.int (1 : Int32)), (.int v6), (.long ((2 : Int64) * x46)), (.long (0 : Int64))])) t
      refine XS.ishr X.here hx rfl (hb hby at_38) rfl ?_
      show Steps p.tables e below (T.setTop (mkF m 39 #[.val (.int v0), .val (.int v1), .val (.long v2), .second, .val (.long v4), .second, .val (.int v6), .val (.int x44), .val (.int x45), .val (.long x46), .second, .unset, .unset, .unset, .unset, .unset, .unset, .unset] [(.int (v6 >>> ((1 : Int32) &&& 31))), (.long ((2 : Int64) * x46)), (.long (0 : Int64))])) t
      refine XS.bipush X.here hx rfl (hb hby at_39) ?_
      show Steps p.tables e below (T.setTop (mkF m 41 #[.val (.int v0), .val (.int v1), .val (.long v2), .second, .val (.long v4), .second, .val (.int v6), .val (.int x44), .val (.int x45), .val (.long x46), .second, .unset, .unset, .unset, .unset, .unset, .unset, .unset] [(.int (7 : Int32)), (.int (v6 >>> ((1 : Int32) &&& 31))), (.long ((2 : Int64) * x46)), (.long (0 : Int64))])) t
      refine XS.iand X.here hx rfl (hb hby at_41) rfl ?_
      show Steps p.tables e below (T.setTop (mkF m 42 #[.val (.int v0), .val (.int v1), .val (.long v2), .second, .val (.long v4), .second, .val (.int v6), .val (.int x44), .val (.int x45), .val (.long x46), .second, .unset, .unset, .unset, .unset, .unset, .unset, .unset] [(.int ((v6 >>> ((1 : Int32) &&& 31)) &&& (7 : Int32))), (.long ((2 : Int64) * x46)), (.long (0 : Int64))])) t
      refine XS.i2l X.here hx rfl (hb hby at_42) rfl ?_
      show Steps p.tables e below (T.setTop (mkF m 43 #[.val (.int v0), .val (.int v1), .val (.long v2), .second, .val (.long v4), .second, .val (.int v6), .val (.int x44), .val (.int x45), .val (.long x46), .second, .unset, .unset, .unset, .unset, .unset, .unset, .unset] [(.long (((v6 >>> ((1 : Int32) &&& 31)) &&& (7 : Int32)).toInt64)), (.long ((2 : Int64) * x46)), (.long (0 : Int64))])) t
      refine XS.ladd X.here hx rfl (hb hby at_43) rfl ?_
      show Steps p.tables e below (T.setTop (mkF m 44 #[.val (.int v0), .val (.int v1), .val (.long v2), .second, .val (.long v4), .second, .val (.int v6), .val (.int x44), .val (.int x45), .val (.long x46), .second, .unset, .unset, .unset, .unset, .unset, .unset, .unset] [(.long (((2 : Int64) * x46) + (((v6 >>> ((1 : Int32) &&& 31)) &&& (7 : Int32)).toInt64))), (.long (0 : Int64))])) t
      refine X.ldc2Long hx hown (mvT hZ (w8 hw)) (g := (mkF m 44 #[.val (.int v0), .val (.int v1), .val (.long v2), .second, .val (.long v4), .second, .val (.int v6), .val (.int x44), .val (.int x45), .val (.long x46), .second, .unset, .unset, .unset, .unset, .unset, .unset, .unset] [(.long (((2 : Int64) * x46) + (((v6 >>> ((1 : Int32) &&& 31)) &&& (7 : Int32)).toInt64))), (.long (0 : Int64))])) rfl (hb hby at_44) _ ?_
      show Steps p.tables e below (T.setTop (mkF m 47 #[.val (.int v0), .val (.int v1), .val (.long v2), .second, .val (.long v4), .second, .val (.int v6), .val (.int x44), .val (.int x45), .val (.long x46), .second, .unset, .unset, .unset, .unset, .unset, .unset, .unset] [(.long (4 : Int64)), (.long (((2 : Int64) * x46) + (((v6 >>> ((1 : Int32) &&& 31)) &&& (7 : Int32)).toInt64))), (.long (0 : Int64))])) t
      refine XS.lsub X.here hx rfl (hb hby at_47) rfl ?_
      exact k
    obtain ⟨x49, hx49, hF⟩ := own_lt_e hF
    rw [← hx49]
    obtain ⟨r50, hr50, hF⟩ := own_bd_e hF
    obtain ⟨_, _, ⟨T50, L50, k50, n50⟩, -, X50, ⟨Lc50, hQ50, l50, y50, z50⟩, st50⟩ := Jvm.LawKit.callS X hx (y := (⟨"java/lang/Math", "max", "(JJ)J"⟩ : MethodName)) hown (mvT hZ (w9 hw)) (mvT hZ (w10 hw)) (mvT hZ (w11 hw)) (mvT hZ (w12 hw)) (by decide) (backOf (W := 0) (rm_Math_max l Z a0 hw [] hE n0 z (0 : Int64) x49 r50 hr50) hZ (w12 hw) (w11 hw) (by decide) (by decide)) (g := (mkF m 48 #[.val (.int v0), .val (.int v1), .val (.long v2), .second, .val (.long v4), .second, .val (.int v6), .val (.int x44), .val (.int x45), .val (.long x46), .second, .unset, .unset, .unset, .unset, .unset, .unset, .unset] [(.long x49), (.long (0 : Int64))])) rfl (by rw [hml]; rfl) (argsL := [(.long (0 : Int64)), (.long x49)]) (rest := []) (lenOf pd_1 rfl) rfl (by show 2 * 0 + _ ≤ _; exact Nat.le_of_eq rfl) (hb hby at_48) (fun _ _ => ⟨rfl, eT, (by decide : 0 + 0 ≤ _), (by decide : 0 + 0 ≤ _)⟩)
    dsimp only [Pt.U, Pt.locs, Pt.cells, Pt.slots] at X50 l50 y50 z50 st50 hQ50
    subst l50 y50 z50
    obtain ⟨rfl, N50q, e50⟩ := hQ50
    have N50 := Fr.app N N50q
    refine own_Goes.via st50 ?_
    show own_Goes _ _ _ _ _ _ _ (T50.setTop (mkF m 51 #[.val (.int v0), .val (.int v1), .val (.long v2), .second, .val (.long v4), .second, .val (.int v6), .val (.int x44), .val (.int x45), .val (.long x46), .second, .unset, .unset, .unset, .unset, .unset, .unset, .unset] [(.long r50)]))
    refine own_Goes.via (B := T50.setTop (mkF m 73 #[.val (.int v0), .val (.int v1), .val (.long v2), .second, .val (.long v4), .second, .val (.int v6), .val (.int x44), .val (.int x45), .val (.long x46), .second, .val (.long r50), .second, .unset, .unset, .unset, .unset, .unset] [(.long (((x46 + (x44.toInt64)) + (((v6 >>> ((4 : Int32) &&& 31)) &&& (7 : Int32)).toInt64)) - (4 : Int64))), (.long (0 : Int64))])) (fun t k => ?_) ?_
    · show Steps p.tables e below (T50.setTop (mkF m 51 #[.val (.int v0), .val (.int v1), .val (.long v2), .second, .val (.long v4), .second, .val (.int v6), .val (.int x44), .val (.int x45), .val (.long x46), .second, .unset, .unset, .unset, .unset, .unset, .unset, .unset] [(.long r50)])) t
      refine XS.lstore X50.here hx rfl (hb hby at_51) rfl (l' := #[.val (.int v0), .val (.int v1), .val (.long v2), .second, .val (.long v4), .second, .val (.int v6), .val (.int x44), .val (.int x45), .val (.long x46), .second, .val (.long r50), .second, .unset, .unset, .unset, .unset, .unset]) rfl ?_
      show Steps p.tables e below (T50.setTop (mkF m 53 #[.val (.int v0), .val (.int v1), .val (.long v2), .second, .val (.long v4), .second, .val (.int v6), .val (.int x44), .val (.int x45), .val (.long x46), .second, .val (.long r50), .second, .unset, .unset, .unset, .unset, .unset] [])) t
      refine XS.lconst X50.here hx rfl (hb hby at_53) ?_
      show Steps p.tables e below (T50.setTop (mkF m 54 #[.val (.int v0), .val (.int v1), .val (.long v2), .second, .val (.long v4), .second, .val (.int v6), .val (.int x44), .val (.int x45), .val (.long x46), .second, .val (.long r50), .second, .unset, .unset, .unset, .unset, .unset] [(.long (0 : Int64))])) t
      refine XS.lload X50.here hx rfl (hb hby at_54) rfl ?_
      show Steps p.tables e below (T50.setTop (mkF m 56 #[.val (.int v0), .val (.int v1), .val (.long v2), .second, .val (.long v4), .second, .val (.int v6), .val (.int x44), .val (.int x45), .val (.long x46), .second, .val (.long r50), .second, .unset, .unset, .unset, .unset, .unset] [(.long x46), (.long (0 : Int64))])) t
      refine XS.iload X50.here hx rfl (hb hby at_56) rfl ?_
      show Steps p.tables e below (T50.setTop (mkF m 58 #[.val (.int v0), .val (.int v1), .val (.long v2), .second, .val (.long v4), .second, .val (.int v6), .val (.int x44), .val (.int x45), .val (.long x46), .second, .val (.long r50), .second, .unset, .unset, .unset, .unset, .unset] [(.int x44), (.long x46), (.long (0 : Int64))])) t
      refine XS.i2l X50.here hx rfl (hb hby at_58) rfl ?_
      show Steps p.tables e below (T50.setTop (mkF m 59 #[.val (.int v0), .val (.int v1), .val (.long v2), .second, .val (.long v4), .second, .val (.int v6), .val (.int x44), .val (.int x45), .val (.long x46), .second, .val (.long r50), .second, .unset, .unset, .unset, .unset, .unset] [(.long (x44.toInt64)), (.long x46), (.long (0 : Int64))])) t
      refine XS.ladd X50.here hx rfl (hb hby at_59) rfl ?_
      show Steps p.tables e below (T50.setTop (mkF m 60 #[.val (.int v0), .val (.int v1), .val (.long v2), .second, .val (.long v4), .second, .val (.int v6), .val (.int x44), .val (.int x45), .val (.long x46), .second, .val (.long r50), .second, .unset, .unset, .unset, .unset, .unset] [(.long (x46 + (x44.toInt64))), (.long (0 : Int64))])) t
      refine XS.iload X50.here hx rfl (hb hby at_60) rfl ?_
      show Steps p.tables e below (T50.setTop (mkF m 62 #[.val (.int v0), .val (.int v1), .val (.long v2), .second, .val (.long v4), .second, .val (.int v6), .val (.int x44), .val (.int x45), .val (.long x46), .second, .val (.long r50), .second, .unset, .unset, .unset, .unset, .unset] [(.int v6), (.long (x46 + (x44.toInt64))), (.long (0 : Int64))])) t
      refine XS.iconst X50.here hx rfl (hb hby at_62) ?_
      show Steps p.tables e below (T50.setTop (mkF m 63 #[.val (.int v0), .val (.int v1), .val (.long v2), .second, .val (.long v4), .second, .val (.int v6), .val (.int x44), .val (.int x45), .val (.long x46), .second, .val (.long r50), .second, .unset, .unset, .unset, .unset, .unset] [(.int (4 : Int32)), (.int v6), (.long (x46 + (x44.toInt64))), (.long (0 : Int64))])) t
      refine XS.ishr X50.here hx rfl (hb hby at_63) rfl ?_
      show Steps p.tables e below (T50.setTop (mkF m 64 #[.val (.int v0), .val (.int v1), .val (.long v2), .second, .val (.long v4), .second, .val (.int v6), .val (.int x44), .val (.int x45), .val (.long x46), .second, .val (.long r50), .second, .unset, .unset, .unset, .unset, .unset] [(.int (v6 >>> ((4 : Int32) &&& 31))), (.long (x46 + (x44.toInt64))), (.long (0 : Int64))])) t
      refine XS.bipush X50.here hx rfl (hb hby at_64) ?_
      show Steps p.tables e below (T50.setTop (mkF m 66 #[.val (.int v0), .val (.int v1), .val (.long v2), .second, .val (.long v4), .second, .val (.int v6), .val (.int x44), .val (.int x45), .val (.long x46), .second, .val (.long r50), .second, .unset, .unset, .unset, .unset, .unset] [(.int (7 : Int32)), (.int (v6 >>> ((4 : Int32) &&& 31))), (.long (x46 + (x44.toInt64))), (.long (0 : Int64))])) t
      refine XS.iand X50.here hx rfl (hb hby at_66) rfl ?_
      show Steps p.tables e below (T50.setTop (mkF m 67 #[.val (.int v0), .val (.int v1), .val (.long v2), .second, .val (.long v4), .second, .val (.int v6), .val (.int x44), .val (.int x45), .val (.long x46), .second, .val (.long r50), .second, .unset, .unset, .unset, .unset, .unset] [(.int ((v6 >>> ((4 : Int32) &&& 31)) &&& (7 : Int32))), (.long (x46 + (x44.toInt64))), (.long (0 : Int64))])) t
      refine XS.i2l X50.here hx rfl (hb hby at_67) rfl ?_
      show Steps p.tables e below (T50.setTop (mkF m 68 #[.val (.int v0), .val (.int v1), .val (.long v2), .second, .val (.long v4), .second, .val (.int v6), .val (.int x44), .val (.int x45), .val (.long x46), .second, .val (.long r50), .second, .unset, .unset, .unset, .unset, .unset] [(.long (((v6 >>> ((4 : Int32) &&& 31)) &&& (7 : Int32)).toInt64)), (.long (x46 + (x44.toInt64))), (.long (0 : Int64))])) t
      refine XS.ladd X50.here hx rfl (hb hby at_68) rfl ?_
      show Steps p.tables e below (T50.setTop (mkF m 69 #[.val (.int v0), .val (.int v1), .val (.long v2), .second, .val (.long v4), .second, .val (.int v6), .val (.int x44), .val (.int x45), .val (.long x46), .second, .val (.long r50), .second, .unset, .unset, .unset, .unset, .unset] [(.long ((x46 + (x44.toInt64)) + (((v6 >>> ((4 : Int32) &&& 31)) &&& (7 : Int32)).toInt64))), (.long (0 : Int64))])) t
      refine X50.ldc2Long hx hown (mvT hZ (w8 hw)) (g := (mkF m 69 #[.val (.int v0), .val (.int v1), .val (.long v2), .second, .val (.long v4), .second, .val (.int v6), .val (.int x44), .val (.int x45), .val (.long x46), .second, .val (.long r50), .second, .unset, .unset, .unset, .unset, .unset] [(.long ((x46 + (x44.toInt64)) + (((v6 >>> ((4 : Int32) &&& 31)) &&& (7 : Int32)).toInt64))), (.long (0 : Int64))])) rfl (hb hby at_69) _ ?_
      show Steps p.tables e below (T50.setTop (mkF m 72 #[.val (.int v0), .val (.int v1), .val (.long v2), .second, .val (.long v4), .second, .val (.int v6), .val (.int x44), .val (.int x45), .val (.long x46), .second, .val (.long r50), .second, .unset, .unset, .unset, .unset, .unset] [(.long (4 : Int64)), (.long ((x46 + (x44.toInt64)) + (((v6 >>> ((4 : Int32) &&& 31)) &&& (7 : Int32)).toInt64))), (.long (0 : Int64))])) t
      refine XS.lsub X50.here hx rfl (hb hby at_72) rfl ?_
      exact k
    obtain ⟨x51, hx51, hF⟩ := own_lt_e hF
    rw [← hx51]
    obtain ⟨r52, hr52, hF⟩ := own_bd_e hF
    obtain ⟨_, _, ⟨T52, L52, k52, n52⟩, -, X52, ⟨Lc52, hQ52, l52, y52, z52⟩, st52⟩ := Jvm.LawKit.callS X50 hx (y := (⟨"java/lang/Math", "max", "(JJ)J"⟩ : MethodName)) hown (mvT hZ (w9 hw)) (mvT hZ (w10 hw)) (mvT hZ (w11 hw)) (mvT hZ (w12 hw)) (by decide) (backOf (W := 0) (rm_Math_max l Z a0 hw [] hE n0 z (0 : Int64) x51 r52 hr52) hZ (w12 hw) (w11 hw) (by decide) (by decide)) (g := (mkF m 73 #[.val (.int v0), .val (.int v1), .val (.long v2), .second, .val (.long v4), .second, .val (.int v6), .val (.int x44), .val (.int x45), .val (.long x46), .second, .val (.long r50), .second, .unset, .unset, .unset, .unset, .unset] [(.long x51), (.long (0 : Int64))])) rfl (by rw [hml]; rfl) (argsL := [(.long (0 : Int64)), (.long x51)]) (rest := []) (lenOf pd_1 rfl) rfl (by show 2 * 0 + _ ≤ _; exact Nat.le_of_eq rfl) (hb hby at_73) (fun _ _ => ⟨rfl, e50, (by decide : 0 + 0 ≤ _), (by decide : 0 + 0 ≤ _)⟩)
    dsimp only [Pt.U, Pt.locs, Pt.cells, Pt.slots] at X52 l52 y52 z52 st52 hQ52
    subst l52 y52 z52
    obtain ⟨rfl, N52q, e52⟩ := hQ52
    have N52 := Fr.app N50 N52q
    refine own_Goes.via st52 ?_
    show own_Goes _ _ _ _ _ _ _ (T52.setTop (mkF m 76 #[.val (.int v0), .val (.int v1), .val (.long v2), .second, .val (.long v4), .second, .val (.int v6), .val (.int x44), .val (.int x45), .val (.long x46), .second, .val (.long r50), .second, .unset, .unset, .unset, .unset, .unset] [(.long r52)]))
    refine own_Goes.via (B := T52.setTop (mkF m 96 #[.val (.int v0), .val (.int v1), .val (.long v2), .second, .val (.long v4), .second, .val (.int v6), .val (.int x44), .val (.int x45), .val (.long x46), .second, .val (.long r50), .second, .val (.long r52), .second, .unset, .unset, .unset] [])) (fun t k => ?_) ?_
    · show Steps p.tables e below (T52.setTop (mkF m 76 #[.val (.int v0), .val (.int v1), .val (.long v2), .second, .val (.long v4), .second, .val (.int v6), .val (.int x44), .val (.int x45), .val (.long x46), .second, .val (.long r50), .second, .unset, .unset, .unset, .unset, .unset] [(.long r52)])) t
      refine XS.lstore X52.here hx rfl (hb hby at_76) rfl (l' := #[.val (.int v0), .val (.int v1), .val (.long v2), .second, .val (.long v4), .second, .val (.int v6), .val (.int x44), .val (.int x45), .val (.long x46), .second, .val (.long r50), .second, .val (.long r52), .second, .unset, .unset, .unset]) rfl ?_
      show Steps p.tables e below (T52.setTop (mkF m 78 #[.val (.int v0), .val (.int v1), .val (.long v2), .second, .val (.long v4), .second, .val (.int v6), .val (.int x44), .val (.int x45), .val (.long x46), .second, .val (.long r50), .second, .val (.long r52), .second, .unset, .unset, .unset] [])) t
      refine XS.goto X52.here hx rfl (pc0 := 78) (pc' := 96) rfl (hb hby at_78) (by decide) (by decide) ?_
      exact k
    exact b_law_96 cx X52 e52 N52 z x44 x45 x46 r50 r52 (.val (.int v0)) (.val (.int v1)) v2 v4 (.val (.int v6)) (.unset) (.unset) (.unset) (One.val rfl) (One.val rfl) (One.val rfl) One.u One.u One.u _ hF
theorem ef_law (m : MethodId) (x0 : Int32) (x1 : Int32) (x2 : Int64) (x3 : Int64) (x4 : Int32) : entryFrame m #[(.int x0), (.int x1), (.long x2), (.long x3), (.int x4)] maxLocals = mkF m 0 #[.val (.int x0), .val (.int x1), .val (.long x2), .second, .val (.long x3), .second, .val (.int x4), .unset, .unset, .unset, .unset, .unset, .unset, .unset, .unset, .unset, .unset, .unset] [] := by first | (simp [entryFrame, mkF, argsToLocals, Value.category, maxLocals]; done) | rfl
set_option maxRecDepth 65536 in
set_option maxHeartbeats 4000000 in
theorem rm_law (l : Launch) (Z : State) (a0 : Array Value) (hw : ∀ d ∈ tables_1, d.before a0 Z = true) (ws : List Jvm.Cond) (hE : Heap) (n0 : Nat) (z : n0 ≤ hE.size)  (v0 : Int32) (v1 : Int32) (v2 : Int64) (v4 : Int64) (v6 : Int32) (r : Int32) (hF : (f_law v0 v1 v2 v4 v6) = some r) :
    MetFree l x (head1 (Jvm.Cond.code x code maxLocals ret :: ws) room_1) (fun a U => a = #[(.int v0), (.int v1), (.long v2), (.long v4), (.int v6)] ∧ Z.Warmed39 U.vm ∧ U.heap = hE) (fun _ _ _ _ _ => True) (fun _ U o U' => ∃ v L, o = .returned v ∧ (Q_law Z hE n0 r) v U'.heap L ∧ FrameEnd U o U' L 0 0) := by
  refine MetFree.of_bodySF (plainFor_of_name pn_tidemark_cli_ElementReaderLineFillsHeapPinLaw) hisR ?_
  intro p e s m args below meth c s₁ Bd hml0 hP hK
  obtain ⟨rfl, hZ, hh⟩ := hP
  have X0 : Stand p l e room_1 s m #[(.int v0), (.int v1), (.long v2), (.long v4), (.int v6)] below meth c s₁ [] 0 0 := Stand.of_body Bd
  have e0 : s₁.heap = hE := by rw [← hh, Bd.state]; rfl
  have cx : Cx_law p s m meth c Z a0 := ⟨Bd.exec, hZ, hw, Bd.bytes, hml0, findClass_of_methodNamed Bd.named, Bd.returns, Bd.notSynchronized, (name_of_methodNamed Bd.named Bd.method).1⟩
  show own_Goes p e below s (Q_law Z hE n0 r) 0 0 (s₁.setTop (entryFrame m #[(.int v0), (.int v1), (.long v2), (.long v4), (.int v6)] maxLocals))
  rw [ef_law]
  exact b_law cx X0 e0 (Fr.nil n0) z v0 v1 v2 v4 v6 _ hF
/-! the words of the mirrors -/
theorem own_bs {α β : Type} (x : α) (f : α → Option β) : own_bd (some x) f = f x := by unfold own_bd; exact rfl
theorem own_ls {α β : Type} (x : α) (f : α → Option β) : own_lt x f = f x := by unfold own_lt; exact rfl
theorem own_bn {α : Type} (x : Option α) : own_bd x (fun y => some y) = x := by cases x <;> exact rfl
theorem own_ct {β : Type} {P : Prop} [Decidable P] (x : Option β) (h : P) : own_ck P x = x := by unfold own_ck; exact if_pos h
/-! numbers: ints and longs as integers -/
theorem own_i1 (x : Int32) : -2147483648 ≤ x.toInt := Int32.le_toInt x
theorem own_i2 (x : Int32) : x.toInt < 2147483648 := Int32.toInt_lt x
theorem own_j1 (x : Int64) : -9223372036854775808 ≤ x.toInt := Int64.le_toInt x
theorem own_j2 (x : Int64) : x.toInt < 9223372036854775808 := Int64.toInt_lt x
theorem own_iadd {a b : Int32} (h1 : -2147483648 ≤ a.toInt + b.toInt) (h2 : a.toInt + b.toInt < 2147483648) : (a + b).toInt = a.toInt + b.toInt := by
  rw [Int32.toInt_add]; exact Int.bmod_eq_of_le (by omega) (by omega)
theorem own_isub {a b : Int32} (h1 : -2147483648 ≤ a.toInt - b.toInt) (h2 : a.toInt - b.toInt < 2147483648) : (a - b).toInt = a.toInt - b.toInt := by
  rw [Int32.toInt_sub]; exact Int.bmod_eq_of_le (by omega) (by omega)
theorem own_imul {a b : Int32} (h1 : -2147483648 ≤ a.toInt * b.toInt) (h2 : a.toInt * b.toInt < 2147483648) : (a * b).toInt = a.toInt * b.toInt := by
  rw [Int32.toInt_mul]; exact Int.bmod_eq_of_le (by omega) (by omega)
theorem own_ladd {a b : Int64} (h1 : -9223372036854775808 ≤ a.toInt + b.toInt) (h2 : a.toInt + b.toInt < 9223372036854775808) : (a + b).toInt = a.toInt + b.toInt := by
  rw [Int64.toInt_add]; exact Int.bmod_eq_of_le (by omega) (by omega)
theorem own_lsub {a b : Int64} (h1 : -9223372036854775808 ≤ a.toInt - b.toInt) (h2 : a.toInt - b.toInt < 9223372036854775808) : (a - b).toInt = a.toInt - b.toInt := by
  rw [Int64.toInt_sub]; exact Int.bmod_eq_of_le (by omega) (by omega)
theorem own_lmul {a b : Int64} (h1 : -9223372036854775808 ≤ a.toInt * b.toInt) (h2 : a.toInt * b.toInt < 9223372036854775808) : (a * b).toInt = a.toInt * b.toInt := by
  rw [Int64.toInt_mul]; exact Int.bmod_eq_of_le (by omega) (by omega)
theorem own_imask {x m : Int32} (k : Nat) (hk : k ≤ 31) (hm : m.toBitVec.toNat = 2 ^ k - 1) : (x &&& m).toInt = x.toInt % 2 ^ k := by
  have h1 : (x &&& m).toBitVec.toNat = x.toBitVec.toNat % 2 ^ k := by rw [Int32.toBitVec_and, BitVec.toNat_and, hm, Nat.and_two_pow_sub_one_eq_mod]
  have h3 : x.toBitVec.toNat % 2 ^ k < 2 ^ k := Nat.mod_lt _ (Nat.pow_pos (by decide))
  have h4 : (2 : Nat) ^ k ≤ 2 ^ 31 := Nat.pow_le_pow_right (by decide) hk
  have h2 : (x &&& m).toInt = ((x.toBitVec.toNat % 2 ^ k : Nat) : Int) := by
    show (x &&& m).toBitVec.toInt = _
    rw [BitVec.toInt_eq_toNat_of_lt (by rw [h1]; omega), h1]
  rw [h2]
  have h5 : x.toInt = x.toBitVec.toInt := rfl
  have h6 : ((2 : Int) ^ k) ∣ 4294967296 := by
    have : (4294967296 : Int) = 2 ^ k * 2 ^ (32 - k) := by rw [← Int.pow_add, show k + (32 - k) = 32 by omega]; rfl
    exact ⟨_, this⟩
  rw [h5, BitVec.toInt_eq_toNat_cond]
  split
  · exact Int.natCast_emod _ _
  · rw [Int.natCast_emod, show (((2 ^ 32 : Nat) : Int)) = 4294967296 from rfl, Int.sub_emod, Int.emod_eq_zero_of_dvd h6]; simp
theorem own_lmask {x m : Int64} (k : Nat) (hk : k ≤ 63) (hm : m.toBitVec.toNat = 2 ^ k - 1) : (x &&& m).toInt = x.toInt % 2 ^ k := by
  have h1 : (x &&& m).toBitVec.toNat = x.toBitVec.toNat % 2 ^ k := by rw [Int64.toBitVec_and, BitVec.toNat_and, hm, Nat.and_two_pow_sub_one_eq_mod]
  have h3 : x.toBitVec.toNat % 2 ^ k < 2 ^ k := Nat.mod_lt _ (Nat.pow_pos (by decide))
  have h4 : (2 : Nat) ^ k ≤ 2 ^ 63 := Nat.pow_le_pow_right (by decide) hk
  have h2 : (x &&& m).toInt = ((x.toBitVec.toNat % 2 ^ k : Nat) : Int) := by
    show (x &&& m).toBitVec.toInt = _
    rw [BitVec.toInt_eq_toNat_of_lt (by rw [h1]; omega), h1]
  rw [h2]
  have h5 : x.toInt = x.toBitVec.toInt := rfl
  have h6 : ((2 : Int) ^ k) ∣ 18446744073709551616 := by
    have : (18446744073709551616 : Int) = 2 ^ k * 2 ^ (64 - k) := by rw [← Int.pow_add, show k + (64 - k) = 64 by omega]; rfl
    exact ⟨_, this⟩
  rw [h5, BitVec.toInt_eq_toNat_cond]
  split
  · exact Int.natCast_emod _ _
  · rw [Int.natCast_emod, show (((2 ^ 64 : Nat) : Int)) = 18446744073709551616 from rfl, Int.sub_emod, Int.emod_eq_zero_of_dvd h6]; simp
theorem own_bm32 (x : Int) : x.bmod 4294967296 = (x + 2147483648) % 4294967296 - 2147483648 := by
  unfold Int.bmod; dsimp only; split <;> omega
theorem own_bm64 (x : Int) : x.bmod 18446744073709551616 = (x + 9223372036854775808) % 18446744073709551616 - 9223372036854775808 := by
  unfold Int.bmod; dsimp only; split <;> omega
theorem own_bm8 (x : Int) : x.bmod 256 = (x + 128) % 256 - 128 := by
  unfold Int.bmod; dsimp only; split <;> omega
theorem own_bm16 (x : Int) : x.bmod 65536 = (x + 32768) % 65536 - 32768 := by
  unfold Int.bmod; dsimp only; split <;> omega
theorem own_b8 (x : Int32) : x.toInt8.toInt32.toInt = (x.toInt + 128) % 256 - 128 := by rw [Int8.toInt_toInt32, Int32.toInt_toInt8]; exact own_bm8 _
theorem own_s16 (x : Int32) : x.toInt16.toInt32.toInt = (x.toInt + 32768) % 65536 - 32768 := by rw [Int16.toInt_toInt32, Int32.toInt_toInt16]; exact own_bm16 _
theorem own_l2i (x : Int64) : x.toInt32.toInt = (x.toInt + 2147483648) % 4294967296 - 2147483648 := by rw [Int64.toInt_toInt32]; exact own_bm32 _
theorem own_i2l (x : Int32) : x.toInt64.toInt = x.toInt := Int32.toInt_toInt64 x
theorem own_idiv {a b : Int32} (h1 : 0 ≤ a.toInt) (h2 : 0 < b.toInt) : (a / b).toInt = a.toInt / b.toInt := by
  rw [Int32.toInt_div_of_ne_right a b (fun q => by rw [q] at h2; exact absurd h2 (by decide)), Int.tdiv_eq_ediv_of_nonneg h1]
theorem own_ldiv {a b : Int64} (h1 : 0 ≤ a.toInt) (h2 : 0 < b.toInt) : (a / b).toInt = a.toInt / b.toInt := by
  rw [Int64.toInt_div_of_ne_right a b (fun q => by rw [q] at h2; exact absurd h2 (by decide)), Int.tdiv_eq_ediv_of_nonneg h1]
theorem own_imod {a b : Int32} (h1 : 0 ≤ a.toInt) : (a % b).toInt = a.toInt % b.toInt := by rw [Int32.toInt_mod, Int.tmod_eq_emod_of_nonneg h1]
theorem own_lmod {a b : Int64} (h1 : 0 ≤ a.toInt) : (a % b).toInt = a.toInt % b.toInt := by rw [Int64.toInt_mod, Int.tmod_eq_emod_of_nonneg h1]
theorem own_uI (x : Int32) : (x.toUInt32.toNat : Int) = x.toInt % 4294967296 := by
  have h : x.toInt = x.toBitVec.toInt := rfl
  have q : x.toUInt32.toNat = x.toBitVec.toNat := rfl
  have b := x.toBitVec.isLt
  rw [h, q, BitVec.toInt_eq_toNat_cond]
  split <;> omega
theorem own_uJ (x : Int64) : (x.toUInt64.toNat : Int) = x.toInt % 18446744073709551616 := by
  have h : x.toInt = x.toBitVec.toInt := rfl
  have q : x.toUInt64.toNat = x.toBitVec.toNat := rfl
  have b := x.toBitVec.isLt
  rw [h, q, BitVec.toInt_eq_toNat_cond]
  split <;> omega
theorem own_ofU (u : UInt32) (h : u.toNat < 2147483648) : u.toInt32.toInt = u.toNat := by
  show u.toBitVec.toInt = _
  exact BitVec.toInt_eq_toNat_of_lt (by show 2 * u.toNat < 2 ^ 32; omega)
theorem own_ofUJ (u : UInt64) (h : u.toNat < 9223372036854775808) : u.toInt64.toInt = u.toNat := by
  show u.toBitVec.toInt = _
  exact BitVec.toInt_eq_toNat_of_lt (by show 2 * u.toNat < 2 ^ 64; omega)
/-- Java's >>> on ints by a constant from 1 to 31 -/
theorem own_iushr (x s : Int32) (n : Nat) (h0 : 1 ≤ n) (hn : n < 32) (hs : (s &&& 31).toUInt32.toNat = n) : ((x.toUInt32 >>> (s &&& 31).toUInt32).toInt32).toInt = (x.toInt % 4294967296) / (2 ^ n : Nat) := by
  have e : (x.toUInt32 >>> (s &&& 31).toUInt32).toNat = x.toUInt32.toNat / 2 ^ n := by rw [UInt32.toNat_shiftRight, hs, Nat.mod_eq_of_lt hn, Nat.shiftRight_eq_div_pow]
  have b : x.toUInt32.toNat < 4294967296 := x.toUInt32.toNat_lt
  have c : x.toUInt32.toNat / 2 ^ n ≤ x.toUInt32.toNat / 2 ^ 1 := Nat.div_le_div_left (Nat.pow_le_pow_right (by decide) h0) (by decide)
  rw [own_ofU _ (by rw [e]; omega), e, Int.natCast_ediv, own_uI]
theorem own_lushr (x : Int64) (s : Int32) (n : Nat) (h0 : 1 ≤ n) (hn : n < 64) (hs : (s &&& 0x3f).toInt64.toUInt64.toNat = n) : ((x.toUInt64 >>> (s &&& 0x3f).toInt64.toUInt64).toInt64).toInt = (x.toInt % 18446744073709551616) / (2 ^ n : Nat) := by
  have e : (x.toUInt64 >>> (s &&& 0x3f).toInt64.toUInt64).toNat = x.toUInt64.toNat / 2 ^ n := by rw [UInt64.toNat_shiftRight, hs, Nat.mod_eq_of_lt hn, Nat.shiftRight_eq_div_pow]
  have b : x.toUInt64.toNat < 18446744073709551616 := x.toUInt64.toNat_lt
  have c : x.toUInt64.toNat / 2 ^ n ≤ x.toUInt64.toNat / 2 ^ 1 := Nat.div_le_div_left (Nat.pow_le_pow_right (by decide) h0) (by decide)
  rw [own_ofUJ _ (by rw [e]; omega), e, Int.natCast_ediv, own_uJ]
theorem own_ishl {x s : Int32} (n : Nat) (hs : (s.toBitVec.smod 32).toNat = n) (h0 : 0 ≤ x.toInt) (h1 : x.toInt * (2 ^ n : Nat) < 2147483648) : (x <<< s).toInt = x.toInt * (2 ^ n : Nat) := by
  have h : x.toInt = x.toBitVec.toInt := rfl
  have hx : x.toInt = x.toBitVec.toNat := by
    have b := x.toBitVec.isLt
    rw [h, BitVec.toInt_eq_toNat_cond]; rw [h, BitVec.toInt_eq_toNat_cond] at h0
    split at h0 <;> rename_i q
    · rw [if_pos q]
    · omega
  have e : (x <<< s).toBitVec.toNat = x.toBitVec.toNat * 2 ^ n := by
    rw [Int32.toBitVec_shiftLeft, BitVec.shiftLeft_eq', hs, BitVec.toNat_shiftLeft, Nat.shiftLeft_eq]
    apply Nat.mod_eq_of_lt
    rw [hx] at h1
    omega
  show (x <<< s).toBitVec.toInt = _
  rw [BitVec.toInt_eq_toNat_of_lt (by rw [e]; rw [hx] at h1; omega), e, hx]
  simp
theorem own_lshl {x s : Int64} (n : Nat) (hs : (s.toBitVec.smod 64).toNat = n) (h0 : 0 ≤ x.toInt) (h1 : x.toInt * (2 ^ n : Nat) < 9223372036854775808) : (x <<< s).toInt = x.toInt * (2 ^ n : Nat) := by
  have h : x.toInt = x.toBitVec.toInt := rfl
  have hx : x.toInt = x.toBitVec.toNat := by
    have b := x.toBitVec.isLt
    rw [h, BitVec.toInt_eq_toNat_cond]; rw [h, BitVec.toInt_eq_toNat_cond] at h0
    split at h0 <;> rename_i q
    · rw [if_pos q]
    · omega
  have e : (x <<< s).toBitVec.toNat = x.toBitVec.toNat * 2 ^ n := by
    rw [Int64.toBitVec_shiftLeft, BitVec.shiftLeft_eq', hs, BitVec.toNat_shiftLeft, Nat.shiftLeft_eq]
    apply Nat.mod_eq_of_lt
    rw [hx] at h1
    omega
  show (x <<< s).toBitVec.toInt = _
  rw [BitVec.toInt_eq_toNat_of_lt (by rw [e]; rw [hx] at h1; omega), e, hx]
  simp
theorem own_ishr (x s : Int32) (n : Nat) (hs : (s.toBitVec.smod 32).toNat = n) : (x >>> s).toInt = x.toInt / (2 ^ n : Nat) := by
  show (x >>> s).toBitVec.toInt = _
  rw [Int32.toBitVec_shiftRight, BitVec.sshiftRight', hs, BitVec.toInt_sshiftRight, Int.shiftRight_eq_div_pow]
  rfl
theorem own_lshr (x s : Int64) (n : Nat) (hs : (s.toBitVec.smod 64).toNat = n) : (x >>> s).toInt = x.toInt / (2 ^ n : Nat) := by
  show (x >>> s).toBitVec.toInt = _
  rw [Int64.toBitVec_shiftRight, BitVec.sshiftRight', hs, BitVec.toInt_sshiftRight, Int.shiftRight_eq_div_pow]
  rfl
theorem own_fills (b g : Int32) (u h : Int64) (hb : 0 ≤ b.toInt) (hg : 0 ≤ g.toInt) (hu : 0 ≤ u.toInt) (hh : 0 ≤ h.toInt) :
    f_ElementReader_lineFillsHeap b g u h = some (if h.toInt < 2 * (b.toInt + g.toInt) ∧ u.toInt < b.toInt + g.toInt + b.toInt then 1 else 0) := by
  have l2 : (2 : Int64).toInt = 2 := rfl
  have b2 := own_i2 b
  have g2 := own_i2 g
  have u2 := own_j2 u
  have e1 : (b.toInt64 + g.toInt64).toInt = b.toInt + g.toInt := by rw [own_ladd (by rw [own_i2l, own_i2l]; omega) (by rw [own_i2l, own_i2l]; omega), own_i2l, own_i2l]
  have e2 : (h / 2).toInt = h.toInt / 2 := by rw [own_ldiv hh (by decide), l2]
  have e3 : (u - b.toInt64).toInt = u.toInt - b.toInt := by rw [own_lsub (by rw [own_i2l]; omega) (by rw [own_i2l]; omega), own_i2l]
  unfold f_ElementReader_lineFillsHeap
  rw [own_ls]
  simp only [Int64.lt_iff_toInt_lt, e1, e2, e3]
  split
  · split
    · rw [if_pos (by omega)]
    · rw [if_neg (by omega)]
  · rw [if_neg (by omega)]
theorem own_end (b g : Int32) (line u h : Int64) (hb : 0 ≤ b.toInt) (hg : 0 ≤ g.toInt) (hl : line.toInt = b.toInt + g.toInt) (hu : 0 ≤ u.toInt) (hh : 0 ≤ h.toInt) : f_law_96 b g line h u = some 1 := by
  have l2 : (2 : Int64).toInt = 2 := rfl
  have b2 := own_i2 b
  have g2 := own_i2 g
  have e1 : ((2 : Int64) * line).toInt = 2 * (b.toInt + g.toInt) := by rw [own_lmul (by rw [l2, hl]; omega) (by rw [l2, hl]; omega), l2, hl]
  have e2 : (line + b.toInt64).toInt = b.toInt + g.toInt + b.toInt := by rw [own_ladd (by rw [own_i2l]; omega) (by rw [own_i2l]; omega), own_i2l, hl]
  have q := own_fills b g u h hb hg hu hh
  unfold f_law_96 f_law_132
  simp only [Int64.lt_iff_toInt_lt, e1, e2, q]
  split
  · split
    · rw [if_neg (by decide), if_neg (by decide), own_bs, if_pos (by rw [if_pos ⟨by assumption, by assumption⟩])]
    · rw [if_neg (by decide), if_pos (by decide), own_bs, if_pos (by rw [if_neg (by omega)])]
  · split
    · rw [if_pos (by decide), own_bs, if_pos (by rw [if_neg (by omega)])]
    · rw [if_pos (by decide), own_bs, if_pos (by rw [if_neg (by omega)])]
theorem own_max (x : Int64) : ∃ k, f_Math_max 0 x = some k ∧ 0 ≤ k.toInt := by
  have l0 : (0 : Int64).toInt = 0 := rfl
  unfold f_Math_max
  split
  · rename_i h
    rw [Int64.lt_iff_toInt_lt, l0] at h
    exact ⟨_, rfl, by omega⟩
  · exact ⟨_, rfl, by decide⟩
theorem own_law (b g : Int32) (u h : Int64) (m : Int32) : f_law b g u h m = some 1 := by
  have m1 : (b &&& (2147483647 : Int32)).toInt = b.toInt % 2 ^ 31 := own_imask 31 (by decide) (by decide)
  have m2 : (g &&& (2147483647 : Int32)).toInt = g.toInt % 2 ^ 31 := own_imask 31 (by decide) (by decide)
  have m3 : (h &&& (9223372036854775807 : Int64)).toInt = h.toInt % 2 ^ 63 := own_lmask 63 (by decide) (by decide)
  have m4 : (u &&& (9223372036854775807 : Int64)).toInt = u.toInt % 2 ^ 63 := own_lmask 63 (by decide) (by decide)
  unfold f_law
  rw [own_ls, own_ls, own_ls]
  generalize b &&& (2147483647 : Int32) = b' at *
  generalize g &&& (2147483647 : Int32) = g' at *
  have b2 := own_i2 b'
  have g2 := own_i2 g'
  have hb : 0 ≤ b'.toInt := by omega
  have hg : 0 ≤ g'.toInt := by omega
  have e1 : (b'.toInt64 + g'.toInt64).toInt = b'.toInt + g'.toInt := by rw [own_ladd (by rw [own_i2l, own_i2l]; omega) (by rw [own_i2l, own_i2l]; omega), own_i2l, own_i2l]
  split
  · rw [own_ls, own_ls]
    exact own_end b' g' _ _ _ hb hg e1 (by omega) (by omega)
  · rw [own_ls]
    obtain ⟨k, hk, k0⟩ := own_max ((2 : Int64) * (b'.toInt64 + g'.toInt64) + ((m >>> (1 &&& 31)) &&& 7).toInt64 - 4)
    rw [hk, own_bs, own_ls]
    obtain ⟨k', hk', k0'⟩ := own_max (b'.toInt64 + g'.toInt64 + b'.toInt64 + ((m >>> (4 &&& 31)) &&& 7).toInt64 - 4)
    rw [hk', own_bs]
    exact own_end b' g' _ _ _ hb hg e1 k0' k0

set_option maxRecDepth 65536 in
set_option maxHeartbeats 4000000 in
theorem comes_1 {Post : Tables → Env → Array Value → State → Outcome → State → Prop} (hpost : ∀ tb e args s v u, (limb_1_1.after args s (.returned v) u = true ∧ limb_1_2.after args s (.returned v) u = true ∧ True) → FrameEnd s (.returned v) u (Jvm.fieldLocs frame_1_writes args s ++ Jvm.arrayLocs frame_1_arrays args s ++ Jvm.staticLocs frame_1_statics s) 0 0 → Post tb e args s (.returned v) u) :
    ArmFor flags0 classFile x code maxLocals ret World_1 tables_1 room_1 Calls_1 rest_1 Pre_1 Post := by
  intro l hfl _ _ p e ha hc hk s m args below hf hA hF happ hP
  obtain ⟨hcalls, hrest, hpre⟩ := hP
  obtain ⟨-, -, -, hnamed, -, -, -, hat⟩ := (Spec.applies_iff hf).mp happ
  obtain ⟨hg, hn⟩ := and_e (Cond.before_iff.mp (show (Jvm.Cond.and given_1 narrow_1).before args s = true from hpre))
  obtain ⟨gc, g0⟩ := and_e hg
  obtain ⟨ga0, g1⟩ := and_e g0
  obtain ⟨ga1, g2⟩ := and_e g1
  obtain ⟨ga2, g3⟩ := and_e g2
  obtain ⟨ga3, g4⟩ := and_e g3
  have ga4 := g4
  obtain ⟨w0, w1, w2, w3, w4, rfl⟩ : ∃ w0 w1 w2 w3 w4 : Value, args = #[w0, w1, w2, w3, w4] := by
    have hs : args.size = 5 := by simpa [Cond.value, given_1] using gc
    obtain ⟨L⟩ := args
    match L, hs with
    | [w0, w1, w2, w3, w4], _ => exact ⟨w0, w1, w2, w3, w4, rfl⟩
  have hw := fun d (hd : d ∈ tables_1) => atoms_spec (ws := Jvm.Cond.code x code maxLocals ret :: tables_1) hat d (List.mem_cons_of_mem _ hd)
  obtain ⟨i0, ei0⟩ := is_v ga0
  obtain rfl : w0 = (.int i0) := Option.some.inj ei0
  obtain ⟨i1, ei1⟩ := is_v ga1
  obtain rfl : w1 = (.int i1) := Option.some.inj ei1
  obtain ⟨i2, ei2⟩ := isL_v ga2
  obtain rfl : w2 = (.long i2) := Option.some.inj ei2
  obtain ⟨i3, ei3⟩ := isL_v ga3
  obtain rfl : w3 = (.long i3) := Option.some.inj ei3
  obtain ⟨i4, ei4⟩ := is_v ga4
  obtain rfl : w4 = (.int i4) := Option.some.inj ei4
  obtain ⟨n, o, h1, h2, h3, _, L, rfl, hQ, hq⟩ := rm_law l s _ hw tables_1 s.heap s.heap.size (Nat.le_refl _) i0 i1 i2 i3 i4 1 (own_law i0 i1 i2 i3 i4) p e ha hc hk s m _ below hf ((Spec.applies_iff_loose hf).mp happ).1 ⟨rfl, State.Warmed39.refl s, rfl⟩ trivial
  obtain ⟨rfl, N, -⟩ := hQ
  refine ⟨n, _, h1, h2, h3, hpost _ _ _ _ _ _ ⟨Cond.after_iff.mpr rfl, Cond.after_iff.mpr (eq_i res_at (Term.int_eval (1)) rfl), trivial⟩ ⟨hq.1, hq.2.1, (hq.2.2.sift fun y hy => Or.inr (N y hy)).mono (by decide) (by decide)⟩⟩
theorem main_1_1 : Claimed_1_1 := comes_1 fun _ _ _ _ _ _ h hF => ⟨h.1, hF⟩
theorem main_1_2 : Claimed_1_2 := comes_1 fun _ _ _ _ _ _ h hF => ⟨h.2.1, hF⟩
end Jvm.Pilot.@@N@@
namespace Jvm.Pilot.@@N@@
open Jvm Jvm.ClassFile Sem Op Lib Jvm.Free Jvm.Stand Jvm.Pilot.@@N@@.Jvm.D
/-! MADE BY PROGRAM (witnessworld.py) out of the Statement's table words and the real class files: 11 classes; the members and pool entries that the words name. The judged class is class 1, her method 1. -/
namespace start1
open Jvm.ClassFile
def u (s : String) : CpInfo := .utf8 (stringToUtf16 s)
/-- a pool by its gaps: so many unusable entries, then the entry; so many at the end -/
def gap : Nat → List CpInfo → List CpInfo
  | 0, r => r
  | n + 1, r => .unusable :: gap n r
def poolList (es : List (Nat × CpInfo)) (last : Nat) : List CpInfo := es.foldr (fun e r => gap e.1 (e.2 :: r)) (gap last [])
def pool (es : List (Nat × CpInfo)) (last : Nat) : Array CpInfo := ⟨poolList es last⟩
def fileOf (pool : Array CpInfo) (this : Nat) (attrs : Array Attribute := #[]) (ms : Array MethodInfo := #[]) (fl : Nat := 33) (sup : Nat := 0) (ifs : Array Nat := #[]) (fds : Array FieldInfo := #[]) : ClassFile where
  minorVersion := 0
  majorVersion := 65
  constantPool := pool
  accessFlags := fl
  thisClass := this
  superClass := sup
  interfaces := ifs
  fields := fds
  methods := ms
  attributes := attrs
def plain (name : String) (sup : Option ClassId) : Class where
  name := name
  kind := .ordinary
  loader := none
  accessFlags := 33
  super := sup
  interfaces := #[]
  cf := none
  fields := #[]
  methods := #[]
  instanceTypes := #[]
  staticTypes := #[]
  resolved := #[]
  callSites := []
  init := .initialized
  statics := none
  mirror := none

def pool0 : Array CpInfo := pool [(5, u "<init>"), (0, u "()V"), (1, .class_ 10), (1, u "java/lang/Object")] 113

def k0m0 : Method := { name := "<init>", desc := "()V", sig := { parameters := [], returnType := none }, accessFlags := 1, code := none }
/-- java/lang/Object -/
def k0 : Class := { plain "java/lang/Object" none with
  accessFlags := 33
  interfaces := #[]
  cf := some (fileOf pool0 8 #[] #[{ accessFlags := 1, nameIndex := 5, descriptorIndex := 6, attributes := #[] }] 33 0 #[] #[])
  fields := #[]
  methods := #[k0m0]
  instanceTypes := #[]
  staticTypes := #[]
  resolved := Array.replicate 124 none
  statics := none }

def pool1 : Array CpInfo := pool [(2, .class_ 4), (1, u "java/lang/Object"), (0, u "<init>"), (0, u "()V"), (0, .integer 2147483647), (0, .long 2), (1, .long 4), (1, .methodref 13 14), (0, .class_ 15), (0, .nameAndType 16 17), (0, u "java/lang/Math"), (0, u "max"), (0, u "(JJ)J"), (2, .long 9223372036854775807), (1, .methodref 23 24), (0, .class_ 25), (0, .nameAndType 26 27), (0, u "tidemark/cli/ElementReader"), (0, u "lineFillsHeap"), (0, u "(IIJJ)Z"), (0, .class_ 29), (0, u "tidemark/cli/ElementReaderLineFillsHeapPinLaw"), (2, u "law"), (0, u "(IIJJI)Z")] 3

def k1m0 : Method := { name := "<init>", desc := "()V", sig := { parameters := [], returnType := none }, accessFlags := 1, code := none }
def k1c1 : Code := { maxStack := 6, maxLocals := 18, code := code, exceptionTable := #[], attributes := #[] }
def k1m1 : Method := { name := "law", desc := "(IIJJI)Z", sig := { parameters := [.int, .int, .long, .long, .int], returnType := some .boolean }, accessFlags := 9, code := some k1c1 }
/-- tidemark/cli/ElementReaderLineFillsHeapPinLaw -/
def k1 : Class := { plain "tidemark/cli/ElementReaderLineFillsHeapPinLaw" (some 0) with
  accessFlags := 49
  interfaces := #[]
  cf := some (fileOf pool1 28 #[] #[{ accessFlags := 1, nameIndex := 5, descriptorIndex := 6, attributes := #[] }, { accessFlags := 9, nameIndex := 32, descriptorIndex := 33, attributes := #[] }] 49 2 #[] #[])
  fields := #[]
  methods := #[k1m0, k1m1]
  instanceTypes := #[]
  staticTypes := #[]
  resolved := Array.replicate 37 none
  statics := none }

def pool2 : Array CpInfo := pool [(1, .class_ 2), (0, u "java/lang/AutoCloseable"), (0, .class_ 4), (0, u "java/lang/Object")] 7

/-- java/lang/AutoCloseable -/
def k2 : Class := { plain "java/lang/AutoCloseable" (some 0) with
  accessFlags := 1537
  interfaces := #[]
  cf := some (fileOf pool2 1 #[] #[] 1537 3 #[] #[])
  fields := #[]
  methods := #[]
  instanceTypes := #[]
  staticTypes := #[]
  resolved := Array.replicate 12 none
  statics := none }

def pool3 : Array CpInfo := pool [(5, .class_ 6), (0, u "tidemark/cli/ElementReader"), (7, .class_ 16), (1, u "java/lang/Object"), (4, u "buffer"), (0, u "[B"), (2, u "pendingEnd"), (0, u "I"), (2, u "in"), (0, u "Ljava/io/InputStream;"), (2, u "name"), (0, u "Ljava/lang/String;"), (2, u "lines"), (2, u "flush"), (0, u "Ljava/lang/Runnable;"), (27, u "next"), (9, u "limit"), (2, u "lineFeedPast"), (0, u "Z"), (2, u "lineNumber"), (0, u "J"), (18, u "lineStart"), (2, u "elementStart"), (2, u "lineEnd"), (6, u "atEnd"), (4, .class_ 126), (1, u "tidemark/cli/ElementReader$EventLines"), (5, u "[J"), (14, u "payloadStart"), (2, u "lent"), (9, u "WORDS"), (0, u "Ljava/lang/invoke/VarHandle;"), (43, u "decimalValid"), (4, u "spare"), (39, .class_ 252), (1, u "tidemark/cli/ElementReader$Kind"), (12, u "ATTACH"), (1, .class_ 269), (1, u "tidemark/cli/ElementReader$Membership"), (3, u "DETACH"), (22, u "fieldTo"), (10, u "endInfinite"), (2, u "endValue"), (11, u "INF"), (28, u "newEnd"), (0, u "Ltidemark/Time;"), (32, u "BYTE_ORDER_MARK"), (25, u "TENS"), (62, .long 2), (26, u "lineFillsHeap"), (0, u "(IIJJ)Z"), (39, .class_ 543), (0, u "java/lang/AutoCloseable"), (0, u "MAX_LINE"), (1, u "QUICK_DIGITS"), (1, u "PLAIN_REACH"), (1, u "QUICK_FIELD"), (1, u "LOW_BITS"), (0, u "HIGH_BITS"), (0, u "LINE_FEEDS")] 83

def k3c0 : Code := { maxStack := 6, maxLocals := 8, code := prog_122_method_58_code, exceptionTable := #[], attributes := #[] }
def k3m0 : Method := { name := "lineFillsHeap", desc := "(IIJJ)Z", sig := { parameters := [.int, .int, .long, .long], returnType := some .boolean }, accessFlags := 8, code := some k3c0 }
/-- tidemark/cli/ElementReader -/
def k3 : Class := { plain "tidemark/cli/ElementReader" (some 0) with
  accessFlags := 48
  interfaces := #[2]
  cf := some (fileOf pool3 5 #[.nestMembers #[124, 267, 250]] #[{ accessFlags := 8, nameIndex := 501, descriptorIndex := 502, attributes := #[] }] 48 14 #[542] #[{ accessFlags := 26, nameIndex := 544, descriptorIndex := 26, attributes := #[] }, { accessFlags := 26, nameIndex := 546, descriptorIndex := 26, attributes := #[] }, { accessFlags := 26, nameIndex := 548, descriptorIndex := 26, attributes := #[] }, { accessFlags := 26, nameIndex := 550, descriptorIndex := 26, attributes := #[] }, { accessFlags := 26, nameIndex := 411, descriptorIndex := 132, attributes := #[] }, { accessFlags := 26, nameIndex := 160, descriptorIndex := 161, attributes := #[] }, { accessFlags := 26, nameIndex := 552, descriptorIndex := 87, attributes := #[] }, { accessFlags := 26, nameIndex := 553, descriptorIndex := 87, attributes := #[] }, { accessFlags := 26, nameIndex := 554, descriptorIndex := 87, attributes := #[] }, { accessFlags := 26, nameIndex := 322, descriptorIndex := 22, attributes := #[] }, { accessFlags := 26, nameIndex := 265, descriptorIndex := 22, attributes := #[] }, { accessFlags := 26, nameIndex := 273, descriptorIndex := 22, attributes := #[] }, { accessFlags := 26, nameIndex := 385, descriptorIndex := 22, attributes := #[] }, { accessFlags := 18, nameIndex := 29, descriptorIndex := 30, attributes := #[] }, { accessFlags := 18, nameIndex := 33, descriptorIndex := 34, attributes := #[] }, { accessFlags := 18, nameIndex := 37, descriptorIndex := 34, attributes := #[] }, { accessFlags := 18, nameIndex := 40, descriptorIndex := 41, attributes := #[] }, { accessFlags := 2, nameIndex := 21, descriptorIndex := 22, attributes := #[] }, { accessFlags := 2, nameIndex := 69, descriptorIndex := 26, attributes := #[] }, { accessFlags := 2, nameIndex := 79, descriptorIndex := 26, attributes := #[] }, { accessFlags := 2, nameIndex := 119, descriptorIndex := 83, attributes := #[] }, { accessFlags := 2, nameIndex := 82, descriptorIndex := 83, attributes := #[] }, { accessFlags := 2, nameIndex := 150, descriptorIndex := 83, attributes := #[] }, { accessFlags := 2, nameIndex := 210, descriptorIndex := 22, attributes := #[] }, { accessFlags := 2, nameIndex := 106, descriptorIndex := 26, attributes := #[] }, { accessFlags := 2, nameIndex := 112, descriptorIndex := 26, attributes := #[] }, { accessFlags := 2, nameIndex := 86, descriptorIndex := 87, attributes := #[] }, { accessFlags := 2, nameIndex := 109, descriptorIndex := 26, attributes := #[] }, { accessFlags := 2, nameIndex := 307, descriptorIndex := 83, attributes := #[] }, { accessFlags := 2, nameIndex := 310, descriptorIndex := 87, attributes := #[] }, { accessFlags := 2, nameIndex := 25, descriptorIndex := 26, attributes := #[] }, { accessFlags := 2, nameIndex := 351, descriptorIndex := 352, attributes := #[] }, { accessFlags := 2, nameIndex := 296, descriptorIndex := 26, attributes := #[] }, { accessFlags := 2, nameIndex := 147, descriptorIndex := 26, attributes := #[] }, { accessFlags := 2, nameIndex := 205, descriptorIndex := 83, attributes := #[] }])
  fields := #[{ name := "MAX_LINE", type := .int, accessFlags := 26, slot := 0, constantValue := 0 }, { name := "QUICK_DIGITS", type := .int, accessFlags := 26, slot := 1, constantValue := 0 }, { name := "PLAIN_REACH", type := .int, accessFlags := 26, slot := 2, constantValue := 0 }, { name := "QUICK_FIELD", type := .int, accessFlags := 26, slot := 3, constantValue := 0 }, { name := "TENS", type := (.array .long), accessFlags := 26, slot := 4, constantValue := 0 }, { name := "WORDS", type := (.object "java/lang/invoke/VarHandle"), accessFlags := 26, slot := 5, constantValue := 0 }, { name := "LOW_BITS", type := .long, accessFlags := 26, slot := 6, constantValue := 0 }, { name := "HIGH_BITS", type := .long, accessFlags := 26, slot := 7, constantValue := 0 }, { name := "LINE_FEEDS", type := .long, accessFlags := 26, slot := 8, constantValue := 0 }, { name := "INF", type := (.array .byte), accessFlags := 26, slot := 9, constantValue := 0 }, { name := "ATTACH", type := (.array .byte), accessFlags := 26, slot := 10, constantValue := 0 }, { name := "DETACH", type := (.array .byte), accessFlags := 26, slot := 11, constantValue := 0 }, { name := "BYTE_ORDER_MARK", type := (.array .byte), accessFlags := 26, slot := 12, constantValue := 0 }, { name := "in", type := (.object "java/io/InputStream"), accessFlags := 18, slot := 0, constantValue := 0 }, { name := "name", type := (.object "java/lang/String"), accessFlags := 18, slot := 1, constantValue := 0 }, { name := "lines", type := (.object "java/lang/String"), accessFlags := 18, slot := 2, constantValue := 0 }, { name := "flush", type := (.object "java/lang/Runnable"), accessFlags := 18, slot := 3, constantValue := 0 }, { name := "buffer", type := (.array .byte), accessFlags := 2, slot := 4, constantValue := 0 }, { name := "next", type := .int, accessFlags := 2, slot := 5, constantValue := 0 }, { name := "limit", type := .int, accessFlags := 2, slot := 6, constantValue := 0 }, { name := "atEnd", type := .boolean, accessFlags := 2, slot := 7, constantValue := 0 }, { name := "lineFeedPast", type := .boolean, accessFlags := 2, slot := 8, constantValue := 0 }, { name := "lent", type := .boolean, accessFlags := 2, slot := 9, constantValue := 0 }, { name := "spare", type := (.array .byte), accessFlags := 2, slot := 10, constantValue := 0 }, { name := "lineStart", type := .int, accessFlags := 2, slot := 11, constantValue := 0 }, { name := "lineEnd", type := .int, accessFlags := 2, slot := 12, constantValue := 0 }, { name := "lineNumber", type := .long, accessFlags := 2, slot := 13, constantValue := 0 }, { name := "elementStart", type := .int, accessFlags := 2, slot := 14, constantValue := 0 }, { name := "endInfinite", type := .boolean, accessFlags := 2, slot := 15, constantValue := 0 }, { name := "endValue", type := .long, accessFlags := 2, slot := 16, constantValue := 0 }, { name := "pendingEnd", type := .int, accessFlags := 2, slot := 17, constantValue := 0 }, { name := "newEnd", type := (.object "tidemark/Time"), accessFlags := 2, slot := 18, constantValue := 0 }, { name := "fieldTo", type := .int, accessFlags := 2, slot := 19, constantValue := 0 }, { name := "payloadStart", type := .int, accessFlags := 2, slot := 20, constantValue := 0 }, { name := "decimalValid", type := .boolean, accessFlags := 2, slot := 21, constantValue := 0 }]
  methods := #[k3m0]
  instanceTypes := #[(.object "java/io/InputStream"), (.object "java/lang/String"), (.object "java/lang/String"), (.object "java/lang/Runnable"), (.array .byte), .int, .int, .boolean, .boolean, .boolean, (.array .byte), .int, .int, .long, .int, .boolean, .long, .int, (.object "tidemark/Time"), .int, .int, .boolean]
  staticTypes := #[.int, .int, .int, .int, (.array .long), (.object "java/lang/invoke/VarHandle"), .long, .long, .long, (.array .byte), (.array .byte), (.array .byte), (.array .byte)]
  resolved := Array.replicate 638 none
  statics := none }

def pool4 : Array CpInfo := pool [(1, .class_ 2), (0, u "java/lang/Math"), (1, .class_ 6), (1, u "java/lang/Object"), (0, u "<init>"), (0, u "()V"), (89, .class_ 100), (1, u "java/lang/Math$RandomNumberGeneratorHolder"), (20, u "(JJ)J"), (50, u "negativeZeroFloatBits"), (0, u "J"), (2, u "negativeZeroDoubleBits"), (21, u "max"), (46, u "$assertionsDisabled"), (0, u "Z"), (91, u "twoToTheDoubleScaleDown"), (0, u "D"), (4, u "twoToTheDoubleScaleUp"), (9, u "E"), (3, u "PI"), (2, u "TAU"), (2, u "DEGREES_TO_RADIANS"), (0, u "RADIANS_TO_DEGREES")] 94

def k4m0 : Method := { name := "<init>", desc := "()V", sig := { parameters := [], returnType := none }, accessFlags := 2, code := none }
def k4c1 : Code := { maxStack := 4, maxLocals := 4, code := jdk_29_method_66_code, exceptionTable := #[], attributes := #[] }
def k4m1 : Method := { name := "max", desc := "(JJ)J", sig := { parameters := [.long, .long], returnType := some .long }, accessFlags := 9, code := some k4c1 }
/-- java/lang/Math -/
def k4 : Class := { plain "java/lang/Math" (some 0) with
  accessFlags := 49
  interfaces := #[]
  cf := some (fileOf pool4 1 #[.nestMembers #[98]] #[{ accessFlags := 2, nameIndex := 7, descriptorIndex := 8, attributes := #[] }, { accessFlags := 9, nameIndex := 198, descriptorIndex := 121, attributes := #[] }] 49 4 #[] #[{ accessFlags := 25, nameIndex := 354, descriptorIndex := 339, attributes := #[] }, { accessFlags := 25, nameIndex := 358, descriptorIndex := 339, attributes := #[] }, { accessFlags := 25, nameIndex := 361, descriptorIndex := 339, attributes := #[] }, { accessFlags := 26, nameIndex := 364, descriptorIndex := 339, attributes := #[] }, { accessFlags := 26, nameIndex := 365, descriptorIndex := 339, attributes := #[] }, { accessFlags := 26, nameIndex := 172, descriptorIndex := 173, attributes := #[] }, { accessFlags := 26, nameIndex := 176, descriptorIndex := 173, attributes := #[] }, { accessFlags := 8, nameIndex := 344, descriptorIndex := 339, attributes := #[] }, { accessFlags := 8, nameIndex := 338, descriptorIndex := 339, attributes := #[] }, { accessFlags := 4120, nameIndex := 245, descriptorIndex := 246, attributes := #[] }])
  fields := #[{ name := "E", type := .double, accessFlags := 25, slot := 0, constantValue := 0 }, { name := "PI", type := .double, accessFlags := 25, slot := 1, constantValue := 0 }, { name := "TAU", type := .double, accessFlags := 25, slot := 2, constantValue := 0 }, { name := "DEGREES_TO_RADIANS", type := .double, accessFlags := 26, slot := 3, constantValue := 0 }, { name := "RADIANS_TO_DEGREES", type := .double, accessFlags := 26, slot := 4, constantValue := 0 }, { name := "negativeZeroFloatBits", type := .long, accessFlags := 26, slot := 5, constantValue := 0 }, { name := "negativeZeroDoubleBits", type := .long, accessFlags := 26, slot := 6, constantValue := 0 }, { name := "twoToTheDoubleScaleUp", type := .double, accessFlags := 8, slot := 7, constantValue := 0 }, { name := "twoToTheDoubleScaleDown", type := .double, accessFlags := 8, slot := 8, constantValue := 0 }, { name := "$assertionsDisabled", type := .boolean, accessFlags := 4120, slot := 9, constantValue := 0 }]
  methods := #[k4m0, k4m1]
  instanceTypes := #[]
  staticTypes := #[.double, .double, .double, .double, .double, .long, .long, .double, .double, .boolean]
  resolved := Array.replicate 460 none
  statics := none }

def pool5 : Array CpInfo := pool [(1, u "java/lang/Cloneable"), (0, .class_ 1), (0, u "java/lang/Object"), (0, .class_ 3)] 3

/-- java/lang/Cloneable -/
def k5 : Class := { plain "java/lang/Cloneable" (some 0) with
  accessFlags := 1537
  interfaces := #[]
  cf := some (fileOf pool5 2 #[] #[] 1537 4 #[] #[])
  fields := #[]
  methods := #[]
  instanceTypes := #[]
  staticTypes := #[]
  resolved := Array.replicate 8 none
  statics := none }

def pool6 : Array CpInfo := pool [(1, u "java/io/Serializable"), (0, .class_ 1), (0, u "java/lang/Object"), (0, .class_ 3)] 3

/-- java/io/Serializable -/
def k6 : Class := { plain "java/io/Serializable" (some 0) with
  accessFlags := 1537
  interfaces := #[]
  cf := some (fileOf pool6 2 #[] #[] 1537 4 #[] #[])
  fields := #[]
  methods := #[]
  instanceTypes := #[]
  staticTypes := #[]
  resolved := Array.replicate 8 none
  statics := none }

/-- the primitive byte -/
def k7 : Class := { plain "byte" none with kind := .primitive 'B', accessFlags := 0x411 }
/-- [B -/
def k8 : Class := { plain "[B" (some 0) with kind := .array 7 .byte, interfaces := #[5, 6], accessFlags := 1041 }

/-- the primitive int -/
def k9 : Class := { plain "int" none with kind := .primitive 'I', accessFlags := 0x411 }
/-- [I -/
def k10 : Class := { plain "[I" (some 0) with kind := .array 9 .int, interfaces := #[5, 6], accessFlags := 1041 }

def heap : Heap := #[]
def classes : Array Class := #[k0, k1, k2, k3, k4, k5, k6, k7, k8, k9, k10]
def interned : List (Array UInt16 × Addr) := []
def slotsUsed : Nat := 0
def theMethod : MethodId := ⟨1, 1⟩
def args0 : Array Value := #[.int 5, .int 5, .long 5, .long 5, .int 5]
def aboutOver (below : List Frame) : State where
  vm := { classes := classes, interned := interned.toArray }
  heap := heap
  slotsUsed := slotsUsed
  threads := #[{ frames := .invoking theMethod args0 :: below }]
def below0 : List Frame := [.native { method := ⟨0, 0⟩, args := #[] }]
def about1 : State := aboutOver below0
def p0 : Program := .bare "" "" ""
def e0 : Env := launch0.env 0 0 0
theorem w_frames : about1.frames = Frame.invoking theMethod args0 :: below0 := rfl
set_option maxRecDepth 65536 in
theorem w_args : argsFit about1.vm theMethod args0 = true := by decide +kernel
set_option maxRecDepth 65536 in
theorem w_heap : heapFits about1 = true := by decide +kernel
set_option maxRecDepth 65536 in
theorem w_runnable : about1.curStatus? = some .runnable := by decide +kernel
set_option maxRecDepth 65536 in
theorem w_alone : about1.alone = true := by decide +kernel
set_option maxRecDepth 65536 in
theorem w_named : about1.methodNamed? x = some theMethod := by decide +kernel
set_option maxRecDepth 65536 in
theorem w_hears : about1.hears theMethod below0 = true := by decide +kernel
set_option maxRecDepth 65536 in
theorem w_ripe : about1.ripe theMethod args0 below0 = true := by decide +kernel
theorem w_running : about1.status = .running := rfl
set_option maxRecDepth 65536 in
theorem w_room : about1.hasRoom e0.platform room_1 = true :=
  launch0.hasRoom_least _ room_1 (by decide +kernel) (by decide +kernel) (by decide +kernel) (by decide +kernel) (by decide +kernel) (by decide +kernel)
theorem allAtoms_all (ts : List Jvm.Cond) (a : Array Jvm.Value) (st : Jvm.State) : (allAtoms ts).before a st = ts.all (fun c => c.before a st) := by
  induction ts with
  | nil => rfl
  | cons c t ih =>
    show (Jvm.Cond.and c (allAtoms t)).before a st = _
    rw [Jvm.Cond.before_and, ih, List.all_cons]
def words1 : List Jvm.Cond := Jvm.Cond.code x code maxLocals ret :: tables_1
/-- a 'code' word, met by the world's own term for the bytes: nothing is compared byte by byte -/
theorem code_word {y : MethodName} {bytes : ByteArray} {mx : Nat} {rt : Option FieldType} {a : Array Value} {s : State} {m : MethodId} {meth : Method} {c : Code} (h1 : s.methodNamed? y = some m) (h2 : s.vm.method? m = some meth) (h3 : meth.code = some c) (h4 : c.code = bytes)
    (h5 : (c.maxLocals == mx && c.exceptionTable.isEmpty && decide (c.maxStack ≤ mostOperands) && decide (meth.sig.returnType = rt) && !meth.locks && decide (parseMethodDescriptor y.desc = some meth.sig)) = true) : (Jvm.Cond.code y bytes mx rt).before a s = true := by
  simp only [Bool.and_eq_true, beq_iff_eq, Bool.not_eq_true', decide_eq_true_eq] at h5
  obtain ⟨⟨⟨⟨⟨g1, g2⟩, g3⟩, g4⟩, g5⟩, g6⟩ := h5
  simp [Cond.before, Cond.holds, Cond.value, h1, h2, h3, h4, g1, g2, g3, g4, g5, g6]
def isCode : Jvm.Cond → Bool
  | .code _ _ _ _ => true
  | _ => false
theorem all_split {L : List Jvm.Cond} {P : Jvm.Cond → Bool} (h1 : L.all (fun c => isCode c || P c) = true) (h2 : ∀ c ∈ L.filter isCode, P c = true) : L.all P = true := by
  refine List.all_eq_true.mpr fun c hc => ?_
  have h := List.all_eq_true.mp h1 c hc
  rcases Bool.eq_false_or_eq_true (isCode c) with hi | hi
  · exact h2 c (List.mem_filter.mpr ⟨hc, hi⟩)
  · simpa [hi] using h
set_option maxRecDepth 65536 in
theorem w_c0 : (Jvm.Cond.code x code maxLocals ret).before args0 about1 = true := code_word (m := ⟨1, 1⟩) (meth := k1m1) (c := k1c1) (by decide +kernel) rfl rfl rfl (by decide +kernel)
set_option maxRecDepth 65536 in
theorem w_c1 : (Jvm.Cond.code ({ cls := "tidemark/cli/ElementReader", name := "lineFillsHeap", desc := "(IIJJ)Z" } : Jvm.MethodName) prog_122_method_58_code (8 : Nat) (Option.some Jvm.ClassFile.FieldType.boolean)).before args0 about1 = true := code_word (m := ⟨3, 0⟩) (meth := k3m0) (c := k3c0) (by decide +kernel) rfl rfl rfl (by decide +kernel)
set_option maxRecDepth 65536 in
theorem w_c2 : (Jvm.Cond.code ({ cls := "java/lang/Math", name := "max", desc := "(JJ)J" } : Jvm.MethodName) jdk_29_method_66_code (4 : Nat) (Option.some Jvm.ClassFile.FieldType.long)).before args0 about1 = true := code_word (m := ⟨4, 1⟩) (meth := k4m1) (c := k4c1) (by decide +kernel) rfl rfl rfl (by decide +kernel)
def codes1 : List Jvm.Cond := [Jvm.Cond.code x code maxLocals ret, Jvm.Cond.code ({ cls := "tidemark/cli/ElementReader", name := "lineFillsHeap", desc := "(IIJJ)Z" } : Jvm.MethodName) prog_122_method_58_code (8 : Nat) (Option.some Jvm.ClassFile.FieldType.boolean), Jvm.Cond.code ({ cls := "java/lang/Math", name := "max", desc := "(JJ)J" } : Jvm.MethodName) jdk_29_method_66_code (4 : Nat) (Option.some Jvm.ClassFile.FieldType.long)]
set_option maxRecDepth 65536 in
theorem codes_eq : words1.filter isCode = codes1 := rfl
theorem w_codes : ∀ c ∈ words1.filter isCode, c.before args0 about1 = true := by
  rw [codes_eq]
  intro c hc
  simp only [codes1, List.mem_cons, List.not_mem_nil, or_false] at hc
  rcases hc with rfl | rfl | rfl
  · exact w_c0
  · exact w_c1
  · exact w_c2
set_option maxRecDepth 65536 in
theorem w_t1 : words1.all (fun c => isCode c || c.before args0 about1) = true := by decide +kernel
theorem w_tables : (allAtoms (Jvm.Cond.code x code maxLocals ret :: tables_1)).before args0 about1 = true := by
  rw [allAtoms_all]
  show words1.all (fun c => c.before args0 about1) = true
  refine all_split ?_ w_codes
  rw [w_t1]
set_option maxRecDepth 65536 in
theorem w_case : (Jvm.Cond.and given_1 narrow_1).before args0 about1 = true := by decide +kernel
theorem w_applies : (headSpec (Jvm.Cond.code x code maxLocals ret :: tables_1) room_1).applies x e0.platform about1 = true :=
  (Spec.applies_iff w_frames).mpr ⟨w_running, w_runnable, w_alone, w_named, w_hears, w_ripe, w_room, w_tables⟩
theorem atStart : AtStart classFile x code maxLocals ret World_1 tables_1 room_1 Calls_1 rest_1 Pre_1 launch0 p0 e0 about1 theMethod args0 below0 :=
  ⟨lists_1, trivial, launch0.admits_env _ _ _, launch0.least_env, fairChoices_fair.cas, fairChoices_fair.clock, w_frames, w_args, w_heap, w_applies, trivial, trivial, w_case⟩
end start1
theorem witness_1 : WitnessClaimed_1 := ⟨start1.p0, start1.e0, start1.about1, start1.theMethod, start1.args0, start1.below0, start1.atStart⟩
end Jvm.Pilot.@@N@@
