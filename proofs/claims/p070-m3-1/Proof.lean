import JvmDerived
import JvmDerived.Pilot.@@N@@Statement
import JvmDerived.Pilot.@@N@@Code
set_option linter.unusedVariables false
set_option linter.unusedSimpArgs false
namespace Jvm.Pilot.@@N@@
open Jvm Jvm.ClassFile Sem Op Lib Jvm.Free Jvm.Stand Jvm.LawKit Jvm.RoadKit Bundle Jvm.Pilot.@@N@@.Jvm.D
/-! 1. the words of the mirrors: a named value, a check, a call -/
def own_lt {α β : Type} (x : α) (f : α → Option β) : Option β := f x
def own_ck {β : Type} (P : Prop) [Decidable P] (x : Option β) : Option β := if P then x else none
def own_bd {α β : Type} (x : Option α) (f : α → Option β) : Option β := x.bind f
theorem own_lt_e {α β : Type} {x : α} {f : α → Option β} {r : β} (h : own_lt x f = some r) : ∃ v, v = x ∧ f v = some r := ⟨x, rfl, h⟩
theorem own_ck_e {β : Type} {P : Prop} [Decidable P] {x : Option β} {r : β} (h : own_ck P x = some r) : P ∧ x = some r := by
  unfold own_ck at h
  by_cases q : P
  · rw [if_pos q] at h; exact ⟨q, h⟩
  · rw [if_neg q] at h; cases h
theorem own_bd_e {α β : Type} {x : Option α} {f : α → Option β} {r : β} (h : own_bd x f = some r) : ∃ v, x = some v ∧ f v = some r := by
  unfold own_bd at h
  cases x with
  | none => cases h
  | some v => exact ⟨v, rfl, h⟩
abbrev own_inb {α : Type} (bs : List α) (j : Int32) : Prop := ¬ j < 0 ∧ j.toNatClampNeg < bs.length
def own_rd {α : Type} [OfNat α 0] (bs : List α) (j : Int32) : α := bs.getD j.toNatClampNeg 0
def own_wr {α : Type} (bs : List α) (j : Int32) (v : α) : List α := bs.set j.toNatClampNeg v
def own_sz {α : Type} (bs : List α) : Int32 := bs.length.toInt32
/-! 2. a run that comes to an end as Q says -/
def own_Goes (p : Program) (e : Env) (below : List Frame) (s : State) (Q : Option Value → Heap → List Loc → Prop) (ce sl : Nat) (A : State) : Prop :=
  ∃ s₂ o, Steps p.tables e below A s₂ ∧ s₂.status = .running ∧ Ended s₂ below o ∧ ∃ v L, o = .returned v ∧ Q v s₂.heap L ∧ FrameEnd s o s₂ L ce sl
section Own
variable {p : Program} {l : Launch} {e : Env} {R : Room} {s : State} {m : MethodId} {args : Array Value} {below : List Frame} {meth : Method} {c : Code} {T : State} {locs : List Loc} {cells slots : Nat} {Z : State} {h h' : Heap} {Q : Option Value → Heap → List Loc → Prop} {ce sl : Nat}
theorem own_Goes.via {A B : State} (q : ∀ t, Steps p.tables e below B t → Steps p.tables e below A t) (g : own_Goes p e below s Q ce sl B) : own_Goes p e below s Q ce sl A := by
  obtain ⟨s₂, o, h1, r⟩ := g
  exact ⟨s₂, o, q _ h1, r⟩
theorem own_Goes.tr {A B : State} (q : Steps p.tables e below A B) (g : own_Goes p e below s Q ce sl B) : own_Goes p e below s Q ce sl A := g.via fun _ k => q.trans k
theorem own_retV (X : Stand p l e R s m args below meth c T locs cells slots) (hx : p.tables.exec = Jvm.exec) {pc : Nat} {Ls : Array Slot} (hret : meth.sig.returnType = none) (hlk : meth.locks = false) (hd : decode c.code pc = .ok (.return_, 1)) (eT : T.heap = h) (hQ : Q none h locs) (hc : cells ≤ ce) (hs : slots ≤ sl) :
    own_Goes p e below s Q ce sl (T.setTop (mkF m pc Ls [])) := by
  obtain ⟨fs, hr, hrun, hended, hW, hsame⟩ := X.leave (v := none) (fun _ => rfl) hlk
  refine ⟨_, _, ?_, hrun, hended, _, _, rfl, ?_, ⟨_, rfl⟩, hW, hsame.mono hc hs⟩
  · exact X.returnOut hx hret hd hr
  · show Q none T.heap locs
    rw [eT]; exact hQ
theorem own_retI (X : Stand p l e R s m args below meth c T locs cells slots) (hx : p.tables.exec = Jvm.exec) {pc : Nat} {Ls : Array Slot} {z : Int32} {rest : List Value} (hret : meth.sig.returnType = some .int) (hlk : meth.locks = false) (hd : decode c.code pc = .ok (.ireturn, 1)) (eT : T.heap = h) (hQ : Q (some (.int z)) h locs) (hc : cells ≤ ce) (hs : slots ≤ sl) :
    own_Goes p e below s Q ce sl (T.setTop (mkF m pc Ls (.int z :: rest))) := by
  obtain ⟨fs, hr, hrun, hended, hW, hsame⟩ := X.leave (v := some (.int z)) (fun h => by rw [hret] at h; cases h) hlk
  refine ⟨_, _, ?_, hrun, hended, _, _, rfl, ?_, ⟨_, rfl⟩, hW, hsame.mono hc hs⟩
  · exact retOut X hx hret rfl (Or.inl ⟨rfl, Or.inl rfl, z, rfl⟩) hd hr
  · show Q _ T.heap locs
    rw [eT]; exact hQ
theorem own_retJ (X : Stand p l e R s m args below meth c T locs cells slots) (hx : p.tables.exec = Jvm.exec) {pc : Nat} {Ls : Array Slot} {z : Int64} {rest : List Value} (hret : meth.sig.returnType = some .long) (hlk : meth.locks = false) (hd : decode c.code pc = .ok (.lreturn, 1)) (eT : T.heap = h) (hQ : Q (some (.long z)) h locs) (hc : cells ≤ ce) (hs : slots ≤ sl) :
    own_Goes p e below s Q ce sl (T.setTop (mkF m pc Ls (.long z :: rest))) := by
  obtain ⟨fs, hr, hrun, hended, hW, hsame⟩ := X.leave (v := some (.long z)) (fun h => by rw [hret] at h; cases h) hlk
  refine ⟨_, _, ?_, hrun, hended, _, _, rfl, ?_, ⟨_, rfl⟩, hW, hsame.mono hc hs⟩
  · exact retOut X hx hret rfl (Or.inr (Or.inl ⟨rfl, rfl, z, rfl⟩)) hd hr
  · show Q _ T.heap locs
    rw [eT]; exact hQ
theorem own_retR (X : Stand p l e R s m args below meth c T locs cells slots) (hx : p.tables.exec = Jvm.exec) {pc : Nat} {Ls : Array Slot} {t : FieldType} {w : Value} {rest : List Value} (hret : meth.sig.returnType = some t) (hlk : meth.locks = false) (hd : decode c.code pc = .ok (.areturn, 1)) (ht : t.isReference = true) (eT : T.heap = h) (hw : w.isRef = true) (hQ : Q (some w) h locs) (hc : cells ≤ ce) (hs : slots ≤ sl) :
    own_Goes p e below s Q ce sl (T.setTop (mkF m pc Ls (w :: rest))) := by
  obtain ⟨fs, hr, hrun, hended, hW, hsame⟩ := X.leave (v := some w) (fun h => by rw [hret] at h; cases h) hlk
  refine ⟨_, _, ?_, hrun, hended, _, _, rfl, ?_, ⟨_, rfl⟩, hW, hsame.mono hc hs⟩
  · exact retOut X hx hret (by cases t <;> first | (cases ht; done) | rfl) (Or.inr (Or.inr (Or.inr (Or.inr ⟨rfl, ht, hw⟩)))) hd hr
  · show Q _ T.heap locs
    rw [eT]; exact hQ
theorem own_retN (X : Stand p l e R s m args below meth c T locs cells slots) (hx : p.tables.exec = Jvm.exec) {pc : Nat} {Ls : Array Slot} {z v : Int32} {t : FieldType} {rest : List Value} (hret : meth.sig.returnType = some t) (hlk : meth.locks = false) (ht : t = .boolean ∨ t = .byte ∨ t = .char ∨ t = .short) (hd : decode c.code pc = .ok (.ireturn, 1)) (eT : T.heap = h) (hv : nar t z = v) (hQ : Q (some (.int v)) h locs) (hc : cells ≤ ce) (hs : slots ≤ sl) :
    own_Goes p e below s Q ce sl (T.setTop (mkF m pc Ls (.int z :: rest))) := by
  subst hv
  obtain ⟨fs, hr, hrun, hended, hW, hsame⟩ := X.leave (v := some (.int (nar t z))) (fun h => by rw [hret] at h; cases h) hlk
  refine ⟨_, _, ?_, hrun, hended, _, _, rfl, ?_, ⟨_, rfl⟩, hW, hsame.mono hc hs⟩
  · exact retN X hx hret ht hd hr
  · show Q _ T.heap locs
    rw [eT]; exact hQ
/-! 3. single steps -/
theorem own_irem {g : JFrame} {target : State} (X : Stand p l e R s m args below meth c T locs cells slots) (hx : p.tables.exec = Jvm.exec) (hg : g.method = m) {x y : Int32} {rest : List Value} (hd : decode c.code g.pc = .ok (.irem, 1)) (hs : g.stack = .int y :: .int x :: rest) (hy : y ≠ 0)
    (hr : Steps p.tables e below (T.setTop { g with pc := g.pc + 1, stack := .int (x % y) :: rest }) target) : Steps p.tables e below (T.setTop g) target := iremM X hx hg hd hs hy hr
theorem own_lrem {g : JFrame} {target : State} (X : Stand p l e R s m args below meth c T locs cells slots) (hx : p.tables.exec = Jvm.exec) (hg : g.method = m) {x y : Int64} {rest : List Value} (hd : decode c.code g.pc = .ok (.lrem, 1)) (hs : g.stack = .long y :: .long x :: rest) (hy : y ≠ 0)
    (hr : Steps p.tables e below (T.setTop { g with pc := g.pc + 1, stack := .long (x % y) :: rest }) target) : Steps p.tables e below (T.setTop g) target :=
  XS.lrem X.here hx hg hd hs hy (by rw [lrem_mod]; exact hr)
theorem own_tltL {x y : Int64} (q : x < y) : ifCond.holds .lt (lcmpW x y) = true ∧ ifCond.holds .ge (lcmpW x y) = false := by
  rw [if0, if0]; exact ⟨(tlt ((lw_lt x y).mpr q)).1, (tlt ((lw_lt x y).mpr q)).2.1⟩
theorem own_fltL {x y : Int64} (q : ¬ x < y) : ifCond.holds .lt (lcmpW x y) = false ∧ ifCond.holds .ge (lcmpW x y) = true := by
  rw [if0, if0]; exact ⟨(flt fun z => q ((lw_lt x y).mp z)).1, (flt fun z => q ((lw_lt x y).mp z)).2.1⟩
theorem own_tgtL {x y : Int64} (q : y < x) : ifCond.holds .gt (lcmpW x y) = true ∧ ifCond.holds .le (lcmpW x y) = false := by
  rw [if0, if0]; exact ⟨(tlt ((lw_gt x y).mpr q)).2.2.1, (tlt ((lw_gt x y).mpr q)).2.2.2⟩
theorem own_fgtL {x y : Int64} (q : ¬ y < x) : ifCond.holds .gt (lcmpW x y) = false ∧ ifCond.holds .le (lcmpW x y) = true := by
  rw [if0, if0]; exact ⟨(flt fun z => q ((lw_gt x y).mp z)).2.2.1, (flt fun z => q ((lw_gt x y).mp z)).2.2.2⟩
theorem own_teqL {x y : Int64} (q : x = y) : ifCond.holds .eq (lcmpW x y) = true ∧ ifCond.holds .ne (lcmpW x y) = false := by
  rw [if0, if0]; exact ⟨(teq ((lw_eq x y).mpr q)).1, (teq ((lw_eq x y).mpr q)).2⟩
theorem own_feqL {x y : Int64} (q : ¬ x = y) : ifCond.holds .eq (lcmpW x y) = false ∧ ifCond.holds .ne (lcmpW x y) = true := by
  rw [if0, if0]; exact ⟨(feq fun z => q ((lw_eq x y).mp z)).1, (feq fun z => q ((lw_eq x y).mp z)).2⟩
theorem own_st1 {L : Array Slot} {i : Nat} {v : Value} {o : Slot} {L' : Array Slot} (hold : L[i]? = some o) (ho : One o) (hv : v.category = 1) (hL : L.setIfInBounds i (.val v) = L' := by rfl) : storeLocals L i v = some L' := hL ▸ XS.store1 hold ho hv
theorem own_privSel {s : State} {args : Array Value} {y : MethodName} {n : Nat} (wi : (Cond.instantiable y.cls n).before args s = true) (hp : s.PrivateAt y) (hinst : (Cond.instanceMethod y).before args s = true) (hy : y.cls ≠ "java/lang/invoke/MethodHandle" ∧ y.cls ≠ "java/lang/invoke/VarHandle") : (Cond.selects y.cls y y).before args s = true := by
  obtain ⟨c, k, h1, h2, -, h3, -⟩ := Cond.instantiable_spec wi
  exact selects_self_of_private h1 h2 (Bool.or_eq_false_iff.mp h3).1 hp hinst hy
theorem own_st2 {L L' : Array Slot} {i : Nat} {x : Int64} {o1 o2 : Slot} (h1 : L[i]? = some o1) (h2 : L[i + 1]? = some o2) (q1 : One o1) (q2 : One o2) (hL : (L.setIfInBounds i (.val (.long x))).setIfInBounds (i + 1) .second = L' := by rfl) : storeLocals L i (.long x) = some L' := by
  subst hL
  obtain ⟨b1, g1⟩ := Array.getElem?_eq_some_iff.mp h1
  obtain ⟨b2, g2⟩ := Array.getElem?_eq_some_iff.mp h2
  have hc : (Value.long x).category = 2 := rfl
  rcases q1 with rfl | ⟨w, rfl, hw⟩ <;> rcases q2 with rfl | ⟨w', rfl, hw'⟩ <;> simp [storeLocals, storeSelf, setAt, hc, *]
/-! 4. arrays: what lies in them, as a list -/
def own_Ar (Z : State) (h : Heap) (a : Addr) (ty : FieldType) (vs : List Value) : Prop := ∃ c : Cell, Arr Z h a c ty ∧ c.slots.toList = vs ∧ vs.length < 2 ^ 31 ∧ ∀ v ∈ vs, fits ty v = true
variable {a b : Addr} {ty : FieldType} {vs : List Value}
theorem own_Ar.lt (F : own_Ar Z h a ty vs) : a < h.size := by obtain ⟨c, A, -⟩ := F; exact A.lt
theorem own_Ar.ext (F : own_Ar Z h a ty vs) (E : Ext h h') : own_Ar Z h' a ty vs := by obtain ⟨c, A, r⟩ := F; exact ⟨c, A.ext E, r⟩
theorem own_Ar.other {k : Nat} {v : Value} (F : own_Ar Z h b ty vs) (W : Wr h h' a k v) (q : b ≠ a) : own_Ar Z h' b ty vs := by obtain ⟨c, A, r⟩ := F; exact ⟨c, A.other W q, r⟩
theorem own_Ar.keep {ws : List Addr} (F : own_Ar Z h a ty vs) (K : Keep h h' ws) (q : a ∉ ws) : own_Ar Z h' a ty vs := by obtain ⟨c, A, r⟩ := F; exact ⟨c, ⟨K.2.1 a c A.1 q, A.2⟩, r⟩
theorem own_Ar.size {c : Cell} (q : c.slots.toList = vs) : c.slots.size = vs.length := by rw [← q]; simp
theorem own_in {c : Cell} {j : Int32} (q : c.slots.toList = vs) (hj : own_inb vs j) : ¬ (j < 0 ∨ c.slots.size ≤ j.toNatClampNeg) := by
  rw [own_Ar.size q]
  rintro (r | r)
  · exact hj.1 r
  · exact absurd hj.2 (Nat.not_lt.mpr r)
theorem own_get {c : Cell} {i : Nat} (q : c.slots.toList = vs) (d : Value) (hi : i < vs.length) : c.slots[i]? = some (vs.getD i d) := by
  have e : c.slots = vs.toArray := by rw [← q]
  rw [e]
  simp [List.getD, hi]
theorem own_set {c : Cell} {i : Nat} {v : Value} (q : c.slots.toList = vs) : (c.setSlot i v).slots.toList = vs.set i v := by
  have e : c.slots = vs.toArray := by rw [← q]
  simp [Cell.setSlot, e]
theorem own_fits {i : Nat} {v : Value} (q : ∀ v ∈ vs, fits ty v = true) (hv : fits ty v = true) : ∀ u ∈ vs.set i v, fits ty u = true := fun u hu => by
  rcases List.mem_or_eq_of_mem_set hu with r | r
  · exact q u r
  · rw [r]; exact hv
theorem own_mapGet {bs : List Int32} {i : Nat} (hi : i < bs.length) : (bs.map Value.int).getD i (.int 0) = .int (bs.getD i 0) := by simp [List.getD, hi]
theorem own_mapGetJ {bs : List Int64} {i : Nat} (hi : i < bs.length) : (bs.map Value.long).getD i (.long 0) = .long (bs.getD i 0) := by simp [List.getD, hi]
theorem own_mapSet {bs : List Int32} {i : Nat} {v : Int32} : (bs.map Value.int).set i (.int v) = (bs.set i v).map Value.int := by simp
theorem own_mapSetJ {bs : List Int64} {i : Nat} {v : Int64} : (bs.map Value.long).set i (.long v) = (bs.set i v).map Value.long := by simp
theorem own_inbM {α : Type} {f : α → Value} {bs : List α} {j : Int32} (q : own_inb bs j) : own_inb (bs.map f) j := ⟨q.1, by rw [List.length_map]; exact q.2⟩
theorem own_wrk {α : Type} {bs : List α} {j : Int32} {v : α} (k : Nat) (hk : j.toNatClampNeg = k) : own_wr bs j v = bs.set k v := by rw [own_wr, hk]
theorem own_rdk {α : Type} [OfNat α 0] {bs : List α} {j : Int32} (k : Nat) (hk : j.toNatClampNeg = k) : own_rd bs j = bs.getD k 0 := by rw [own_rd, hk]
theorem own_inbk {α : Type} {bs : List α} {j : Int32} (k n : Nat) (h0 : ¬ j < 0) (hk : j.toNatClampNeg = k) (hl : bs.length = n) (hkn : k < n) : own_inb bs j := ⟨h0, by rw [hk, hl]; exact hkn⟩
theorem own_len {α : Type} {f : α → Value} {bs : List α} (X : Stand p l e R s m args below meth c T locs cells slots) (hx : p.tables.exec = Jvm.exec) (hZ : Z.Warmed39 s.vm) (eT : T.heap = h) (A : own_Ar Z h a ty (bs.map f)) {g : JFrame} (hg : g.method = m) {rest : List Value} (hs : g.stack = .ref a :: rest) (hd : decode c.code g.pc = .ok (.arraylength, 1)) {target : State}
    (hr : Steps p.tables e below (T.setTop { g with pc := g.pc + 1, stack := .int (own_sz bs) :: rest }) target) : Steps p.tables e below (T.setTop g) target := by
  obtain ⟨cl, A, q, -⟩ := A
  refine X.arraylength hx (by rw [eT]; exact A.1) (State.isArrayOf_alike hZ.alike A.2.1) hg hs hd _ ?_
  rw [own_Ar.size q, List.length_map]; exact hr
theorem own_ldI {bs : List Int32} {j v : Int32} (X : Stand p l e R s m args below meth c T locs cells slots) (hx : p.tables.exec = Jvm.exec) (hZ : Z.Warmed39 s.vm) (eT : T.heap = h) (A : own_Ar Z h a .int (bs.map Value.int)) (hj : own_inb bs j) (hv : own_rd bs j = v) {g : JFrame} (hg : g.method = m) {rest : List Value} (hs : g.stack = .int j :: .ref a :: rest) (hd : decode c.code g.pc = .ok (.iaload, 1)) {target : State}
    (hr : Steps p.tables e below (T.setTop { g with pc := g.pc + 1, stack := .int v :: rest }) target) : Steps p.tables e below (T.setTop g) target := by
  subst hv
  obtain ⟨cl, A, q, -⟩ := A
  exact X.iaload hx (by rw [eT]; exact A.1) (State.isArrayOf_alike hZ.alike A.2.1) A.2.2 (own_in q (own_inbM hj)) ((own_get q (.int 0) (own_inbM hj).2).trans (congrArg some (own_mapGet hj.2))) hg hs hd _ hr
theorem own_ldB {bs : List Int32} {j v : Int32} (X : Stand p l e R s m args below meth c T locs cells slots) (hx : p.tables.exec = Jvm.exec) (hZ : Z.Warmed39 s.vm) (eT : T.heap = h) (A : own_Ar Z h a .byte (bs.map Value.int)) (hj : own_inb bs j) (hv : own_rd bs j = v) {g : JFrame} (hg : g.method = m) {rest : List Value} (hs : g.stack = .int j :: .ref a :: rest) (hd : decode c.code g.pc = .ok (.baload, 1)) {target : State}
    (hr : Steps p.tables e below (T.setTop { g with pc := g.pc + 1, stack := .int v :: rest }) target) : Steps p.tables e below (T.setTop g) target := by
  subst hv
  obtain ⟨cl, A, q, -⟩ := A
  exact X.baloadBytes hx (by rw [eT]; exact A.1) (State.isArrayOf_alike hZ.alike A.2.1) A.2.2 (own_in q (own_inbM hj)) ((own_get q (.int 0) (own_inbM hj).2).trans (congrArg some (own_mapGet hj.2))) hg hs hd _ hr
theorem own_ldZ {bs : List Int32} {j v : Int32} (X : Stand p l e R s m args below meth c T locs cells slots) (hx : p.tables.exec = Jvm.exec) (hZ : Z.Warmed39 s.vm) (eT : T.heap = h) (A : own_Ar Z h a .boolean (bs.map Value.int)) (hj : own_inb bs j) (hv : own_rd bs j = v) {g : JFrame} (hg : g.method = m) {rest : List Value} (hs : g.stack = .int j :: .ref a :: rest) (hd : decode c.code g.pc = .ok (.baload, 1)) {target : State}
    (hr : Steps p.tables e below (T.setTop { g with pc := g.pc + 1, stack := .int v :: rest }) target) : Steps p.tables e below (T.setTop g) target := by
  subst hv
  obtain ⟨cl, A, q, -⟩ := A
  exact X.baloadBooleans hx (by rw [eT]; exact A.1) (State.isArrayOf_alike hZ.alike A.2.1) A.2.2 (own_in q (own_inbM hj)) ((own_get q (.int 0) (own_inbM hj).2).trans (congrArg some (own_mapGet hj.2))) hg hs hd _ hr
theorem own_ldJ {bs : List Int64} {j : Int32} {v : Int64} (X : Stand p l e R s m args below meth c T locs cells slots) (hx : p.tables.exec = Jvm.exec) (hZ : Z.Warmed39 s.vm) (eT : T.heap = h) (A : own_Ar Z h a .long (bs.map Value.long)) (hj : own_inb bs j) (hv : own_rd bs j = v) {g : JFrame} (hg : g.method = m) {rest : List Value} (hs : g.stack = .int j :: .ref a :: rest) (hd : decode c.code g.pc = .ok (.laload, 1)) {target : State}
    (hr : Steps p.tables e below (T.setTop { g with pc := g.pc + 1, stack := .long v :: rest }) target) : Steps p.tables e below (T.setTop g) target := by
  subst hv
  obtain ⟨cl, A, q, -⟩ := A
  exact X.laload hx (by rw [eT]; exact A.1) (State.isArrayOf_alike hZ.alike A.2.1) A.2.2 (own_in q (own_inbM hj)) ((own_get q (.long 0) (own_inbM hj).2).trans (congrArg some (own_mapGetJ hj.2))) hg hs hd _ hr
theorem own_stI {bs : List Int32} {j x : Int32} (X : Stand p l e R s m args below meth c T locs cells slots) (hx : p.tables.exec = Jvm.exec) (hZ : Z.Warmed39 s.vm) (eT : T.heap = h) (A : own_Ar Z h a .int (bs.map Value.int)) (hj : own_inb bs j) {g : JFrame} (hg : g.method = m) {rest : List Value} (hs : g.stack = .int x :: .int j :: .ref a :: rest) (hd : decode c.code g.pc = .ok (.iastore, 1)) :
    ∃ T' h', Stand p l e R s m args below meth c T' (locs ++ [⟨a, j.toNatClampNeg⟩]) cells slots ∧ T'.heap = h' ∧ Wr h h' a j.toNatClampNeg (.int x) ∧ own_Ar Z h' a .int ((own_wr bs j x).map Value.int) ∧ ∀ target, Steps p.tables e below (T'.setTop { g with pc := g.pc + 1, stack := rest }) target → Steps p.tables e below (T.setTop g) target := by
  obtain ⟨cl, A, q, r, ft⟩ := A
  obtain ⟨T', h', X', e', W, st⟩ := stI X hx hZ eT A (own_in q (own_inbM hj)) hg hs hd
  exact ⟨T', h', X', e', W, ⟨_, A.same W, (own_set q).trans own_mapSet, by simpa [own_wr] using r, own_mapSet ▸ own_fits ft rfl⟩, st⟩
theorem own_stB {bs : List Int32} {j x : Int32} (X : Stand p l e R s m args below meth c T locs cells slots) (hx : p.tables.exec = Jvm.exec) (hZ : Z.Warmed39 s.vm) (eT : T.heap = h) (A : own_Ar Z h a .byte (bs.map Value.int)) (hj : own_inb bs j) {g : JFrame} (hg : g.method = m) {rest : List Value} (hs : g.stack = .int x :: .int j :: .ref a :: rest) (hd : decode c.code g.pc = .ok (.bastore, 1)) :
    ∃ T' h', Stand p l e R s m args below meth c T' (locs ++ [⟨a, j.toNatClampNeg⟩]) cells slots ∧ T'.heap = h' ∧ Wr h h' a j.toNatClampNeg (.int x.toInt8.toInt32) ∧ own_Ar Z h' a .byte ((own_wr bs j x.toInt8.toInt32).map Value.int) ∧ ∀ target, Steps p.tables e below (T'.setTop { g with pc := g.pc + 1, stack := rest }) target → Steps p.tables e below (T.setTop g) target := by
  obtain ⟨cl, A, q, r, ft⟩ := A
  obtain ⟨T', h', X', e', W, st⟩ := stB X hx hZ eT A (own_in q (own_inbM hj)) hg hs hd
  exact ⟨T', h', X', e', W, ⟨_, A.same W, (own_set q).trans own_mapSet, by simpa [own_wr] using r, own_mapSet ▸ own_fits ft (fits_nar_byte _)⟩, st⟩
theorem own_stZ {bs : List Int32} {j x : Int32} (X : Stand p l e R s m args below meth c T locs cells slots) (hx : p.tables.exec = Jvm.exec) (hZ : Z.Warmed39 s.vm) (eT : T.heap = h) (A : own_Ar Z h a .boolean (bs.map Value.int)) (hj : own_inb bs j) {g : JFrame} (hg : g.method = m) {rest : List Value} (hs : g.stack = .int x :: .int j :: .ref a :: rest) (hd : decode c.code g.pc = .ok (.bastore, 1)) :
    ∃ T' h', Stand p l e R s m args below meth c T' (locs ++ [⟨a, j.toNatClampNeg⟩]) cells slots ∧ T'.heap = h' ∧ Wr h h' a j.toNatClampNeg (.int (x &&& 1)) ∧ own_Ar Z h' a .boolean ((own_wr bs j (x &&& 1)).map Value.int) ∧ ∀ target, Steps p.tables e below (T'.setTop { g with pc := g.pc + 1, stack := rest }) target → Steps p.tables e below (T.setTop g) target := by
  obtain ⟨cl, A, q, r, ft⟩ := A
  obtain ⟨T', h', X', e', W, st⟩ := stZ X hx hZ eT A (own_in q (own_inbM hj)) hg hs hd
  exact ⟨T', h', X', e', W, ⟨_, A.same W, (own_set q).trans own_mapSet, by simpa [own_wr] using r, own_mapSet ▸ own_fits ft (fits_nar_bool _)⟩, st⟩
theorem own_stJ {bs : List Int64} {j : Int32} {x : Int64} (X : Stand p l e R s m args below meth c T locs cells slots) (hx : p.tables.exec = Jvm.exec) (hZ : Z.Warmed39 s.vm) (eT : T.heap = h) (A : own_Ar Z h a .long (bs.map Value.long)) (hj : own_inb bs j) {g : JFrame} (hg : g.method = m) {rest : List Value} (hs : g.stack = .long x :: .int j :: .ref a :: rest) (hd : decode c.code g.pc = .ok (.lastore, 1)) :
    ∃ T' h', Stand p l e R s m args below meth c T' (locs ++ [⟨a, j.toNatClampNeg⟩]) cells slots ∧ T'.heap = h' ∧ Wr h h' a j.toNatClampNeg (.long x) ∧ own_Ar Z h' a .long ((own_wr bs j x).map Value.long) ∧ ∀ target, Steps p.tables e below (T'.setTop { g with pc := g.pc + 1, stack := rest }) target → Steps p.tables e below (T.setTop g) target := by
  obtain ⟨cl, A, q, r, ft⟩ := A
  obtain ⟨T', h', X', e', W, st⟩ := stJ X hx hZ eT A (own_in q (own_inbM hj)) hg hs hd
  exact ⟨T', h', X', e', W, ⟨_, A.same W, (own_set q).trans own_mapSetJ, by simpa [own_wr] using r, own_mapSetJ ▸ own_fits ft rfl⟩, st⟩
theorem own_newI {k : ClassId} {n : Int32} {kk : Nat} (A : Arr Z h a (newA k ty n) ty) (q : ¬ n < 0) (hd : defaultValue ty = .int 0) (hk : n.toNatClampNeg = kk) : own_Ar Z h a ty ((List.replicate kk (0 : Int32)).map Value.int) := hk ▸
  ⟨_, A, by simp [newA, hd], by rw [List.length_map, List.length_replicate]; exact (back32 q).2, fun v hv => by
    rw [List.map_replicate] at hv
    rw [(List.mem_replicate.mp hv).2, ← hd]; cases ty <;> rfl⟩
theorem own_newJ {k : ClassId} {n : Int32} {kk : Nat} (A : Arr Z h a (newA k ty n) ty) (q : ¬ n < 0) (hd : defaultValue ty = .long 0) (hk : n.toNatClampNeg = kk) : own_Ar Z h a ty ((List.replicate kk (0 : Int64)).map Value.long) := hk ▸
  ⟨_, A, by simp [newA, hd], by rw [List.length_map, List.length_replicate]; exact (back32 q).2, fun v hv => by
    rw [List.map_replicate] at hv
    rw [(List.mem_replicate.mp hv).2, ← hd]; cases ty <;> rfl⟩
end Own
theorem w0 {a0 : Array Value} {Z : State} (hw : ∀ d ∈ tables_1, d.before a0 Z = true) : ((Jvm.Cond.constant "tidemark/PayingPassTakenPinLaw" (7 : Nat) (2147483647 : Int32))).before a0 Z = true := hw _ (List.mem_of_getElem? (i := 0) rfl)
theorem w1 {a0 : Array Value} {Z : State} (hw : ∀ d ∈ tables_1, d.before a0 Z = true) : ((Jvm.Cond.classLink "tidemark/PayingPassTakenPinLaw" (8 : Nat) "tidemark/PayingPass")).before a0 Z = true := hw _ (List.mem_of_getElem? (i := 1) rfl)
theorem w2 {a0 : Array Value} {Z : State} (hw : ∀ d ∈ tables_1, d.before a0 Z = true) : ((Jvm.Cond.instantiable "tidemark/PayingPass" (5 : Nat))).before a0 Z = true := hw _ (List.mem_of_getElem? (i := 2) rfl)
theorem w3 {a0 : Array Value} {Z : State} (hw : ∀ d ∈ tables_1, d.before a0 Z = true) : ((Jvm.Cond.initialized "tidemark/PayingPass")).before a0 Z = true := hw _ (List.mem_of_getElem? (i := 3) rfl)
theorem w4 {a0 : Array Value} {Z : State} (hw : ∀ d ∈ tables_1, d.before a0 Z = true) : ((Jvm.Cond.methodLink "tidemark/PayingPassTakenPinLaw" (10 : Nat) ({ cls := "tidemark/PayingPass", name := "<init>", desc := "()V" } : Jvm.MethodName))).before a0 Z = true := hw _ (List.mem_of_getElem? (i := 4) rfl)
theorem w5 {a0 : Array Value} {Z : State} (hw : ∀ d ∈ tables_1, d.before a0 Z = true) : ((Jvm.Cond.instanceMethod ({ cls := "tidemark/PayingPass", name := "<init>", desc := "()V" } : Jvm.MethodName))).before a0 Z = true := hw _ (List.mem_of_getElem? (i := 5) rfl)
theorem w6 {a0 : Array Value} {Z : State} (hw : ∀ d ∈ tables_1, d.before a0 Z = true) : ((Jvm.Cond.code ({ cls := "tidemark/PayingPass", name := "<init>", desc := "()V" } : Jvm.MethodName) prog_33_method_1_code (1 : Nat) (Option.none : Option Jvm.ClassFile.FieldType))).before a0 Z = true := hw _ (List.mem_of_getElem? (i := 6) rfl)
theorem w7 {a0 : Array Value} {Z : State} (hw : ∀ d ∈ tables_1, d.before a0 Z = true) : ((Jvm.Cond.methodLink "tidemark/PayingPass" (1 : Nat) ({ cls := "java/lang/Object", name := "<init>", desc := "()V" } : Jvm.MethodName))).before a0 Z = true := hw _ (List.mem_of_getElem? (i := 7) rfl)
theorem w8 {a0 : Array Value} {Z : State} (hw : ∀ d ∈ tables_1, d.before a0 Z = true) : ((Jvm.Cond.instanceMethod ({ cls := "java/lang/Object", name := "<init>", desc := "()V" } : Jvm.MethodName))).before a0 Z = true := hw _ (List.mem_of_getElem? (i := 8) rfl)
theorem w9 {a0 : Array Value} {Z : State} (hw : ∀ d ∈ tables_1, d.before a0 Z = true) : ((Jvm.Cond.code ({ cls := "java/lang/Object", name := "<init>", desc := "()V" } : Jvm.MethodName) object_method_1_code (1 : Nat) (Option.none : Option Jvm.ClassFile.FieldType))).before a0 Z = true := hw _ (List.mem_of_getElem? (i := 9) rfl)
theorem w10 {a0 : Array Value} {Z : State} (hw : ∀ d ∈ tables_1, d.before a0 Z = true) : ((Jvm.Cond.fieldLink "tidemark/PayingPass" (7 : Nat) "tidemark/PayingPass" "taking" "Z")).before a0 Z = true := hw _ (List.mem_of_getElem? (i := 10) rfl)
theorem w11 {a0 : Array Value} {Z : State} (hw : ∀ d ∈ tables_1, d.before a0 Z = true) : ((Jvm.Cond.lays "tidemark/PayingPass" "tidemark/PayingPass" "taking" "Z")).before a0 Z = true := hw _ (List.mem_of_getElem? (i := 11) rfl)
theorem w12 {a0 : Array Value} {Z : State} (hw : ∀ d ∈ tables_1, d.before a0 Z = true) : ((Jvm.Cond.fieldLink "tidemark/PayingPass" (13 : Nat) "tidemark/PayingPass" "probedEvery" "I")).before a0 Z = true := hw _ (List.mem_of_getElem? (i := 12) rfl)
theorem w13 {a0 : Array Value} {Z : State} (hw : ∀ d ∈ tables_1, d.before a0 Z = true) : ((Jvm.Cond.lays "tidemark/PayingPass" "tidemark/PayingPass" "probedEvery" "I")).before a0 Z = true := hw _ (List.mem_of_getElem? (i := 13) rfl)
theorem w14 {a0 : Array Value} {Z : State} (hw : ∀ d ∈ tables_1, d.before a0 Z = true) : ((Jvm.Cond.methodLink "tidemark/PayingPassTakenPinLaw" (11 : Nat) ({ cls := "tidemark/PayingPass", name := "taken", desc := "()Z" } : Jvm.MethodName))).before a0 Z = true := hw _ (List.mem_of_getElem? (i := 14) rfl)
theorem w15 {a0 : Array Value} {Z : State} (hw : ∀ d ∈ tables_1, d.before a0 Z = true) : ((Jvm.Cond.declares ({ cls := "tidemark/PayingPass", name := "taken", desc := "()Z" } : Jvm.MethodName))).before a0 Z = true := hw _ (List.mem_of_getElem? (i := 15) rfl)
theorem w16 {a0 : Array Value} {Z : State} (hw : ∀ d ∈ tables_1, d.before a0 Z = true) : ((Jvm.Cond.instanceMethod ({ cls := "tidemark/PayingPass", name := "taken", desc := "()Z" } : Jvm.MethodName))).before a0 Z = true := hw _ (List.mem_of_getElem? (i := 16) rfl)
theorem w17 {a0 : Array Value} {Z : State} (hw : ∀ d ∈ tables_1, d.before a0 Z = true) : ((Jvm.Cond.selects "tidemark/PayingPass" ({ cls := "tidemark/PayingPass", name := "taken", desc := "()Z" } : Jvm.MethodName) ({ cls := "tidemark/PayingPass", name := "taken", desc := "()Z" } : Jvm.MethodName))).before a0 Z = true := hw _ (List.mem_of_getElem? (i := 17) rfl)
theorem w18 {a0 : Array Value} {Z : State} (hw : ∀ d ∈ tables_1, d.before a0 Z = true) : ((Jvm.Cond.code ({ cls := "tidemark/PayingPass", name := "taken", desc := "()Z" } : Jvm.MethodName) prog_33_method_3_code (1 : Nat) (Option.some Jvm.ClassFile.FieldType.boolean))).before a0 Z = true := hw _ (List.mem_of_getElem? (i := 18) rfl)
theorem w19 {a0 : Array Value} {Z : State} (hw : ∀ d ∈ tables_1, d.before a0 Z = true) : ((Jvm.Cond.methodLink "tidemark/PayingPassTakenPinLaw" (15 : Nat) ({ cls := "tidemark/PayingPass", name := "judge", desc := "(II)V" } : Jvm.MethodName))).before a0 Z = true := hw _ (List.mem_of_getElem? (i := 19) rfl)
theorem w20 {a0 : Array Value} {Z : State} (hw : ∀ d ∈ tables_1, d.before a0 Z = true) : ((Jvm.Cond.declares ({ cls := "tidemark/PayingPass", name := "judge", desc := "(II)V" } : Jvm.MethodName))).before a0 Z = true := hw _ (List.mem_of_getElem? (i := 20) rfl)
theorem w21 {a0 : Array Value} {Z : State} (hw : ∀ d ∈ tables_1, d.before a0 Z = true) : ((Jvm.Cond.instanceMethod ({ cls := "tidemark/PayingPass", name := "judge", desc := "(II)V" } : Jvm.MethodName))).before a0 Z = true := hw _ (List.mem_of_getElem? (i := 21) rfl)
theorem w22 {a0 : Array Value} {Z : State} (hw : ∀ d ∈ tables_1, d.before a0 Z = true) : ((Jvm.Cond.selects "tidemark/PayingPass" ({ cls := "tidemark/PayingPass", name := "judge", desc := "(II)V" } : Jvm.MethodName) ({ cls := "tidemark/PayingPass", name := "judge", desc := "(II)V" } : Jvm.MethodName))).before a0 Z = true := hw _ (List.mem_of_getElem? (i := 22) rfl)
theorem w23 {a0 : Array Value} {Z : State} (hw : ∀ d ∈ tables_1, d.before a0 Z = true) : ((Jvm.Cond.code ({ cls := "tidemark/PayingPass", name := "judge", desc := "(II)V" } : Jvm.MethodName) prog_33_method_4_code (3 : Nat) (Option.none : Option Jvm.ClassFile.FieldType))).before a0 Z = true := hw _ (List.mem_of_getElem? (i := 23) rfl)
theorem w24 {a0 : Array Value} {Z : State} (hw : ∀ d ∈ tables_1, d.before a0 Z = true) : ((Jvm.Cond.fieldLink "tidemark/PayingPass" (20 : Nat) "tidemark/PayingPass" "given" "I")).before a0 Z = true := hw _ (List.mem_of_getElem? (i := 24) rfl)
theorem w25 {a0 : Array Value} {Z : State} (hw : ∀ d ∈ tables_1, d.before a0 Z = true) : ((Jvm.Cond.lays "tidemark/PayingPass" "tidemark/PayingPass" "given" "I")).before a0 Z = true := hw _ (List.mem_of_getElem? (i := 25) rfl)
theorem w26 {a0 : Array Value} {Z : State} (hw : ∀ d ∈ tables_1, d.before a0 Z = true) : ((Jvm.Cond.fieldLink "tidemark/PayingPass" (23 : Nat) "tidemark/PayingPass" "placed" "I")).before a0 Z = true := hw _ (List.mem_of_getElem? (i := 26) rfl)
theorem w27 {a0 : Array Value} {Z : State} (hw : ∀ d ∈ tables_1, d.before a0 Z = true) : ((Jvm.Cond.lays "tidemark/PayingPass" "tidemark/PayingPass" "placed" "I")).before a0 Z = true := hw _ (List.mem_of_getElem? (i := 27) rfl)
theorem w28 {a0 : Array Value} {Z : State} (hw : ∀ d ∈ tables_1, d.before a0 Z = true) : ((Jvm.Cond.methodLink "tidemark/PayingPassTakenPinLaw" (19 : Nat) ({ cls := "tidemark/PayingPass", name := "pays", desc := "()Z" } : Jvm.MethodName))).before a0 Z = true := hw _ (List.mem_of_getElem? (i := 28) rfl)
theorem w29 {a0 : Array Value} {Z : State} (hw : ∀ d ∈ tables_1, d.before a0 Z = true) : ((Jvm.Cond.declares ({ cls := "tidemark/PayingPass", name := "pays", desc := "()Z" } : Jvm.MethodName))).before a0 Z = true := hw _ (List.mem_of_getElem? (i := 29) rfl)
theorem w30 {a0 : Array Value} {Z : State} (hw : ∀ d ∈ tables_1, d.before a0 Z = true) : ((Jvm.Cond.instanceMethod ({ cls := "tidemark/PayingPass", name := "pays", desc := "()Z" } : Jvm.MethodName))).before a0 Z = true := hw _ (List.mem_of_getElem? (i := 30) rfl)
theorem w31 {a0 : Array Value} {Z : State} (hw : ∀ d ∈ tables_1, d.before a0 Z = true) : ((Jvm.Cond.selects "tidemark/PayingPass" ({ cls := "tidemark/PayingPass", name := "pays", desc := "()Z" } : Jvm.MethodName) ({ cls := "tidemark/PayingPass", name := "pays", desc := "()Z" } : Jvm.MethodName))).before a0 Z = true := hw _ (List.mem_of_getElem? (i := 31) rfl)
theorem w32 {a0 : Array Value} {Z : State} (hw : ∀ d ∈ tables_1, d.before a0 Z = true) : ((Jvm.Cond.code ({ cls := "tidemark/PayingPass", name := "pays", desc := "()Z" } : Jvm.MethodName) prog_33_method_2_code (1 : Nat) (Option.some Jvm.ClassFile.FieldType.boolean))).before a0 Z = true := hw _ (List.mem_of_getElem? (i := 32) rfl)
theorem w33 {a0 : Array Value} {Z : State} (hw : ∀ d ∈ tables_1, d.before a0 Z = true) : ((Jvm.Cond.fieldLink "tidemark/PayingPass" (17 : Nat) "tidemark/PayingPass" "untilProbed" "I")).before a0 Z = true := hw _ (List.mem_of_getElem? (i := 33) rfl)
theorem w34 {a0 : Array Value} {Z : State} (hw : ∀ d ∈ tables_1, d.before a0 Z = true) : ((Jvm.Cond.lays "tidemark/PayingPass" "tidemark/PayingPass" "untilProbed" "I")).before a0 Z = true := hw _ (List.mem_of_getElem? (i := 34) rfl)
theorem w35 {a0 : Array Value} {Z : State} (hw : ∀ d ∈ tables_1, d.before a0 Z = true) : ((Jvm.Cond.methodLink "tidemark/PayingPass" (26 : Nat) ({ cls := "java/lang/Math", name := "min", desc := "(II)I" } : Jvm.MethodName))).before a0 Z = true := hw _ (List.mem_of_getElem? (i := 35) rfl)
theorem w36 {a0 : Array Value} {Z : State} (hw : ∀ d ∈ tables_1, d.before a0 Z = true) : ((Jvm.Cond.static ({ cls := "java/lang/Math", name := "min", desc := "(II)I" } : Jvm.MethodName))).before a0 Z = true := hw _ (List.mem_of_getElem? (i := 36) rfl)
theorem w37 {a0 : Array Value} {Z : State} (hw : ∀ d ∈ tables_1, d.before a0 Z = true) : ((Jvm.Cond.initialized "java/lang/Math")).before a0 Z = true := hw _ (List.mem_of_getElem? (i := 37) rfl)
theorem w38 {a0 : Array Value} {Z : State} (hw : ∀ d ∈ tables_1, d.before a0 Z = true) : ((Jvm.Cond.code ({ cls := "java/lang/Math", name := "min", desc := "(II)I" } : Jvm.MethodName) jdk_29_method_69_code (2 : Nat) (Option.some Jvm.ClassFile.FieldType.int))).before a0 Z = true := hw _ (List.mem_of_getElem? (i := 38) rfl)
theorem pn_tidemark_PayingPass : plainName "tidemark/PayingPass" = true := by first | (simp [plainName, overriddenIn]; done) | decide +kernel
theorem pn_tidemark_PayingPassTakenPinLaw : plainName "tidemark/PayingPassTakenPinLaw" = true := by first | (simp [plainName, overriddenIn]; done) | decide +kernel
theorem pd_0 : parseMethodDescriptor "()V" = some ⟨[], none⟩ := by decide +kernel
theorem pd_1 : parseMethodDescriptor "()Z" = some ⟨[], some .boolean⟩ := by decide +kernel
theorem pd_2 : parseMethodDescriptor "(II)I" = some ⟨[.int, .int], some .int⟩ := by decide +kernel
theorem pd_3 : parseMethodDescriptor "(II)V" = some ⟨[.int, .int], none⟩ := by decide +kernel
theorem dPayingPass_mk_0 : decode prog_33_method_1_code 0 = .ok (.aload_n 0, 1) := by decide +kernel
theorem dPayingPass_mk_1 : decode prog_33_method_1_code 1 = .ok (.invokespecial 1, 3) := by decide +kernel
theorem dPayingPass_mk_4 : decode prog_33_method_1_code 4 = .ok (.aload_n 0, 1) := by decide +kernel
theorem dPayingPass_mk_5 : decode prog_33_method_1_code 5 = .ok (.iconst 1, 1) := by decide +kernel
theorem dPayingPass_mk_6 : decode prog_33_method_1_code 6 = .ok (.putfield 7, 3) := by decide +kernel
theorem dPayingPass_mk_9 : decode prog_33_method_1_code 9 = .ok (.aload_n 0, 1) := by decide +kernel
theorem dPayingPass_mk_10 : decode prog_33_method_1_code 10 = .ok (.bipush 64, 2) := by decide +kernel
theorem dPayingPass_mk_12 : decode prog_33_method_1_code 12 = .ok (.putfield 13, 3) := by decide +kernel
theorem dPayingPass_mk_15 : decode prog_33_method_1_code 15 = .ok (.return_, 1) := by decide +kernel
theorem dPayingPass_taken_0 : decode prog_33_method_3_code 0 = .ok (.aload_n 0, 1) := by decide +kernel
theorem dPayingPass_taken_1 : decode prog_33_method_3_code 1 = .ok (.getfield 7, 3) := by decide +kernel
theorem dPayingPass_taken_4 : decode prog_33_method_3_code 4 = .ok (.ifCond .ne 17, 3) := by decide +kernel
theorem dPayingPass_taken_7 : decode prog_33_method_3_code 7 = .ok (.aload_n 0, 1) := by decide +kernel
theorem dPayingPass_taken_8 : decode prog_33_method_3_code 8 = .ok (.dup, 1) := by decide +kernel
theorem dPayingPass_taken_9 : decode prog_33_method_3_code 9 = .ok (.getfield 17, 3) := by decide +kernel
theorem dPayingPass_taken_12 : decode prog_33_method_3_code 12 = .ok (.iconst 1, 1) := by decide +kernel
theorem dPayingPass_taken_13 : decode prog_33_method_3_code 13 = .ok (.isub, 1) := by decide +kernel
theorem dPayingPass_taken_14 : decode prog_33_method_3_code 14 = .ok (.dup_x1, 1) := by decide +kernel
theorem dPayingPass_taken_15 : decode prog_33_method_3_code 15 = .ok (.putfield 17, 3) := by decide +kernel
theorem dPayingPass_taken_18 : decode prog_33_method_3_code 18 = .ok (.ifCond .ne 8, 3) := by decide +kernel
theorem dPayingPass_taken_21 : decode prog_33_method_3_code 21 = .ok (.aload_n 0, 1) := by decide +kernel
theorem dPayingPass_taken_22 : decode prog_33_method_3_code 22 = .ok (.iconst 1, 1) := by decide +kernel
theorem dPayingPass_taken_23 : decode prog_33_method_3_code 23 = .ok (.putfield 7, 3) := by decide +kernel
theorem dPayingPass_taken_26 : decode prog_33_method_3_code 26 = .ok (.aload_n 0, 1) := by decide +kernel
theorem dPayingPass_taken_27 : decode prog_33_method_3_code 27 = .ok (.getfield 7, 3) := by decide +kernel
theorem dPayingPass_taken_30 : decode prog_33_method_3_code 30 = .ok (.ireturn, 1) := by decide +kernel
theorem dPayingPass_judge_0 : decode prog_33_method_4_code 0 = .ok (.aload_n 0, 1) := by decide +kernel
theorem dPayingPass_judge_1 : decode prog_33_method_4_code 1 = .ok (.dup, 1) := by decide +kernel
theorem dPayingPass_judge_2 : decode prog_33_method_4_code 2 = .ok (.getfield 20, 3) := by decide +kernel
theorem dPayingPass_judge_5 : decode prog_33_method_4_code 5 = .ok (.iload_n 1, 1) := by decide +kernel
theorem dPayingPass_judge_6 : decode prog_33_method_4_code 6 = .ok (.iadd, 1) := by decide +kernel
theorem dPayingPass_judge_7 : decode prog_33_method_4_code 7 = .ok (.putfield 20, 3) := by decide +kernel
theorem dPayingPass_judge_10 : decode prog_33_method_4_code 10 = .ok (.aload_n 0, 1) := by decide +kernel
theorem dPayingPass_judge_11 : decode prog_33_method_4_code 11 = .ok (.dup, 1) := by decide +kernel
theorem dPayingPass_judge_12 : decode prog_33_method_4_code 12 = .ok (.getfield 23, 3) := by decide +kernel
theorem dPayingPass_judge_15 : decode prog_33_method_4_code 15 = .ok (.iload_n 2, 1) := by decide +kernel
theorem dPayingPass_judge_16 : decode prog_33_method_4_code 16 = .ok (.iadd, 1) := by decide +kernel
theorem dPayingPass_judge_17 : decode prog_33_method_4_code 17 = .ok (.putfield 23, 3) := by decide +kernel
theorem dPayingPass_judge_20 : decode prog_33_method_4_code 20 = .ok (.aload_n 0, 1) := by decide +kernel
theorem dPayingPass_judge_21 : decode prog_33_method_4_code 21 = .ok (.getfield 20, 3) := by decide +kernel
theorem dPayingPass_judge_24 : decode prog_33_method_4_code 24 = .ok (.bipush 64, 2) := by decide +kernel
theorem dPayingPass_judge_26 : decode prog_33_method_4_code 26 = .ok (.if_icmp .lt 77, 3) := by decide +kernel
theorem dPayingPass_judge_29 : decode prog_33_method_4_code 29 = .ok (.aload_n 0, 1) := by decide +kernel
theorem dPayingPass_judge_30 : decode prog_33_method_4_code 30 = .ok (.iconst 4, 1) := by decide +kernel
theorem dPayingPass_judge_31 : decode prog_33_method_4_code 31 = .ok (.aload_n 0, 1) := by decide +kernel
theorem dPayingPass_judge_32 : decode prog_33_method_4_code 32 = .ok (.getfield 23, 3) := by decide +kernel
theorem dPayingPass_judge_35 : decode prog_33_method_4_code 35 = .ok (.imul, 1) := by decide +kernel
theorem dPayingPass_judge_36 : decode prog_33_method_4_code 36 = .ok (.iconst 3, 1) := by decide +kernel
theorem dPayingPass_judge_37 : decode prog_33_method_4_code 37 = .ok (.aload_n 0, 1) := by decide +kernel
theorem dPayingPass_judge_38 : decode prog_33_method_4_code 38 = .ok (.getfield 20, 3) := by decide +kernel
theorem dPayingPass_judge_41 : decode prog_33_method_4_code 41 = .ok (.imul, 1) := by decide +kernel
theorem dPayingPass_judge_42 : decode prog_33_method_4_code 42 = .ok (.if_icmp .lt 7, 3) := by decide +kernel
theorem dPayingPass_judge_45 : decode prog_33_method_4_code 45 = .ok (.iconst 1, 1) := by decide +kernel
theorem dPayingPass_judge_46 : decode prog_33_method_4_code 46 = .ok (.goto 4, 3) := by decide +kernel
theorem dPayingPass_judge_49 : decode prog_33_method_4_code 49 = .ok (.iconst 0, 1) := by decide +kernel
theorem dPayingPass_judge_50 : decode prog_33_method_4_code 50 = .ok (.putfield 7, 3) := by decide +kernel
theorem dPayingPass_judge_53 : decode prog_33_method_4_code 53 = .ok (.aload_n 0, 1) := by decide +kernel
theorem dPayingPass_judge_54 : decode prog_33_method_4_code 54 = .ok (.getfield 7, 3) := by decide +kernel
theorem dPayingPass_judge_57 : decode prog_33_method_4_code 57 = .ok (.ifCond .eq 12, 3) := by decide +kernel
theorem dPayingPass_judge_60 : decode prog_33_method_4_code 60 = .ok (.aload_n 0, 1) := by decide +kernel
theorem dPayingPass_judge_61 : decode prog_33_method_4_code 61 = .ok (.bipush 64, 2) := by decide +kernel
theorem dPayingPass_judge_63 : decode prog_33_method_4_code 63 = .ok (.putfield 13, 3) := by decide +kernel
theorem dPayingPass_judge_66 : decode prog_33_method_4_code 66 = .ok (.goto 27, 3) := by decide +kernel
theorem dPayingPass_judge_69 : decode prog_33_method_4_code 69 = .ok (.aload_n 0, 1) := by decide +kernel
theorem dPayingPass_judge_70 : decode prog_33_method_4_code 70 = .ok (.aload_n 0, 1) := by decide +kernel
theorem dPayingPass_judge_71 : decode prog_33_method_4_code 71 = .ok (.getfield 13, 3) := by decide +kernel
theorem dPayingPass_judge_74 : decode prog_33_method_4_code 74 = .ok (.putfield 17, 3) := by decide +kernel
theorem dPayingPass_judge_77 : decode prog_33_method_4_code 77 = .ok (.aload_n 0, 1) := by decide +kernel
theorem dPayingPass_judge_78 : decode prog_33_method_4_code 78 = .ok (.iconst 2, 1) := by decide +kernel
theorem dPayingPass_judge_79 : decode prog_33_method_4_code 79 = .ok (.aload_n 0, 1) := by decide +kernel
theorem dPayingPass_judge_80 : decode prog_33_method_4_code 80 = .ok (.getfield 13, 3) := by decide +kernel
theorem dPayingPass_judge_83 : decode prog_33_method_4_code 83 = .ok (.imul, 1) := by decide +kernel
theorem dPayingPass_judge_84 : decode prog_33_method_4_code 84 = .ok (.sipush 4096, 3) := by decide +kernel
theorem dPayingPass_judge_87 : decode prog_33_method_4_code 87 = .ok (.invokestatic 26, 3) := by decide +kernel
theorem dPayingPass_judge_90 : decode prog_33_method_4_code 90 = .ok (.putfield 13, 3) := by decide +kernel
theorem dPayingPass_judge_93 : decode prog_33_method_4_code 93 = .ok (.aload_n 0, 1) := by decide +kernel
theorem dPayingPass_judge_94 : decode prog_33_method_4_code 94 = .ok (.iconst 0, 1) := by decide +kernel
theorem dPayingPass_judge_95 : decode prog_33_method_4_code 95 = .ok (.putfield 20, 3) := by decide +kernel
theorem dPayingPass_judge_98 : decode prog_33_method_4_code 98 = .ok (.aload_n 0, 1) := by decide +kernel
theorem dPayingPass_judge_99 : decode prog_33_method_4_code 99 = .ok (.iconst 0, 1) := by decide +kernel
theorem dPayingPass_judge_100 : decode prog_33_method_4_code 100 = .ok (.putfield 23, 3) := by decide +kernel
theorem dPayingPass_judge_103 : decode prog_33_method_4_code 103 = .ok (.return_, 1) := by decide +kernel
theorem dMath_min_0 : decode jdk_29_method_69_code 0 = .ok (.iload_n 0, 1) := by decide +kernel
theorem dMath_min_1 : decode jdk_29_method_69_code 1 = .ok (.iload_n 1, 1) := by decide +kernel
theorem dMath_min_2 : decode jdk_29_method_69_code 2 = .ok (.if_icmp .gt 7, 3) := by decide +kernel
theorem dMath_min_5 : decode jdk_29_method_69_code 5 = .ok (.iload_n 0, 1) := by decide +kernel
theorem dMath_min_6 : decode jdk_29_method_69_code 6 = .ok (.goto 4, 3) := by decide +kernel
theorem dMath_min_9 : decode jdk_29_method_69_code 9 = .ok (.iload_n 1, 1) := by decide +kernel
theorem dMath_min_10 : decode jdk_29_method_69_code 10 = .ok (.ireturn, 1) := by decide +kernel
theorem dPayingPass_pays_0 : decode prog_33_method_2_code 0 = .ok (.aload_n 0, 1) := by decide +kernel
theorem dPayingPass_pays_1 : decode prog_33_method_2_code 1 = .ok (.getfield 7, 3) := by decide +kernel
theorem dPayingPass_pays_4 : decode prog_33_method_2_code 4 = .ok (.ireturn, 1) := by decide +kernel
/-! tidemark/PayingPass.<init>:()V -/
def f_PayingPass_mk (f_a1_given : Int32) (f_a1_placed : Int32) (f_a1_probedEvery : Int32) (f_a1_taking : Int32) (f_a1_untilProbed : Int32) : Option (Int32 × Int32 × Int32 × Int32 × Int32) :=
  some (f_a1_given, f_a1_placed, (64 : Int32), (1 : Int32), f_a1_untilProbed)
def Q_PayingPass_mk (Z : State) (hE : Heap) (n0 : Nat) (a1 : Addr) (r : Int32 × Int32 × Int32 × Int32 × Int32) (v : Option Value) (h : Heap) (L : List Loc) : Prop := v = none ∧ Fr n0 L ∧ Keep hE h [a1] ∧ Exa Z h a1 "tidemark/PayingPass" ∧ Fld Z h a1 "tidemark/PayingPass" "given" "I" (.int r.1) ∧ Fld Z h a1 "tidemark/PayingPass" "placed" "I" (.int r.2.1) ∧ Fld Z h a1 "tidemark/PayingPass" "probedEvery" "I" (.int r.2.2.1) ∧ Fld Z h a1 "tidemark/PayingPass" "taking" "Z" (.int r.2.2.2.1) ∧ Fld Z h a1 "tidemark/PayingPass" "untilProbed" "I" (.int r.2.2.2.2)
def Cx_PayingPass_mk (p : Program) (s : State) (m : MethodId) (meth : Method) (c : Code) (Z : State) (a0 : Array Value) : Prop := p.tables.exec = Jvm.exec ∧ Z.Warmed39 s.vm ∧ (∀ d ∈ tables_1, d.before a0 Z = true) ∧ c.code = prog_33_method_1_code ∧ c.maxLocals = 1 ∧ s.vm.findClass "tidemark/PayingPass" = some m.cls ∧ meth.sig.returnType = none ∧ meth.locks = false ∧ meth.name = "<init>"
set_option maxRecDepth 65536 in
set_option maxHeartbeats 4000000 in
theorem b_PayingPass_mk {p : Program} {l : Launch} {e : Env} {s : State} {m : MethodId} {args : Array Value} {below : List Frame} {meth : Method} {c : Code} {Z : State} {a0 : Array Value} {n0 : Nat} {hE : Heap} (cx : Cx_PayingPass_mk p s m meth c Z a0) (a1 : Addr) :
    ∀ {T : State} {locs : List Loc} {h : Heap} (X : Stand p l e ({ frames := 1, cells := 0, slots := 0, locals := 12 } : Room) s m args below meth c T locs 0 0) (eT : T.heap = h) (N : Fr n0 locs) (K : Keep hE h [a1]) (z : n0 ≤ h.size) (f_a1_given : Int32) (f_a1_placed : Int32) (f_a1_probedEvery : Int32) (f_a1_taking : Int32) (f_a1_untilProbed : Int32) (E_a1 : Exa Z h a1 "tidemark/PayingPass") (F_a1_given : Fld Z h a1 "tidemark/PayingPass" "given" "I" (.int f_a1_given)) (F_a1_placed : Fld Z h a1 "tidemark/PayingPass" "placed" "I" (.int f_a1_placed)) (F_a1_probedEvery : Fld Z h a1 "tidemark/PayingPass" "probedEvery" "I" (.int f_a1_probedEvery)) (F_a1_taking : Fld Z h a1 "tidemark/PayingPass" "taking" "Z" (.int f_a1_taking)) (F_a1_untilProbed : Fld Z h a1 "tidemark/PayingPass" "untilProbed" "I" (.int f_a1_untilProbed)) (g_a1 : n0 ≤ a1) (r : Int32 × Int32 × Int32 × Int32 × Int32), f_PayingPass_mk f_a1_given f_a1_placed f_a1_probedEvery f_a1_taking f_a1_untilProbed = some r → own_Goes p e below s (Q_PayingPass_mk Z hE n0 a1 r) 0 0 (T.setTop (mkF m 0 #[.val (.ref a1)] [])) := by
  have cx' := cx
  obtain ⟨hx, hZ, hw, hby, hml, hown, hret, hlk, hnm⟩ := cx'
  intro T locs h X eT N K z f_a1_given f_a1_placed f_a1_probedEvery f_a1_taking f_a1_untilProbed E_a1 F_a1_given F_a1_placed F_a1_probedEvery F_a1_taking F_a1_untilProbed g_a1 r hF
  unfold f_PayingPass_mk at hF
  refine own_Goes.via (B := T.setTop (mkF m 1 #[.val (.ref a1)] [(.ref a1)])) (fun t k => ?_) ?_
  · show Steps p.tables e below (T.setTop (mkF m 0 #[.val (.ref a1)] [])) t
    refine XS.aloadN X.here hx rfl (hb hby dPayingPass_mk_0) rfl rfl ?_
    exact k
  obtain ⟨T17, X17, e17, st17⟩ := initO X hx hZ hown (w7 hw) (w8 hw) (w9 hw) eT (g := (mkF m 1 #[.val (.ref a1)] [(.ref a1)])) rfl (by rw [hml]; rfl) rfl (hb hby dPayingPass_mk_1) (by decide) (W := 0) (by show 2 * 0 + _ ≤ _; exact Nat.le_of_eq rfl) (by decide)
  refine own_Goes.via st17 ?_
  show own_Goes _ _ _ _ _ _ _ (T17.setTop (mkF m 4 #[.val (.ref a1)] []))
  refine own_Goes.via (B := T17.setTop (mkF m 6 #[.val (.ref a1)] [(.int (1 : Int32)), (.ref a1)])) (fun t k => ?_) ?_
  · show Steps p.tables e below (T17.setTop (mkF m 4 #[.val (.ref a1)] [])) t
    refine XS.aloadN X17.here hx rfl (hb hby dPayingPass_mk_4) rfl rfl ?_
    show Steps p.tables e below (T17.setTop (mkF m 5 #[.val (.ref a1)] [(.ref a1)])) t
    refine XS.iconst X17.here hx rfl (hb hby dPayingPass_mk_5) ?_
    exact k
  obtain ⟨T18, h18, X18, e18, W18, st18⟩ := putFN X17 hx hZ hown (w10 hw) Via.refl e17 F_a1_taking E_a1 (Or.inl (w11 hw)) (w2 hw) (ty := .boolean) (v' := (.int (1 : Int32))) (by decide) rfl (by decide) (g := (mkF m 6 #[.val (.ref a1)] [(.int (1 : Int32)), (.ref a1)])) rfl rfl (hb hby dPayingPass_mk_6)
  refine own_Goes.via st18 ?_
  have E18_a1 := E_a1.wr W18
  have F18_a1_given := F_a1_given.other W18 (Or.inr (slot_ne (Or.inl (w25 hw)) (Or.inl (w11 hw)) (by decide) (t := .int) (t' := .boolean) (by decide) (by decide)))
  have F18_a1_placed := F_a1_placed.other W18 (Or.inr (slot_ne (Or.inl (w27 hw)) (Or.inl (w11 hw)) (by decide) (t := .int) (t' := .boolean) (by decide) (by decide)))
  have F18_a1_probedEvery := F_a1_probedEvery.other W18 (Or.inr (slot_ne (Or.inl (w13 hw)) (Or.inl (w11 hw)) (by decide) (t := .int) (t' := .boolean) (by decide) (by decide)))
  have F18_a1_untilProbed := F_a1_untilProbed.other W18 (Or.inr (slot_ne (Or.inl (w34 hw)) (Or.inl (w11 hw)) (by decide) (t := .int) (t' := .boolean) (by decide) (by decide)))
  have F18_a1_taking := F_a1_taking.same W18
  have z18 := Nat.le_trans z (Keep.of_wr W18).1
  have K18_ := K.wr W18 (Or.inl (List.mem_of_getElem? (i := 0) rfl))
  have N18 := Fr.snoc X18 N g_a1
  show own_Goes _ _ _ _ _ _ _ (T18.setTop (mkF m 9 #[.val (.ref a1)] []))
  refine own_Goes.via (B := T18.setTop (mkF m 12 #[.val (.ref a1)] [(.int (64 : Int32)), (.ref a1)])) (fun t k => ?_) ?_
  · show Steps p.tables e below (T18.setTop (mkF m 9 #[.val (.ref a1)] [])) t
    refine XS.aloadN X18.here hx rfl (hb hby dPayingPass_mk_9) rfl rfl ?_
    show Steps p.tables e below (T18.setTop (mkF m 10 #[.val (.ref a1)] [(.ref a1)])) t
    refine XS.bipush X18.here hx rfl (hb hby dPayingPass_mk_10) ?_
    exact k
  obtain ⟨T19, h19, X19, e19, W19, st19⟩ := putF X18 hx hZ hown (host := "") (Or.inl (w12 hw)) Via.refl e18 F18_a1_probedEvery E18_a1 (Or.inl (w13 hw)) (w2 hw) (ty := .int) (by decide) rfl rfl (g := (mkF m 12 #[.val (.ref a1)] [(.int (64 : Int32)), (.ref a1)])) rfl rfl (hb hby dPayingPass_mk_12)
  refine own_Goes.via st19 ?_
  have E19_a1 := E18_a1.wr W19
  have F19_a1_given := F18_a1_given.other W19 (Or.inr (slot_ne (Or.inl (w25 hw)) (Or.inl (w13 hw)) (by decide) (t := .int) (t' := .int) (by decide) (by decide)))
  have F19_a1_placed := F18_a1_placed.other W19 (Or.inr (slot_ne (Or.inl (w27 hw)) (Or.inl (w13 hw)) (by decide) (t := .int) (t' := .int) (by decide) (by decide)))
  have F19_a1_taking := F18_a1_taking.other W19 (Or.inr (slot_ne (Or.inl (w11 hw)) (Or.inl (w13 hw)) (by decide) (t := .boolean) (t' := .int) (by decide) (by decide)))
  have F19_a1_untilProbed := F18_a1_untilProbed.other W19 (Or.inr (slot_ne (Or.inl (w34 hw)) (Or.inl (w13 hw)) (by decide) (t := .int) (t' := .int) (by decide) (by decide)))
  have F19_a1_probedEvery := F18_a1_probedEvery.same W19
  have z19 := Nat.le_trans z18 (Keep.of_wr W19).1
  have K19_ := K18_.wr W19 (Or.inl (List.mem_of_getElem? (i := 0) rfl))
  have N19 := Fr.snoc X19 N18 g_a1
  show own_Goes _ _ _ _ _ _ _ (T19.setTop (mkF m 15 #[.val (.ref a1)] []))
  obtain rfl : (f_a1_given, f_a1_placed, (64 : Int32), (1 : Int32), f_a1_untilProbed) = r := Option.some.inj hF
  exact own_retV X19 hx hret hlk (hb hby dPayingPass_mk_15) e19 ⟨rfl, N19, K19_, E19_a1, F19_a1_given, F19_a1_placed, F19_a1_probedEvery, F19_a1_taking, F19_a1_untilProbed⟩ (by decide) (by decide)
theorem ef_PayingPass_mk (m : MethodId) (x0 : Addr) : entryFrame m #[(.ref x0)] 1 = mkF m 0 #[.val (.ref x0)] [] := by first | (simp [entryFrame, mkF, argsToLocals, Value.category]; done) | rfl
set_option maxRecDepth 65536 in
set_option maxHeartbeats 4000000 in
theorem rm_PayingPass_mk (l : Launch) (Z : State) (a0 : Array Value) (hw : ∀ d ∈ tables_1, d.before a0 Z = true) (ws : List Jvm.Cond) (hE : Heap) (n0 : Nat) (z : n0 ≤ hE.size) (a1 : Addr) (f_a1_given : Int32) (f_a1_placed : Int32) (f_a1_probedEvery : Int32) (f_a1_taking : Int32) (f_a1_untilProbed : Int32) (E_a1 : Exa Z hE a1 "tidemark/PayingPass") (F_a1_given : Fld Z hE a1 "tidemark/PayingPass" "given" "I" (.int f_a1_given)) (F_a1_placed : Fld Z hE a1 "tidemark/PayingPass" "placed" "I" (.int f_a1_placed)) (F_a1_probedEvery : Fld Z hE a1 "tidemark/PayingPass" "probedEvery" "I" (.int f_a1_probedEvery)) (F_a1_taking : Fld Z hE a1 "tidemark/PayingPass" "taking" "Z" (.int f_a1_taking)) (F_a1_untilProbed : Fld Z hE a1 "tidemark/PayingPass" "untilProbed" "I" (.int f_a1_untilProbed)) (g_a1 : n0 ≤ a1) (r : Int32 × Int32 × Int32 × Int32 × Int32) (hF : (f_PayingPass_mk f_a1_given f_a1_placed f_a1_probedEvery f_a1_taking f_a1_untilProbed) = some r) :
    MetFree l (⟨"tidemark/PayingPass", "<init>", "()V"⟩ : MethodName) (head1 (Jvm.Cond.code (⟨"tidemark/PayingPass", "<init>", "()V"⟩ : MethodName) prog_33_method_1_code 1 none :: ws) ({ frames := 1, cells := 0, slots := 0, locals := 12 } : Room)) (fun a U => a = #[(.ref a1)] ∧ Z.Warmed39 U.vm ∧ U.heap = hE) (fun _ _ _ _ _ => True) (fun _ U o U' => ∃ v L, o = .returned v ∧ (Q_PayingPass_mk Z hE n0 a1 r) v U'.heap L ∧ FrameEnd U o U' L ({ frames := 1, cells := 0, slots := 0, locals := 12 } : Room).cells ({ frames := 1, cells := 0, slots := 0, locals := 12 } : Room).slots) := by
  refine MetFree.of_bodySF (plainFor_of_name pn_tidemark_PayingPass) hisR ?_
  intro p e s m args below meth c s₁ Bd hml0 hP hK
  obtain ⟨rfl, hZ, hh⟩ := hP
  have X0 : Stand p l e ({ frames := 1, cells := 0, slots := 0, locals := 12 } : Room) s m #[(.ref a1)] below meth c s₁ [] 0 0 := Stand.of_body Bd
  have e0 : s₁.heap = hE := by rw [← hh, Bd.state]; rfl
  have cx : Cx_PayingPass_mk p s m meth c Z a0 := ⟨Bd.exec, hZ, hw, Bd.bytes, hml0, findClass_of_methodNamed Bd.named, Bd.returns, Bd.notSynchronized, (name_of_methodNamed Bd.named Bd.method).1⟩
  show own_Goes p e below s (Q_PayingPass_mk Z hE n0 a1 r) ({ frames := 1, cells := 0, slots := 0, locals := 12 } : Room).cells ({ frames := 1, cells := 0, slots := 0, locals := 12 } : Room).slots (s₁.setTop (entryFrame m #[(.ref a1)] 1))
  rw [ef_PayingPass_mk]
  exact b_PayingPass_mk cx a1 X0 e0 (Fr.nil n0) (Keep.refl _ _) z f_a1_given f_a1_placed f_a1_probedEvery f_a1_taking f_a1_untilProbed E_a1 F_a1_given F_a1_placed F_a1_probedEvery F_a1_taking F_a1_untilProbed g_a1 _ hF
/-! tidemark/PayingPass.taken:()Z -/
def f_PayingPass_taken (f_a1_given : Int32) (f_a1_placed : Int32) (f_a1_probedEvery : Int32) (f_a1_taking : Int32) (f_a1_untilProbed : Int32) : Option (Int32 × Int32 × Int32 × Int32 × Int32 × Int32) :=
  if f_a1_taking = (0 : Int32) then
    own_lt (f_a1_untilProbed - (1 : Int32)) fun x50 =>
    if x50 = (0 : Int32) then
      some ((1 : Int32), f_a1_given, f_a1_placed, f_a1_probedEvery, (1 : Int32), x50)
    else
      some ((f_a1_taking &&& 1), f_a1_given, f_a1_placed, f_a1_probedEvery, f_a1_taking, x50)
  else
    some ((1 : Int32), f_a1_given, f_a1_placed, f_a1_probedEvery, (1 : Int32), f_a1_untilProbed)
def Q_PayingPass_taken (Z : State) (hE : Heap) (n0 : Nat) (a1 : Addr) (r : Int32 × Int32 × Int32 × Int32 × Int32 × Int32) (v : Option Value) (h : Heap) (L : List Loc) : Prop := v = some (.int r.1) ∧ Fr n0 L ∧ Keep hE h [a1] ∧ Exa Z h a1 "tidemark/PayingPass" ∧ Fld Z h a1 "tidemark/PayingPass" "given" "I" (.int r.2.1) ∧ Fld Z h a1 "tidemark/PayingPass" "placed" "I" (.int r.2.2.1) ∧ Fld Z h a1 "tidemark/PayingPass" "probedEvery" "I" (.int r.2.2.2.1) ∧ Fld Z h a1 "tidemark/PayingPass" "taking" "Z" (.int r.2.2.2.2.1) ∧ Fld Z h a1 "tidemark/PayingPass" "untilProbed" "I" (.int r.2.2.2.2.2)
def Cx_PayingPass_taken (p : Program) (s : State) (m : MethodId) (meth : Method) (c : Code) (Z : State) (a0 : Array Value) : Prop := p.tables.exec = Jvm.exec ∧ Z.Warmed39 s.vm ∧ (∀ d ∈ tables_1, d.before a0 Z = true) ∧ c.code = prog_33_method_3_code ∧ c.maxLocals = 1 ∧ s.vm.findClass "tidemark/PayingPass" = some m.cls ∧ meth.sig.returnType = some .boolean ∧ meth.locks = false ∧ meth.name = "taken"
set_option maxRecDepth 65536 in
set_option maxHeartbeats 4000000 in
theorem b_PayingPass_taken {p : Program} {l : Launch} {e : Env} {s : State} {m : MethodId} {args : Array Value} {below : List Frame} {meth : Method} {c : Code} {Z : State} {a0 : Array Value} {n0 : Nat} {hE : Heap} (cx : Cx_PayingPass_taken p s m meth c Z a0) (a1 : Addr) :
    ∀ {T : State} {locs : List Loc} {h : Heap} (X : Stand p l e ({ frames := 0, cells := 0, slots := 0, locals := 0 } : Room) s m args below meth c T locs 0 0) (eT : T.heap = h) (N : Fr n0 locs) (K : Keep hE h [a1]) (z : n0 ≤ h.size) (f_a1_given : Int32) (f_a1_placed : Int32) (f_a1_probedEvery : Int32) (f_a1_taking : Int32) (f_a1_untilProbed : Int32) (E_a1 : Exa Z h a1 "tidemark/PayingPass") (F_a1_given : Fld Z h a1 "tidemark/PayingPass" "given" "I" (.int f_a1_given)) (F_a1_placed : Fld Z h a1 "tidemark/PayingPass" "placed" "I" (.int f_a1_placed)) (F_a1_probedEvery : Fld Z h a1 "tidemark/PayingPass" "probedEvery" "I" (.int f_a1_probedEvery)) (F_a1_taking : Fld Z h a1 "tidemark/PayingPass" "taking" "Z" (.int f_a1_taking)) (F_a1_untilProbed : Fld Z h a1 "tidemark/PayingPass" "untilProbed" "I" (.int f_a1_untilProbed)) (g_a1 : n0 ≤ a1) (r : Int32 × Int32 × Int32 × Int32 × Int32 × Int32), f_PayingPass_taken f_a1_given f_a1_placed f_a1_probedEvery f_a1_taking f_a1_untilProbed = some r → own_Goes p e below s (Q_PayingPass_taken Z hE n0 a1 r) 0 0 (T.setTop (mkF m 0 #[.val (.ref a1)] [])) := by
  have cx' := cx
  obtain ⟨hx, hZ, hw, hby, hml, hown, hret, hlk, hnm⟩ := cx'
  intro T locs h X eT N K z f_a1_given f_a1_placed f_a1_probedEvery f_a1_taking f_a1_untilProbed E_a1 F_a1_given F_a1_placed F_a1_probedEvery F_a1_taking F_a1_untilProbed g_a1 r hF
  unfold f_PayingPass_taken at hF
  refine own_Goes.via (B := T.setTop (mkF m 1 #[.val (.ref a1)] [(.ref a1)])) (fun t k => ?_) ?_
  · show Steps p.tables e below (T.setTop (mkF m 0 #[.val (.ref a1)] [])) t
    refine XS.aloadN X.here hx rfl (hb hby dPayingPass_taken_0) rfl rfl ?_
    exact k
  obtain ⟨T48, X48, e48, st48⟩ := getF X hx hZ hown (host := "") (Or.inl (w10 hw)) Via.refl eT F_a1_taking (g := (mkF m 1 #[.val (.ref a1)] [(.ref a1)])) rfl rfl (hb hby dPayingPass_taken_1)
  refine own_Goes.via st48 ?_
  show own_Goes _ _ _ _ _ _ _ (T48.setTop (mkF m 4 #[.val (.ref a1)] [(.int f_a1_taking)]))
  by_cases hc4 : f_a1_taking = (0 : Int32)
  · rw [if_pos hc4] at hF
    refine own_Goes.via (B := T48.setTop (mkF m 9 #[.val (.ref a1)] [(.ref a1), (.ref a1)])) (fun t k => ?_) ?_
    · show Steps p.tables e below (T48.setTop (mkF m 4 #[.val (.ref a1)] [(.int f_a1_taking)])) t
      refine XS.ifNo X48.here hx rfl (hb hby dPayingPass_taken_4) rfl ((if0 _ _).trans (teq hc4).2) ?_
      show Steps p.tables e below (T48.setTop (mkF m 7 #[.val (.ref a1)] [])) t
      refine XS.aloadN X48.here hx rfl (hb hby dPayingPass_taken_7) rfl rfl ?_
      show Steps p.tables e below (T48.setTop (mkF m 8 #[.val (.ref a1)] [(.ref a1)])) t
      refine XS.dup X48.here hx rfl (hb hby dPayingPass_taken_8) rfl rfl ?_
      exact k
    obtain ⟨T49, X49, e49, st49⟩ := getF X48 hx hZ hown (host := "") (Or.inl (w33 hw)) Via.refl e48 F_a1_untilProbed (g := (mkF m 9 #[.val (.ref a1)] [(.ref a1), (.ref a1)])) rfl rfl (hb hby dPayingPass_taken_9)
    refine own_Goes.via st49 ?_
    show own_Goes _ _ _ _ _ _ _ (T49.setTop (mkF m 12 #[.val (.ref a1)] [(.int f_a1_untilProbed), (.ref a1)]))
    refine own_Goes.via (B := T49.setTop (mkF m 15 #[.val (.ref a1)] [(.int (f_a1_untilProbed - (1 : Int32))), (.ref a1), (.int (f_a1_untilProbed - (1 : Int32)))])) (fun t k => ?_) ?_
    · show Steps p.tables e below (T49.setTop (mkF m 12 #[.val (.ref a1)] [(.int f_a1_untilProbed), (.ref a1)])) t
      refine XS.iconst X49.here hx rfl (hb hby dPayingPass_taken_12) ?_
      show Steps p.tables e below (T49.setTop (mkF m 13 #[.val (.ref a1)] [(.int (1 : Int32)), (.int f_a1_untilProbed), (.ref a1)])) t
      refine XS.isub X49.here hx rfl (hb hby dPayingPass_taken_13) rfl ?_
      show Steps p.tables e below (T49.setTop (mkF m 14 #[.val (.ref a1)] [(.int (f_a1_untilProbed - (1 : Int32))), (.ref a1)])) t
      refine XS.dupX1 X49.here hx rfl (hb hby dPayingPass_taken_14) rfl rfl rfl ?_
      exact k
    obtain ⟨x50, hx50, hF⟩ := own_lt_e hF
    rw [← hx50]
    obtain ⟨T51, h51, X51, e51, W51, st51⟩ := putF X49 hx hZ hown (host := "") (Or.inl (w33 hw)) Via.refl e49 F_a1_untilProbed E_a1 (Or.inl (w34 hw)) (w2 hw) (ty := .int) (by decide) rfl rfl (g := (mkF m 15 #[.val (.ref a1)] [(.int x50), (.ref a1), (.int x50)])) rfl rfl (hb hby dPayingPass_taken_15)
    refine own_Goes.via st51 ?_
    have E51_a1 := E_a1.wr W51
    have F51_a1_given := F_a1_given.other W51 (Or.inr (slot_ne (Or.inl (w25 hw)) (Or.inl (w34 hw)) (by decide) (t := .int) (t' := .int) (by decide) (by decide)))
    have F51_a1_placed := F_a1_placed.other W51 (Or.inr (slot_ne (Or.inl (w27 hw)) (Or.inl (w34 hw)) (by decide) (t := .int) (t' := .int) (by decide) (by decide)))
    have F51_a1_probedEvery := F_a1_probedEvery.other W51 (Or.inr (slot_ne (Or.inl (w13 hw)) (Or.inl (w34 hw)) (by decide) (t := .int) (t' := .int) (by decide) (by decide)))
    have F51_a1_taking := F_a1_taking.other W51 (Or.inr (slot_ne (Or.inl (w11 hw)) (Or.inl (w34 hw)) (by decide) (t := .boolean) (t' := .int) (by decide) (by decide)))
    have F51_a1_untilProbed := F_a1_untilProbed.same W51
    have z51 := Nat.le_trans z (Keep.of_wr W51).1
    have K51_ := K.wr W51 (Or.inl (List.mem_of_getElem? (i := 0) rfl))
    have N51 := Fr.snoc X51 N g_a1
    show own_Goes _ _ _ _ _ _ _ (T51.setTop (mkF m 18 #[.val (.ref a1)] [(.int x50)]))
    by_cases hc18 : x50 = (0 : Int32)
    · rw [if_pos hc18] at hF
      refine own_Goes.via (B := T51.setTop (mkF m 23 #[.val (.ref a1)] [(.int (1 : Int32)), (.ref a1)])) (fun t k => ?_) ?_
      · show Steps p.tables e below (T51.setTop (mkF m 18 #[.val (.ref a1)] [(.int x50)])) t
        refine XS.ifNo X51.here hx rfl (hb hby dPayingPass_taken_18) rfl ((if0 _ _).trans (teq hc18).2) ?_
        show Steps p.tables e below (T51.setTop (mkF m 21 #[.val (.ref a1)] [])) t
        refine XS.aloadN X51.here hx rfl (hb hby dPayingPass_taken_21) rfl rfl ?_
        show Steps p.tables e below (T51.setTop (mkF m 22 #[.val (.ref a1)] [(.ref a1)])) t
        refine XS.iconst X51.here hx rfl (hb hby dPayingPass_taken_22) ?_
        exact k
      obtain ⟨T52, h52, X52, e52, W52, st52⟩ := putFN X51 hx hZ hown (w10 hw) Via.refl e51 F51_a1_taking E51_a1 (Or.inl (w11 hw)) (w2 hw) (ty := .boolean) (v' := (.int (1 : Int32))) (by decide) rfl (by decide) (g := (mkF m 23 #[.val (.ref a1)] [(.int (1 : Int32)), (.ref a1)])) rfl rfl (hb hby dPayingPass_taken_23)
      refine own_Goes.via st52 ?_
      have E52_a1 := E51_a1.wr W52
      have F52_a1_given := F51_a1_given.other W52 (Or.inr (slot_ne (Or.inl (w25 hw)) (Or.inl (w11 hw)) (by decide) (t := .int) (t' := .boolean) (by decide) (by decide)))
      have F52_a1_placed := F51_a1_placed.other W52 (Or.inr (slot_ne (Or.inl (w27 hw)) (Or.inl (w11 hw)) (by decide) (t := .int) (t' := .boolean) (by decide) (by decide)))
      have F52_a1_probedEvery := F51_a1_probedEvery.other W52 (Or.inr (slot_ne (Or.inl (w13 hw)) (Or.inl (w11 hw)) (by decide) (t := .int) (t' := .boolean) (by decide) (by decide)))
      have F52_a1_untilProbed := F51_a1_untilProbed.other W52 (Or.inr (slot_ne (Or.inl (w34 hw)) (Or.inl (w11 hw)) (by decide) (t := .int) (t' := .boolean) (by decide) (by decide)))
      have F52_a1_taking := F51_a1_taking.same W52
      have z52 := Nat.le_trans z51 (Keep.of_wr W52).1
      have K52_ := K51_.wr W52 (Or.inl (List.mem_of_getElem? (i := 0) rfl))
      have N52 := Fr.snoc X52 N51 g_a1
      show own_Goes _ _ _ _ _ _ _ (T52.setTop (mkF m 26 #[.val (.ref a1)] []))
      refine own_Goes.via (B := T52.setTop (mkF m 27 #[.val (.ref a1)] [(.ref a1)])) (fun t k => ?_) ?_
      · show Steps p.tables e below (T52.setTop (mkF m 26 #[.val (.ref a1)] [])) t
        refine XS.aloadN X52.here hx rfl (hb hby dPayingPass_taken_26) rfl rfl ?_
        exact k
      obtain ⟨T53, X53, e53, st53⟩ := getF X52 hx hZ hown (host := "") (Or.inl (w10 hw)) Via.refl e52 F52_a1_taking (g := (mkF m 27 #[.val (.ref a1)] [(.ref a1)])) rfl rfl (hb hby dPayingPass_taken_27)
      refine own_Goes.via st53 ?_
      show own_Goes _ _ _ _ _ _ _ (T53.setTop (mkF m 30 #[.val (.ref a1)] [(.int (1 : Int32))]))
      obtain rfl : ((1 : Int32), f_a1_given, f_a1_placed, f_a1_probedEvery, (1 : Int32), x50) = r := Option.some.inj hF
      exact own_retN X53 hx (t := .boolean) hret hlk (by simp) (hb hby dPayingPass_taken_30) e53 (v := (1 : Int32)) (by decide) ⟨rfl, N52, K52_, E52_a1, F52_a1_given, F52_a1_placed, F52_a1_probedEvery, F52_a1_taking, F52_a1_untilProbed⟩ (by decide) (by decide)
    · rw [if_neg hc18] at hF
      refine own_Goes.via (B := T51.setTop (mkF m 27 #[.val (.ref a1)] [(.ref a1)])) (fun t k => ?_) ?_
      · show Steps p.tables e below (T51.setTop (mkF m 18 #[.val (.ref a1)] [(.int x50)])) t
        refine XS.ifYes X51.here hx rfl (pc0 := 18) (pc' := 26) rfl (hb hby dPayingPass_taken_18) rfl ((if0 _ _).trans (feq hc18).2) (by decide) (by decide) ?_
        show Steps p.tables e below (T51.setTop (mkF m 26 #[.val (.ref a1)] [])) t
        refine XS.aloadN X51.here hx rfl (hb hby dPayingPass_taken_26) rfl rfl ?_
        exact k
      obtain ⟨T54, X54, e54, st54⟩ := getF X51 hx hZ hown (host := "") (Or.inl (w10 hw)) Via.refl e51 F51_a1_taking (g := (mkF m 27 #[.val (.ref a1)] [(.ref a1)])) rfl rfl (hb hby dPayingPass_taken_27)
      refine own_Goes.via st54 ?_
      show own_Goes _ _ _ _ _ _ _ (T54.setTop (mkF m 30 #[.val (.ref a1)] [(.int f_a1_taking)]))
      obtain rfl : ((f_a1_taking &&& 1), f_a1_given, f_a1_placed, f_a1_probedEvery, f_a1_taking, x50) = r := Option.some.inj hF
      exact own_retN X54 hx (t := .boolean) hret hlk (by simp) (hb hby dPayingPass_taken_30) e54 (v := (f_a1_taking &&& 1)) rfl ⟨rfl, N51, K51_, E51_a1, F51_a1_given, F51_a1_placed, F51_a1_probedEvery, F51_a1_taking, F51_a1_untilProbed⟩ (by decide) (by decide)
  · rw [if_neg hc4] at hF
    refine own_Goes.via (B := T48.setTop (mkF m 23 #[.val (.ref a1)] [(.int (1 : Int32)), (.ref a1)])) (fun t k => ?_) ?_
    · show Steps p.tables e below (T48.setTop (mkF m 4 #[.val (.ref a1)] [(.int f_a1_taking)])) t
      refine XS.ifYes X48.here hx rfl (pc0 := 4) (pc' := 21) rfl (hb hby dPayingPass_taken_4) rfl ((if0 _ _).trans (feq hc4).2) (by decide) (by decide) ?_
      show Steps p.tables e below (T48.setTop (mkF m 21 #[.val (.ref a1)] [])) t
      refine XS.aloadN X48.here hx rfl (hb hby dPayingPass_taken_21) rfl rfl ?_
      show Steps p.tables e below (T48.setTop (mkF m 22 #[.val (.ref a1)] [(.ref a1)])) t
      refine XS.iconst X48.here hx rfl (hb hby dPayingPass_taken_22) ?_
      exact k
    obtain ⟨T55, h55, X55, e55, W55, st55⟩ := putFN X48 hx hZ hown (w10 hw) Via.refl e48 F_a1_taking E_a1 (Or.inl (w11 hw)) (w2 hw) (ty := .boolean) (v' := (.int (1 : Int32))) (by decide) rfl (by decide) (g := (mkF m 23 #[.val (.ref a1)] [(.int (1 : Int32)), (.ref a1)])) rfl rfl (hb hby dPayingPass_taken_23)
    refine own_Goes.via st55 ?_
    have E55_a1 := E_a1.wr W55
    have F55_a1_given := F_a1_given.other W55 (Or.inr (slot_ne (Or.inl (w25 hw)) (Or.inl (w11 hw)) (by decide) (t := .int) (t' := .boolean) (by decide) (by decide)))
    have F55_a1_placed := F_a1_placed.other W55 (Or.inr (slot_ne (Or.inl (w27 hw)) (Or.inl (w11 hw)) (by decide) (t := .int) (t' := .boolean) (by decide) (by decide)))
    have F55_a1_probedEvery := F_a1_probedEvery.other W55 (Or.inr (slot_ne (Or.inl (w13 hw)) (Or.inl (w11 hw)) (by decide) (t := .int) (t' := .boolean) (by decide) (by decide)))
    have F55_a1_untilProbed := F_a1_untilProbed.other W55 (Or.inr (slot_ne (Or.inl (w34 hw)) (Or.inl (w11 hw)) (by decide) (t := .int) (t' := .boolean) (by decide) (by decide)))
    have F55_a1_taking := F_a1_taking.same W55
    have z55 := Nat.le_trans z (Keep.of_wr W55).1
    have K55_ := K.wr W55 (Or.inl (List.mem_of_getElem? (i := 0) rfl))
    have N55 := Fr.snoc X55 N g_a1
    show own_Goes _ _ _ _ _ _ _ (T55.setTop (mkF m 26 #[.val (.ref a1)] []))
    refine own_Goes.via (B := T55.setTop (mkF m 27 #[.val (.ref a1)] [(.ref a1)])) (fun t k => ?_) ?_
    · show Steps p.tables e below (T55.setTop (mkF m 26 #[.val (.ref a1)] [])) t
      refine XS.aloadN X55.here hx rfl (hb hby dPayingPass_taken_26) rfl rfl ?_
      exact k
    obtain ⟨T56, X56, e56, st56⟩ := getF X55 hx hZ hown (host := "") (Or.inl (w10 hw)) Via.refl e55 F55_a1_taking (g := (mkF m 27 #[.val (.ref a1)] [(.ref a1)])) rfl rfl (hb hby dPayingPass_taken_27)
    refine own_Goes.via st56 ?_
    show own_Goes _ _ _ _ _ _ _ (T56.setTop (mkF m 30 #[.val (.ref a1)] [(.int (1 : Int32))]))
    obtain rfl : ((1 : Int32), f_a1_given, f_a1_placed, f_a1_probedEvery, (1 : Int32), f_a1_untilProbed) = r := Option.some.inj hF
    exact own_retN X56 hx (t := .boolean) hret hlk (by simp) (hb hby dPayingPass_taken_30) e56 (v := (1 : Int32)) (by decide) ⟨rfl, N55, K55_, E55_a1, F55_a1_given, F55_a1_placed, F55_a1_probedEvery, F55_a1_taking, F55_a1_untilProbed⟩ (by decide) (by decide)
theorem ef_PayingPass_taken (m : MethodId) (x0 : Addr) : entryFrame m #[(.ref x0)] 1 = mkF m 0 #[.val (.ref x0)] [] := by first | (simp [entryFrame, mkF, argsToLocals, Value.category]; done) | rfl
set_option maxRecDepth 65536 in
set_option maxHeartbeats 4000000 in
theorem rm_PayingPass_taken (l : Launch) (Z : State) (a0 : Array Value) (hw : ∀ d ∈ tables_1, d.before a0 Z = true) (ws : List Jvm.Cond) (hE : Heap) (n0 : Nat) (z : n0 ≤ hE.size) (a1 : Addr) (f_a1_given : Int32) (f_a1_placed : Int32) (f_a1_probedEvery : Int32) (f_a1_taking : Int32) (f_a1_untilProbed : Int32) (E_a1 : Exa Z hE a1 "tidemark/PayingPass") (F_a1_given : Fld Z hE a1 "tidemark/PayingPass" "given" "I" (.int f_a1_given)) (F_a1_placed : Fld Z hE a1 "tidemark/PayingPass" "placed" "I" (.int f_a1_placed)) (F_a1_probedEvery : Fld Z hE a1 "tidemark/PayingPass" "probedEvery" "I" (.int f_a1_probedEvery)) (F_a1_taking : Fld Z hE a1 "tidemark/PayingPass" "taking" "Z" (.int f_a1_taking)) (F_a1_untilProbed : Fld Z hE a1 "tidemark/PayingPass" "untilProbed" "I" (.int f_a1_untilProbed)) (g_a1 : n0 ≤ a1) (r : Int32 × Int32 × Int32 × Int32 × Int32 × Int32) (hF : (f_PayingPass_taken f_a1_given f_a1_placed f_a1_probedEvery f_a1_taking f_a1_untilProbed) = some r) :
    MetFree l (⟨"tidemark/PayingPass", "taken", "()Z"⟩ : MethodName) (head1 (Jvm.Cond.code (⟨"tidemark/PayingPass", "taken", "()Z"⟩ : MethodName) prog_33_method_3_code 1 (some .boolean) :: ws) ({ frames := 0, cells := 0, slots := 0, locals := 0 } : Room)) (fun a U => a = #[(.ref a1)] ∧ Z.Warmed39 U.vm ∧ U.heap = hE) (fun _ _ _ _ _ => True) (fun _ U o U' => ∃ v L, o = .returned v ∧ (Q_PayingPass_taken Z hE n0 a1 r) v U'.heap L ∧ FrameEnd U o U' L ({ frames := 0, cells := 0, slots := 0, locals := 0 } : Room).cells ({ frames := 0, cells := 0, slots := 0, locals := 0 } : Room).slots) := by
  refine MetFree.of_bodySF (plainFor_of_name pn_tidemark_PayingPass) hisR ?_
  intro p e s m args below meth c s₁ Bd hml0 hP hK
  obtain ⟨rfl, hZ, hh⟩ := hP
  have X0 : Stand p l e ({ frames := 0, cells := 0, slots := 0, locals := 0 } : Room) s m #[(.ref a1)] below meth c s₁ [] 0 0 := Stand.of_body Bd
  have e0 : s₁.heap = hE := by rw [← hh, Bd.state]; rfl
  have cx : Cx_PayingPass_taken p s m meth c Z a0 := ⟨Bd.exec, hZ, hw, Bd.bytes, hml0, findClass_of_methodNamed Bd.named, Bd.returns, Bd.notSynchronized, (name_of_methodNamed Bd.named Bd.method).1⟩
  show own_Goes p e below s (Q_PayingPass_taken Z hE n0 a1 r) ({ frames := 0, cells := 0, slots := 0, locals := 0 } : Room).cells ({ frames := 0, cells := 0, slots := 0, locals := 0 } : Room).slots (s₁.setTop (entryFrame m #[(.ref a1)] 1))
  rw [ef_PayingPass_taken]
  exact b_PayingPass_taken cx a1 X0 e0 (Fr.nil n0) (Keep.refl _ _) z f_a1_given f_a1_placed f_a1_probedEvery f_a1_taking f_a1_untilProbed E_a1 F_a1_given F_a1_placed F_a1_probedEvery F_a1_taking F_a1_untilProbed g_a1 _ hF
/-! java/lang/Math.min:(II)I -/
def f_Math_min (v0 : Int32) (v1 : Int32) : Option (Int32) :=
  if v1 < v0 then
    some v1
  else
    some v0
def Q_Math_min (Z : State) (hE : Heap) (n0 : Nat)  (r : Int32) (v : Option Value) (h : Heap) (L : List Loc) : Prop := v = some (.int r) ∧ Fr n0 L ∧ h = hE
def Cx_Math_min (p : Program) (s : State) (m : MethodId) (meth : Method) (c : Code) (Z : State) (a0 : Array Value) : Prop := p.tables.exec = Jvm.exec ∧ Z.Warmed39 s.vm ∧ (∀ d ∈ tables_1, d.before a0 Z = true) ∧ c.code = jdk_29_method_69_code ∧ c.maxLocals = 2 ∧ s.vm.findClass "java/lang/Math" = some m.cls ∧ meth.sig.returnType = some .int ∧ meth.locks = false ∧ meth.name = "min"
set_option maxRecDepth 65536 in
set_option maxHeartbeats 4000000 in
theorem b_Math_min {p : Program} {l : Launch} {e : Env} {s : State} {m : MethodId} {args : Array Value} {below : List Frame} {meth : Method} {c : Code} {Z : State} {a0 : Array Value} {n0 : Nat} {hE : Heap} (cx : Cx_Math_min p s m meth c Z a0) :
    ∀ {T : State} {locs : List Loc} (X : Stand p l e ({ frames := 0, cells := 0, slots := 0, locals := 0 } : Room) s m args below meth c T locs 0 0) (eT : T.heap = hE) (N : Fr n0 locs) (z : n0 ≤ hE.size) (v0 : Int32) (v1 : Int32) (r : Int32), f_Math_min v0 v1 = some r → own_Goes p e below s (Q_Math_min Z hE n0 r) 0 0 (T.setTop (mkF m 0 #[.val (.int v0), .val (.int v1)] [])) := by
  have cx' := cx
  obtain ⟨hx, hZ, hw, hby, hml, hown, hret, hlk, hnm⟩ := cx'
  intro T locs X eT N z v0 v1 r hF
  unfold f_Math_min at hF
  refine own_Goes.via (B := T.setTop (mkF m 2 #[.val (.int v0), .val (.int v1)] [(.int v1), (.int v0)])) (fun t k => ?_) ?_
  · show Steps p.tables e below (T.setTop (mkF m 0 #[.val (.int v0), .val (.int v1)] [])) t
    refine XS.iloadN X.here hx rfl (hb hby dMath_min_0) rfl ?_
    show Steps p.tables e below (T.setTop (mkF m 1 #[.val (.int v0), .val (.int v1)] [(.int v0)])) t
    refine XS.iloadN X.here hx rfl (hb hby dMath_min_1) rfl ?_
    exact k
  by_cases hc2 : v1 < v0
  · rw [if_pos hc2] at hF
    refine own_Goes.via (B := T.setTop (mkF m 10 #[.val (.int v0), .val (.int v1)] [(.int v1)])) (fun t k => ?_) ?_
    · show Steps p.tables e below (T.setTop (mkF m 2 #[.val (.int v0), .val (.int v1)] [(.int v1), (.int v0)])) t
      refine XS.icmpYes X.here hx rfl (pc0 := 2) (pc' := 9) rfl (hb hby dMath_min_2) rfl (tlt hc2).2.2.1 (by decide) (by decide) ?_
      show Steps p.tables e below (T.setTop (mkF m 9 #[.val (.int v0), .val (.int v1)] [])) t
      refine XS.iloadN X.here hx rfl (hb hby dMath_min_9) rfl ?_
      exact k
    obtain rfl : v1 = r := Option.some.inj hF
    exact own_retI X hx hret hlk (hb hby dMath_min_10) eT ⟨rfl, N, rfl⟩ (by decide) (by decide)
  · rw [if_neg hc2] at hF
    refine own_Goes.via (B := T.setTop (mkF m 10 #[.val (.int v0), .val (.int v1)] [(.int v0)])) (fun t k => ?_) ?_
    · show Steps p.tables e below (T.setTop (mkF m 2 #[.val (.int v0), .val (.int v1)] [(.int v1), (.int v0)])) t
      refine XS.icmpNo X.here hx rfl (hb hby dMath_min_2) rfl (flt hc2).2.2.1 ?_
      show Steps p.tables e below (T.setTop (mkF m 5 #[.val (.int v0), .val (.int v1)] [])) t
      refine XS.iloadN X.here hx rfl (hb hby dMath_min_5) rfl ?_
      show Steps p.tables e below (T.setTop (mkF m 6 #[.val (.int v0), .val (.int v1)] [(.int v0)])) t
      refine XS.goto X.here hx rfl (pc0 := 6) (pc' := 10) rfl (hb hby dMath_min_6) (by decide) (by decide) ?_
      exact k
    obtain rfl : v0 = r := Option.some.inj hF
    exact own_retI X hx hret hlk (hb hby dMath_min_10) eT ⟨rfl, N, rfl⟩ (by decide) (by decide)
theorem ef_Math_min (m : MethodId) (x0 : Int32) (x1 : Int32) : entryFrame m #[(.int x0), (.int x1)] 2 = mkF m 0 #[.val (.int x0), .val (.int x1)] [] := by first | (simp [entryFrame, mkF, argsToLocals, Value.category]; done) | rfl
set_option maxRecDepth 65536 in
set_option maxHeartbeats 4000000 in
theorem rm_Math_min (l : Launch) (Z : State) (a0 : Array Value) (hw : ∀ d ∈ tables_1, d.before a0 Z = true) (ws : List Jvm.Cond) (hE : Heap) (n0 : Nat) (z : n0 ≤ hE.size)  (v0 : Int32) (v1 : Int32) (r : Int32) (hF : (f_Math_min v0 v1) = some r) :
    MetFree l (⟨"java/lang/Math", "min", "(II)I"⟩ : MethodName) (head1 (Jvm.Cond.code (⟨"java/lang/Math", "min", "(II)I"⟩ : MethodName) jdk_29_method_69_code 2 (some .int) :: ws) ({ frames := 0, cells := 0, slots := 0, locals := 0 } : Room)) (fun a U => a = #[(.int v0), (.int v1)] ∧ Z.Warmed39 U.vm ∧ U.heap = hE) (fun _ _ _ _ _ => True) (fun _ U o U' => ∃ v L, o = .returned v ∧ (Q_Math_min Z hE n0 r) v U'.heap L ∧ FrameEnd U o U' L ({ frames := 0, cells := 0, slots := 0, locals := 0 } : Room).cells ({ frames := 0, cells := 0, slots := 0, locals := 0 } : Room).slots) := by
  refine MetFree.of_bodySF (Jvm.Free.JP.mathPlain rfl (by decide +kernel)) hisR ?_
  intro p e s m args below meth c s₁ Bd hml0 hP hK
  obtain ⟨rfl, hZ, hh⟩ := hP
  have X0 : Stand p l e ({ frames := 0, cells := 0, slots := 0, locals := 0 } : Room) s m #[(.int v0), (.int v1)] below meth c s₁ [] 0 0 := Stand.of_body Bd
  have e0 : s₁.heap = hE := by rw [← hh, Bd.state]; rfl
  have cx : Cx_Math_min p s m meth c Z a0 := ⟨Bd.exec, hZ, hw, Bd.bytes, hml0, findClass_of_methodNamed Bd.named, Bd.returns, Bd.notSynchronized, (name_of_methodNamed Bd.named Bd.method).1⟩
  show own_Goes p e below s (Q_Math_min Z hE n0 r) ({ frames := 0, cells := 0, slots := 0, locals := 0 } : Room).cells ({ frames := 0, cells := 0, slots := 0, locals := 0 } : Room).slots (s₁.setTop (entryFrame m #[(.int v0), (.int v1)] 2))
  rw [ef_Math_min]
  exact b_Math_min cx X0 e0 (Fr.nil n0) z v0 v1 _ hF
/-! tidemark/PayingPass.judge:(II)V -/
def f_PayingPass_judge_50 (t0 : Int32) (f_a1_given : Int32) (f_a1_placed : Int32) (f_a1_probedEvery : Int32) (f_a1_taking : Int32) (f_a1_untilProbed : Int32) : Option (Int32 × Int32 × Int32 × Int32 × Int32) :=
  if (t0 &&& 1) = (0 : Int32) then
    own_lt ((2 : Int32) * f_a1_probedEvery) fun x129 =>
    own_bd (f_Math_min x129 (4096 : Int32)) fun r130 =>
    some ((0 : Int32), (0 : Int32), r130, (t0 &&& 1), f_a1_probedEvery)
  else
    some ((0 : Int32), (0 : Int32), (64 : Int32), (t0 &&& 1), f_a1_untilProbed)
def f_PayingPass_judge (v1 : Int32) (v2 : Int32) (f_a1_given : Int32) (f_a1_placed : Int32) (f_a1_probedEvery : Int32) (f_a1_taking : Int32) (f_a1_untilProbed : Int32) : Option (Int32 × Int32 × Int32 × Int32 × Int32) :=
  own_lt (f_a1_given + v1) fun x138 =>
  own_lt (f_a1_placed + v2) fun x141 =>
  if x138 < (64 : Int32) then
    some (x138, x141, f_a1_probedEvery, f_a1_taking, f_a1_untilProbed)
  else
    if ((4 : Int32) * x141) < ((3 : Int32) * x138) then
      (f_PayingPass_judge_50 (0 : Int32) x138 x141 f_a1_probedEvery f_a1_taking f_a1_untilProbed)
    else
      (f_PayingPass_judge_50 (1 : Int32) x138 x141 f_a1_probedEvery f_a1_taking f_a1_untilProbed)
def Q_PayingPass_judge (Z : State) (hE : Heap) (n0 : Nat) (a1 : Addr) (r : Int32 × Int32 × Int32 × Int32 × Int32) (v : Option Value) (h : Heap) (L : List Loc) : Prop := v = none ∧ Fr n0 L ∧ Keep hE h [a1] ∧ Exa Z h a1 "tidemark/PayingPass" ∧ Fld Z h a1 "tidemark/PayingPass" "given" "I" (.int r.1) ∧ Fld Z h a1 "tidemark/PayingPass" "placed" "I" (.int r.2.1) ∧ Fld Z h a1 "tidemark/PayingPass" "probedEvery" "I" (.int r.2.2.1) ∧ Fld Z h a1 "tidemark/PayingPass" "taking" "Z" (.int r.2.2.2.1) ∧ Fld Z h a1 "tidemark/PayingPass" "untilProbed" "I" (.int r.2.2.2.2)
def Cx_PayingPass_judge (p : Program) (s : State) (m : MethodId) (meth : Method) (c : Code) (Z : State) (a0 : Array Value) : Prop := p.tables.exec = Jvm.exec ∧ Z.Warmed39 s.vm ∧ (∀ d ∈ tables_1, d.before a0 Z = true) ∧ c.code = prog_33_method_4_code ∧ c.maxLocals = 3 ∧ s.vm.findClass "tidemark/PayingPass" = some m.cls ∧ meth.sig.returnType = none ∧ meth.locks = false ∧ meth.name = "judge"
set_option maxRecDepth 65536 in
set_option maxHeartbeats 4000000 in
theorem b_PayingPass_judge_50 {p : Program} {l : Launch} {e : Env} {s : State} {m : MethodId} {args : Array Value} {below : List Frame} {meth : Method} {c : Code} {Z : State} {a0 : Array Value} {n0 : Nat} {hE : Heap} (cx : Cx_PayingPass_judge p s m meth c Z a0) (a1 : Addr) :
    ∀ {T : State} {locs : List Loc} {h : Heap} (X : Stand p l e ({ frames := 1, cells := 0, slots := 0, locals := 14 } : Room) s m args below meth c T locs 0 0) (eT : T.heap = h) (N : Fr n0 locs) (K : Keep hE h [a1]) (z : n0 ≤ h.size) (t0 : Int32) (f_a1_given : Int32) (f_a1_placed : Int32) (f_a1_probedEvery : Int32) (f_a1_taking : Int32) (f_a1_untilProbed : Int32) (d1 : Slot) (d2 : Slot) (o_d1 : One d1) (o_d2 : One d2) (E_a1 : Exa Z h a1 "tidemark/PayingPass") (F_a1_given : Fld Z h a1 "tidemark/PayingPass" "given" "I" (.int f_a1_given)) (F_a1_placed : Fld Z h a1 "tidemark/PayingPass" "placed" "I" (.int f_a1_placed)) (F_a1_probedEvery : Fld Z h a1 "tidemark/PayingPass" "probedEvery" "I" (.int f_a1_probedEvery)) (F_a1_taking : Fld Z h a1 "tidemark/PayingPass" "taking" "Z" (.int f_a1_taking)) (F_a1_untilProbed : Fld Z h a1 "tidemark/PayingPass" "untilProbed" "I" (.int f_a1_untilProbed)) (g_a1 : n0 ≤ a1) (r : Int32 × Int32 × Int32 × Int32 × Int32), f_PayingPass_judge_50 t0 f_a1_given f_a1_placed f_a1_probedEvery f_a1_taking f_a1_untilProbed = some r → own_Goes p e below s (Q_PayingPass_judge Z hE n0 a1 r) 0 0 (T.setTop (mkF m 50 #[.val (.ref a1), d1, d2] [(.int t0), (.ref a1)])) := by
  have cx' := cx
  obtain ⟨hx, hZ, hw, hby, hml, hown, hret, hlk, hnm⟩ := cx'
  intro T locs h X eT N K z t0 f_a1_given f_a1_placed f_a1_probedEvery f_a1_taking f_a1_untilProbed d1 d2 o_d1 o_d2 E_a1 F_a1_given F_a1_placed F_a1_probedEvery F_a1_taking F_a1_untilProbed g_a1 r hF
  unfold f_PayingPass_judge_50 at hF
  obtain ⟨T124, h124, X124, e124, W124, st124⟩ := putFN X hx hZ hown (w10 hw) Via.refl eT F_a1_taking E_a1 (Or.inl (w11 hw)) (w2 hw) (ty := .boolean) (v' := (.int (t0 &&& 1))) (by decide) rfl (fits_nar_bool _) (g := (mkF m 50 #[.val (.ref a1), d1, d2] [(.int t0), (.ref a1)])) rfl rfl (hb hby dPayingPass_judge_50)
  refine own_Goes.via st124 ?_
  have E124_a1 := E_a1.wr W124
  have F124_a1_given := F_a1_given.other W124 (Or.inr (slot_ne (Or.inl (w25 hw)) (Or.inl (w11 hw)) (by decide) (t := .int) (t' := .boolean) (by decide) (by decide)))
  have F124_a1_placed := F_a1_placed.other W124 (Or.inr (slot_ne (Or.inl (w27 hw)) (Or.inl (w11 hw)) (by decide) (t := .int) (t' := .boolean) (by decide) (by decide)))
  have F124_a1_probedEvery := F_a1_probedEvery.other W124 (Or.inr (slot_ne (Or.inl (w13 hw)) (Or.inl (w11 hw)) (by decide) (t := .int) (t' := .boolean) (by decide) (by decide)))
  have F124_a1_untilProbed := F_a1_untilProbed.other W124 (Or.inr (slot_ne (Or.inl (w34 hw)) (Or.inl (w11 hw)) (by decide) (t := .int) (t' := .boolean) (by decide) (by decide)))
  have F124_a1_taking := F_a1_taking.same W124
  have z124 := Nat.le_trans z (Keep.of_wr W124).1
  have K124_ := K.wr W124 (Or.inl (List.mem_of_getElem? (i := 0) rfl))
  have N124 := Fr.snoc X124 N g_a1
  show own_Goes _ _ _ _ _ _ _ (T124.setTop (mkF m 53 #[.val (.ref a1), d1, d2] []))
  refine own_Goes.via (B := T124.setTop (mkF m 54 #[.val (.ref a1), d1, d2] [(.ref a1)])) (fun t k => ?_) ?_
  · show Steps p.tables e below (T124.setTop (mkF m 53 #[.val (.ref a1), d1, d2] [])) t
    refine XS.aloadN X124.here hx rfl (hb hby dPayingPass_judge_53) rfl rfl ?_
    exact k
  obtain ⟨T125, X125, e125, st125⟩ := getF X124 hx hZ hown (host := "") (Or.inl (w10 hw)) Via.refl e124 F124_a1_taking (g := (mkF m 54 #[.val (.ref a1), d1, d2] [(.ref a1)])) rfl rfl (hb hby dPayingPass_judge_54)
  refine own_Goes.via st125 ?_
  show own_Goes _ _ _ _ _ _ _ (T125.setTop (mkF m 57 #[.val (.ref a1), d1, d2] [(.int (t0 &&& 1))]))
  by_cases hc57 : (t0 &&& 1) = (0 : Int32)
  · rw [if_pos hc57] at hF
    refine own_Goes.via (B := T125.setTop (mkF m 71 #[.val (.ref a1), d1, d2] [(.ref a1), (.ref a1)])) (fun t k => ?_) ?_
    · show Steps p.tables e below (T125.setTop (mkF m 57 #[.val (.ref a1), d1, d2] [(.int (t0 &&& 1))])) t
      refine XS.ifYes X125.here hx rfl (pc0 := 57) (pc' := 69) rfl (hb hby dPayingPass_judge_57) rfl ((if0 _ _).trans (teq hc57).1) (by decide) (by decide) ?_
      show Steps p.tables e below (T125.setTop (mkF m 69 #[.val (.ref a1), d1, d2] [])) t
      refine XS.aloadN X125.here hx rfl (hb hby dPayingPass_judge_69) rfl rfl ?_
      show Steps p.tables e below (T125.setTop (mkF m 70 #[.val (.ref a1), d1, d2] [(.ref a1)])) t
      refine XS.aloadN X125.here hx rfl (hb hby dPayingPass_judge_70) rfl rfl ?_
      exact k
    obtain ⟨T126, X126, e126, st126⟩ := getF X125 hx hZ hown (host := "") (Or.inl (w12 hw)) Via.refl e125 F124_a1_probedEvery (g := (mkF m 71 #[.val (.ref a1), d1, d2] [(.ref a1), (.ref a1)])) rfl rfl (hb hby dPayingPass_judge_71)
    refine own_Goes.via st126 ?_
    show own_Goes _ _ _ _ _ _ _ (T126.setTop (mkF m 74 #[.val (.ref a1), d1, d2] [(.int f_a1_probedEvery), (.ref a1)]))
    obtain ⟨T127, h127, X127, e127, W127, st127⟩ := putF X126 hx hZ hown (host := "") (Or.inl (w33 hw)) Via.refl e126 F124_a1_untilProbed E124_a1 (Or.inl (w34 hw)) (w2 hw) (ty := .int) (by decide) rfl rfl (g := (mkF m 74 #[.val (.ref a1), d1, d2] [(.int f_a1_probedEvery), (.ref a1)])) rfl rfl (hb hby dPayingPass_judge_74)
    refine own_Goes.via st127 ?_
    have E127_a1 := E124_a1.wr W127
    have F127_a1_given := F124_a1_given.other W127 (Or.inr (slot_ne (Or.inl (w25 hw)) (Or.inl (w34 hw)) (by decide) (t := .int) (t' := .int) (by decide) (by decide)))
    have F127_a1_placed := F124_a1_placed.other W127 (Or.inr (slot_ne (Or.inl (w27 hw)) (Or.inl (w34 hw)) (by decide) (t := .int) (t' := .int) (by decide) (by decide)))
    have F127_a1_probedEvery := F124_a1_probedEvery.other W127 (Or.inr (slot_ne (Or.inl (w13 hw)) (Or.inl (w34 hw)) (by decide) (t := .int) (t' := .int) (by decide) (by decide)))
    have F127_a1_taking := F124_a1_taking.other W127 (Or.inr (slot_ne (Or.inl (w11 hw)) (Or.inl (w34 hw)) (by decide) (t := .boolean) (t' := .int) (by decide) (by decide)))
    have F127_a1_untilProbed := F124_a1_untilProbed.same W127
    have z127 := Nat.le_trans z124 (Keep.of_wr W127).1
    have K127_ := K124_.wr W127 (Or.inl (List.mem_of_getElem? (i := 0) rfl))
    have N127 := Fr.snoc X127 N124 g_a1
    show own_Goes _ _ _ _ _ _ _ (T127.setTop (mkF m 77 #[.val (.ref a1), d1, d2] []))
    refine own_Goes.via (B := T127.setTop (mkF m 80 #[.val (.ref a1), d1, d2] [(.ref a1), (.int (2 : Int32)), (.ref a1)])) (fun t k => ?_) ?_
    · show Steps p.tables e below (T127.setTop (mkF m 77 #[.val (.ref a1), d1, d2] [])) t
      refine XS.aloadN X127.here hx rfl (hb hby dPayingPass_judge_77) rfl rfl ?_
      show Steps p.tables e below (T127.setTop (mkF m 78 #[.val (.ref a1), d1, d2] [(.ref a1)])) t
      refine XS.iconst X127.here hx rfl (hb hby dPayingPass_judge_78) ?_
      show Steps p.tables e below (T127.setTop (mkF m 79 #[.val (.ref a1), d1, d2] [(.int (2 : Int32)), (.ref a1)])) t
      refine XS.aloadN X127.here hx rfl (hb hby dPayingPass_judge_79) rfl rfl ?_
      exact k
    obtain ⟨T128, X128, e128, st128⟩ := getF X127 hx hZ hown (host := "") (Or.inl (w12 hw)) Via.refl e127 F127_a1_probedEvery (g := (mkF m 80 #[.val (.ref a1), d1, d2] [(.ref a1), (.int (2 : Int32)), (.ref a1)])) rfl rfl (hb hby dPayingPass_judge_80)
    refine own_Goes.via st128 ?_
    show own_Goes _ _ _ _ _ _ _ (T128.setTop (mkF m 83 #[.val (.ref a1), d1, d2] [(.int f_a1_probedEvery), (.int (2 : Int32)), (.ref a1)]))
    refine own_Goes.via (B := T128.setTop (mkF m 87 #[.val (.ref a1), d1, d2] [(.int (4096 : Int32)), (.int ((2 : Int32) * f_a1_probedEvery)), (.ref a1)])) (fun t k => ?_) ?_
    · show Steps p.tables e below (T128.setTop (mkF m 83 #[.val (.ref a1), d1, d2] [(.int f_a1_probedEvery), (.int (2 : Int32)), (.ref a1)])) t
      refine XS.imul X128.here hx rfl (hb hby dPayingPass_judge_83) rfl ?_
      show Steps p.tables e below (T128.setTop (mkF m 84 #[.val (.ref a1), d1, d2] [(.int ((2 : Int32) * f_a1_probedEvery)), (.ref a1)])) t
      refine XS.sipush X128.here hx rfl (hb hby dPayingPass_judge_84) ?_
      exact k
    obtain ⟨x129, hx129, hF⟩ := own_lt_e hF
    rw [← hx129]
    obtain ⟨r130, hr130, hF⟩ := own_bd_e hF
    obtain ⟨_, _, ⟨T130, L130, k130, n130⟩, -, X130, ⟨Lc130, hQ130, l130, y130, z130⟩, st130⟩ := Jvm.LawKit.callS X128 hx (y := (⟨"java/lang/Math", "min", "(II)I"⟩ : MethodName)) hown (mvT hZ (w35 hw)) (mvT hZ (w36 hw)) (mvT hZ (w37 hw)) (mvT hZ (w38 hw)) (by decide) (backOf (W := 1) (rm_Math_min l Z a0 hw [] h127 n0 z127 x129 (4096 : Int32) r130 hr130) hZ (w38 hw) (w37 hw) (by decide) (by decide)) (g := (mkF m 87 #[.val (.ref a1), d1, d2] [(.int (4096 : Int32)), (.int x129), (.ref a1)])) rfl (by rw [hml]; rfl) (argsL := [(.int x129), (.int (4096 : Int32))]) (rest := [(.ref a1)]) (lenOf pd_2 rfl) rfl (by show 2 * 0 + _ ≤ _; exact Nat.le_of_eq rfl) (hb hby dPayingPass_judge_87) (fun _ _ => ⟨rfl, e128, (by decide : 0 + 0 ≤ _), (by decide : 0 + 0 ≤ _)⟩)
    dsimp only [Pt.U, Pt.locs, Pt.cells, Pt.slots] at X130 l130 y130 z130 st130 hQ130
    subst l130 y130 z130
    obtain ⟨rfl, N130q, e130⟩ := hQ130
    have N130 := Fr.app N127 N130q
    refine own_Goes.via st130 ?_
    show own_Goes _ _ _ _ _ _ _ (T130.setTop (mkF m 90 #[.val (.ref a1), d1, d2] [(.int r130), (.ref a1)]))
    obtain ⟨T131, h131, X131, e131, W131, st131⟩ := putF X130 hx hZ hown (host := "") (Or.inl (w12 hw)) Via.refl e130 F127_a1_probedEvery E127_a1 (Or.inl (w13 hw)) (w2 hw) (ty := .int) (by decide) rfl rfl (g := (mkF m 90 #[.val (.ref a1), d1, d2] [(.int r130), (.ref a1)])) rfl rfl (hb hby dPayingPass_judge_90)
    refine own_Goes.via st131 ?_
    have E131_a1 := E127_a1.wr W131
    have F131_a1_given := F127_a1_given.other W131 (Or.inr (slot_ne (Or.inl (w25 hw)) (Or.inl (w13 hw)) (by decide) (t := .int) (t' := .int) (by decide) (by decide)))
    have F131_a1_placed := F127_a1_placed.other W131 (Or.inr (slot_ne (Or.inl (w27 hw)) (Or.inl (w13 hw)) (by decide) (t := .int) (t' := .int) (by decide) (by decide)))
    have F131_a1_taking := F127_a1_taking.other W131 (Or.inr (slot_ne (Or.inl (w11 hw)) (Or.inl (w13 hw)) (by decide) (t := .boolean) (t' := .int) (by decide) (by decide)))
    have F131_a1_untilProbed := F127_a1_untilProbed.other W131 (Or.inr (slot_ne (Or.inl (w34 hw)) (Or.inl (w13 hw)) (by decide) (t := .int) (t' := .int) (by decide) (by decide)))
    have F131_a1_probedEvery := F127_a1_probedEvery.same W131
    have z131 := Nat.le_trans z127 (Keep.of_wr W131).1
    have K131_ := K127_.wr W131 (Or.inl (List.mem_of_getElem? (i := 0) rfl))
    have N131 := Fr.snoc X131 N130 g_a1
    show own_Goes _ _ _ _ _ _ _ (T131.setTop (mkF m 93 #[.val (.ref a1), d1, d2] []))
    refine own_Goes.via (B := T131.setTop (mkF m 95 #[.val (.ref a1), d1, d2] [(.int (0 : Int32)), (.ref a1)])) (fun t k => ?_) ?_
    · show Steps p.tables e below (T131.setTop (mkF m 93 #[.val (.ref a1), d1, d2] [])) t
      refine XS.aloadN X131.here hx rfl (hb hby dPayingPass_judge_93) rfl rfl ?_
      show Steps p.tables e below (T131.setTop (mkF m 94 #[.val (.ref a1), d1, d2] [(.ref a1)])) t
      refine XS.iconst X131.here hx rfl (hb hby dPayingPass_judge_94) ?_
      exact k
    obtain ⟨T132, h132, X132, e132, W132, st132⟩ := putF X131 hx hZ hown (host := "") (Or.inl (w24 hw)) Via.refl e131 F131_a1_given E131_a1 (Or.inl (w25 hw)) (w2 hw) (ty := .int) (by decide) rfl rfl (g := (mkF m 95 #[.val (.ref a1), d1, d2] [(.int (0 : Int32)), (.ref a1)])) rfl rfl (hb hby dPayingPass_judge_95)
    refine own_Goes.via st132 ?_
    have E132_a1 := E131_a1.wr W132
    have F132_a1_placed := F131_a1_placed.other W132 (Or.inr (slot_ne (Or.inl (w27 hw)) (Or.inl (w25 hw)) (by decide) (t := .int) (t' := .int) (by decide) (by decide)))
    have F132_a1_probedEvery := F131_a1_probedEvery.other W132 (Or.inr (slot_ne (Or.inl (w13 hw)) (Or.inl (w25 hw)) (by decide) (t := .int) (t' := .int) (by decide) (by decide)))
    have F132_a1_taking := F131_a1_taking.other W132 (Or.inr (slot_ne (Or.inl (w11 hw)) (Or.inl (w25 hw)) (by decide) (t := .boolean) (t' := .int) (by decide) (by decide)))
    have F132_a1_untilProbed := F131_a1_untilProbed.other W132 (Or.inr (slot_ne (Or.inl (w34 hw)) (Or.inl (w25 hw)) (by decide) (t := .int) (t' := .int) (by decide) (by decide)))
    have F132_a1_given := F131_a1_given.same W132
    have z132 := Nat.le_trans z131 (Keep.of_wr W132).1
    have K132_ := K131_.wr W132 (Or.inl (List.mem_of_getElem? (i := 0) rfl))
    have N132 := Fr.snoc X132 N131 g_a1
    show own_Goes _ _ _ _ _ _ _ (T132.setTop (mkF m 98 #[.val (.ref a1), d1, d2] []))
    refine own_Goes.via (B := T132.setTop (mkF m 100 #[.val (.ref a1), d1, d2] [(.int (0 : Int32)), (.ref a1)])) (fun t k => ?_) ?_
    · show Steps p.tables e below (T132.setTop (mkF m 98 #[.val (.ref a1), d1, d2] [])) t
      refine XS.aloadN X132.here hx rfl (hb hby dPayingPass_judge_98) rfl rfl ?_
      show Steps p.tables e below (T132.setTop (mkF m 99 #[.val (.ref a1), d1, d2] [(.ref a1)])) t
      refine XS.iconst X132.here hx rfl (hb hby dPayingPass_judge_99) ?_
      exact k
    obtain ⟨T133, h133, X133, e133, W133, st133⟩ := putF X132 hx hZ hown (host := "") (Or.inl (w26 hw)) Via.refl e132 F132_a1_placed E132_a1 (Or.inl (w27 hw)) (w2 hw) (ty := .int) (by decide) rfl rfl (g := (mkF m 100 #[.val (.ref a1), d1, d2] [(.int (0 : Int32)), (.ref a1)])) rfl rfl (hb hby dPayingPass_judge_100)
    refine own_Goes.via st133 ?_
    have E133_a1 := E132_a1.wr W133
    have F133_a1_given := F132_a1_given.other W133 (Or.inr (slot_ne (Or.inl (w25 hw)) (Or.inl (w27 hw)) (by decide) (t := .int) (t' := .int) (by decide) (by decide)))
    have F133_a1_probedEvery := F132_a1_probedEvery.other W133 (Or.inr (slot_ne (Or.inl (w13 hw)) (Or.inl (w27 hw)) (by decide) (t := .int) (t' := .int) (by decide) (by decide)))
    have F133_a1_taking := F132_a1_taking.other W133 (Or.inr (slot_ne (Or.inl (w11 hw)) (Or.inl (w27 hw)) (by decide) (t := .boolean) (t' := .int) (by decide) (by decide)))
    have F133_a1_untilProbed := F132_a1_untilProbed.other W133 (Or.inr (slot_ne (Or.inl (w34 hw)) (Or.inl (w27 hw)) (by decide) (t := .int) (t' := .int) (by decide) (by decide)))
    have F133_a1_placed := F132_a1_placed.same W133
    have z133 := Nat.le_trans z132 (Keep.of_wr W133).1
    have K133_ := K132_.wr W133 (Or.inl (List.mem_of_getElem? (i := 0) rfl))
    have N133 := Fr.snoc X133 N132 g_a1
    show own_Goes _ _ _ _ _ _ _ (T133.setTop (mkF m 103 #[.val (.ref a1), d1, d2] []))
    obtain rfl : ((0 : Int32), (0 : Int32), r130, (t0 &&& 1), f_a1_probedEvery) = r := Option.some.inj hF
    exact own_retV X133 hx hret hlk (hb hby dPayingPass_judge_103) e133 ⟨rfl, N133, K133_, E133_a1, F133_a1_given, F133_a1_placed, F133_a1_probedEvery, F133_a1_taking, F133_a1_untilProbed⟩ (by decide) (by decide)
  · rw [if_neg hc57] at hF
    refine own_Goes.via (B := T125.setTop (mkF m 63 #[.val (.ref a1), d1, d2] [(.int (64 : Int32)), (.ref a1)])) (fun t k => ?_) ?_
    · show Steps p.tables e below (T125.setTop (mkF m 57 #[.val (.ref a1), d1, d2] [(.int (t0 &&& 1))])) t
      refine XS.ifNo X125.here hx rfl (hb hby dPayingPass_judge_57) rfl ((if0 _ _).trans (feq hc57).1) ?_
      show Steps p.tables e below (T125.setTop (mkF m 60 #[.val (.ref a1), d1, d2] [])) t
      refine XS.aloadN X125.here hx rfl (hb hby dPayingPass_judge_60) rfl rfl ?_
      show Steps p.tables e below (T125.setTop (mkF m 61 #[.val (.ref a1), d1, d2] [(.ref a1)])) t
      refine XS.bipush X125.here hx rfl (hb hby dPayingPass_judge_61) ?_
      exact k
    obtain ⟨T134, h134, X134, e134, W134, st134⟩ := putF X125 hx hZ hown (host := "") (Or.inl (w12 hw)) Via.refl e125 F124_a1_probedEvery E124_a1 (Or.inl (w13 hw)) (w2 hw) (ty := .int) (by decide) rfl rfl (g := (mkF m 63 #[.val (.ref a1), d1, d2] [(.int (64 : Int32)), (.ref a1)])) rfl rfl (hb hby dPayingPass_judge_63)
    refine own_Goes.via st134 ?_
    have E134_a1 := E124_a1.wr W134
    have F134_a1_given := F124_a1_given.other W134 (Or.inr (slot_ne (Or.inl (w25 hw)) (Or.inl (w13 hw)) (by decide) (t := .int) (t' := .int) (by decide) (by decide)))
    have F134_a1_placed := F124_a1_placed.other W134 (Or.inr (slot_ne (Or.inl (w27 hw)) (Or.inl (w13 hw)) (by decide) (t := .int) (t' := .int) (by decide) (by decide)))
    have F134_a1_taking := F124_a1_taking.other W134 (Or.inr (slot_ne (Or.inl (w11 hw)) (Or.inl (w13 hw)) (by decide) (t := .boolean) (t' := .int) (by decide) (by decide)))
    have F134_a1_untilProbed := F124_a1_untilProbed.other W134 (Or.inr (slot_ne (Or.inl (w34 hw)) (Or.inl (w13 hw)) (by decide) (t := .int) (t' := .int) (by decide) (by decide)))
    have F134_a1_probedEvery := F124_a1_probedEvery.same W134
    have z134 := Nat.le_trans z124 (Keep.of_wr W134).1
    have K134_ := K124_.wr W134 (Or.inl (List.mem_of_getElem? (i := 0) rfl))
    have N134 := Fr.snoc X134 N124 g_a1
    show own_Goes _ _ _ _ _ _ _ (T134.setTop (mkF m 66 #[.val (.ref a1), d1, d2] []))
    refine own_Goes.via (B := T134.setTop (mkF m 95 #[.val (.ref a1), d1, d2] [(.int (0 : Int32)), (.ref a1)])) (fun t k => ?_) ?_
    · show Steps p.tables e below (T134.setTop (mkF m 66 #[.val (.ref a1), d1, d2] [])) t
      refine XS.goto X134.here hx rfl (pc0 := 66) (pc' := 93) rfl (hb hby dPayingPass_judge_66) (by decide) (by decide) ?_
      show Steps p.tables e below (T134.setTop (mkF m 93 #[.val (.ref a1), d1, d2] [])) t
      refine XS.aloadN X134.here hx rfl (hb hby dPayingPass_judge_93) rfl rfl ?_
      show Steps p.tables e below (T134.setTop (mkF m 94 #[.val (.ref a1), d1, d2] [(.ref a1)])) t
      refine XS.iconst X134.here hx rfl (hb hby dPayingPass_judge_94) ?_
      exact k
    obtain ⟨T135, h135, X135, e135, W135, st135⟩ := putF X134 hx hZ hown (host := "") (Or.inl (w24 hw)) Via.refl e134 F134_a1_given E134_a1 (Or.inl (w25 hw)) (w2 hw) (ty := .int) (by decide) rfl rfl (g := (mkF m 95 #[.val (.ref a1), d1, d2] [(.int (0 : Int32)), (.ref a1)])) rfl rfl (hb hby dPayingPass_judge_95)
    refine own_Goes.via st135 ?_
    have E135_a1 := E134_a1.wr W135
    have F135_a1_placed := F134_a1_placed.other W135 (Or.inr (slot_ne (Or.inl (w27 hw)) (Or.inl (w25 hw)) (by decide) (t := .int) (t' := .int) (by decide) (by decide)))
    have F135_a1_probedEvery := F134_a1_probedEvery.other W135 (Or.inr (slot_ne (Or.inl (w13 hw)) (Or.inl (w25 hw)) (by decide) (t := .int) (t' := .int) (by decide) (by decide)))
    have F135_a1_taking := F134_a1_taking.other W135 (Or.inr (slot_ne (Or.inl (w11 hw)) (Or.inl (w25 hw)) (by decide) (t := .boolean) (t' := .int) (by decide) (by decide)))
    have F135_a1_untilProbed := F134_a1_untilProbed.other W135 (Or.inr (slot_ne (Or.inl (w34 hw)) (Or.inl (w25 hw)) (by decide) (t := .int) (t' := .int) (by decide) (by decide)))
    have F135_a1_given := F134_a1_given.same W135
    have z135 := Nat.le_trans z134 (Keep.of_wr W135).1
    have K135_ := K134_.wr W135 (Or.inl (List.mem_of_getElem? (i := 0) rfl))
    have N135 := Fr.snoc X135 N134 g_a1
    show own_Goes _ _ _ _ _ _ _ (T135.setTop (mkF m 98 #[.val (.ref a1), d1, d2] []))
    refine own_Goes.via (B := T135.setTop (mkF m 100 #[.val (.ref a1), d1, d2] [(.int (0 : Int32)), (.ref a1)])) (fun t k => ?_) ?_
    · show Steps p.tables e below (T135.setTop (mkF m 98 #[.val (.ref a1), d1, d2] [])) t
      refine XS.aloadN X135.here hx rfl (hb hby dPayingPass_judge_98) rfl rfl ?_
      show Steps p.tables e below (T135.setTop (mkF m 99 #[.val (.ref a1), d1, d2] [(.ref a1)])) t
      refine XS.iconst X135.here hx rfl (hb hby dPayingPass_judge_99) ?_
      exact k
    obtain ⟨T136, h136, X136, e136, W136, st136⟩ := putF X135 hx hZ hown (host := "") (Or.inl (w26 hw)) Via.refl e135 F135_a1_placed E135_a1 (Or.inl (w27 hw)) (w2 hw) (ty := .int) (by decide) rfl rfl (g := (mkF m 100 #[.val (.ref a1), d1, d2] [(.int (0 : Int32)), (.ref a1)])) rfl rfl (hb hby dPayingPass_judge_100)
    refine own_Goes.via st136 ?_
    have E136_a1 := E135_a1.wr W136
    have F136_a1_given := F135_a1_given.other W136 (Or.inr (slot_ne (Or.inl (w25 hw)) (Or.inl (w27 hw)) (by decide) (t := .int) (t' := .int) (by decide) (by decide)))
    have F136_a1_probedEvery := F135_a1_probedEvery.other W136 (Or.inr (slot_ne (Or.inl (w13 hw)) (Or.inl (w27 hw)) (by decide) (t := .int) (t' := .int) (by decide) (by decide)))
    have F136_a1_taking := F135_a1_taking.other W136 (Or.inr (slot_ne (Or.inl (w11 hw)) (Or.inl (w27 hw)) (by decide) (t := .boolean) (t' := .int) (by decide) (by decide)))
    have F136_a1_untilProbed := F135_a1_untilProbed.other W136 (Or.inr (slot_ne (Or.inl (w34 hw)) (Or.inl (w27 hw)) (by decide) (t := .int) (t' := .int) (by decide) (by decide)))
    have F136_a1_placed := F135_a1_placed.same W136
    have z136 := Nat.le_trans z135 (Keep.of_wr W136).1
    have K136_ := K135_.wr W136 (Or.inl (List.mem_of_getElem? (i := 0) rfl))
    have N136 := Fr.snoc X136 N135 g_a1
    show own_Goes _ _ _ _ _ _ _ (T136.setTop (mkF m 103 #[.val (.ref a1), d1, d2] []))
    obtain rfl : ((0 : Int32), (0 : Int32), (64 : Int32), (t0 &&& 1), f_a1_untilProbed) = r := Option.some.inj hF
    exact own_retV X136 hx hret hlk (hb hby dPayingPass_judge_103) e136 ⟨rfl, N136, K136_, E136_a1, F136_a1_given, F136_a1_placed, F136_a1_probedEvery, F136_a1_taking, F136_a1_untilProbed⟩ (by decide) (by decide)
set_option maxRecDepth 65536 in
set_option maxHeartbeats 4000000 in
theorem b_PayingPass_judge {p : Program} {l : Launch} {e : Env} {s : State} {m : MethodId} {args : Array Value} {below : List Frame} {meth : Method} {c : Code} {Z : State} {a0 : Array Value} {n0 : Nat} {hE : Heap} (cx : Cx_PayingPass_judge p s m meth c Z a0) (a1 : Addr) :
    ∀ {T : State} {locs : List Loc} {h : Heap} (X : Stand p l e ({ frames := 1, cells := 0, slots := 0, locals := 14 } : Room) s m args below meth c T locs 0 0) (eT : T.heap = h) (N : Fr n0 locs) (K : Keep hE h [a1]) (z : n0 ≤ h.size) (v1 : Int32) (v2 : Int32) (f_a1_given : Int32) (f_a1_placed : Int32) (f_a1_probedEvery : Int32) (f_a1_taking : Int32) (f_a1_untilProbed : Int32) (E_a1 : Exa Z h a1 "tidemark/PayingPass") (F_a1_given : Fld Z h a1 "tidemark/PayingPass" "given" "I" (.int f_a1_given)) (F_a1_placed : Fld Z h a1 "tidemark/PayingPass" "placed" "I" (.int f_a1_placed)) (F_a1_probedEvery : Fld Z h a1 "tidemark/PayingPass" "probedEvery" "I" (.int f_a1_probedEvery)) (F_a1_taking : Fld Z h a1 "tidemark/PayingPass" "taking" "Z" (.int f_a1_taking)) (F_a1_untilProbed : Fld Z h a1 "tidemark/PayingPass" "untilProbed" "I" (.int f_a1_untilProbed)) (g_a1 : n0 ≤ a1) (r : Int32 × Int32 × Int32 × Int32 × Int32), f_PayingPass_judge v1 v2 f_a1_given f_a1_placed f_a1_probedEvery f_a1_taking f_a1_untilProbed = some r → own_Goes p e below s (Q_PayingPass_judge Z hE n0 a1 r) 0 0 (T.setTop (mkF m 0 #[.val (.ref a1), .val (.int v1), .val (.int v2)] [])) := by
  have cx' := cx
  obtain ⟨hx, hZ, hw, hby, hml, hown, hret, hlk, hnm⟩ := cx'
  intro T locs h X eT N K z v1 v2 f_a1_given f_a1_placed f_a1_probedEvery f_a1_taking f_a1_untilProbed E_a1 F_a1_given F_a1_placed F_a1_probedEvery F_a1_taking F_a1_untilProbed g_a1 r hF
  unfold f_PayingPass_judge at hF
  refine own_Goes.via (B := T.setTop (mkF m 2 #[.val (.ref a1), .val (.int v1), .val (.int v2)] [(.ref a1), (.ref a1)])) (fun t k => ?_) ?_
  · show Steps p.tables e below (T.setTop (mkF m 0 #[.val (.ref a1), .val (.int v1), .val (.int v2)] [])) t
    refine XS.aloadN X.here hx rfl (hb hby dPayingPass_judge_0) rfl rfl ?_
    show Steps p.tables e below (T.setTop (mkF m 1 #[.val (.ref a1), .val (.int v1), .val (.int v2)] [(.ref a1)])) t
    refine XS.dup X.here hx rfl (hb hby dPayingPass_judge_1) rfl rfl ?_
    exact k
  obtain ⟨T137, X137, e137, st137⟩ := getF X hx hZ hown (host := "") (Or.inl (w24 hw)) Via.refl eT F_a1_given (g := (mkF m 2 #[.val (.ref a1), .val (.int v1), .val (.int v2)] [(.ref a1), (.ref a1)])) rfl rfl (hb hby dPayingPass_judge_2)
  refine own_Goes.via st137 ?_
  show own_Goes _ _ _ _ _ _ _ (T137.setTop (mkF m 5 #[.val (.ref a1), .val (.int v1), .val (.int v2)] [(.int f_a1_given), (.ref a1)]))
  refine own_Goes.via (B := T137.setTop (mkF m 7 #[.val (.ref a1), .val (.int v1), .val (.int v2)] [(.int (f_a1_given + v1)), (.ref a1)])) (fun t k => ?_) ?_
  · show Steps p.tables e below (T137.setTop (mkF m 5 #[.val (.ref a1), .val (.int v1), .val (.int v2)] [(.int f_a1_given), (.ref a1)])) t
    refine XS.iloadN X137.here hx rfl (hb hby dPayingPass_judge_5) rfl ?_
    show Steps p.tables e below (T137.setTop (mkF m 6 #[.val (.ref a1), .val (.int v1), .val (.int v2)] [(.int v1), (.int f_a1_given), (.ref a1)])) t
    refine XS.iadd X137.here hx rfl (hb hby dPayingPass_judge_6) rfl ?_
    exact k
  obtain ⟨x138, hx138, hF⟩ := own_lt_e hF
  rw [← hx138]
  obtain ⟨T139, h139, X139, e139, W139, st139⟩ := putF X137 hx hZ hown (host := "") (Or.inl (w24 hw)) Via.refl e137 F_a1_given E_a1 (Or.inl (w25 hw)) (w2 hw) (ty := .int) (by decide) rfl rfl (g := (mkF m 7 #[.val (.ref a1), .val (.int v1), .val (.int v2)] [(.int x138), (.ref a1)])) rfl rfl (hb hby dPayingPass_judge_7)
  refine own_Goes.via st139 ?_
  have E139_a1 := E_a1.wr W139
  have F139_a1_placed := F_a1_placed.other W139 (Or.inr (slot_ne (Or.inl (w27 hw)) (Or.inl (w25 hw)) (by decide) (t := .int) (t' := .int) (by decide) (by decide)))
  have F139_a1_probedEvery := F_a1_probedEvery.other W139 (Or.inr (slot_ne (Or.inl (w13 hw)) (Or.inl (w25 hw)) (by decide) (t := .int) (t' := .int) (by decide) (by decide)))
  have F139_a1_taking := F_a1_taking.other W139 (Or.inr (slot_ne (Or.inl (w11 hw)) (Or.inl (w25 hw)) (by decide) (t := .boolean) (t' := .int) (by decide) (by decide)))
  have F139_a1_untilProbed := F_a1_untilProbed.other W139 (Or.inr (slot_ne (Or.inl (w34 hw)) (Or.inl (w25 hw)) (by decide) (t := .int) (t' := .int) (by decide) (by decide)))
  have F139_a1_given := F_a1_given.same W139
  have z139 := Nat.le_trans z (Keep.of_wr W139).1
  have K139_ := K.wr W139 (Or.inl (List.mem_of_getElem? (i := 0) rfl))
  have N139 := Fr.snoc X139 N g_a1
  show own_Goes _ _ _ _ _ _ _ (T139.setTop (mkF m 10 #[.val (.ref a1), .val (.int v1), .val (.int v2)] []))
  refine own_Goes.via (B := T139.setTop (mkF m 12 #[.val (.ref a1), .val (.int v1), .val (.int v2)] [(.ref a1), (.ref a1)])) (fun t k => ?_) ?_
  · show Steps p.tables e below (T139.setTop (mkF m 10 #[.val (.ref a1), .val (.int v1), .val (.int v2)] [])) t
    refine XS.aloadN X139.here hx rfl (hb hby dPayingPass_judge_10) rfl rfl ?_
    show Steps p.tables e below (T139.setTop (mkF m 11 #[.val (.ref a1), .val (.int v1), .val (.int v2)] [(.ref a1)])) t
    refine XS.dup X139.here hx rfl (hb hby dPayingPass_judge_11) rfl rfl ?_
    exact k
  obtain ⟨T140, X140, e140, st140⟩ := getF X139 hx hZ hown (host := "") (Or.inl (w26 hw)) Via.refl e139 F139_a1_placed (g := (mkF m 12 #[.val (.ref a1), .val (.int v1), .val (.int v2)] [(.ref a1), (.ref a1)])) rfl rfl (hb hby dPayingPass_judge_12)
  refine own_Goes.via st140 ?_
  show own_Goes _ _ _ _ _ _ _ (T140.setTop (mkF m 15 #[.val (.ref a1), .val (.int v1), .val (.int v2)] [(.int f_a1_placed), (.ref a1)]))
  refine own_Goes.via (B := T140.setTop (mkF m 17 #[.val (.ref a1), .val (.int v1), .val (.int v2)] [(.int (f_a1_placed + v2)), (.ref a1)])) (fun t k => ?_) ?_
  · show Steps p.tables e below (T140.setTop (mkF m 15 #[.val (.ref a1), .val (.int v1), .val (.int v2)] [(.int f_a1_placed), (.ref a1)])) t
    refine XS.iloadN X140.here hx rfl (hb hby dPayingPass_judge_15) rfl ?_
    show Steps p.tables e below (T140.setTop (mkF m 16 #[.val (.ref a1), .val (.int v1), .val (.int v2)] [(.int v2), (.int f_a1_placed), (.ref a1)])) t
    refine XS.iadd X140.here hx rfl (hb hby dPayingPass_judge_16) rfl ?_
    exact k
  obtain ⟨x141, hx141, hF⟩ := own_lt_e hF
  rw [← hx141]
  obtain ⟨T142, h142, X142, e142, W142, st142⟩ := putF X140 hx hZ hown (host := "") (Or.inl (w26 hw)) Via.refl e140 F139_a1_placed E139_a1 (Or.inl (w27 hw)) (w2 hw) (ty := .int) (by decide) rfl rfl (g := (mkF m 17 #[.val (.ref a1), .val (.int v1), .val (.int v2)] [(.int x141), (.ref a1)])) rfl rfl (hb hby dPayingPass_judge_17)
  refine own_Goes.via st142 ?_
  have E142_a1 := E139_a1.wr W142
  have F142_a1_given := F139_a1_given.other W142 (Or.inr (slot_ne (Or.inl (w25 hw)) (Or.inl (w27 hw)) (by decide) (t := .int) (t' := .int) (by decide) (by decide)))
  have F142_a1_probedEvery := F139_a1_probedEvery.other W142 (Or.inr (slot_ne (Or.inl (w13 hw)) (Or.inl (w27 hw)) (by decide) (t := .int) (t' := .int) (by decide) (by decide)))
  have F142_a1_taking := F139_a1_taking.other W142 (Or.inr (slot_ne (Or.inl (w11 hw)) (Or.inl (w27 hw)) (by decide) (t := .boolean) (t' := .int) (by decide) (by decide)))
  have F142_a1_untilProbed := F139_a1_untilProbed.other W142 (Or.inr (slot_ne (Or.inl (w34 hw)) (Or.inl (w27 hw)) (by decide) (t := .int) (t' := .int) (by decide) (by decide)))
  have F142_a1_placed := F139_a1_placed.same W142
  have z142 := Nat.le_trans z139 (Keep.of_wr W142).1
  have K142_ := K139_.wr W142 (Or.inl (List.mem_of_getElem? (i := 0) rfl))
  have N142 := Fr.snoc X142 N139 g_a1
  show own_Goes _ _ _ _ _ _ _ (T142.setTop (mkF m 20 #[.val (.ref a1), .val (.int v1), .val (.int v2)] []))
  refine own_Goes.via (B := T142.setTop (mkF m 21 #[.val (.ref a1), .val (.int v1), .val (.int v2)] [(.ref a1)])) (fun t k => ?_) ?_
  · show Steps p.tables e below (T142.setTop (mkF m 20 #[.val (.ref a1), .val (.int v1), .val (.int v2)] [])) t
    refine XS.aloadN X142.here hx rfl (hb hby dPayingPass_judge_20) rfl rfl ?_
    exact k
  obtain ⟨T143, X143, e143, st143⟩ := getF X142 hx hZ hown (host := "") (Or.inl (w24 hw)) Via.refl e142 F142_a1_given (g := (mkF m 21 #[.val (.ref a1), .val (.int v1), .val (.int v2)] [(.ref a1)])) rfl rfl (hb hby dPayingPass_judge_21)
  refine own_Goes.via st143 ?_
  show own_Goes _ _ _ _ _ _ _ (T143.setTop (mkF m 24 #[.val (.ref a1), .val (.int v1), .val (.int v2)] [(.int x138)]))
  refine own_Goes.via (B := T143.setTop (mkF m 26 #[.val (.ref a1), .val (.int v1), .val (.int v2)] [(.int (64 : Int32)), (.int x138)])) (fun t k => ?_) ?_
  · show Steps p.tables e below (T143.setTop (mkF m 24 #[.val (.ref a1), .val (.int v1), .val (.int v2)] [(.int x138)])) t
    refine XS.bipush X143.here hx rfl (hb hby dPayingPass_judge_24) ?_
    exact k
  by_cases hc26 : x138 < (64 : Int32)
  · rw [if_pos hc26] at hF
    refine own_Goes.via (B := T143.setTop (mkF m 103 #[.val (.ref a1), .val (.int v1), .val (.int v2)] [])) (fun t k => ?_) ?_
    · show Steps p.tables e below (T143.setTop (mkF m 26 #[.val (.ref a1), .val (.int v1), .val (.int v2)] [(.int (64 : Int32)), (.int x138)])) t
      refine XS.icmpYes X143.here hx rfl (pc0 := 26) (pc' := 103) rfl (hb hby dPayingPass_judge_26) rfl (tlt hc26).1 (by decide) (by decide) ?_
      exact k
    obtain rfl : (x138, x141, f_a1_probedEvery, f_a1_taking, f_a1_untilProbed) = r := Option.some.inj hF
    exact own_retV X143 hx hret hlk (hb hby dPayingPass_judge_103) e143 ⟨rfl, N142, K142_, E142_a1, F142_a1_given, F142_a1_placed, F142_a1_probedEvery, F142_a1_taking, F142_a1_untilProbed⟩ (by decide) (by decide)
  · rw [if_neg hc26] at hF
    refine own_Goes.via (B := T143.setTop (mkF m 32 #[.val (.ref a1), .val (.int v1), .val (.int v2)] [(.ref a1), (.int (4 : Int32)), (.ref a1)])) (fun t k => ?_) ?_
    · show Steps p.tables e below (T143.setTop (mkF m 26 #[.val (.ref a1), .val (.int v1), .val (.int v2)] [(.int (64 : Int32)), (.int x138)])) t
      refine XS.icmpNo X143.here hx rfl (hb hby dPayingPass_judge_26) rfl (flt hc26).1 ?_
      show Steps p.tables e below (T143.setTop (mkF m 29 #[.val (.ref a1), .val (.int v1), .val (.int v2)] [])) t
      refine XS.aloadN X143.here hx rfl (hb hby dPayingPass_judge_29) rfl rfl ?_
      show Steps p.tables e below (T143.setTop (mkF m 30 #[.val (.ref a1), .val (.int v1), .val (.int v2)] [(.ref a1)])) t
      refine XS.iconst X143.here hx rfl (hb hby dPayingPass_judge_30) ?_
      show Steps p.tables e below (T143.setTop (mkF m 31 #[.val (.ref a1), .val (.int v1), .val (.int v2)] [(.int (4 : Int32)), (.ref a1)])) t
      refine XS.aloadN X143.here hx rfl (hb hby dPayingPass_judge_31) rfl rfl ?_
      exact k
    obtain ⟨T144, X144, e144, st144⟩ := getF X143 hx hZ hown (host := "") (Or.inl (w26 hw)) Via.refl e143 F142_a1_placed (g := (mkF m 32 #[.val (.ref a1), .val (.int v1), .val (.int v2)] [(.ref a1), (.int (4 : Int32)), (.ref a1)])) rfl rfl (hb hby dPayingPass_judge_32)
    refine own_Goes.via st144 ?_
    show own_Goes _ _ _ _ _ _ _ (T144.setTop (mkF m 35 #[.val (.ref a1), .val (.int v1), .val (.int v2)] [(.int x141), (.int (4 : Int32)), (.ref a1)]))
    refine own_Goes.via (B := T144.setTop (mkF m 38 #[.val (.ref a1), .val (.int v1), .val (.int v2)] [(.ref a1), (.int (3 : Int32)), (.int ((4 : Int32) * x141)), (.ref a1)])) (fun t k => ?_) ?_
    · show Steps p.tables e below (T144.setTop (mkF m 35 #[.val (.ref a1), .val (.int v1), .val (.int v2)] [(.int x141), (.int (4 : Int32)), (.ref a1)])) t
      refine XS.imul X144.here hx rfl (hb hby dPayingPass_judge_35) rfl ?_
      show Steps p.tables e below (T144.setTop (mkF m 36 #[.val (.ref a1), .val (.int v1), .val (.int v2)] [(.int ((4 : Int32) * x141)), (.ref a1)])) t
      refine XS.iconst X144.here hx rfl (hb hby dPayingPass_judge_36) ?_
      show Steps p.tables e below (T144.setTop (mkF m 37 #[.val (.ref a1), .val (.int v1), .val (.int v2)] [(.int (3 : Int32)), (.int ((4 : Int32) * x141)), (.ref a1)])) t
      refine XS.aloadN X144.here hx rfl (hb hby dPayingPass_judge_37) rfl rfl ?_
      exact k
    obtain ⟨T145, X145, e145, st145⟩ := getF X144 hx hZ hown (host := "") (Or.inl (w24 hw)) Via.refl e144 F142_a1_given (g := (mkF m 38 #[.val (.ref a1), .val (.int v1), .val (.int v2)] [(.ref a1), (.int (3 : Int32)), (.int ((4 : Int32) * x141)), (.ref a1)])) rfl rfl (hb hby dPayingPass_judge_38)
    refine own_Goes.via st145 ?_
    show own_Goes _ _ _ _ _ _ _ (T145.setTop (mkF m 41 #[.val (.ref a1), .val (.int v1), .val (.int v2)] [(.int x138), (.int (3 : Int32)), (.int ((4 : Int32) * x141)), (.ref a1)]))
    refine own_Goes.via (B := T145.setTop (mkF m 42 #[.val (.ref a1), .val (.int v1), .val (.int v2)] [(.int ((3 : Int32) * x138)), (.int ((4 : Int32) * x141)), (.ref a1)])) (fun t k => ?_) ?_
    · show Steps p.tables e below (T145.setTop (mkF m 41 #[.val (.ref a1), .val (.int v1), .val (.int v2)] [(.int x138), (.int (3 : Int32)), (.int ((4 : Int32) * x141)), (.ref a1)])) t
      refine XS.imul X145.here hx rfl (hb hby dPayingPass_judge_41) rfl ?_
      exact k
    by_cases hc42 : ((4 : Int32) * x141) < ((3 : Int32) * x138)
    · rw [if_pos hc42] at hF
      refine own_Goes.via (B := T145.setTop (mkF m 50 #[.val (.ref a1), .val (.int v1), .val (.int v2)] [(.int (0 : Int32)), (.ref a1)])) (fun t k => ?_) ?_
      · show Steps p.tables e below (T145.setTop (mkF m 42 #[.val (.ref a1), .val (.int v1), .val (.int v2)] [(.int ((3 : Int32) * x138)), (.int ((4 : Int32) * x141)), (.ref a1)])) t
        refine XS.icmpYes X145.here hx rfl (pc0 := 42) (pc' := 49) rfl (hb hby dPayingPass_judge_42) rfl (tlt hc42).1 (by decide) (by decide) ?_
        show Steps p.tables e below (T145.setTop (mkF m 49 #[.val (.ref a1), .val (.int v1), .val (.int v2)] [(.ref a1)])) t
        refine XS.iconst X145.here hx rfl (hb hby dPayingPass_judge_49) ?_
        exact k
      exact b_PayingPass_judge_50 cx a1 X145 e145 N142 K142_ z142 (0 : Int32) x138 x141 f_a1_probedEvery f_a1_taking f_a1_untilProbed (.val (.int v1)) (.val (.int v2)) (One.val rfl) (One.val rfl) E142_a1 F142_a1_given F142_a1_placed F142_a1_probedEvery F142_a1_taking F142_a1_untilProbed g_a1 _ hF
    · rw [if_neg hc42] at hF
      refine own_Goes.via (B := T145.setTop (mkF m 50 #[.val (.ref a1), .val (.int v1), .val (.int v2)] [(.int (1 : Int32)), (.ref a1)])) (fun t k => ?_) ?_
      · show Steps p.tables e below (T145.setTop (mkF m 42 #[.val (.ref a1), .val (.int v1), .val (.int v2)] [(.int ((3 : Int32) * x138)), (.int ((4 : Int32) * x141)), (.ref a1)])) t
        refine XS.icmpNo X145.here hx rfl (hb hby dPayingPass_judge_42) rfl (flt hc42).1 ?_
        show Steps p.tables e below (T145.setTop (mkF m 45 #[.val (.ref a1), .val (.int v1), .val (.int v2)] [(.ref a1)])) t
        refine XS.iconst X145.here hx rfl (hb hby dPayingPass_judge_45) ?_
        show Steps p.tables e below (T145.setTop (mkF m 46 #[.val (.ref a1), .val (.int v1), .val (.int v2)] [(.int (1 : Int32)), (.ref a1)])) t
        refine XS.goto X145.here hx rfl (pc0 := 46) (pc' := 50) rfl (hb hby dPayingPass_judge_46) (by decide) (by decide) ?_
        exact k
      exact b_PayingPass_judge_50 cx a1 X145 e145 N142 K142_ z142 (1 : Int32) x138 x141 f_a1_probedEvery f_a1_taking f_a1_untilProbed (.val (.int v1)) (.val (.int v2)) (One.val rfl) (One.val rfl) E142_a1 F142_a1_given F142_a1_placed F142_a1_probedEvery F142_a1_taking F142_a1_untilProbed g_a1 _ hF
theorem ef_PayingPass_judge (m : MethodId) (x0 : Addr) (x1 : Int32) (x2 : Int32) : entryFrame m #[(.ref x0), (.int x1), (.int x2)] 3 = mkF m 0 #[.val (.ref x0), .val (.int x1), .val (.int x2)] [] := by first | (simp [entryFrame, mkF, argsToLocals, Value.category]; done) | rfl
set_option maxRecDepth 65536 in
set_option maxHeartbeats 4000000 in
theorem rm_PayingPass_judge (l : Launch) (Z : State) (a0 : Array Value) (hw : ∀ d ∈ tables_1, d.before a0 Z = true) (ws : List Jvm.Cond) (hE : Heap) (n0 : Nat) (z : n0 ≤ hE.size) (a1 : Addr) (v1 : Int32) (v2 : Int32) (f_a1_given : Int32) (f_a1_placed : Int32) (f_a1_probedEvery : Int32) (f_a1_taking : Int32) (f_a1_untilProbed : Int32) (E_a1 : Exa Z hE a1 "tidemark/PayingPass") (F_a1_given : Fld Z hE a1 "tidemark/PayingPass" "given" "I" (.int f_a1_given)) (F_a1_placed : Fld Z hE a1 "tidemark/PayingPass" "placed" "I" (.int f_a1_placed)) (F_a1_probedEvery : Fld Z hE a1 "tidemark/PayingPass" "probedEvery" "I" (.int f_a1_probedEvery)) (F_a1_taking : Fld Z hE a1 "tidemark/PayingPass" "taking" "Z" (.int f_a1_taking)) (F_a1_untilProbed : Fld Z hE a1 "tidemark/PayingPass" "untilProbed" "I" (.int f_a1_untilProbed)) (g_a1 : n0 ≤ a1) (r : Int32 × Int32 × Int32 × Int32 × Int32) (hF : (f_PayingPass_judge v1 v2 f_a1_given f_a1_placed f_a1_probedEvery f_a1_taking f_a1_untilProbed) = some r) :
    MetFree l (⟨"tidemark/PayingPass", "judge", "(II)V"⟩ : MethodName) (head1 (Jvm.Cond.code (⟨"tidemark/PayingPass", "judge", "(II)V"⟩ : MethodName) prog_33_method_4_code 3 none :: ws) ({ frames := 1, cells := 0, slots := 0, locals := 14 } : Room)) (fun a U => a = #[(.ref a1), (.int v1), (.int v2)] ∧ Z.Warmed39 U.vm ∧ U.heap = hE) (fun _ _ _ _ _ => True) (fun _ U o U' => ∃ v L, o = .returned v ∧ (Q_PayingPass_judge Z hE n0 a1 r) v U'.heap L ∧ FrameEnd U o U' L ({ frames := 1, cells := 0, slots := 0, locals := 14 } : Room).cells ({ frames := 1, cells := 0, slots := 0, locals := 14 } : Room).slots) := by
  refine MetFree.of_bodySF (plainFor_of_name pn_tidemark_PayingPass) hisR ?_
  intro p e s m args below meth c s₁ Bd hml0 hP hK
  obtain ⟨rfl, hZ, hh⟩ := hP
  have X0 : Stand p l e ({ frames := 1, cells := 0, slots := 0, locals := 14 } : Room) s m #[(.ref a1), (.int v1), (.int v2)] below meth c s₁ [] 0 0 := Stand.of_body Bd
  have e0 : s₁.heap = hE := by rw [← hh, Bd.state]; rfl
  have cx : Cx_PayingPass_judge p s m meth c Z a0 := ⟨Bd.exec, hZ, hw, Bd.bytes, hml0, findClass_of_methodNamed Bd.named, Bd.returns, Bd.notSynchronized, (name_of_methodNamed Bd.named Bd.method).1⟩
  show own_Goes p e below s (Q_PayingPass_judge Z hE n0 a1 r) ({ frames := 1, cells := 0, slots := 0, locals := 14 } : Room).cells ({ frames := 1, cells := 0, slots := 0, locals := 14 } : Room).slots (s₁.setTop (entryFrame m #[(.ref a1), (.int v1), (.int v2)] 3))
  rw [ef_PayingPass_judge]
  exact b_PayingPass_judge cx a1 X0 e0 (Fr.nil n0) (Keep.refl _ _) z v1 v2 f_a1_given f_a1_placed f_a1_probedEvery f_a1_taking f_a1_untilProbed E_a1 F_a1_given F_a1_placed F_a1_probedEvery F_a1_taking F_a1_untilProbed g_a1 _ hF
/-! tidemark/PayingPass.pays:()Z -/
def f_PayingPass_pays (f_a1_given : Int32) (f_a1_placed : Int32) (f_a1_probedEvery : Int32) (f_a1_taking : Int32) (f_a1_untilProbed : Int32) : Option (Int32) :=
  some (f_a1_taking &&& 1)
def Q_PayingPass_pays (Z : State) (hE : Heap) (n0 : Nat) (a1 : Addr) (r : Int32) (v : Option Value) (h : Heap) (L : List Loc) : Prop := v = some (.int r) ∧ Fr n0 L ∧ h = hE
def Cx_PayingPass_pays (p : Program) (s : State) (m : MethodId) (meth : Method) (c : Code) (Z : State) (a0 : Array Value) : Prop := p.tables.exec = Jvm.exec ∧ Z.Warmed39 s.vm ∧ (∀ d ∈ tables_1, d.before a0 Z = true) ∧ c.code = prog_33_method_2_code ∧ c.maxLocals = 1 ∧ s.vm.findClass "tidemark/PayingPass" = some m.cls ∧ meth.sig.returnType = some .boolean ∧ meth.locks = false ∧ meth.name = "pays"
set_option maxRecDepth 65536 in
set_option maxHeartbeats 4000000 in
theorem b_PayingPass_pays {p : Program} {l : Launch} {e : Env} {s : State} {m : MethodId} {args : Array Value} {below : List Frame} {meth : Method} {c : Code} {Z : State} {a0 : Array Value} {n0 : Nat} {hE : Heap} (cx : Cx_PayingPass_pays p s m meth c Z a0) (a1 : Addr) :
    ∀ {T : State} {locs : List Loc} (X : Stand p l e ({ frames := 0, cells := 0, slots := 0, locals := 0 } : Room) s m args below meth c T locs 0 0) (eT : T.heap = hE) (N : Fr n0 locs) (z : n0 ≤ hE.size) (f_a1_given : Int32) (f_a1_placed : Int32) (f_a1_probedEvery : Int32) (f_a1_taking : Int32) (f_a1_untilProbed : Int32) (E_a1 : Exa Z hE a1 "tidemark/PayingPass") (F_a1_given : Fld Z hE a1 "tidemark/PayingPass" "given" "I" (.int f_a1_given)) (F_a1_placed : Fld Z hE a1 "tidemark/PayingPass" "placed" "I" (.int f_a1_placed)) (F_a1_probedEvery : Fld Z hE a1 "tidemark/PayingPass" "probedEvery" "I" (.int f_a1_probedEvery)) (F_a1_taking : Fld Z hE a1 "tidemark/PayingPass" "taking" "Z" (.int f_a1_taking)) (F_a1_untilProbed : Fld Z hE a1 "tidemark/PayingPass" "untilProbed" "I" (.int f_a1_untilProbed)) (g_a1 : n0 ≤ a1) (r : Int32), f_PayingPass_pays f_a1_given f_a1_placed f_a1_probedEvery f_a1_taking f_a1_untilProbed = some r → own_Goes p e below s (Q_PayingPass_pays Z hE n0 a1 r) 0 0 (T.setTop (mkF m 0 #[.val (.ref a1)] [])) := by
  have cx' := cx
  obtain ⟨hx, hZ, hw, hby, hml, hown, hret, hlk, hnm⟩ := cx'
  intro T locs X eT N z f_a1_given f_a1_placed f_a1_probedEvery f_a1_taking f_a1_untilProbed E_a1 F_a1_given F_a1_placed F_a1_probedEvery F_a1_taking F_a1_untilProbed g_a1 r hF
  unfold f_PayingPass_pays at hF
  refine own_Goes.via (B := T.setTop (mkF m 1 #[.val (.ref a1)] [(.ref a1)])) (fun t k => ?_) ?_
  · show Steps p.tables e below (T.setTop (mkF m 0 #[.val (.ref a1)] [])) t
    refine XS.aloadN X.here hx rfl (hb hby dPayingPass_pays_0) rfl rfl ?_
    exact k
  obtain ⟨T156, X156, e156, st156⟩ := getF X hx hZ hown (host := "") (Or.inl (w10 hw)) Via.refl eT F_a1_taking (g := (mkF m 1 #[.val (.ref a1)] [(.ref a1)])) rfl rfl (hb hby dPayingPass_pays_1)
  refine own_Goes.via st156 ?_
  show own_Goes _ _ _ _ _ _ _ (T156.setTop (mkF m 4 #[.val (.ref a1)] [(.int f_a1_taking)]))
  obtain rfl : (f_a1_taking &&& 1) = r := Option.some.inj hF
  exact own_retN X156 hx (t := .boolean) hret hlk (by simp) (hb hby dPayingPass_pays_4) e156 (v := (f_a1_taking &&& 1)) rfl ⟨rfl, N, rfl⟩ (by decide) (by decide)
theorem ef_PayingPass_pays (m : MethodId) (x0 : Addr) : entryFrame m #[(.ref x0)] 1 = mkF m 0 #[.val (.ref x0)] [] := by first | (simp [entryFrame, mkF, argsToLocals, Value.category]; done) | rfl
set_option maxRecDepth 65536 in
set_option maxHeartbeats 4000000 in
theorem rm_PayingPass_pays (l : Launch) (Z : State) (a0 : Array Value) (hw : ∀ d ∈ tables_1, d.before a0 Z = true) (ws : List Jvm.Cond) (hE : Heap) (n0 : Nat) (z : n0 ≤ hE.size) (a1 : Addr) (f_a1_given : Int32) (f_a1_placed : Int32) (f_a1_probedEvery : Int32) (f_a1_taking : Int32) (f_a1_untilProbed : Int32) (E_a1 : Exa Z hE a1 "tidemark/PayingPass") (F_a1_given : Fld Z hE a1 "tidemark/PayingPass" "given" "I" (.int f_a1_given)) (F_a1_placed : Fld Z hE a1 "tidemark/PayingPass" "placed" "I" (.int f_a1_placed)) (F_a1_probedEvery : Fld Z hE a1 "tidemark/PayingPass" "probedEvery" "I" (.int f_a1_probedEvery)) (F_a1_taking : Fld Z hE a1 "tidemark/PayingPass" "taking" "Z" (.int f_a1_taking)) (F_a1_untilProbed : Fld Z hE a1 "tidemark/PayingPass" "untilProbed" "I" (.int f_a1_untilProbed)) (g_a1 : n0 ≤ a1) (r : Int32) (hF : (f_PayingPass_pays f_a1_given f_a1_placed f_a1_probedEvery f_a1_taking f_a1_untilProbed) = some r) :
    MetFree l (⟨"tidemark/PayingPass", "pays", "()Z"⟩ : MethodName) (head1 (Jvm.Cond.code (⟨"tidemark/PayingPass", "pays", "()Z"⟩ : MethodName) prog_33_method_2_code 1 (some .boolean) :: ws) ({ frames := 0, cells := 0, slots := 0, locals := 0 } : Room)) (fun a U => a = #[(.ref a1)] ∧ Z.Warmed39 U.vm ∧ U.heap = hE) (fun _ _ _ _ _ => True) (fun _ U o U' => ∃ v L, o = .returned v ∧ (Q_PayingPass_pays Z hE n0 a1 r) v U'.heap L ∧ FrameEnd U o U' L ({ frames := 0, cells := 0, slots := 0, locals := 0 } : Room).cells ({ frames := 0, cells := 0, slots := 0, locals := 0 } : Room).slots) := by
  refine MetFree.of_bodySF (plainFor_of_name pn_tidemark_PayingPass) hisR ?_
  intro p e s m args below meth c s₁ Bd hml0 hP hK
  obtain ⟨rfl, hZ, hh⟩ := hP
  have X0 : Stand p l e ({ frames := 0, cells := 0, slots := 0, locals := 0 } : Room) s m #[(.ref a1)] below meth c s₁ [] 0 0 := Stand.of_body Bd
  have e0 : s₁.heap = hE := by rw [← hh, Bd.state]; rfl
  have cx : Cx_PayingPass_pays p s m meth c Z a0 := ⟨Bd.exec, hZ, hw, Bd.bytes, hml0, findClass_of_methodNamed Bd.named, Bd.returns, Bd.notSynchronized, (name_of_methodNamed Bd.named Bd.method).1⟩
  show own_Goes p e below s (Q_PayingPass_pays Z hE n0 a1 r) ({ frames := 0, cells := 0, slots := 0, locals := 0 } : Room).cells ({ frames := 0, cells := 0, slots := 0, locals := 0 } : Room).slots (s₁.setTop (entryFrame m #[(.ref a1)] 1))
  rw [ef_PayingPass_pays]
  exact b_PayingPass_pays cx a1 X0 e0 (Fr.nil n0) z f_a1_given f_a1_placed f_a1_probedEvery f_a1_taking f_a1_untilProbed E_a1 F_a1_given F_a1_placed F_a1_probedEvery F_a1_taking F_a1_untilProbed g_a1 _ hF
/-! tidemark/PayingPassTakenPinLaw.law:(IIII)Z -/
def f_law_256 (v13 : Int32) (t0 : Int32) (t1 : Int32) (f_b1_given : Int32) (f_b1_placed : Int32) (f_b1_probedEvery : Int32) (f_b1_taking : Int32) (f_b1_untilProbed : Int32) : Option (Int32) :=
  own_lt (t1 &&& t0) fun x221 =>
  own_bd (f_PayingPass_pays f_b1_given f_b1_placed f_b1_probedEvery f_b1_taking f_b1_untilProbed) fun r222 =>
  if r222 = v13 then
    own_lt (x221 &&& (1 : Int32)) fun x223 =>
    some (x223 &&& 1)
  else
    own_lt (x221 &&& (0 : Int32)) fun x224 =>
    some (x224 &&& 1)
def f_law_227 (v6 : Int32) (v7 : Int32) (v13 : Int32) (t0 : Int32) (t1 : Int32) (f_b1_given : Int32) (f_b1_placed : Int32) (f_b1_probedEvery : Int32) (f_b1_taking : Int32) (f_b1_untilProbed : Int32) : Option (Int32) :=
  own_lt (t1 &&& t0) fun x225 =>
  own_bd (f_PayingPass_judge v6 v7 f_b1_given f_b1_placed f_b1_probedEvery f_b1_taking f_b1_untilProbed) fun r226 =>
  own_bd (f_PayingPass_taken r226.1 r226.2.1 r226.2.2.1 r226.2.2.2.1 r226.2.2.2.2) fun r227 =>
  if r227.1 = v13 then
    (f_law_256 v13 (1 : Int32) x225 r227.2.1 r227.2.2.1 r227.2.2.2.1 r227.2.2.2.2.1 r227.2.2.2.2.2)
  else
    (f_law_256 v13 (0 : Int32) x225 r227.2.1 r227.2.2.1 r227.2.2.2.1 r227.2.2.2.2.1 r227.2.2.2.2.2)
def f_law_187 (v6 : Int32) (v7 : Int32) (v8 : Int32) (v13 : Int32) (t0 : Int32) (t1 : Int32) (f_b1_given : Int32) (f_b1_placed : Int32) (f_b1_probedEvery : Int32) (f_b1_taking : Int32) (f_b1_untilProbed : Int32) : Option (Int32) :=
  own_lt (t1 &&& t0) fun x230 =>
  own_bd (f_PayingPass_taken f_b1_given f_b1_placed f_b1_probedEvery f_b1_taking f_b1_untilProbed) fun r231 =>
  if r231.1 = v8 then
    own_lt (x230 &&& (1 : Int32)) fun x232 =>
    own_bd (f_PayingPass_pays r231.2.1 r231.2.2.1 r231.2.2.2.1 r231.2.2.2.2.1 r231.2.2.2.2.2) fun r233 =>
    if r233 = v8 then
      (f_law_227 v6 v7 v13 (1 : Int32) x232 r231.2.1 r231.2.2.1 r231.2.2.2.1 r231.2.2.2.2.1 r231.2.2.2.2.2)
    else
      (f_law_227 v6 v7 v13 (0 : Int32) x232 r231.2.1 r231.2.2.1 r231.2.2.2.1 r231.2.2.2.2.1 r231.2.2.2.2.2)
  else
    own_lt (x230 &&& (0 : Int32)) fun x234 =>
    own_bd (f_PayingPass_pays r231.2.1 r231.2.2.1 r231.2.2.2.1 r231.2.2.2.2.1 r231.2.2.2.2.2) fun r235 =>
    if r235 = v8 then
      (f_law_227 v6 v7 v13 (1 : Int32) x234 r231.2.1 r231.2.2.1 r231.2.2.2.1 r231.2.2.2.2.1 r231.2.2.2.2.2)
    else
      (f_law_227 v6 v7 v13 (0 : Int32) x234 r231.2.1 r231.2.2.1 r231.2.2.2.1 r231.2.2.2.2.1 r231.2.2.2.2.2)
def f_law_125 (v4 : Int32) (v5 : Int32) (v6 : Int32) (v7 : Int32) (v8 : Int32) (v13 : Int32) : Option (Int32) :=
  own_bd (f_PayingPass_mk (0 : Int32) (0 : Int32) (0 : Int32) (0 : Int32) (0 : Int32)) fun r239 =>
  own_bd (f_PayingPass_taken r239.1 r239.2.1 r239.2.2.1 r239.2.2.2.1 r239.2.2.2.2) fun r240 =>
  own_bd (f_PayingPass_judge v4 v5 r240.2.1 r240.2.2.1 r240.2.2.2.1 r240.2.2.2.2.1 r240.2.2.2.2.2) fun r241 =>
  own_bd (f_PayingPass_taken r241.1 r241.2.1 r241.2.2.1 r241.2.2.2.1 r241.2.2.2.2) fun r242 =>
  if r242.1 = v8 then
    own_lt (r240.1 &&& (1 : Int32)) fun x243 =>
    own_bd (f_PayingPass_taken r242.2.1 r242.2.2.1 r242.2.2.2.1 r242.2.2.2.2.1 r242.2.2.2.2.2) fun r244 =>
    if r244.1 = v8 then
      (f_law_187 v6 v7 v8 v13 (1 : Int32) x243 r244.2.1 r244.2.2.1 r244.2.2.2.1 r244.2.2.2.2.1 r244.2.2.2.2.2)
    else
      (f_law_187 v6 v7 v8 v13 (0 : Int32) x243 r244.2.1 r244.2.2.1 r244.2.2.2.1 r244.2.2.2.2.1 r244.2.2.2.2.2)
  else
    own_lt (r240.1 &&& (0 : Int32)) fun x245 =>
    own_bd (f_PayingPass_taken r242.2.1 r242.2.2.1 r242.2.2.2.1 r242.2.2.2.2.1 r242.2.2.2.2.2) fun r246 =>
    if r246.1 = v8 then
      (f_law_187 v6 v7 v8 v13 (1 : Int32) x245 r246.2.1 r246.2.2.1 r246.2.2.2.1 r246.2.2.2.2.1 r246.2.2.2.2.2)
    else
      (f_law_187 v6 v7 v8 v13 (0 : Int32) x245 r246.2.1 r246.2.2.1 r246.2.2.2.1 r246.2.2.2.2.1 r246.2.2.2.2.2)
def f_law_79 (v4 : Int32) (v5 : Int32) (v6 : Int32) (v7 : Int32) (v8 : Int32) (v9 : Int32) (v10 : Int32) : Option (Int32) :=
  own_lt (v9 + v6) fun x247 =>
  own_lt (v10 + v7) fun x248 =>
  if x247 < (64 : Int32) then
    (f_law_125 v4 v5 v6 v7 v8 v8)
  else
    if ((4 : Int32) * x248) < ((3 : Int32) * x247) then
      (f_law_125 v4 v5 v6 v7 v8 (0 : Int32))
    else
      (f_law_125 v4 v5 v6 v7 v8 (1 : Int32))
def f_law (v0 : Int32) (v1 : Int32) (v2 : Int32) (v3 : Int32) : Option (Int32) :=
  own_lt (v0 &&& (127 : Int32)) fun x249 =>
  own_ck (¬ (x249 + (1 : Int32)) = (0 : Int32)) <|
  own_lt ((v1 &&& (2147483647 : Int32)) % (x249 + (1 : Int32))) fun x250 =>
  own_lt (v2 &&& (127 : Int32)) fun x251 =>
  own_ck (¬ (x251 + (1 : Int32)) = (0 : Int32)) <|
  own_lt ((v3 &&& (2147483647 : Int32)) % (x251 + (1 : Int32))) fun x252 =>
  if x249 < (64 : Int32) then
    (f_law_79 x249 x250 x251 x252 (1 : Int32) x249 x250)
  else
    if ((4 : Int32) * x250) < ((3 : Int32) * x249) then
      (f_law_79 x249 x250 x251 x252 (0 : Int32) (0 : Int32) (0 : Int32))
    else
      (f_law_79 x249 x250 x251 x252 (1 : Int32) (0 : Int32) (0 : Int32))
def Q_law (Z : State) (hE : Heap) (n0 : Nat)  (r : Int32) (v : Option Value) (h : Heap) (L : List Loc) : Prop := v = some (.int r) ∧ Fr n0 L ∧ Keep hE h []
def Cx_law (p : Program) (s : State) (m : MethodId) (meth : Method) (c : Code) (Z : State) (a0 : Array Value) : Prop := p.tables.exec = Jvm.exec ∧ Z.Warmed39 s.vm ∧ (∀ d ∈ tables_1, d.before a0 Z = true) ∧ c.code = code ∧ c.maxLocals = 16 ∧ s.vm.findClass "tidemark/PayingPassTakenPinLaw" = some m.cls ∧ meth.sig.returnType = some .boolean ∧ meth.locks = false ∧ meth.name = "law"
set_option maxRecDepth 65536 in
set_option maxHeartbeats 4000000 in
theorem b_law_256 {p : Program} {l : Launch} {e : Env} {s : State} {m : MethodId} {args : Array Value} {below : List Frame} {meth : Method} {c : Code} {Z : State} {a0 : Array Value} {n0 : Nat} {hE : Heap} (cx : Cx_law p s m meth c Z a0) :
    ∀ {T : State} {locs : List Loc} {h : Heap} (X : Stand p l e room_1 s m args below meth c T locs 1 5) (eT : T.heap = h) (N : Fr n0 locs) (K : Keep hE h []) (z : n0 ≤ h.size) (b1 : Addr) (v13 : Int32) (t0 : Int32) (t1 : Int32) (f_b1_given : Int32) (f_b1_placed : Int32) (f_b1_probedEvery : Int32) (f_b1_taking : Int32) (f_b1_untilProbed : Int32) (d0 : Slot) (d1 : Slot) (d2 : Slot) (d3 : Slot) (d4 : Slot) (d5 : Slot) (d6 : Slot) (d7 : Slot) (d8 : Slot) (d9 : Slot) (d10 : Slot) (d11 : Slot) (d12 : Slot) (d15 : Slot) (o_d0 : One d0) (o_d1 : One d1) (o_d2 : One d2) (o_d3 : One d3) (o_d4 : One d4) (o_d5 : One d5) (o_d6 : One d6) (o_d7 : One d7) (o_d8 : One d8) (o_d9 : One d9) (o_d10 : One d10) (o_d11 : One d11) (o_d12 : One d12) (o_d15 : One d15) (E_b1 : Exa Z h b1 "tidemark/PayingPass") (F_b1_given : Fld Z h b1 "tidemark/PayingPass" "given" "I" (.int f_b1_given)) (F_b1_placed : Fld Z h b1 "tidemark/PayingPass" "placed" "I" (.int f_b1_placed)) (F_b1_probedEvery : Fld Z h b1 "tidemark/PayingPass" "probedEvery" "I" (.int f_b1_probedEvery)) (F_b1_taking : Fld Z h b1 "tidemark/PayingPass" "taking" "Z" (.int f_b1_taking)) (F_b1_untilProbed : Fld Z h b1 "tidemark/PayingPass" "untilProbed" "I" (.int f_b1_untilProbed)) (g_b1 : n0 ≤ b1) (nE_b1 : hE.size ≤ b1) (r : Int32), f_law_256 v13 t0 t1 f_b1_given f_b1_placed f_b1_probedEvery f_b1_taking f_b1_untilProbed = some r → own_Goes p e below s (Q_law Z hE n0 r) 1 5 (T.setTop (mkF m 256 #[d0, d1, d2, d3, d4, d5, d6, d7, d8, d9, d10, d11, d12, .val (.int v13), .val (.ref b1), d15] [(.int t0), (.int t1)])) := by
  have cx' := cx
  obtain ⟨hx, hZ, hw, hby, hml, hown, hret, hlk, hnm⟩ := cx'
  intro T locs h X eT N K z b1 v13 t0 t1 f_b1_given f_b1_placed f_b1_probedEvery f_b1_taking f_b1_untilProbed d0 d1 d2 d3 d4 d5 d6 d7 d8 d9 d10 d11 d12 d15 o_d0 o_d1 o_d2 o_d3 o_d4 o_d5 o_d6 o_d7 o_d8 o_d9 o_d10 o_d11 o_d12 o_d15 E_b1 F_b1_given F_b1_placed F_b1_probedEvery F_b1_taking F_b1_untilProbed g_b1 nE_b1 r hF
  unfold f_law_256 at hF
  refine own_Goes.via (B := T.setTop (mkF m 257 #[d0, d1, d2, d3, d4, d5, d6, d7, d8, d9, d10, d11, d12, .val (.int v13), .val (.ref b1), d15] [(.int (t1 &&& t0))])) (fun t k => ?_) ?_
  · show Steps p.tables e below (T.setTop (mkF m 256 #[d0, d1, d2, d3, d4, d5, d6, d7, d8, d9, d10, d11, d12, .val (.int v13), .val (.ref b1), d15] [(.int t0), (.int t1)])) t
    refine XS.iand X.here hx rfl (hb hby at_256) rfl ?_
    exact k
  obtain ⟨x221, hx221, hF⟩ := own_lt_e hF
  rw [← hx221]
  refine own_Goes.via (B := T.setTop (mkF m 263 #[d0, d1, d2, d3, d4, d5, d6, d7, d8, d9, d10, d11, d12, .val (.int v13), .val (.ref b1), .val (.int x221)] [(.ref b1), (.int x221)])) (fun t k => ?_) ?_
  · show Steps p.tables e below (T.setTop (mkF m 257 #[d0, d1, d2, d3, d4, d5, d6, d7, d8, d9, d10, d11, d12, .val (.int v13), .val (.ref b1), d15] [(.int x221)])) t
    refine XS.istoreS X.here hx rfl (hb hby at_257) rfl rfl o_d15 ?_
    show Steps p.tables e below (T.setTop (mkF m 259 #[d0, d1, d2, d3, d4, d5, d6, d7, d8, d9, d10, d11, d12, .val (.int v13), .val (.ref b1), .val (.int x221)] [])) t
    refine XS.iload X.here hx rfl (hb hby at_259) rfl ?_
    show Steps p.tables e below (T.setTop (mkF m 261 #[d0, d1, d2, d3, d4, d5, d6, d7, d8, d9, d10, d11, d12, .val (.int v13), .val (.ref b1), .val (.int x221)] [(.int x221)])) t
    refine XS.aload X.here hx rfl (hb hby at_261) rfl rfl ?_
    exact k
  obtain ⟨r222, hr222, hF⟩ := own_bd_e hF
  obtain ⟨cq222, kq222, q222a, q222b, q222c⟩ := isOf hZ eT E_b1
  obtain ⟨_, _, ⟨T222, L222, k222, n222⟩, -, X222, ⟨Lc222, hQ222, l222, y222, z222⟩, st222⟩ := X.virtualBack hx (y := (⟨"tidemark/PayingPass", "pays", "()Z"⟩ : MethodName)) (z := (⟨"tidemark/PayingPass", "pays", "()Z"⟩ : MethodName)) hown (mvT hZ (w28 hw)) (mvT hZ (w29 hw)) (notFace_of_selects (args := #[]) (mvT hZ (w31 hw))) (mvT hZ (w31 hw)) (mvT hZ (w30 hw)) (by decide) (backOf (W := 1) (rm_PayingPass_pays l Z a0 hw [] h n0 z b1 f_b1_given f_b1_placed f_b1_probedEvery f_b1_taking f_b1_untilProbed E_b1 F_b1_given F_b1_placed F_b1_probedEvery F_b1_taking F_b1_untilProbed g_b1 r222 hr222) hZ (w32 hw) (w3 hw) (by decide) (by decide)) q222a q222c (g := (mkF m 263 #[d0, d1, d2, d3, d4, d5, d6, d7, d8, d9, d10, d11, d12, .val (.int v13), .val (.ref b1), .val (.int x221)] [(.ref b1), (.int x221)])) rfl (by rw [hml]; rfl) (Steps.refl _) (argsL := []) (rest := [(.int x221)]) (lenOf pd_1 rfl) rfl (by show 2 * 0 + _ ≤ _; exact Nat.le_of_eq rfl) (hb hby at_263) (fun _ _ => ⟨rfl, eT, (by decide : 1 + 0 ≤ _), (by decide : 5 + 0 ≤ _)⟩)
  dsimp only [Pt.U, Pt.locs, Pt.cells, Pt.slots] at X222 l222 y222 z222 st222 hQ222
  subst l222 y222 z222
  obtain ⟨rfl, N222q, e222⟩ := hQ222
  have N222 := Fr.app N N222q
  refine own_Goes.tr st222 ?_
  show own_Goes _ _ _ _ _ _ _ (T222.setTop (mkF m 266 #[d0, d1, d2, d3, d4, d5, d6, d7, d8, d9, d10, d11, d12, .val (.int v13), .val (.ref b1), .val (.int x221)] [(.int r222), (.int x221)]))
  refine own_Goes.via (B := T222.setTop (mkF m 268 #[d0, d1, d2, d3, d4, d5, d6, d7, d8, d9, d10, d11, d12, .val (.int v13), .val (.ref b1), .val (.int x221)] [(.int v13), (.int r222), (.int x221)])) (fun t k => ?_) ?_
  · show Steps p.tables e below (T222.setTop (mkF m 266 #[d0, d1, d2, d3, d4, d5, d6, d7, d8, d9, d10, d11, d12, .val (.int v13), .val (.ref b1), .val (.int x221)] [(.int r222), (.int x221)])) t
    refine XS.iload X222.here hx rfl (hb hby at_266) rfl ?_
    exact k
  by_cases hc268 : r222 = v13
  · rw [if_pos hc268] at hF
    refine own_Goes.via (B := T222.setTop (mkF m 277 #[d0, d1, d2, d3, d4, d5, d6, d7, d8, d9, d10, d11, d12, .val (.int v13), .val (.ref b1), .val (.int x221)] [(.int (x221 &&& (1 : Int32)))])) (fun t k => ?_) ?_
    · show Steps p.tables e below (T222.setTop (mkF m 268 #[d0, d1, d2, d3, d4, d5, d6, d7, d8, d9, d10, d11, d12, .val (.int v13), .val (.ref b1), .val (.int x221)] [(.int v13), (.int r222), (.int x221)])) t
      refine XS.icmpNo X222.here hx rfl (hb hby at_268) rfl (teq hc268).2 ?_
      show Steps p.tables e below (T222.setTop (mkF m 271 #[d0, d1, d2, d3, d4, d5, d6, d7, d8, d9, d10, d11, d12, .val (.int v13), .val (.ref b1), .val (.int x221)] [(.int x221)])) t
      refine XS.iconst X222.here hx rfl (hb hby at_271) ?_
      show Steps p.tables e below (T222.setTop (mkF m 272 #[d0, d1, d2, d3, d4, d5, d6, d7, d8, d9, d10, d11, d12, .val (.int v13), .val (.ref b1), .val (.int x221)] [(.int (1 : Int32)), (.int x221)])) t
      refine XS.goto X222.here hx rfl (pc0 := 272) (pc' := 276) rfl (hb hby at_272) (by decide) (by decide) ?_
      show Steps p.tables e below (T222.setTop (mkF m 276 #[d0, d1, d2, d3, d4, d5, d6, d7, d8, d9, d10, d11, d12, .val (.int v13), .val (.ref b1), .val (.int x221)] [(.int (1 : Int32)), (.int x221)])) t
      refine XS.iand X222.here hx rfl (hb hby at_276) rfl ?_
      exact k
    obtain ⟨x223, hx223, hF⟩ := own_lt_e hF
    rw [← hx223]
    refine own_Goes.via (B := T222.setTop (mkF m 281 #[d0, d1, d2, d3, d4, d5, d6, d7, d8, d9, d10, d11, d12, .val (.int v13), .val (.ref b1), .val (.int x223)] [(.int x223)])) (fun t k => ?_) ?_
    · show Steps p.tables e below (T222.setTop (mkF m 277 #[d0, d1, d2, d3, d4, d5, d6, d7, d8, d9, d10, d11, d12, .val (.int v13), .val (.ref b1), .val (.int x221)] [(.int x223)])) t
      refine XS.istore X222.here hx rfl (hb hby at_277) rfl (l' := #[d0, d1, d2, d3, d4, d5, d6, d7, d8, d9, d10, d11, d12, .val (.int v13), .val (.ref b1), .val (.int x223)]) rfl ?_
      show Steps p.tables e below (T222.setTop (mkF m 279 #[d0, d1, d2, d3, d4, d5, d6, d7, d8, d9, d10, d11, d12, .val (.int v13), .val (.ref b1), .val (.int x223)] [])) t
      refine XS.iload X222.here hx rfl (hb hby at_279) rfl ?_
      exact k
    obtain rfl : (x223 &&& 1) = r := Option.some.inj hF
    exact own_retN X222 hx (t := .boolean) hret hlk (by simp) (hb hby at_281) e222 (v := (x223 &&& 1)) rfl ⟨rfl, N222, K⟩ (by decide) (by decide)
  · rw [if_neg hc268] at hF
    refine own_Goes.via (B := T222.setTop (mkF m 277 #[d0, d1, d2, d3, d4, d5, d6, d7, d8, d9, d10, d11, d12, .val (.int v13), .val (.ref b1), .val (.int x221)] [(.int (x221 &&& (0 : Int32)))])) (fun t k => ?_) ?_
    · show Steps p.tables e below (T222.setTop (mkF m 268 #[d0, d1, d2, d3, d4, d5, d6, d7, d8, d9, d10, d11, d12, .val (.int v13), .val (.ref b1), .val (.int x221)] [(.int v13), (.int r222), (.int x221)])) t
      refine XS.icmpYes X222.here hx rfl (pc0 := 268) (pc' := 275) rfl (hb hby at_268) rfl (feq hc268).2 (by decide) (by decide) ?_
      show Steps p.tables e below (T222.setTop (mkF m 275 #[d0, d1, d2, d3, d4, d5, d6, d7, d8, d9, d10, d11, d12, .val (.int v13), .val (.ref b1), .val (.int x221)] [(.int x221)])) t
      refine XS.iconst X222.here hx rfl (hb hby at_275) ?_
      show Steps p.tables e below (T222.setTop (mkF m 276 #[d0, d1, d2, d3, d4, d5, d6, d7, d8, d9, d10, d11, d12, .val (.int v13), .val (.ref b1), .val (.int x221)] [(.int (0 : Int32)), (.int x221)])) t
      refine XS.iand X222.here hx rfl (hb hby at_276) rfl ?_
      exact k
    obtain ⟨x224, hx224, hF⟩ := own_lt_e hF
    rw [← hx224]
    refine own_Goes.via (B := T222.setTop (mkF m 281 #[d0, d1, d2, d3, d4, d5, d6, d7, d8, d9, d10, d11, d12, .val (.int v13), .val (.ref b1), .val (.int x224)] [(.int x224)])) (fun t k => ?_) ?_
    · show Steps p.tables e below (T222.setTop (mkF m 277 #[d0, d1, d2, d3, d4, d5, d6, d7, d8, d9, d10, d11, d12, .val (.int v13), .val (.ref b1), .val (.int x221)] [(.int x224)])) t
      refine XS.istore X222.here hx rfl (hb hby at_277) rfl (l' := #[d0, d1, d2, d3, d4, d5, d6, d7, d8, d9, d10, d11, d12, .val (.int v13), .val (.ref b1), .val (.int x224)]) rfl ?_
      show Steps p.tables e below (T222.setTop (mkF m 279 #[d0, d1, d2, d3, d4, d5, d6, d7, d8, d9, d10, d11, d12, .val (.int v13), .val (.ref b1), .val (.int x224)] [])) t
      refine XS.iload X222.here hx rfl (hb hby at_279) rfl ?_
      exact k
    obtain rfl : (x224 &&& 1) = r := Option.some.inj hF
    exact own_retN X222 hx (t := .boolean) hret hlk (by simp) (hb hby at_281) e222 (v := (x224 &&& 1)) rfl ⟨rfl, N222, K⟩ (by decide) (by decide)
set_option maxRecDepth 65536 in
set_option maxHeartbeats 4000000 in
theorem b_law_227 {p : Program} {l : Launch} {e : Env} {s : State} {m : MethodId} {args : Array Value} {below : List Frame} {meth : Method} {c : Code} {Z : State} {a0 : Array Value} {n0 : Nat} {hE : Heap} (cx : Cx_law p s m meth c Z a0) :
    ∀ {T : State} {locs : List Loc} {h : Heap} (X : Stand p l e room_1 s m args below meth c T locs 1 5) (eT : T.heap = h) (N : Fr n0 locs) (K : Keep hE h []) (z : n0 ≤ h.size) (b1 : Addr) (v6 : Int32) (v7 : Int32) (v13 : Int32) (t0 : Int32) (t1 : Int32) (f_b1_given : Int32) (f_b1_placed : Int32) (f_b1_probedEvery : Int32) (f_b1_taking : Int32) (f_b1_untilProbed : Int32) (d0 : Slot) (d1 : Slot) (d2 : Slot) (d3 : Slot) (d4 : Slot) (d5 : Slot) (d8 : Slot) (d9 : Slot) (d10 : Slot) (d11 : Slot) (d12 : Slot) (d15 : Slot) (o_d0 : One d0) (o_d1 : One d1) (o_d2 : One d2) (o_d3 : One d3) (o_d4 : One d4) (o_d5 : One d5) (o_d8 : One d8) (o_d9 : One d9) (o_d10 : One d10) (o_d11 : One d11) (o_d12 : One d12) (o_d15 : One d15) (E_b1 : Exa Z h b1 "tidemark/PayingPass") (F_b1_given : Fld Z h b1 "tidemark/PayingPass" "given" "I" (.int f_b1_given)) (F_b1_placed : Fld Z h b1 "tidemark/PayingPass" "placed" "I" (.int f_b1_placed)) (F_b1_probedEvery : Fld Z h b1 "tidemark/PayingPass" "probedEvery" "I" (.int f_b1_probedEvery)) (F_b1_taking : Fld Z h b1 "tidemark/PayingPass" "taking" "Z" (.int f_b1_taking)) (F_b1_untilProbed : Fld Z h b1 "tidemark/PayingPass" "untilProbed" "I" (.int f_b1_untilProbed)) (g_b1 : n0 ≤ b1) (nE_b1 : hE.size ≤ b1) (r : Int32), f_law_227 v6 v7 v13 t0 t1 f_b1_given f_b1_placed f_b1_probedEvery f_b1_taking f_b1_untilProbed = some r → own_Goes p e below s (Q_law Z hE n0 r) 1 5 (T.setTop (mkF m 227 #[d0, d1, d2, d3, d4, d5, .val (.int v6), .val (.int v7), d8, d9, d10, d11, d12, .val (.int v13), .val (.ref b1), d15] [(.int t0), (.int t1)])) := by
  have cx' := cx
  obtain ⟨hx, hZ, hw, hby, hml, hown, hret, hlk, hnm⟩ := cx'
  intro T locs h X eT N K z b1 v6 v7 v13 t0 t1 f_b1_given f_b1_placed f_b1_probedEvery f_b1_taking f_b1_untilProbed d0 d1 d2 d3 d4 d5 d8 d9 d10 d11 d12 d15 o_d0 o_d1 o_d2 o_d3 o_d4 o_d5 o_d8 o_d9 o_d10 o_d11 o_d12 o_d15 E_b1 F_b1_given F_b1_placed F_b1_probedEvery F_b1_taking F_b1_untilProbed g_b1 nE_b1 r hF
  unfold f_law_227 at hF
  refine own_Goes.via (B := T.setTop (mkF m 228 #[d0, d1, d2, d3, d4, d5, .val (.int v6), .val (.int v7), d8, d9, d10, d11, d12, .val (.int v13), .val (.ref b1), d15] [(.int (t1 &&& t0))])) (fun t k => ?_) ?_
  · show Steps p.tables e below (T.setTop (mkF m 227 #[d0, d1, d2, d3, d4, d5, .val (.int v6), .val (.int v7), d8, d9, d10, d11, d12, .val (.int v13), .val (.ref b1), d15] [(.int t0), (.int t1)])) t
    refine XS.iand X.here hx rfl (hb hby at_227) rfl ?_
    exact k
  obtain ⟨x225, hx225, hF⟩ := own_lt_e hF
  rw [← hx225]
  refine own_Goes.via (B := T.setTop (mkF m 236 #[d0, d1, d2, d3, d4, d5, .val (.int v6), .val (.int v7), d8, d9, d10, d11, d12, .val (.int v13), .val (.ref b1), .val (.int x225)] [(.int v7), (.int v6), (.ref b1)])) (fun t k => ?_) ?_
  · show Steps p.tables e below (T.setTop (mkF m 228 #[d0, d1, d2, d3, d4, d5, .val (.int v6), .val (.int v7), d8, d9, d10, d11, d12, .val (.int v13), .val (.ref b1), d15] [(.int x225)])) t
    refine XS.istoreS X.here hx rfl (hb hby at_228) rfl rfl o_d15 ?_
    show Steps p.tables e below (T.setTop (mkF m 230 #[d0, d1, d2, d3, d4, d5, .val (.int v6), .val (.int v7), d8, d9, d10, d11, d12, .val (.int v13), .val (.ref b1), .val (.int x225)] [])) t
    refine XS.aload X.here hx rfl (hb hby at_230) rfl rfl ?_
    show Steps p.tables e below (T.setTop (mkF m 232 #[d0, d1, d2, d3, d4, d5, .val (.int v6), .val (.int v7), d8, d9, d10, d11, d12, .val (.int v13), .val (.ref b1), .val (.int x225)] [(.ref b1)])) t
    refine XS.iload X.here hx rfl (hb hby at_232) rfl ?_
    show Steps p.tables e below (T.setTop (mkF m 234 #[d0, d1, d2, d3, d4, d5, .val (.int v6), .val (.int v7), d8, d9, d10, d11, d12, .val (.int v13), .val (.ref b1), .val (.int x225)] [(.int v6), (.ref b1)])) t
    refine XS.iload X.here hx rfl (hb hby at_234) rfl ?_
    exact k
  obtain ⟨r226, hr226, hF⟩ := own_bd_e hF
  obtain ⟨cq226, kq226, q226a, q226b, q226c⟩ := isOf hZ eT E_b1
  obtain ⟨_, _, ⟨T226, L226, k226, n226⟩, -, X226, ⟨Lc226, hQ226, l226, y226, z226⟩, st226⟩ := X.virtualBack hx (y := (⟨"tidemark/PayingPass", "judge", "(II)V"⟩ : MethodName)) (z := (⟨"tidemark/PayingPass", "judge", "(II)V"⟩ : MethodName)) hown (mvT hZ (w19 hw)) (mvT hZ (w20 hw)) (notFace_of_selects (args := #[]) (mvT hZ (w22 hw))) (mvT hZ (w22 hw)) (mvT hZ (w21 hw)) (by decide) (backOf (W := 0) (rm_PayingPass_judge l Z a0 hw [] h n0 z b1 v6 v7 f_b1_given f_b1_placed f_b1_probedEvery f_b1_taking f_b1_untilProbed E_b1 F_b1_given F_b1_placed F_b1_probedEvery F_b1_taking F_b1_untilProbed g_b1 r226 hr226) hZ (w23 hw) (w3 hw) (by decide) (by decide)) q226a q226c (g := (mkF m 236 #[d0, d1, d2, d3, d4, d5, .val (.int v6), .val (.int v7), d8, d9, d10, d11, d12, .val (.int v13), .val (.ref b1), .val (.int x225)] [(.int v7), (.int v6), (.ref b1)])) rfl (by rw [hml]; rfl) (Steps.refl _) (argsL := [(.int v6), (.int v7)]) (rest := []) (lenOf pd_3 rfl) rfl (by show 2 * 0 + _ ≤ _; exact Nat.le_of_eq rfl) (hb hby at_236) (fun _ _ => ⟨rfl, eT, (by decide : 1 + 0 ≤ _), (by decide : 5 + 0 ≤ _)⟩)
  dsimp only [Pt.U, Pt.locs, Pt.cells, Pt.slots] at X226 l226 y226 z226 st226 hQ226
  subst l226 y226 z226
  obtain ⟨rfl, N226q, K226, E226_b1, F226_b1_given, F226_b1_placed, F226_b1_probedEvery, F226_b1_taking, F226_b1_untilProbed⟩ := hQ226
  have N226 := Fr.app N N226q
  have K226_ := K.trans K226 (allS (Or.inr nE_b1) all0)
  have z226_ := Nat.le_trans z K226.1
  refine own_Goes.tr st226 ?_
  show own_Goes _ _ _ _ _ _ _ (T226.setTop (mkF m 239 #[d0, d1, d2, d3, d4, d5, .val (.int v6), .val (.int v7), d8, d9, d10, d11, d12, .val (.int v13), .val (.ref b1), .val (.int x225)] []))
  refine own_Goes.via (B := T226.setTop (mkF m 243 #[d0, d1, d2, d3, d4, d5, .val (.int v6), .val (.int v7), d8, d9, d10, d11, d12, .val (.int v13), .val (.ref b1), .val (.int x225)] [(.ref b1), (.int x225)])) (fun t k => ?_) ?_
  · show Steps p.tables e below (T226.setTop (mkF m 239 #[d0, d1, d2, d3, d4, d5, .val (.int v6), .val (.int v7), d8, d9, d10, d11, d12, .val (.int v13), .val (.ref b1), .val (.int x225)] [])) t
    refine XS.iload X226.here hx rfl (hb hby at_239) rfl ?_
    show Steps p.tables e below (T226.setTop (mkF m 241 #[d0, d1, d2, d3, d4, d5, .val (.int v6), .val (.int v7), d8, d9, d10, d11, d12, .val (.int v13), .val (.ref b1), .val (.int x225)] [(.int x225)])) t
    refine XS.aload X226.here hx rfl (hb hby at_241) rfl rfl ?_
    exact k
  obtain ⟨r227, hr227, hF⟩ := own_bd_e hF
  obtain ⟨cq227, kq227, q227a, q227b, q227c⟩ := isOf hZ rfl E226_b1
  obtain ⟨_, _, ⟨T227, L227, k227, n227⟩, -, X227, ⟨Lc227, hQ227, l227, y227, z227⟩, st227⟩ := X226.virtualBack hx (y := (⟨"tidemark/PayingPass", "taken", "()Z"⟩ : MethodName)) (z := (⟨"tidemark/PayingPass", "taken", "()Z"⟩ : MethodName)) hown (mvT hZ (w14 hw)) (mvT hZ (w15 hw)) (notFace_of_selects (args := #[]) (mvT hZ (w17 hw))) (mvT hZ (w17 hw)) (mvT hZ (w16 hw)) (by decide) (backOf (W := 1) (rm_PayingPass_taken l Z a0 hw [] T226.heap n0 z226_ b1 r226.1 r226.2.1 r226.2.2.1 r226.2.2.2.1 r226.2.2.2.2 E226_b1 F226_b1_given F226_b1_placed F226_b1_probedEvery F226_b1_taking F226_b1_untilProbed g_b1 r227 hr227) hZ (w18 hw) (w3 hw) (by decide) (by decide)) q227a q227c (g := (mkF m 243 #[d0, d1, d2, d3, d4, d5, .val (.int v6), .val (.int v7), d8, d9, d10, d11, d12, .val (.int v13), .val (.ref b1), .val (.int x225)] [(.ref b1), (.int x225)])) rfl (by rw [hml]; rfl) (Steps.refl _) (argsL := []) (rest := [(.int x225)]) (lenOf pd_1 rfl) rfl (by show 2 * 0 + _ ≤ _; exact Nat.le_of_eq rfl) (hb hby at_243) (fun _ _ => ⟨rfl, rfl, (by decide : 1 + 0 ≤ _), (by decide : 5 + 0 ≤ _)⟩)
  dsimp only [Pt.U, Pt.locs, Pt.cells, Pt.slots] at X227 l227 y227 z227 st227 hQ227
  subst l227 y227 z227
  obtain ⟨rfl, N227q, K227, E227_b1, F227_b1_given, F227_b1_placed, F227_b1_probedEvery, F227_b1_taking, F227_b1_untilProbed⟩ := hQ227
  have N227 := Fr.app N226 N227q
  have K227_ := K226_.trans K227 (allS (Or.inr nE_b1) all0)
  have z227_ := Nat.le_trans z226_ K227.1
  refine own_Goes.tr st227 ?_
  show own_Goes _ _ _ _ _ _ _ (T227.setTop (mkF m 246 #[d0, d1, d2, d3, d4, d5, .val (.int v6), .val (.int v7), d8, d9, d10, d11, d12, .val (.int v13), .val (.ref b1), .val (.int x225)] [(.int r227.1), (.int x225)]))
  refine own_Goes.via (B := T227.setTop (mkF m 248 #[d0, d1, d2, d3, d4, d5, .val (.int v6), .val (.int v7), d8, d9, d10, d11, d12, .val (.int v13), .val (.ref b1), .val (.int x225)] [(.int v13), (.int r227.1), (.int x225)])) (fun t k => ?_) ?_
  · show Steps p.tables e below (T227.setTop (mkF m 246 #[d0, d1, d2, d3, d4, d5, .val (.int v6), .val (.int v7), d8, d9, d10, d11, d12, .val (.int v13), .val (.ref b1), .val (.int x225)] [(.int r227.1), (.int x225)])) t
    refine XS.iload X227.here hx rfl (hb hby at_246) rfl ?_
    exact k
  by_cases hc248 : r227.1 = v13
  · rw [if_pos hc248] at hF
    refine own_Goes.via (B := T227.setTop (mkF m 256 #[d0, d1, d2, d3, d4, d5, .val (.int v6), .val (.int v7), d8, d9, d10, d11, d12, .val (.int v13), .val (.ref b1), .val (.int x225)] [(.int (1 : Int32)), (.int x225)])) (fun t k => ?_) ?_
    · show Steps p.tables e below (T227.setTop (mkF m 248 #[d0, d1, d2, d3, d4, d5, .val (.int v6), .val (.int v7), d8, d9, d10, d11, d12, .val (.int v13), .val (.ref b1), .val (.int x225)] [(.int v13), (.int r227.1), (.int x225)])) t
      refine XS.icmpNo X227.here hx rfl (hb hby at_248) rfl (teq hc248).2 ?_
      show Steps p.tables e below (T227.setTop (mkF m 251 #[d0, d1, d2, d3, d4, d5, .val (.int v6), .val (.int v7), d8, d9, d10, d11, d12, .val (.int v13), .val (.ref b1), .val (.int x225)] [(.int x225)])) t
      refine XS.iconst X227.here hx rfl (hb hby at_251) ?_
      show Steps p.tables e below (T227.setTop (mkF m 252 #[d0, d1, d2, d3, d4, d5, .val (.int v6), .val (.int v7), d8, d9, d10, d11, d12, .val (.int v13), .val (.ref b1), .val (.int x225)] [(.int (1 : Int32)), (.int x225)])) t
      refine XS.goto X227.here hx rfl (pc0 := 252) (pc' := 256) rfl (hb hby at_252) (by decide) (by decide) ?_
      exact k
    exact b_law_256 cx X227 rfl N227 K227_ z227_ b1 v13 (1 : Int32) x225 r227.2.1 r227.2.2.1 r227.2.2.2.1 r227.2.2.2.2.1 r227.2.2.2.2.2 d0 d1 d2 d3 d4 d5 (.val (.int v6)) (.val (.int v7)) d8 d9 d10 d11 d12 (.val (.int x225)) o_d0 o_d1 o_d2 o_d3 o_d4 o_d5 (One.val rfl) (One.val rfl) o_d8 o_d9 o_d10 o_d11 o_d12 (One.val rfl) E227_b1 F227_b1_given F227_b1_placed F227_b1_probedEvery F227_b1_taking F227_b1_untilProbed g_b1 nE_b1 _ hF
  · rw [if_neg hc248] at hF
    refine own_Goes.via (B := T227.setTop (mkF m 256 #[d0, d1, d2, d3, d4, d5, .val (.int v6), .val (.int v7), d8, d9, d10, d11, d12, .val (.int v13), .val (.ref b1), .val (.int x225)] [(.int (0 : Int32)), (.int x225)])) (fun t k => ?_) ?_
    · show Steps p.tables e below (T227.setTop (mkF m 248 #[d0, d1, d2, d3, d4, d5, .val (.int v6), .val (.int v7), d8, d9, d10, d11, d12, .val (.int v13), .val (.ref b1), .val (.int x225)] [(.int v13), (.int r227.1), (.int x225)])) t
      refine XS.icmpYes X227.here hx rfl (pc0 := 248) (pc' := 255) rfl (hb hby at_248) rfl (feq hc248).2 (by decide) (by decide) ?_
      show Steps p.tables e below (T227.setTop (mkF m 255 #[d0, d1, d2, d3, d4, d5, .val (.int v6), .val (.int v7), d8, d9, d10, d11, d12, .val (.int v13), .val (.ref b1), .val (.int x225)] [(.int x225)])) t
      refine XS.iconst X227.here hx rfl (hb hby at_255) ?_
      exact k
    exact b_law_256 cx X227 rfl N227 K227_ z227_ b1 v13 (0 : Int32) x225 r227.2.1 r227.2.2.1 r227.2.2.2.1 r227.2.2.2.2.1 r227.2.2.2.2.2 d0 d1 d2 d3 d4 d5 (.val (.int v6)) (.val (.int v7)) d8 d9 d10 d11 d12 (.val (.int x225)) o_d0 o_d1 o_d2 o_d3 o_d4 o_d5 (One.val rfl) (One.val rfl) o_d8 o_d9 o_d10 o_d11 o_d12 (One.val rfl) E227_b1 F227_b1_given F227_b1_placed F227_b1_probedEvery F227_b1_taking F227_b1_untilProbed g_b1 nE_b1 _ hF
set_option maxRecDepth 65536 in
set_option maxHeartbeats 4000000 in
theorem b_law_187 {p : Program} {l : Launch} {e : Env} {s : State} {m : MethodId} {args : Array Value} {below : List Frame} {meth : Method} {c : Code} {Z : State} {a0 : Array Value} {n0 : Nat} {hE : Heap} (cx : Cx_law p s m meth c Z a0) :
    ∀ {T : State} {locs : List Loc} {h : Heap} (X : Stand p l e room_1 s m args below meth c T locs 1 5) (eT : T.heap = h) (N : Fr n0 locs) (K : Keep hE h []) (z : n0 ≤ h.size) (b1 : Addr) (v6 : Int32) (v7 : Int32) (v8 : Int32) (v13 : Int32) (t0 : Int32) (t1 : Int32) (f_b1_given : Int32) (f_b1_placed : Int32) (f_b1_probedEvery : Int32) (f_b1_taking : Int32) (f_b1_untilProbed : Int32) (d0 : Slot) (d1 : Slot) (d2 : Slot) (d3 : Slot) (d4 : Slot) (d5 : Slot) (d9 : Slot) (d10 : Slot) (d11 : Slot) (d12 : Slot) (d15 : Slot) (o_d0 : One d0) (o_d1 : One d1) (o_d2 : One d2) (o_d3 : One d3) (o_d4 : One d4) (o_d5 : One d5) (o_d9 : One d9) (o_d10 : One d10) (o_d11 : One d11) (o_d12 : One d12) (o_d15 : One d15) (E_b1 : Exa Z h b1 "tidemark/PayingPass") (F_b1_given : Fld Z h b1 "tidemark/PayingPass" "given" "I" (.int f_b1_given)) (F_b1_placed : Fld Z h b1 "tidemark/PayingPass" "placed" "I" (.int f_b1_placed)) (F_b1_probedEvery : Fld Z h b1 "tidemark/PayingPass" "probedEvery" "I" (.int f_b1_probedEvery)) (F_b1_taking : Fld Z h b1 "tidemark/PayingPass" "taking" "Z" (.int f_b1_taking)) (F_b1_untilProbed : Fld Z h b1 "tidemark/PayingPass" "untilProbed" "I" (.int f_b1_untilProbed)) (g_b1 : n0 ≤ b1) (nE_b1 : hE.size ≤ b1) (r : Int32), f_law_187 v6 v7 v8 v13 t0 t1 f_b1_given f_b1_placed f_b1_probedEvery f_b1_taking f_b1_untilProbed = some r → own_Goes p e below s (Q_law Z hE n0 r) 1 5 (T.setTop (mkF m 187 #[d0, d1, d2, d3, d4, d5, .val (.int v6), .val (.int v7), .val (.int v8), d9, d10, d11, d12, .val (.int v13), .val (.ref b1), d15] [(.int t0), (.int t1)])) := by
  have cx' := cx
  obtain ⟨hx, hZ, hw, hby, hml, hown, hret, hlk, hnm⟩ := cx'
  intro T locs h X eT N K z b1 v6 v7 v8 v13 t0 t1 f_b1_given f_b1_placed f_b1_probedEvery f_b1_taking f_b1_untilProbed d0 d1 d2 d3 d4 d5 d9 d10 d11 d12 d15 o_d0 o_d1 o_d2 o_d3 o_d4 o_d5 o_d9 o_d10 o_d11 o_d12 o_d15 E_b1 F_b1_given F_b1_placed F_b1_probedEvery F_b1_taking F_b1_untilProbed g_b1 nE_b1 r hF
  unfold f_law_187 at hF
  refine own_Goes.via (B := T.setTop (mkF m 188 #[d0, d1, d2, d3, d4, d5, .val (.int v6), .val (.int v7), .val (.int v8), d9, d10, d11, d12, .val (.int v13), .val (.ref b1), d15] [(.int (t1 &&& t0))])) (fun t k => ?_) ?_
  · show Steps p.tables e below (T.setTop (mkF m 187 #[d0, d1, d2, d3, d4, d5, .val (.int v6), .val (.int v7), .val (.int v8), d9, d10, d11, d12, .val (.int v13), .val (.ref b1), d15] [(.int t0), (.int t1)])) t
    refine XS.iand X.here hx rfl (hb hby at_187) rfl ?_
    exact k
  obtain ⟨x230, hx230, hF⟩ := own_lt_e hF
  rw [← hx230]
  refine own_Goes.via (B := T.setTop (mkF m 194 #[d0, d1, d2, d3, d4, d5, .val (.int v6), .val (.int v7), .val (.int v8), d9, d10, d11, d12, .val (.int v13), .val (.ref b1), .val (.int x230)] [(.ref b1), (.int x230)])) (fun t k => ?_) ?_
  · show Steps p.tables e below (T.setTop (mkF m 188 #[d0, d1, d2, d3, d4, d5, .val (.int v6), .val (.int v7), .val (.int v8), d9, d10, d11, d12, .val (.int v13), .val (.ref b1), d15] [(.int x230)])) t
    refine XS.istoreS X.here hx rfl (hb hby at_188) rfl rfl o_d15 ?_
    show Steps p.tables e below (T.setTop (mkF m 190 #[d0, d1, d2, d3, d4, d5, .val (.int v6), .val (.int v7), .val (.int v8), d9, d10, d11, d12, .val (.int v13), .val (.ref b1), .val (.int x230)] [])) t
    refine XS.iload X.here hx rfl (hb hby at_190) rfl ?_
    show Steps p.tables e below (T.setTop (mkF m 192 #[d0, d1, d2, d3, d4, d5, .val (.int v6), .val (.int v7), .val (.int v8), d9, d10, d11, d12, .val (.int v13), .val (.ref b1), .val (.int x230)] [(.int x230)])) t
    refine XS.aload X.here hx rfl (hb hby at_192) rfl rfl ?_
    exact k
  obtain ⟨r231, hr231, hF⟩ := own_bd_e hF
  obtain ⟨cq231, kq231, q231a, q231b, q231c⟩ := isOf hZ eT E_b1
  obtain ⟨_, _, ⟨T231, L231, k231, n231⟩, -, X231, ⟨Lc231, hQ231, l231, y231, z231⟩, st231⟩ := X.virtualBack hx (y := (⟨"tidemark/PayingPass", "taken", "()Z"⟩ : MethodName)) (z := (⟨"tidemark/PayingPass", "taken", "()Z"⟩ : MethodName)) hown (mvT hZ (w14 hw)) (mvT hZ (w15 hw)) (notFace_of_selects (args := #[]) (mvT hZ (w17 hw))) (mvT hZ (w17 hw)) (mvT hZ (w16 hw)) (by decide) (backOf (W := 1) (rm_PayingPass_taken l Z a0 hw [] h n0 z b1 f_b1_given f_b1_placed f_b1_probedEvery f_b1_taking f_b1_untilProbed E_b1 F_b1_given F_b1_placed F_b1_probedEvery F_b1_taking F_b1_untilProbed g_b1 r231 hr231) hZ (w18 hw) (w3 hw) (by decide) (by decide)) q231a q231c (g := (mkF m 194 #[d0, d1, d2, d3, d4, d5, .val (.int v6), .val (.int v7), .val (.int v8), d9, d10, d11, d12, .val (.int v13), .val (.ref b1), .val (.int x230)] [(.ref b1), (.int x230)])) rfl (by rw [hml]; rfl) (Steps.refl _) (argsL := []) (rest := [(.int x230)]) (lenOf pd_1 rfl) rfl (by show 2 * 0 + _ ≤ _; exact Nat.le_of_eq rfl) (hb hby at_194) (fun _ _ => ⟨rfl, eT, (by decide : 1 + 0 ≤ _), (by decide : 5 + 0 ≤ _)⟩)
  dsimp only [Pt.U, Pt.locs, Pt.cells, Pt.slots] at X231 l231 y231 z231 st231 hQ231
  subst l231 y231 z231
  obtain ⟨rfl, N231q, K231, E231_b1, F231_b1_given, F231_b1_placed, F231_b1_probedEvery, F231_b1_taking, F231_b1_untilProbed⟩ := hQ231
  have N231 := Fr.app N N231q
  have K231_ := K.trans K231 (allS (Or.inr nE_b1) all0)
  have z231_ := Nat.le_trans z K231.1
  refine own_Goes.tr st231 ?_
  show own_Goes _ _ _ _ _ _ _ (T231.setTop (mkF m 197 #[d0, d1, d2, d3, d4, d5, .val (.int v6), .val (.int v7), .val (.int v8), d9, d10, d11, d12, .val (.int v13), .val (.ref b1), .val (.int x230)] [(.int r231.1), (.int x230)]))
  refine own_Goes.via (B := T231.setTop (mkF m 199 #[d0, d1, d2, d3, d4, d5, .val (.int v6), .val (.int v7), .val (.int v8), d9, d10, d11, d12, .val (.int v13), .val (.ref b1), .val (.int x230)] [(.int v8), (.int r231.1), (.int x230)])) (fun t k => ?_) ?_
  · show Steps p.tables e below (T231.setTop (mkF m 197 #[d0, d1, d2, d3, d4, d5, .val (.int v6), .val (.int v7), .val (.int v8), d9, d10, d11, d12, .val (.int v13), .val (.ref b1), .val (.int x230)] [(.int r231.1), (.int x230)])) t
    refine XS.iload X231.here hx rfl (hb hby at_197) rfl ?_
    exact k
  by_cases hc199 : r231.1 = v8
  · rw [if_pos hc199] at hF
    refine own_Goes.via (B := T231.setTop (mkF m 208 #[d0, d1, d2, d3, d4, d5, .val (.int v6), .val (.int v7), .val (.int v8), d9, d10, d11, d12, .val (.int v13), .val (.ref b1), .val (.int x230)] [(.int (x230 &&& (1 : Int32)))])) (fun t k => ?_) ?_
    · show Steps p.tables e below (T231.setTop (mkF m 199 #[d0, d1, d2, d3, d4, d5, .val (.int v6), .val (.int v7), .val (.int v8), d9, d10, d11, d12, .val (.int v13), .val (.ref b1), .val (.int x230)] [(.int v8), (.int r231.1), (.int x230)])) t
      refine XS.icmpNo X231.here hx rfl (hb hby at_199) rfl (teq hc199).2 ?_
      show Steps p.tables e below (T231.setTop (mkF m 202 #[d0, d1, d2, d3, d4, d5, .val (.int v6), .val (.int v7), .val (.int v8), d9, d10, d11, d12, .val (.int v13), .val (.ref b1), .val (.int x230)] [(.int x230)])) t
      refine XS.iconst X231.here hx rfl (hb hby at_202) ?_
      show Steps p.tables e below (T231.setTop (mkF m 203 #[d0, d1, d2, d3, d4, d5, .val (.int v6), .val (.int v7), .val (.int v8), d9, d10, d11, d12, .val (.int v13), .val (.ref b1), .val (.int x230)] [(.int (1 : Int32)), (.int x230)])) t
      refine XS.goto X231.here hx rfl (pc0 := 203) (pc' := 207) rfl (hb hby at_203) (by decide) (by decide) ?_
      show Steps p.tables e below (T231.setTop (mkF m 207 #[d0, d1, d2, d3, d4, d5, .val (.int v6), .val (.int v7), .val (.int v8), d9, d10, d11, d12, .val (.int v13), .val (.ref b1), .val (.int x230)] [(.int (1 : Int32)), (.int x230)])) t
      refine XS.iand X231.here hx rfl (hb hby at_207) rfl ?_
      exact k
    obtain ⟨x232, hx232, hF⟩ := own_lt_e hF
    rw [← hx232]
    refine own_Goes.via (B := T231.setTop (mkF m 214 #[d0, d1, d2, d3, d4, d5, .val (.int v6), .val (.int v7), .val (.int v8), d9, d10, d11, d12, .val (.int v13), .val (.ref b1), .val (.int x232)] [(.ref b1), (.int x232)])) (fun t k => ?_) ?_
    · show Steps p.tables e below (T231.setTop (mkF m 208 #[d0, d1, d2, d3, d4, d5, .val (.int v6), .val (.int v7), .val (.int v8), d9, d10, d11, d12, .val (.int v13), .val (.ref b1), .val (.int x230)] [(.int x232)])) t
      refine XS.istore X231.here hx rfl (hb hby at_208) rfl (l' := #[d0, d1, d2, d3, d4, d5, .val (.int v6), .val (.int v7), .val (.int v8), d9, d10, d11, d12, .val (.int v13), .val (.ref b1), .val (.int x232)]) rfl ?_
      show Steps p.tables e below (T231.setTop (mkF m 210 #[d0, d1, d2, d3, d4, d5, .val (.int v6), .val (.int v7), .val (.int v8), d9, d10, d11, d12, .val (.int v13), .val (.ref b1), .val (.int x232)] [])) t
      refine XS.iload X231.here hx rfl (hb hby at_210) rfl ?_
      show Steps p.tables e below (T231.setTop (mkF m 212 #[d0, d1, d2, d3, d4, d5, .val (.int v6), .val (.int v7), .val (.int v8), d9, d10, d11, d12, .val (.int v13), .val (.ref b1), .val (.int x232)] [(.int x232)])) t
      refine XS.aload X231.here hx rfl (hb hby at_212) rfl rfl ?_
      exact k
    obtain ⟨r233, hr233, hF⟩ := own_bd_e hF
    obtain ⟨cq233, kq233, q233a, q233b, q233c⟩ := isOf hZ rfl E231_b1
    obtain ⟨_, _, ⟨T233, L233, k233, n233⟩, -, X233, ⟨Lc233, hQ233, l233, y233, z233⟩, st233⟩ := X231.virtualBack hx (y := (⟨"tidemark/PayingPass", "pays", "()Z"⟩ : MethodName)) (z := (⟨"tidemark/PayingPass", "pays", "()Z"⟩ : MethodName)) hown (mvT hZ (w28 hw)) (mvT hZ (w29 hw)) (notFace_of_selects (args := #[]) (mvT hZ (w31 hw))) (mvT hZ (w31 hw)) (mvT hZ (w30 hw)) (by decide) (backOf (W := 1) (rm_PayingPass_pays l Z a0 hw [] T231.heap n0 z231_ b1 r231.2.1 r231.2.2.1 r231.2.2.2.1 r231.2.2.2.2.1 r231.2.2.2.2.2 E231_b1 F231_b1_given F231_b1_placed F231_b1_probedEvery F231_b1_taking F231_b1_untilProbed g_b1 r233 hr233) hZ (w32 hw) (w3 hw) (by decide) (by decide)) q233a q233c (g := (mkF m 214 #[d0, d1, d2, d3, d4, d5, .val (.int v6), .val (.int v7), .val (.int v8), d9, d10, d11, d12, .val (.int v13), .val (.ref b1), .val (.int x232)] [(.ref b1), (.int x232)])) rfl (by rw [hml]; rfl) (Steps.refl _) (argsL := []) (rest := [(.int x232)]) (lenOf pd_1 rfl) rfl (by show 2 * 0 + _ ≤ _; exact Nat.le_of_eq rfl) (hb hby at_214) (fun _ _ => ⟨rfl, rfl, (by decide : 1 + 0 ≤ _), (by decide : 5 + 0 ≤ _)⟩)
    dsimp only [Pt.U, Pt.locs, Pt.cells, Pt.slots] at X233 l233 y233 z233 st233 hQ233
    subst l233 y233 z233
    obtain ⟨rfl, N233q, e233⟩ := hQ233
    have N233 := Fr.app N231 N233q
    refine own_Goes.tr st233 ?_
    show own_Goes _ _ _ _ _ _ _ (T233.setTop (mkF m 217 #[d0, d1, d2, d3, d4, d5, .val (.int v6), .val (.int v7), .val (.int v8), d9, d10, d11, d12, .val (.int v13), .val (.ref b1), .val (.int x232)] [(.int r233), (.int x232)]))
    refine own_Goes.via (B := T233.setTop (mkF m 219 #[d0, d1, d2, d3, d4, d5, .val (.int v6), .val (.int v7), .val (.int v8), d9, d10, d11, d12, .val (.int v13), .val (.ref b1), .val (.int x232)] [(.int v8), (.int r233), (.int x232)])) (fun t k => ?_) ?_
    · show Steps p.tables e below (T233.setTop (mkF m 217 #[d0, d1, d2, d3, d4, d5, .val (.int v6), .val (.int v7), .val (.int v8), d9, d10, d11, d12, .val (.int v13), .val (.ref b1), .val (.int x232)] [(.int r233), (.int x232)])) t
      refine XS.iload X233.here hx rfl (hb hby at_217) rfl ?_
      exact k
    by_cases hc219 : r233 = v8
    · rw [if_pos hc219] at hF
      refine own_Goes.via (B := T233.setTop (mkF m 227 #[d0, d1, d2, d3, d4, d5, .val (.int v6), .val (.int v7), .val (.int v8), d9, d10, d11, d12, .val (.int v13), .val (.ref b1), .val (.int x232)] [(.int (1 : Int32)), (.int x232)])) (fun t k => ?_) ?_
      · show Steps p.tables e below (T233.setTop (mkF m 219 #[d0, d1, d2, d3, d4, d5, .val (.int v6), .val (.int v7), .val (.int v8), d9, d10, d11, d12, .val (.int v13), .val (.ref b1), .val (.int x232)] [(.int v8), (.int r233), (.int x232)])) t
        refine XS.icmpNo X233.here hx rfl (hb hby at_219) rfl (teq hc219).2 ?_
        show Steps p.tables e below (T233.setTop (mkF m 222 #[d0, d1, d2, d3, d4, d5, .val (.int v6), .val (.int v7), .val (.int v8), d9, d10, d11, d12, .val (.int v13), .val (.ref b1), .val (.int x232)] [(.int x232)])) t
        refine XS.iconst X233.here hx rfl (hb hby at_222) ?_
        show Steps p.tables e below (T233.setTop (mkF m 223 #[d0, d1, d2, d3, d4, d5, .val (.int v6), .val (.int v7), .val (.int v8), d9, d10, d11, d12, .val (.int v13), .val (.ref b1), .val (.int x232)] [(.int (1 : Int32)), (.int x232)])) t
        refine XS.goto X233.here hx rfl (pc0 := 223) (pc' := 227) rfl (hb hby at_223) (by decide) (by decide) ?_
        exact k
      exact b_law_227 cx X233 e233 N233 K231_ z231_ b1 v6 v7 v13 (1 : Int32) x232 r231.2.1 r231.2.2.1 r231.2.2.2.1 r231.2.2.2.2.1 r231.2.2.2.2.2 d0 d1 d2 d3 d4 d5 (.val (.int v8)) d9 d10 d11 d12 (.val (.int x232)) o_d0 o_d1 o_d2 o_d3 o_d4 o_d5 (One.val rfl) o_d9 o_d10 o_d11 o_d12 (One.val rfl) E231_b1 F231_b1_given F231_b1_placed F231_b1_probedEvery F231_b1_taking F231_b1_untilProbed g_b1 nE_b1 _ hF
    · rw [if_neg hc219] at hF
      refine own_Goes.via (B := T233.setTop (mkF m 227 #[d0, d1, d2, d3, d4, d5, .val (.int v6), .val (.int v7), .val (.int v8), d9, d10, d11, d12, .val (.int v13), .val (.ref b1), .val (.int x232)] [(.int (0 : Int32)), (.int x232)])) (fun t k => ?_) ?_
      · show Steps p.tables e below (T233.setTop (mkF m 219 #[d0, d1, d2, d3, d4, d5, .val (.int v6), .val (.int v7), .val (.int v8), d9, d10, d11, d12, .val (.int v13), .val (.ref b1), .val (.int x232)] [(.int v8), (.int r233), (.int x232)])) t
        refine XS.icmpYes X233.here hx rfl (pc0 := 219) (pc' := 226) rfl (hb hby at_219) rfl (feq hc219).2 (by decide) (by decide) ?_
        show Steps p.tables e below (T233.setTop (mkF m 226 #[d0, d1, d2, d3, d4, d5, .val (.int v6), .val (.int v7), .val (.int v8), d9, d10, d11, d12, .val (.int v13), .val (.ref b1), .val (.int x232)] [(.int x232)])) t
        refine XS.iconst X233.here hx rfl (hb hby at_226) ?_
        exact k
      exact b_law_227 cx X233 e233 N233 K231_ z231_ b1 v6 v7 v13 (0 : Int32) x232 r231.2.1 r231.2.2.1 r231.2.2.2.1 r231.2.2.2.2.1 r231.2.2.2.2.2 d0 d1 d2 d3 d4 d5 (.val (.int v8)) d9 d10 d11 d12 (.val (.int x232)) o_d0 o_d1 o_d2 o_d3 o_d4 o_d5 (One.val rfl) o_d9 o_d10 o_d11 o_d12 (One.val rfl) E231_b1 F231_b1_given F231_b1_placed F231_b1_probedEvery F231_b1_taking F231_b1_untilProbed g_b1 nE_b1 _ hF
  · rw [if_neg hc199] at hF
    refine own_Goes.via (B := T231.setTop (mkF m 208 #[d0, d1, d2, d3, d4, d5, .val (.int v6), .val (.int v7), .val (.int v8), d9, d10, d11, d12, .val (.int v13), .val (.ref b1), .val (.int x230)] [(.int (x230 &&& (0 : Int32)))])) (fun t k => ?_) ?_
    · show Steps p.tables e below (T231.setTop (mkF m 199 #[d0, d1, d2, d3, d4, d5, .val (.int v6), .val (.int v7), .val (.int v8), d9, d10, d11, d12, .val (.int v13), .val (.ref b1), .val (.int x230)] [(.int v8), (.int r231.1), (.int x230)])) t
      refine XS.icmpYes X231.here hx rfl (pc0 := 199) (pc' := 206) rfl (hb hby at_199) rfl (feq hc199).2 (by decide) (by decide) ?_
      show Steps p.tables e below (T231.setTop (mkF m 206 #[d0, d1, d2, d3, d4, d5, .val (.int v6), .val (.int v7), .val (.int v8), d9, d10, d11, d12, .val (.int v13), .val (.ref b1), .val (.int x230)] [(.int x230)])) t
      refine XS.iconst X231.here hx rfl (hb hby at_206) ?_
      show Steps p.tables e below (T231.setTop (mkF m 207 #[d0, d1, d2, d3, d4, d5, .val (.int v6), .val (.int v7), .val (.int v8), d9, d10, d11, d12, .val (.int v13), .val (.ref b1), .val (.int x230)] [(.int (0 : Int32)), (.int x230)])) t
      refine XS.iand X231.here hx rfl (hb hby at_207) rfl ?_
      exact k
    obtain ⟨x234, hx234, hF⟩ := own_lt_e hF
    rw [← hx234]
    refine own_Goes.via (B := T231.setTop (mkF m 214 #[d0, d1, d2, d3, d4, d5, .val (.int v6), .val (.int v7), .val (.int v8), d9, d10, d11, d12, .val (.int v13), .val (.ref b1), .val (.int x234)] [(.ref b1), (.int x234)])) (fun t k => ?_) ?_
    · show Steps p.tables e below (T231.setTop (mkF m 208 #[d0, d1, d2, d3, d4, d5, .val (.int v6), .val (.int v7), .val (.int v8), d9, d10, d11, d12, .val (.int v13), .val (.ref b1), .val (.int x230)] [(.int x234)])) t
      refine XS.istore X231.here hx rfl (hb hby at_208) rfl (l' := #[d0, d1, d2, d3, d4, d5, .val (.int v6), .val (.int v7), .val (.int v8), d9, d10, d11, d12, .val (.int v13), .val (.ref b1), .val (.int x234)]) rfl ?_
      show Steps p.tables e below (T231.setTop (mkF m 210 #[d0, d1, d2, d3, d4, d5, .val (.int v6), .val (.int v7), .val (.int v8), d9, d10, d11, d12, .val (.int v13), .val (.ref b1), .val (.int x234)] [])) t
      refine XS.iload X231.here hx rfl (hb hby at_210) rfl ?_
      show Steps p.tables e below (T231.setTop (mkF m 212 #[d0, d1, d2, d3, d4, d5, .val (.int v6), .val (.int v7), .val (.int v8), d9, d10, d11, d12, .val (.int v13), .val (.ref b1), .val (.int x234)] [(.int x234)])) t
      refine XS.aload X231.here hx rfl (hb hby at_212) rfl rfl ?_
      exact k
    obtain ⟨r235, hr235, hF⟩ := own_bd_e hF
    obtain ⟨cq235, kq235, q235a, q235b, q235c⟩ := isOf hZ rfl E231_b1
    obtain ⟨_, _, ⟨T235, L235, k235, n235⟩, -, X235, ⟨Lc235, hQ235, l235, y235, z235⟩, st235⟩ := X231.virtualBack hx (y := (⟨"tidemark/PayingPass", "pays", "()Z"⟩ : MethodName)) (z := (⟨"tidemark/PayingPass", "pays", "()Z"⟩ : MethodName)) hown (mvT hZ (w28 hw)) (mvT hZ (w29 hw)) (notFace_of_selects (args := #[]) (mvT hZ (w31 hw))) (mvT hZ (w31 hw)) (mvT hZ (w30 hw)) (by decide) (backOf (W := 1) (rm_PayingPass_pays l Z a0 hw [] T231.heap n0 z231_ b1 r231.2.1 r231.2.2.1 r231.2.2.2.1 r231.2.2.2.2.1 r231.2.2.2.2.2 E231_b1 F231_b1_given F231_b1_placed F231_b1_probedEvery F231_b1_taking F231_b1_untilProbed g_b1 r235 hr235) hZ (w32 hw) (w3 hw) (by decide) (by decide)) q235a q235c (g := (mkF m 214 #[d0, d1, d2, d3, d4, d5, .val (.int v6), .val (.int v7), .val (.int v8), d9, d10, d11, d12, .val (.int v13), .val (.ref b1), .val (.int x234)] [(.ref b1), (.int x234)])) rfl (by rw [hml]; rfl) (Steps.refl _) (argsL := []) (rest := [(.int x234)]) (lenOf pd_1 rfl) rfl (by show 2 * 0 + _ ≤ _; exact Nat.le_of_eq rfl) (hb hby at_214) (fun _ _ => ⟨rfl, rfl, (by decide : 1 + 0 ≤ _), (by decide : 5 + 0 ≤ _)⟩)
    dsimp only [Pt.U, Pt.locs, Pt.cells, Pt.slots] at X235 l235 y235 z235 st235 hQ235
    subst l235 y235 z235
    obtain ⟨rfl, N235q, e235⟩ := hQ235
    have N235 := Fr.app N231 N235q
    refine own_Goes.tr st235 ?_
    show own_Goes _ _ _ _ _ _ _ (T235.setTop (mkF m 217 #[d0, d1, d2, d3, d4, d5, .val (.int v6), .val (.int v7), .val (.int v8), d9, d10, d11, d12, .val (.int v13), .val (.ref b1), .val (.int x234)] [(.int r235), (.int x234)]))
    refine own_Goes.via (B := T235.setTop (mkF m 219 #[d0, d1, d2, d3, d4, d5, .val (.int v6), .val (.int v7), .val (.int v8), d9, d10, d11, d12, .val (.int v13), .val (.ref b1), .val (.int x234)] [(.int v8), (.int r235), (.int x234)])) (fun t k => ?_) ?_
    · show Steps p.tables e below (T235.setTop (mkF m 217 #[d0, d1, d2, d3, d4, d5, .val (.int v6), .val (.int v7), .val (.int v8), d9, d10, d11, d12, .val (.int v13), .val (.ref b1), .val (.int x234)] [(.int r235), (.int x234)])) t
      refine XS.iload X235.here hx rfl (hb hby at_217) rfl ?_
      exact k
    by_cases hc219 : r235 = v8
    · rw [if_pos hc219] at hF
      refine own_Goes.via (B := T235.setTop (mkF m 227 #[d0, d1, d2, d3, d4, d5, .val (.int v6), .val (.int v7), .val (.int v8), d9, d10, d11, d12, .val (.int v13), .val (.ref b1), .val (.int x234)] [(.int (1 : Int32)), (.int x234)])) (fun t k => ?_) ?_
      · show Steps p.tables e below (T235.setTop (mkF m 219 #[d0, d1, d2, d3, d4, d5, .val (.int v6), .val (.int v7), .val (.int v8), d9, d10, d11, d12, .val (.int v13), .val (.ref b1), .val (.int x234)] [(.int v8), (.int r235), (.int x234)])) t
        refine XS.icmpNo X235.here hx rfl (hb hby at_219) rfl (teq hc219).2 ?_
        show Steps p.tables e below (T235.setTop (mkF m 222 #[d0, d1, d2, d3, d4, d5, .val (.int v6), .val (.int v7), .val (.int v8), d9, d10, d11, d12, .val (.int v13), .val (.ref b1), .val (.int x234)] [(.int x234)])) t
        refine XS.iconst X235.here hx rfl (hb hby at_222) ?_
        show Steps p.tables e below (T235.setTop (mkF m 223 #[d0, d1, d2, d3, d4, d5, .val (.int v6), .val (.int v7), .val (.int v8), d9, d10, d11, d12, .val (.int v13), .val (.ref b1), .val (.int x234)] [(.int (1 : Int32)), (.int x234)])) t
        refine XS.goto X235.here hx rfl (pc0 := 223) (pc' := 227) rfl (hb hby at_223) (by decide) (by decide) ?_
        exact k
      exact b_law_227 cx X235 e235 N235 K231_ z231_ b1 v6 v7 v13 (1 : Int32) x234 r231.2.1 r231.2.2.1 r231.2.2.2.1 r231.2.2.2.2.1 r231.2.2.2.2.2 d0 d1 d2 d3 d4 d5 (.val (.int v8)) d9 d10 d11 d12 (.val (.int x234)) o_d0 o_d1 o_d2 o_d3 o_d4 o_d5 (One.val rfl) o_d9 o_d10 o_d11 o_d12 (One.val rfl) E231_b1 F231_b1_given F231_b1_placed F231_b1_probedEvery F231_b1_taking F231_b1_untilProbed g_b1 nE_b1 _ hF
    · rw [if_neg hc219] at hF
      refine own_Goes.via (B := T235.setTop (mkF m 227 #[d0, d1, d2, d3, d4, d5, .val (.int v6), .val (.int v7), .val (.int v8), d9, d10, d11, d12, .val (.int v13), .val (.ref b1), .val (.int x234)] [(.int (0 : Int32)), (.int x234)])) (fun t k => ?_) ?_
      · show Steps p.tables e below (T235.setTop (mkF m 219 #[d0, d1, d2, d3, d4, d5, .val (.int v6), .val (.int v7), .val (.int v8), d9, d10, d11, d12, .val (.int v13), .val (.ref b1), .val (.int x234)] [(.int v8), (.int r235), (.int x234)])) t
        refine XS.icmpYes X235.here hx rfl (pc0 := 219) (pc' := 226) rfl (hb hby at_219) rfl (feq hc219).2 (by decide) (by decide) ?_
        show Steps p.tables e below (T235.setTop (mkF m 226 #[d0, d1, d2, d3, d4, d5, .val (.int v6), .val (.int v7), .val (.int v8), d9, d10, d11, d12, .val (.int v13), .val (.ref b1), .val (.int x234)] [(.int x234)])) t
        refine XS.iconst X235.here hx rfl (hb hby at_226) ?_
        exact k
      exact b_law_227 cx X235 e235 N235 K231_ z231_ b1 v6 v7 v13 (0 : Int32) x234 r231.2.1 r231.2.2.1 r231.2.2.2.1 r231.2.2.2.2.1 r231.2.2.2.2.2 d0 d1 d2 d3 d4 d5 (.val (.int v8)) d9 d10 d11 d12 (.val (.int x234)) o_d0 o_d1 o_d2 o_d3 o_d4 o_d5 (One.val rfl) o_d9 o_d10 o_d11 o_d12 (One.val rfl) E231_b1 F231_b1_given F231_b1_placed F231_b1_probedEvery F231_b1_taking F231_b1_untilProbed g_b1 nE_b1 _ hF
set_option maxRecDepth 65536 in
set_option maxHeartbeats 4000000 in
theorem b_law_125 {p : Program} {l : Launch} {e : Env} {s : State} {m : MethodId} {args : Array Value} {below : List Frame} {meth : Method} {c : Code} {Z : State} {a0 : Array Value} {n0 : Nat} {hE : Heap} (cx : Cx_law p s m meth c Z a0) :
    ∀ {T : State} {locs : List Loc} {h : Heap} (X : Stand p l e room_1 s m args below meth c T locs 0 0) (eT : T.heap = h) (N : Fr n0 locs) (K : Keep hE h []) (z : n0 ≤ h.size) (v4 : Int32) (v5 : Int32) (v6 : Int32) (v7 : Int32) (v8 : Int32) (v13 : Int32) (d0 : Slot) (d1 : Slot) (d2 : Slot) (d3 : Slot) (d9 : Slot) (d10 : Slot) (d11 : Slot) (d12 : Slot) (d14 : Slot) (d15 : Slot) (o_d0 : One d0) (o_d1 : One d1) (o_d2 : One d2) (o_d3 : One d3) (o_d9 : One d9) (o_d10 : One d10) (o_d11 : One d11) (o_d12 : One d12) (o_d14 : One d14) (o_d15 : One d15) (r : Int32), f_law_125 v4 v5 v6 v7 v8 v13 = some r → own_Goes p e below s (Q_law Z hE n0 r) 1 5 (T.setTop (mkF m 125 #[d0, d1, d2, d3, .val (.int v4), .val (.int v5), .val (.int v6), .val (.int v7), .val (.int v8), d9, d10, d11, d12, .val (.int v13), d14, d15] [])) := by
  have cx' := cx
  obtain ⟨hx, hZ, hw, hby, hml, hown, hret, hlk, hnm⟩ := cx'
  intro T locs h X eT N K z v4 v5 v6 v7 v8 v13 d0 d1 d2 d3 d9 d10 d11 d12 d14 d15 o_d0 o_d1 o_d2 o_d3 o_d9 o_d10 o_d11 o_d12 o_d14 o_d15 r hF
  unfold f_law_125 at hF
  obtain ⟨T238, h238, X238, e238, E238, A238, D238, -, st238⟩ := newO X hx hZ hown (w1 hw) (w2 hw) (w3 hw) eT (g := (mkF m 125 #[d0, d1, d2, d3, .val (.int v4), .val (.int v5), .val (.int v6), .val (.int v7), .val (.int v8), d9, d10, d11, d12, .val (.int v13), d14, d15] [])) rfl (hb hby at_125) (by decide) (by decide)
  obtain ⟨c238, q238⟩ : ∃ z, z = h.size := ⟨_, rfl⟩
  rw [← q238] at A238 D238 st238
  have F238_c238_taking : Fld Z h238 c238 "tidemark/PayingPass" "taking" "Z" (.int (0 : Int32)) := D238 (Or.inl (w11 hw)) (ty := .boolean) (by decide)
  have F238_c238_probedEvery : Fld Z h238 c238 "tidemark/PayingPass" "probedEvery" "I" (.int (0 : Int32)) := D238 (Or.inl (w13 hw)) (ty := .int) (by decide)
  have F238_c238_given : Fld Z h238 c238 "tidemark/PayingPass" "given" "I" (.int (0 : Int32)) := D238 (Or.inl (w25 hw)) (ty := .int) (by decide)
  have F238_c238_placed : Fld Z h238 c238 "tidemark/PayingPass" "placed" "I" (.int (0 : Int32)) := D238 (Or.inl (w27 hw)) (ty := .int) (by decide)
  have F238_c238_untilProbed : Fld Z h238 c238 "tidemark/PayingPass" "untilProbed" "I" (.int (0 : Int32)) := D238 (Or.inl (w34 hw)) (ty := .int) (by decide)
  have g238_c238 : n0 ≤ c238 := Nat.le_trans z (Nat.le_of_eq q238.symm)
  have nE238_c238 : hE.size ≤ c238 := Nat.le_trans K.1 (Nat.le_of_eq q238.symm)
  have z238 := Nat.le_trans z E238.1
  have K238_ := K.ext E238
  refine own_Goes.via st238 ?_
  show own_Goes _ _ _ _ _ _ _ (T238.setTop (mkF m 128 #[d0, d1, d2, d3, .val (.int v4), .val (.int v5), .val (.int v6), .val (.int v7), .val (.int v8), d9, d10, d11, d12, .val (.int v13), d14, d15] [(.ref c238)]))
  refine own_Goes.via (B := T238.setTop (mkF m 129 #[d0, d1, d2, d3, .val (.int v4), .val (.int v5), .val (.int v6), .val (.int v7), .val (.int v8), d9, d10, d11, d12, .val (.int v13), d14, d15] [(.ref c238), (.ref c238)])) (fun t k => ?_) ?_
  · show Steps p.tables e below (T238.setTop (mkF m 128 #[d0, d1, d2, d3, .val (.int v4), .val (.int v5), .val (.int v6), .val (.int v7), .val (.int v8), d9, d10, d11, d12, .val (.int v13), d14, d15] [(.ref c238)])) t
    refine XS.dup X238.here hx rfl (hb hby at_128) rfl rfl ?_
    exact k
  obtain ⟨r239, hr239, hF⟩ := own_bd_e hF
  obtain ⟨_, _, ⟨T239, L239, k239, n239⟩, -, X239, ⟨Lc239, hQ239, l239, y239, z239⟩, st239⟩ := X238.specialBack hx (y := (⟨"tidemark/PayingPass", "<init>", "()V"⟩ : MethodName)) rfl hown (mvT hZ (w4 hw)) (mvT hZ (w5 hw)) (mvT hZ (w6 hw)) (by decide) (backOf (W := 1) (rm_PayingPass_mk l Z a0 hw [] h238 n0 z238 c238 (0 : Int32) (0 : Int32) (0 : Int32) (0 : Int32) (0 : Int32) A238 F238_c238_given F238_c238_placed F238_c238_probedEvery F238_c238_taking F238_c238_untilProbed g238_c238 r239 hr239) hZ (w6 hw) (w3 hw) (by decide) (by decide)) (g := (mkF m 129 #[d0, d1, d2, d3, .val (.int v4), .val (.int v5), .val (.int v6), .val (.int v7), .val (.int v8), d9, d10, d11, d12, .val (.int v13), d14, d15] [(.ref c238), (.ref c238)])) rfl (by rw [hml]; rfl) (Steps.refl _) (a := c238) (argsL := []) (rest := [(.ref c238)]) (lenOf pd_0 rfl) rfl (by show 2 * 0 + _ ≤ _; exact Nat.le_of_eq rfl) (hb hby at_129) (fun _ _ => ⟨rfl, e238, (by decide : 1 + 0 ≤ _), (by decide : 5 + 0 ≤ _)⟩)
  dsimp only [Pt.U, Pt.locs, Pt.cells, Pt.slots] at X239 l239 y239 z239 st239 hQ239
  subst l239 y239 z239
  obtain ⟨rfl, N239q, K239, E239_c238, F239_c238_given, F239_c238_placed, F239_c238_probedEvery, F239_c238_taking, F239_c238_untilProbed⟩ := hQ239
  have N239 := Fr.app N N239q
  have K239_ := K238_.trans K239 (allS (Or.inr nE238_c238) all0)
  have z239_ := Nat.le_trans z238 K239.1
  refine own_Goes.tr st239 ?_
  show own_Goes _ _ _ _ _ _ _ (T239.setTop (mkF m 132 #[d0, d1, d2, d3, .val (.int v4), .val (.int v5), .val (.int v6), .val (.int v7), .val (.int v8), d9, d10, d11, d12, .val (.int v13), d14, d15] [(.ref c238)]))
  refine own_Goes.via (B := T239.setTop (mkF m 136 #[d0, d1, d2, d3, .val (.int v4), .val (.int v5), .val (.int v6), .val (.int v7), .val (.int v8), d9, d10, d11, d12, .val (.int v13), .val (.ref c238), d15] [(.ref c238)])) (fun t k => ?_) ?_
  · show Steps p.tables e below (T239.setTop (mkF m 132 #[d0, d1, d2, d3, .val (.int v4), .val (.int v5), .val (.int v6), .val (.int v7), .val (.int v8), d9, d10, d11, d12, .val (.int v13), d14, d15] [(.ref c238)])) t
    refine XS.astoreS X239.here hx rfl (hb hby at_132) rfl rfl rfl rfl o_d14 ?_
    show Steps p.tables e below (T239.setTop (mkF m 134 #[d0, d1, d2, d3, .val (.int v4), .val (.int v5), .val (.int v6), .val (.int v7), .val (.int v8), d9, d10, d11, d12, .val (.int v13), .val (.ref c238), d15] [])) t
    refine XS.aload X239.here hx rfl (hb hby at_134) rfl rfl ?_
    exact k
  obtain ⟨r240, hr240, hF⟩ := own_bd_e hF
  obtain ⟨cq240, kq240, q240a, q240b, q240c⟩ := isOf hZ rfl E239_c238
  obtain ⟨_, _, ⟨T240, L240, k240, n240⟩, -, X240, ⟨Lc240, hQ240, l240, y240, z240⟩, st240⟩ := X239.virtualBack hx (y := (⟨"tidemark/PayingPass", "taken", "()Z"⟩ : MethodName)) (z := (⟨"tidemark/PayingPass", "taken", "()Z"⟩ : MethodName)) hown (mvT hZ (w14 hw)) (mvT hZ (w15 hw)) (notFace_of_selects (args := #[]) (mvT hZ (w17 hw))) (mvT hZ (w17 hw)) (mvT hZ (w16 hw)) (by decide) (backOf (W := 0) (rm_PayingPass_taken l Z a0 hw [] T239.heap n0 z239_ c238 r239.1 r239.2.1 r239.2.2.1 r239.2.2.2.1 r239.2.2.2.2 E239_c238 F239_c238_given F239_c238_placed F239_c238_probedEvery F239_c238_taking F239_c238_untilProbed g238_c238 r240 hr240) hZ (w18 hw) (w3 hw) (by decide) (by decide)) q240a q240c (g := (mkF m 136 #[d0, d1, d2, d3, .val (.int v4), .val (.int v5), .val (.int v6), .val (.int v7), .val (.int v8), d9, d10, d11, d12, .val (.int v13), .val (.ref c238), d15] [(.ref c238)])) rfl (by rw [hml]; rfl) (Steps.refl _) (argsL := []) (rest := []) (lenOf pd_1 rfl) rfl (by show 2 * 0 + _ ≤ _; exact Nat.le_of_eq rfl) (hb hby at_136) (fun _ _ => ⟨rfl, rfl, (by decide : 1 + 0 ≤ _), (by decide : 5 + 0 ≤ _)⟩)
  dsimp only [Pt.U, Pt.locs, Pt.cells, Pt.slots] at X240 l240 y240 z240 st240 hQ240
  subst l240 y240 z240
  obtain ⟨rfl, N240q, K240, E240_c238, F240_c238_given, F240_c238_placed, F240_c238_probedEvery, F240_c238_taking, F240_c238_untilProbed⟩ := hQ240
  have N240 := Fr.app N239 N240q
  have K240_ := K239_.trans K240 (allS (Or.inr nE238_c238) all0)
  have z240_ := Nat.le_trans z239_ K240.1
  refine own_Goes.tr st240 ?_
  show own_Goes _ _ _ _ _ _ _ (T240.setTop (mkF m 139 #[d0, d1, d2, d3, .val (.int v4), .val (.int v5), .val (.int v6), .val (.int v7), .val (.int v8), d9, d10, d11, d12, .val (.int v13), .val (.ref c238), d15] [(.int r240.1)]))
  refine own_Goes.via (B := T240.setTop (mkF m 147 #[d0, d1, d2, d3, .val (.int v4), .val (.int v5), .val (.int v6), .val (.int v7), .val (.int v8), d9, d10, d11, d12, .val (.int v13), .val (.ref c238), .val (.int r240.1)] [(.int v5), (.int v4), (.ref c238)])) (fun t k => ?_) ?_
  · show Steps p.tables e below (T240.setTop (mkF m 139 #[d0, d1, d2, d3, .val (.int v4), .val (.int v5), .val (.int v6), .val (.int v7), .val (.int v8), d9, d10, d11, d12, .val (.int v13), .val (.ref c238), d15] [(.int r240.1)])) t
    refine XS.istoreS X240.here hx rfl (hb hby at_139) rfl rfl o_d15 ?_
    show Steps p.tables e below (T240.setTop (mkF m 141 #[d0, d1, d2, d3, .val (.int v4), .val (.int v5), .val (.int v6), .val (.int v7), .val (.int v8), d9, d10, d11, d12, .val (.int v13), .val (.ref c238), .val (.int r240.1)] [])) t
    refine XS.aload X240.here hx rfl (hb hby at_141) rfl rfl ?_
    show Steps p.tables e below (T240.setTop (mkF m 143 #[d0, d1, d2, d3, .val (.int v4), .val (.int v5), .val (.int v6), .val (.int v7), .val (.int v8), d9, d10, d11, d12, .val (.int v13), .val (.ref c238), .val (.int r240.1)] [(.ref c238)])) t
    refine XS.iload X240.here hx rfl (hb hby at_143) rfl ?_
    show Steps p.tables e below (T240.setTop (mkF m 145 #[d0, d1, d2, d3, .val (.int v4), .val (.int v5), .val (.int v6), .val (.int v7), .val (.int v8), d9, d10, d11, d12, .val (.int v13), .val (.ref c238), .val (.int r240.1)] [(.int v4), (.ref c238)])) t
    refine XS.iload X240.here hx rfl (hb hby at_145) rfl ?_
    exact k
  obtain ⟨r241, hr241, hF⟩ := own_bd_e hF
  obtain ⟨cq241, kq241, q241a, q241b, q241c⟩ := isOf hZ rfl E240_c238
  obtain ⟨_, _, ⟨T241, L241, k241, n241⟩, -, X241, ⟨Lc241, hQ241, l241, y241, z241⟩, st241⟩ := X240.virtualBack hx (y := (⟨"tidemark/PayingPass", "judge", "(II)V"⟩ : MethodName)) (z := (⟨"tidemark/PayingPass", "judge", "(II)V"⟩ : MethodName)) hown (mvT hZ (w19 hw)) (mvT hZ (w20 hw)) (notFace_of_selects (args := #[]) (mvT hZ (w22 hw))) (mvT hZ (w22 hw)) (mvT hZ (w21 hw)) (by decide) (backOf (W := 0) (rm_PayingPass_judge l Z a0 hw [] T240.heap n0 z240_ c238 v4 v5 r240.2.1 r240.2.2.1 r240.2.2.2.1 r240.2.2.2.2.1 r240.2.2.2.2.2 E240_c238 F240_c238_given F240_c238_placed F240_c238_probedEvery F240_c238_taking F240_c238_untilProbed g238_c238 r241 hr241) hZ (w23 hw) (w3 hw) (by decide) (by decide)) q241a q241c (g := (mkF m 147 #[d0, d1, d2, d3, .val (.int v4), .val (.int v5), .val (.int v6), .val (.int v7), .val (.int v8), d9, d10, d11, d12, .val (.int v13), .val (.ref c238), .val (.int r240.1)] [(.int v5), (.int v4), (.ref c238)])) rfl (by rw [hml]; rfl) (Steps.refl _) (argsL := [(.int v4), (.int v5)]) (rest := []) (lenOf pd_3 rfl) rfl (by show 2 * 0 + _ ≤ _; exact Nat.le_of_eq rfl) (hb hby at_147) (fun _ _ => ⟨rfl, rfl, (by decide : 1 + 0 ≤ _), (by decide : 5 + 0 ≤ _)⟩)
  dsimp only [Pt.U, Pt.locs, Pt.cells, Pt.slots] at X241 l241 y241 z241 st241 hQ241
  subst l241 y241 z241
  obtain ⟨rfl, N241q, K241, E241_c238, F241_c238_given, F241_c238_placed, F241_c238_probedEvery, F241_c238_taking, F241_c238_untilProbed⟩ := hQ241
  have N241 := Fr.app N240 N241q
  have K241_ := K240_.trans K241 (allS (Or.inr nE238_c238) all0)
  have z241_ := Nat.le_trans z240_ K241.1
  refine own_Goes.tr st241 ?_
  show own_Goes _ _ _ _ _ _ _ (T241.setTop (mkF m 150 #[d0, d1, d2, d3, .val (.int v4), .val (.int v5), .val (.int v6), .val (.int v7), .val (.int v8), d9, d10, d11, d12, .val (.int v13), .val (.ref c238), .val (.int r240.1)] []))
  refine own_Goes.via (B := T241.setTop (mkF m 154 #[d0, d1, d2, d3, .val (.int v4), .val (.int v5), .val (.int v6), .val (.int v7), .val (.int v8), d9, d10, d11, d12, .val (.int v13), .val (.ref c238), .val (.int r240.1)] [(.ref c238), (.int r240.1)])) (fun t k => ?_) ?_
  · show Steps p.tables e below (T241.setTop (mkF m 150 #[d0, d1, d2, d3, .val (.int v4), .val (.int v5), .val (.int v6), .val (.int v7), .val (.int v8), d9, d10, d11, d12, .val (.int v13), .val (.ref c238), .val (.int r240.1)] [])) t
    refine XS.iload X241.here hx rfl (hb hby at_150) rfl ?_
    show Steps p.tables e below (T241.setTop (mkF m 152 #[d0, d1, d2, d3, .val (.int v4), .val (.int v5), .val (.int v6), .val (.int v7), .val (.int v8), d9, d10, d11, d12, .val (.int v13), .val (.ref c238), .val (.int r240.1)] [(.int r240.1)])) t
    refine XS.aload X241.here hx rfl (hb hby at_152) rfl rfl ?_
    exact k
  obtain ⟨r242, hr242, hF⟩ := own_bd_e hF
  obtain ⟨cq242, kq242, q242a, q242b, q242c⟩ := isOf hZ rfl E241_c238
  obtain ⟨_, _, ⟨T242, L242, k242, n242⟩, -, X242, ⟨Lc242, hQ242, l242, y242, z242⟩, st242⟩ := X241.virtualBack hx (y := (⟨"tidemark/PayingPass", "taken", "()Z"⟩ : MethodName)) (z := (⟨"tidemark/PayingPass", "taken", "()Z"⟩ : MethodName)) hown (mvT hZ (w14 hw)) (mvT hZ (w15 hw)) (notFace_of_selects (args := #[]) (mvT hZ (w17 hw))) (mvT hZ (w17 hw)) (mvT hZ (w16 hw)) (by decide) (backOf (W := 1) (rm_PayingPass_taken l Z a0 hw [] T241.heap n0 z241_ c238 r241.1 r241.2.1 r241.2.2.1 r241.2.2.2.1 r241.2.2.2.2 E241_c238 F241_c238_given F241_c238_placed F241_c238_probedEvery F241_c238_taking F241_c238_untilProbed g238_c238 r242 hr242) hZ (w18 hw) (w3 hw) (by decide) (by decide)) q242a q242c (g := (mkF m 154 #[d0, d1, d2, d3, .val (.int v4), .val (.int v5), .val (.int v6), .val (.int v7), .val (.int v8), d9, d10, d11, d12, .val (.int v13), .val (.ref c238), .val (.int r240.1)] [(.ref c238), (.int r240.1)])) rfl (by rw [hml]; rfl) (Steps.refl _) (argsL := []) (rest := [(.int r240.1)]) (lenOf pd_1 rfl) rfl (by show 2 * 0 + _ ≤ _; exact Nat.le_of_eq rfl) (hb hby at_154) (fun _ _ => ⟨rfl, rfl, (by decide : 1 + 0 ≤ _), (by decide : 5 + 0 ≤ _)⟩)
  dsimp only [Pt.U, Pt.locs, Pt.cells, Pt.slots] at X242 l242 y242 z242 st242 hQ242
  subst l242 y242 z242
  obtain ⟨rfl, N242q, K242, E242_c238, F242_c238_given, F242_c238_placed, F242_c238_probedEvery, F242_c238_taking, F242_c238_untilProbed⟩ := hQ242
  have N242 := Fr.app N241 N242q
  have K242_ := K241_.trans K242 (allS (Or.inr nE238_c238) all0)
  have z242_ := Nat.le_trans z241_ K242.1
  refine own_Goes.tr st242 ?_
  show own_Goes _ _ _ _ _ _ _ (T242.setTop (mkF m 157 #[d0, d1, d2, d3, .val (.int v4), .val (.int v5), .val (.int v6), .val (.int v7), .val (.int v8), d9, d10, d11, d12, .val (.int v13), .val (.ref c238), .val (.int r240.1)] [(.int r242.1), (.int r240.1)]))
  refine own_Goes.via (B := T242.setTop (mkF m 159 #[d0, d1, d2, d3, .val (.int v4), .val (.int v5), .val (.int v6), .val (.int v7), .val (.int v8), d9, d10, d11, d12, .val (.int v13), .val (.ref c238), .val (.int r240.1)] [(.int v8), (.int r242.1), (.int r240.1)])) (fun t k => ?_) ?_
  · show Steps p.tables e below (T242.setTop (mkF m 157 #[d0, d1, d2, d3, .val (.int v4), .val (.int v5), .val (.int v6), .val (.int v7), .val (.int v8), d9, d10, d11, d12, .val (.int v13), .val (.ref c238), .val (.int r240.1)] [(.int r242.1), (.int r240.1)])) t
    refine XS.iload X242.here hx rfl (hb hby at_157) rfl ?_
    exact k
  by_cases hc159 : r242.1 = v8
  · rw [if_pos hc159] at hF
    refine own_Goes.via (B := T242.setTop (mkF m 168 #[d0, d1, d2, d3, .val (.int v4), .val (.int v5), .val (.int v6), .val (.int v7), .val (.int v8), d9, d10, d11, d12, .val (.int v13), .val (.ref c238), .val (.int r240.1)] [(.int (r240.1 &&& (1 : Int32)))])) (fun t k => ?_) ?_
    · show Steps p.tables e below (T242.setTop (mkF m 159 #[d0, d1, d2, d3, .val (.int v4), .val (.int v5), .val (.int v6), .val (.int v7), .val (.int v8), d9, d10, d11, d12, .val (.int v13), .val (.ref c238), .val (.int r240.1)] [(.int v8), (.int r242.1), (.int r240.1)])) t
      refine XS.icmpNo X242.here hx rfl (hb hby at_159) rfl (teq hc159).2 ?_
      show Steps p.tables e below (T242.setTop (mkF m 162 #[d0, d1, d2, d3, .val (.int v4), .val (.int v5), .val (.int v6), .val (.int v7), .val (.int v8), d9, d10, d11, d12, .val (.int v13), .val (.ref c238), .val (.int r240.1)] [(.int r240.1)])) t
      refine XS.iconst X242.here hx rfl (hb hby at_162) ?_
      show Steps p.tables e below (T242.setTop (mkF m 163 #[d0, d1, d2, d3, .val (.int v4), .val (.int v5), .val (.int v6), .val (.int v7), .val (.int v8), d9, d10, d11, d12, .val (.int v13), .val (.ref c238), .val (.int r240.1)] [(.int (1 : Int32)), (.int r240.1)])) t
      refine XS.goto X242.here hx rfl (pc0 := 163) (pc' := 167) rfl (hb hby at_163) (by decide) (by decide) ?_
      show Steps p.tables e below (T242.setTop (mkF m 167 #[d0, d1, d2, d3, .val (.int v4), .val (.int v5), .val (.int v6), .val (.int v7), .val (.int v8), d9, d10, d11, d12, .val (.int v13), .val (.ref c238), .val (.int r240.1)] [(.int (1 : Int32)), (.int r240.1)])) t
      refine XS.iand X242.here hx rfl (hb hby at_167) rfl ?_
      exact k
    obtain ⟨x243, hx243, hF⟩ := own_lt_e hF
    rw [← hx243]
    refine own_Goes.via (B := T242.setTop (mkF m 174 #[d0, d1, d2, d3, .val (.int v4), .val (.int v5), .val (.int v6), .val (.int v7), .val (.int v8), d9, d10, d11, d12, .val (.int v13), .val (.ref c238), .val (.int x243)] [(.ref c238), (.int x243)])) (fun t k => ?_) ?_
    · show Steps p.tables e below (T242.setTop (mkF m 168 #[d0, d1, d2, d3, .val (.int v4), .val (.int v5), .val (.int v6), .val (.int v7), .val (.int v8), d9, d10, d11, d12, .val (.int v13), .val (.ref c238), .val (.int r240.1)] [(.int x243)])) t
      refine XS.istore X242.here hx rfl (hb hby at_168) rfl (l' := #[d0, d1, d2, d3, .val (.int v4), .val (.int v5), .val (.int v6), .val (.int v7), .val (.int v8), d9, d10, d11, d12, .val (.int v13), .val (.ref c238), .val (.int x243)]) rfl ?_
      show Steps p.tables e below (T242.setTop (mkF m 170 #[d0, d1, d2, d3, .val (.int v4), .val (.int v5), .val (.int v6), .val (.int v7), .val (.int v8), d9, d10, d11, d12, .val (.int v13), .val (.ref c238), .val (.int x243)] [])) t
      refine XS.iload X242.here hx rfl (hb hby at_170) rfl ?_
      show Steps p.tables e below (T242.setTop (mkF m 172 #[d0, d1, d2, d3, .val (.int v4), .val (.int v5), .val (.int v6), .val (.int v7), .val (.int v8), d9, d10, d11, d12, .val (.int v13), .val (.ref c238), .val (.int x243)] [(.int x243)])) t
      refine XS.aload X242.here hx rfl (hb hby at_172) rfl rfl ?_
      exact k
    obtain ⟨r244, hr244, hF⟩ := own_bd_e hF
    obtain ⟨cq244, kq244, q244a, q244b, q244c⟩ := isOf hZ rfl E242_c238
    obtain ⟨_, _, ⟨T244, L244, k244, n244⟩, -, X244, ⟨Lc244, hQ244, l244, y244, z244⟩, st244⟩ := X242.virtualBack hx (y := (⟨"tidemark/PayingPass", "taken", "()Z"⟩ : MethodName)) (z := (⟨"tidemark/PayingPass", "taken", "()Z"⟩ : MethodName)) hown (mvT hZ (w14 hw)) (mvT hZ (w15 hw)) (notFace_of_selects (args := #[]) (mvT hZ (w17 hw))) (mvT hZ (w17 hw)) (mvT hZ (w16 hw)) (by decide) (backOf (W := 1) (rm_PayingPass_taken l Z a0 hw [] T242.heap n0 z242_ c238 r242.2.1 r242.2.2.1 r242.2.2.2.1 r242.2.2.2.2.1 r242.2.2.2.2.2 E242_c238 F242_c238_given F242_c238_placed F242_c238_probedEvery F242_c238_taking F242_c238_untilProbed g238_c238 r244 hr244) hZ (w18 hw) (w3 hw) (by decide) (by decide)) q244a q244c (g := (mkF m 174 #[d0, d1, d2, d3, .val (.int v4), .val (.int v5), .val (.int v6), .val (.int v7), .val (.int v8), d9, d10, d11, d12, .val (.int v13), .val (.ref c238), .val (.int x243)] [(.ref c238), (.int x243)])) rfl (by rw [hml]; rfl) (Steps.refl _) (argsL := []) (rest := [(.int x243)]) (lenOf pd_1 rfl) rfl (by show 2 * 0 + _ ≤ _; exact Nat.le_of_eq rfl) (hb hby at_174) (fun _ _ => ⟨rfl, rfl, (by decide : 1 + 0 ≤ _), (by decide : 5 + 0 ≤ _)⟩)
    dsimp only [Pt.U, Pt.locs, Pt.cells, Pt.slots] at X244 l244 y244 z244 st244 hQ244
    subst l244 y244 z244
    obtain ⟨rfl, N244q, K244, E244_c238, F244_c238_given, F244_c238_placed, F244_c238_probedEvery, F244_c238_taking, F244_c238_untilProbed⟩ := hQ244
    have N244 := Fr.app N242 N244q
    have K244_ := K242_.trans K244 (allS (Or.inr nE238_c238) all0)
    have z244_ := Nat.le_trans z242_ K244.1
    refine own_Goes.tr st244 ?_
    show own_Goes _ _ _ _ _ _ _ (T244.setTop (mkF m 177 #[d0, d1, d2, d3, .val (.int v4), .val (.int v5), .val (.int v6), .val (.int v7), .val (.int v8), d9, d10, d11, d12, .val (.int v13), .val (.ref c238), .val (.int x243)] [(.int r244.1), (.int x243)]))
    refine own_Goes.via (B := T244.setTop (mkF m 179 #[d0, d1, d2, d3, .val (.int v4), .val (.int v5), .val (.int v6), .val (.int v7), .val (.int v8), d9, d10, d11, d12, .val (.int v13), .val (.ref c238), .val (.int x243)] [(.int v8), (.int r244.1), (.int x243)])) (fun t k => ?_) ?_
    · show Steps p.tables e below (T244.setTop (mkF m 177 #[d0, d1, d2, d3, .val (.int v4), .val (.int v5), .val (.int v6), .val (.int v7), .val (.int v8), d9, d10, d11, d12, .val (.int v13), .val (.ref c238), .val (.int x243)] [(.int r244.1), (.int x243)])) t
      refine XS.iload X244.here hx rfl (hb hby at_177) rfl ?_
      exact k
    by_cases hc179 : r244.1 = v8
    · rw [if_pos hc179] at hF
      refine own_Goes.via (B := T244.setTop (mkF m 187 #[d0, d1, d2, d3, .val (.int v4), .val (.int v5), .val (.int v6), .val (.int v7), .val (.int v8), d9, d10, d11, d12, .val (.int v13), .val (.ref c238), .val (.int x243)] [(.int (1 : Int32)), (.int x243)])) (fun t k => ?_) ?_
      · show Steps p.tables e below (T244.setTop (mkF m 179 #[d0, d1, d2, d3, .val (.int v4), .val (.int v5), .val (.int v6), .val (.int v7), .val (.int v8), d9, d10, d11, d12, .val (.int v13), .val (.ref c238), .val (.int x243)] [(.int v8), (.int r244.1), (.int x243)])) t
        refine XS.icmpNo X244.here hx rfl (hb hby at_179) rfl (teq hc179).2 ?_
        show Steps p.tables e below (T244.setTop (mkF m 182 #[d0, d1, d2, d3, .val (.int v4), .val (.int v5), .val (.int v6), .val (.int v7), .val (.int v8), d9, d10, d11, d12, .val (.int v13), .val (.ref c238), .val (.int x243)] [(.int x243)])) t
        refine XS.iconst X244.here hx rfl (hb hby at_182) ?_
        show Steps p.tables e below (T244.setTop (mkF m 183 #[d0, d1, d2, d3, .val (.int v4), .val (.int v5), .val (.int v6), .val (.int v7), .val (.int v8), d9, d10, d11, d12, .val (.int v13), .val (.ref c238), .val (.int x243)] [(.int (1 : Int32)), (.int x243)])) t
        refine XS.goto X244.here hx rfl (pc0 := 183) (pc' := 187) rfl (hb hby at_183) (by decide) (by decide) ?_
        exact k
      exact b_law_187 cx X244 rfl N244 K244_ z244_ c238 v6 v7 v8 v13 (1 : Int32) x243 r244.2.1 r244.2.2.1 r244.2.2.2.1 r244.2.2.2.2.1 r244.2.2.2.2.2 d0 d1 d2 d3 (.val (.int v4)) (.val (.int v5)) d9 d10 d11 d12 (.val (.int x243)) o_d0 o_d1 o_d2 o_d3 (One.val rfl) (One.val rfl) o_d9 o_d10 o_d11 o_d12 (One.val rfl) E244_c238 F244_c238_given F244_c238_placed F244_c238_probedEvery F244_c238_taking F244_c238_untilProbed g238_c238 nE238_c238 _ hF
    · rw [if_neg hc179] at hF
      refine own_Goes.via (B := T244.setTop (mkF m 187 #[d0, d1, d2, d3, .val (.int v4), .val (.int v5), .val (.int v6), .val (.int v7), .val (.int v8), d9, d10, d11, d12, .val (.int v13), .val (.ref c238), .val (.int x243)] [(.int (0 : Int32)), (.int x243)])) (fun t k => ?_) ?_
      · show Steps p.tables e below (T244.setTop (mkF m 179 #[d0, d1, d2, d3, .val (.int v4), .val (.int v5), .val (.int v6), .val (.int v7), .val (.int v8), d9, d10, d11, d12, .val (.int v13), .val (.ref c238), .val (.int x243)] [(.int v8), (.int r244.1), (.int x243)])) t
        refine XS.icmpYes X244.here hx rfl (pc0 := 179) (pc' := 186) rfl (hb hby at_179) rfl (feq hc179).2 (by decide) (by decide) ?_
        show Steps p.tables e below (T244.setTop (mkF m 186 #[d0, d1, d2, d3, .val (.int v4), .val (.int v5), .val (.int v6), .val (.int v7), .val (.int v8), d9, d10, d11, d12, .val (.int v13), .val (.ref c238), .val (.int x243)] [(.int x243)])) t
        refine XS.iconst X244.here hx rfl (hb hby at_186) ?_
        exact k
      exact b_law_187 cx X244 rfl N244 K244_ z244_ c238 v6 v7 v8 v13 (0 : Int32) x243 r244.2.1 r244.2.2.1 r244.2.2.2.1 r244.2.2.2.2.1 r244.2.2.2.2.2 d0 d1 d2 d3 (.val (.int v4)) (.val (.int v5)) d9 d10 d11 d12 (.val (.int x243)) o_d0 o_d1 o_d2 o_d3 (One.val rfl) (One.val rfl) o_d9 o_d10 o_d11 o_d12 (One.val rfl) E244_c238 F244_c238_given F244_c238_placed F244_c238_probedEvery F244_c238_taking F244_c238_untilProbed g238_c238 nE238_c238 _ hF
  · rw [if_neg hc159] at hF
    refine own_Goes.via (B := T242.setTop (mkF m 168 #[d0, d1, d2, d3, .val (.int v4), .val (.int v5), .val (.int v6), .val (.int v7), .val (.int v8), d9, d10, d11, d12, .val (.int v13), .val (.ref c238), .val (.int r240.1)] [(.int (r240.1 &&& (0 : Int32)))])) (fun t k => ?_) ?_
    · show Steps p.tables e below (T242.setTop (mkF m 159 #[d0, d1, d2, d3, .val (.int v4), .val (.int v5), .val (.int v6), .val (.int v7), .val (.int v8), d9, d10, d11, d12, .val (.int v13), .val (.ref c238), .val (.int r240.1)] [(.int v8), (.int r242.1), (.int r240.1)])) t
      refine XS.icmpYes X242.here hx rfl (pc0 := 159) (pc' := 166) rfl (hb hby at_159) rfl (feq hc159).2 (by decide) (by decide) ?_
      show Steps p.tables e below (T242.setTop (mkF m 166 #[d0, d1, d2, d3, .val (.int v4), .val (.int v5), .val (.int v6), .val (.int v7), .val (.int v8), d9, d10, d11, d12, .val (.int v13), .val (.ref c238), .val (.int r240.1)] [(.int r240.1)])) t
      refine XS.iconst X242.here hx rfl (hb hby at_166) ?_
      show Steps p.tables e below (T242.setTop (mkF m 167 #[d0, d1, d2, d3, .val (.int v4), .val (.int v5), .val (.int v6), .val (.int v7), .val (.int v8), d9, d10, d11, d12, .val (.int v13), .val (.ref c238), .val (.int r240.1)] [(.int (0 : Int32)), (.int r240.1)])) t
      refine XS.iand X242.here hx rfl (hb hby at_167) rfl ?_
      exact k
    obtain ⟨x245, hx245, hF⟩ := own_lt_e hF
    rw [← hx245]
    refine own_Goes.via (B := T242.setTop (mkF m 174 #[d0, d1, d2, d3, .val (.int v4), .val (.int v5), .val (.int v6), .val (.int v7), .val (.int v8), d9, d10, d11, d12, .val (.int v13), .val (.ref c238), .val (.int x245)] [(.ref c238), (.int x245)])) (fun t k => ?_) ?_
    · show Steps p.tables e below (T242.setTop (mkF m 168 #[d0, d1, d2, d3, .val (.int v4), .val (.int v5), .val (.int v6), .val (.int v7), .val (.int v8), d9, d10, d11, d12, .val (.int v13), .val (.ref c238), .val (.int r240.1)] [(.int x245)])) t
      refine XS.istore X242.here hx rfl (hb hby at_168) rfl (l' := #[d0, d1, d2, d3, .val (.int v4), .val (.int v5), .val (.int v6), .val (.int v7), .val (.int v8), d9, d10, d11, d12, .val (.int v13), .val (.ref c238), .val (.int x245)]) rfl ?_
      show Steps p.tables e below (T242.setTop (mkF m 170 #[d0, d1, d2, d3, .val (.int v4), .val (.int v5), .val (.int v6), .val (.int v7), .val (.int v8), d9, d10, d11, d12, .val (.int v13), .val (.ref c238), .val (.int x245)] [])) t
      refine XS.iload X242.here hx rfl (hb hby at_170) rfl ?_
      show Steps p.tables e below (T242.setTop (mkF m 172 #[d0, d1, d2, d3, .val (.int v4), .val (.int v5), .val (.int v6), .val (.int v7), .val (.int v8), d9, d10, d11, d12, .val (.int v13), .val (.ref c238), .val (.int x245)] [(.int x245)])) t
      refine XS.aload X242.here hx rfl (hb hby at_172) rfl rfl ?_
      exact k
    obtain ⟨r246, hr246, hF⟩ := own_bd_e hF
    obtain ⟨cq246, kq246, q246a, q246b, q246c⟩ := isOf hZ rfl E242_c238
    obtain ⟨_, _, ⟨T246, L246, k246, n246⟩, -, X246, ⟨Lc246, hQ246, l246, y246, z246⟩, st246⟩ := X242.virtualBack hx (y := (⟨"tidemark/PayingPass", "taken", "()Z"⟩ : MethodName)) (z := (⟨"tidemark/PayingPass", "taken", "()Z"⟩ : MethodName)) hown (mvT hZ (w14 hw)) (mvT hZ (w15 hw)) (notFace_of_selects (args := #[]) (mvT hZ (w17 hw))) (mvT hZ (w17 hw)) (mvT hZ (w16 hw)) (by decide) (backOf (W := 1) (rm_PayingPass_taken l Z a0 hw [] T242.heap n0 z242_ c238 r242.2.1 r242.2.2.1 r242.2.2.2.1 r242.2.2.2.2.1 r242.2.2.2.2.2 E242_c238 F242_c238_given F242_c238_placed F242_c238_probedEvery F242_c238_taking F242_c238_untilProbed g238_c238 r246 hr246) hZ (w18 hw) (w3 hw) (by decide) (by decide)) q246a q246c (g := (mkF m 174 #[d0, d1, d2, d3, .val (.int v4), .val (.int v5), .val (.int v6), .val (.int v7), .val (.int v8), d9, d10, d11, d12, .val (.int v13), .val (.ref c238), .val (.int x245)] [(.ref c238), (.int x245)])) rfl (by rw [hml]; rfl) (Steps.refl _) (argsL := []) (rest := [(.int x245)]) (lenOf pd_1 rfl) rfl (by show 2 * 0 + _ ≤ _; exact Nat.le_of_eq rfl) (hb hby at_174) (fun _ _ => ⟨rfl, rfl, (by decide : 1 + 0 ≤ _), (by decide : 5 + 0 ≤ _)⟩)
    dsimp only [Pt.U, Pt.locs, Pt.cells, Pt.slots] at X246 l246 y246 z246 st246 hQ246
    subst l246 y246 z246
    obtain ⟨rfl, N246q, K246, E246_c238, F246_c238_given, F246_c238_placed, F246_c238_probedEvery, F246_c238_taking, F246_c238_untilProbed⟩ := hQ246
    have N246 := Fr.app N242 N246q
    have K246_ := K242_.trans K246 (allS (Or.inr nE238_c238) all0)
    have z246_ := Nat.le_trans z242_ K246.1
    refine own_Goes.tr st246 ?_
    show own_Goes _ _ _ _ _ _ _ (T246.setTop (mkF m 177 #[d0, d1, d2, d3, .val (.int v4), .val (.int v5), .val (.int v6), .val (.int v7), .val (.int v8), d9, d10, d11, d12, .val (.int v13), .val (.ref c238), .val (.int x245)] [(.int r246.1), (.int x245)]))
    refine own_Goes.via (B := T246.setTop (mkF m 179 #[d0, d1, d2, d3, .val (.int v4), .val (.int v5), .val (.int v6), .val (.int v7), .val (.int v8), d9, d10, d11, d12, .val (.int v13), .val (.ref c238), .val (.int x245)] [(.int v8), (.int r246.1), (.int x245)])) (fun t k => ?_) ?_
    · show Steps p.tables e below (T246.setTop (mkF m 177 #[d0, d1, d2, d3, .val (.int v4), .val (.int v5), .val (.int v6), .val (.int v7), .val (.int v8), d9, d10, d11, d12, .val (.int v13), .val (.ref c238), .val (.int x245)] [(.int r246.1), (.int x245)])) t
      refine XS.iload X246.here hx rfl (hb hby at_177) rfl ?_
      exact k
    by_cases hc179 : r246.1 = v8
    · rw [if_pos hc179] at hF
      refine own_Goes.via (B := T246.setTop (mkF m 187 #[d0, d1, d2, d3, .val (.int v4), .val (.int v5), .val (.int v6), .val (.int v7), .val (.int v8), d9, d10, d11, d12, .val (.int v13), .val (.ref c238), .val (.int x245)] [(.int (1 : Int32)), (.int x245)])) (fun t k => ?_) ?_
      · show Steps p.tables e below (T246.setTop (mkF m 179 #[d0, d1, d2, d3, .val (.int v4), .val (.int v5), .val (.int v6), .val (.int v7), .val (.int v8), d9, d10, d11, d12, .val (.int v13), .val (.ref c238), .val (.int x245)] [(.int v8), (.int r246.1), (.int x245)])) t
        refine XS.icmpNo X246.here hx rfl (hb hby at_179) rfl (teq hc179).2 ?_
        show Steps p.tables e below (T246.setTop (mkF m 182 #[d0, d1, d2, d3, .val (.int v4), .val (.int v5), .val (.int v6), .val (.int v7), .val (.int v8), d9, d10, d11, d12, .val (.int v13), .val (.ref c238), .val (.int x245)] [(.int x245)])) t
        refine XS.iconst X246.here hx rfl (hb hby at_182) ?_
        show Steps p.tables e below (T246.setTop (mkF m 183 #[d0, d1, d2, d3, .val (.int v4), .val (.int v5), .val (.int v6), .val (.int v7), .val (.int v8), d9, d10, d11, d12, .val (.int v13), .val (.ref c238), .val (.int x245)] [(.int (1 : Int32)), (.int x245)])) t
        refine XS.goto X246.here hx rfl (pc0 := 183) (pc' := 187) rfl (hb hby at_183) (by decide) (by decide) ?_
        exact k
      exact b_law_187 cx X246 rfl N246 K246_ z246_ c238 v6 v7 v8 v13 (1 : Int32) x245 r246.2.1 r246.2.2.1 r246.2.2.2.1 r246.2.2.2.2.1 r246.2.2.2.2.2 d0 d1 d2 d3 (.val (.int v4)) (.val (.int v5)) d9 d10 d11 d12 (.val (.int x245)) o_d0 o_d1 o_d2 o_d3 (One.val rfl) (One.val rfl) o_d9 o_d10 o_d11 o_d12 (One.val rfl) E246_c238 F246_c238_given F246_c238_placed F246_c238_probedEvery F246_c238_taking F246_c238_untilProbed g238_c238 nE238_c238 _ hF
    · rw [if_neg hc179] at hF
      refine own_Goes.via (B := T246.setTop (mkF m 187 #[d0, d1, d2, d3, .val (.int v4), .val (.int v5), .val (.int v6), .val (.int v7), .val (.int v8), d9, d10, d11, d12, .val (.int v13), .val (.ref c238), .val (.int x245)] [(.int (0 : Int32)), (.int x245)])) (fun t k => ?_) ?_
      · show Steps p.tables e below (T246.setTop (mkF m 179 #[d0, d1, d2, d3, .val (.int v4), .val (.int v5), .val (.int v6), .val (.int v7), .val (.int v8), d9, d10, d11, d12, .val (.int v13), .val (.ref c238), .val (.int x245)] [(.int v8), (.int r246.1), (.int x245)])) t
        refine XS.icmpYes X246.here hx rfl (pc0 := 179) (pc' := 186) rfl (hb hby at_179) rfl (feq hc179).2 (by decide) (by decide) ?_
        show Steps p.tables e below (T246.setTop (mkF m 186 #[d0, d1, d2, d3, .val (.int v4), .val (.int v5), .val (.int v6), .val (.int v7), .val (.int v8), d9, d10, d11, d12, .val (.int v13), .val (.ref c238), .val (.int x245)] [(.int x245)])) t
        refine XS.iconst X246.here hx rfl (hb hby at_186) ?_
        exact k
      exact b_law_187 cx X246 rfl N246 K246_ z246_ c238 v6 v7 v8 v13 (0 : Int32) x245 r246.2.1 r246.2.2.1 r246.2.2.2.1 r246.2.2.2.2.1 r246.2.2.2.2.2 d0 d1 d2 d3 (.val (.int v4)) (.val (.int v5)) d9 d10 d11 d12 (.val (.int x245)) o_d0 o_d1 o_d2 o_d3 (One.val rfl) (One.val rfl) o_d9 o_d10 o_d11 o_d12 (One.val rfl) E246_c238 F246_c238_given F246_c238_placed F246_c238_probedEvery F246_c238_taking F246_c238_untilProbed g238_c238 nE238_c238 _ hF
set_option maxRecDepth 65536 in
set_option maxHeartbeats 4000000 in
theorem b_law_79 {p : Program} {l : Launch} {e : Env} {s : State} {m : MethodId} {args : Array Value} {below : List Frame} {meth : Method} {c : Code} {Z : State} {a0 : Array Value} {n0 : Nat} {hE : Heap} (cx : Cx_law p s m meth c Z a0) :
    ∀ {T : State} {locs : List Loc} {h : Heap} (X : Stand p l e room_1 s m args below meth c T locs 0 0) (eT : T.heap = h) (N : Fr n0 locs) (K : Keep hE h []) (z : n0 ≤ h.size) (v4 : Int32) (v5 : Int32) (v6 : Int32) (v7 : Int32) (v8 : Int32) (v9 : Int32) (v10 : Int32) (d0 : Slot) (d1 : Slot) (d2 : Slot) (d3 : Slot) (d11 : Slot) (d12 : Slot) (d13 : Slot) (d14 : Slot) (d15 : Slot) (o_d0 : One d0) (o_d1 : One d1) (o_d2 : One d2) (o_d3 : One d3) (o_d11 : One d11) (o_d12 : One d12) (o_d13 : One d13) (o_d14 : One d14) (o_d15 : One d15) (r : Int32), f_law_79 v4 v5 v6 v7 v8 v9 v10 = some r → own_Goes p e below s (Q_law Z hE n0 r) 1 5 (T.setTop (mkF m 79 #[d0, d1, d2, d3, .val (.int v4), .val (.int v5), .val (.int v6), .val (.int v7), .val (.int v8), .val (.int v9), .val (.int v10), d11, d12, d13, d14, d15] [])) := by
  have cx' := cx
  obtain ⟨hx, hZ, hw, hby, hml, hown, hret, hlk, hnm⟩ := cx'
  intro T locs h X eT N K z v4 v5 v6 v7 v8 v9 v10 d0 d1 d2 d3 d11 d12 d13 d14 d15 o_d0 o_d1 o_d2 o_d3 o_d11 o_d12 o_d13 o_d14 o_d15 r hF
  unfold f_law_79 at hF
  refine own_Goes.via (B := T.setTop (mkF m 84 #[d0, d1, d2, d3, .val (.int v4), .val (.int v5), .val (.int v6), .val (.int v7), .val (.int v8), .val (.int v9), .val (.int v10), d11, d12, d13, d14, d15] [(.int (v9 + v6))])) (fun t k => ?_) ?_
  · show Steps p.tables e below (T.setTop (mkF m 79 #[d0, d1, d2, d3, .val (.int v4), .val (.int v5), .val (.int v6), .val (.int v7), .val (.int v8), .val (.int v9), .val (.int v10), d11, d12, d13, d14, d15] [])) t
    refine XS.iload X.here hx rfl (hb hby at_79) rfl ?_
    show Steps p.tables e below (T.setTop (mkF m 81 #[d0, d1, d2, d3, .val (.int v4), .val (.int v5), .val (.int v6), .val (.int v7), .val (.int v8), .val (.int v9), .val (.int v10), d11, d12, d13, d14, d15] [(.int v9)])) t
    refine XS.iload X.here hx rfl (hb hby at_81) rfl ?_
    show Steps p.tables e below (T.setTop (mkF m 83 #[d0, d1, d2, d3, .val (.int v4), .val (.int v5), .val (.int v6), .val (.int v7), .val (.int v8), .val (.int v9), .val (.int v10), d11, d12, d13, d14, d15] [(.int v6), (.int v9)])) t
    refine XS.iadd X.here hx rfl (hb hby at_83) rfl ?_
    exact k
  obtain ⟨x247, hx247, hF⟩ := own_lt_e hF
  rw [← hx247]
  refine own_Goes.via (B := T.setTop (mkF m 91 #[d0, d1, d2, d3, .val (.int v4), .val (.int v5), .val (.int v6), .val (.int v7), .val (.int v8), .val (.int v9), .val (.int v10), .val (.int x247), d12, d13, d14, d15] [(.int (v10 + v7))])) (fun t k => ?_) ?_
  · show Steps p.tables e below (T.setTop (mkF m 84 #[d0, d1, d2, d3, .val (.int v4), .val (.int v5), .val (.int v6), .val (.int v7), .val (.int v8), .val (.int v9), .val (.int v10), d11, d12, d13, d14, d15] [(.int x247)])) t
    refine XS.istoreS X.here hx rfl (hb hby at_84) rfl rfl o_d11 ?_
    show Steps p.tables e below (T.setTop (mkF m 86 #[d0, d1, d2, d3, .val (.int v4), .val (.int v5), .val (.int v6), .val (.int v7), .val (.int v8), .val (.int v9), .val (.int v10), .val (.int x247), d12, d13, d14, d15] [])) t
    refine XS.iload X.here hx rfl (hb hby at_86) rfl ?_
    show Steps p.tables e below (T.setTop (mkF m 88 #[d0, d1, d2, d3, .val (.int v4), .val (.int v5), .val (.int v6), .val (.int v7), .val (.int v8), .val (.int v9), .val (.int v10), .val (.int x247), d12, d13, d14, d15] [(.int v10)])) t
    refine XS.iload X.here hx rfl (hb hby at_88) rfl ?_
    show Steps p.tables e below (T.setTop (mkF m 90 #[d0, d1, d2, d3, .val (.int v4), .val (.int v5), .val (.int v6), .val (.int v7), .val (.int v8), .val (.int v9), .val (.int v10), .val (.int x247), d12, d13, d14, d15] [(.int v7), (.int v10)])) t
    refine XS.iadd X.here hx rfl (hb hby at_90) rfl ?_
    exact k
  obtain ⟨x248, hx248, hF⟩ := own_lt_e hF
  rw [← hx248]
  refine own_Goes.via (B := T.setTop (mkF m 97 #[d0, d1, d2, d3, .val (.int v4), .val (.int v5), .val (.int v6), .val (.int v7), .val (.int v8), .val (.int v9), .val (.int v10), .val (.int x247), .val (.int x248), d13, d14, d15] [(.int (64 : Int32)), (.int x247)])) (fun t k => ?_) ?_
  · show Steps p.tables e below (T.setTop (mkF m 91 #[d0, d1, d2, d3, .val (.int v4), .val (.int v5), .val (.int v6), .val (.int v7), .val (.int v8), .val (.int v9), .val (.int v10), .val (.int x247), d12, d13, d14, d15] [(.int x248)])) t
    refine XS.istoreS X.here hx rfl (hb hby at_91) rfl rfl o_d12 ?_
    show Steps p.tables e below (T.setTop (mkF m 93 #[d0, d1, d2, d3, .val (.int v4), .val (.int v5), .val (.int v6), .val (.int v7), .val (.int v8), .val (.int v9), .val (.int v10), .val (.int x247), .val (.int x248), d13, d14, d15] [])) t
    refine XS.iload X.here hx rfl (hb hby at_93) rfl ?_
    show Steps p.tables e below (T.setTop (mkF m 95 #[d0, d1, d2, d3, .val (.int v4), .val (.int v5), .val (.int v6), .val (.int v7), .val (.int v8), .val (.int v9), .val (.int v10), .val (.int x247), .val (.int x248), d13, d14, d15] [(.int x247)])) t
    refine XS.bipush X.here hx rfl (hb hby at_95) ?_
    exact k
  by_cases hc97 : x247 < (64 : Int32)
  · rw [if_pos hc97] at hF
    refine own_Goes.via (B := T.setTop (mkF m 125 #[d0, d1, d2, d3, .val (.int v4), .val (.int v5), .val (.int v6), .val (.int v7), .val (.int v8), .val (.int v9), .val (.int v10), .val (.int x247), .val (.int x248), .val (.int v8), d14, d15] [])) (fun t k => ?_) ?_
    · show Steps p.tables e below (T.setTop (mkF m 97 #[d0, d1, d2, d3, .val (.int v4), .val (.int v5), .val (.int v6), .val (.int v7), .val (.int v8), .val (.int v9), .val (.int v10), .val (.int x247), .val (.int x248), d13, d14, d15] [(.int (64 : Int32)), (.int x247)])) t
      refine XS.icmpYes X.here hx rfl (pc0 := 97) (pc' := 121) rfl (hb hby at_97) rfl (tlt hc97).1 (by decide) (by decide) ?_
      show Steps p.tables e below (T.setTop (mkF m 121 #[d0, d1, d2, d3, .val (.int v4), .val (.int v5), .val (.int v6), .val (.int v7), .val (.int v8), .val (.int v9), .val (.int v10), .val (.int x247), .val (.int x248), d13, d14, d15] [])) t
      refine XS.iload X.here hx rfl (hb hby at_121) rfl ?_
      show Steps p.tables e below (T.setTop (mkF m 123 #[d0, d1, d2, d3, .val (.int v4), .val (.int v5), .val (.int v6), .val (.int v7), .val (.int v8), .val (.int v9), .val (.int v10), .val (.int x247), .val (.int x248), d13, d14, d15] [(.int v8)])) t
      refine XS.istoreS X.here hx rfl (hb hby at_123) rfl rfl o_d13 ?_
      exact k
    exact b_law_125 cx X eT N K z v4 v5 v6 v7 v8 v8 d0 d1 d2 d3 (.val (.int v9)) (.val (.int v10)) (.val (.int x247)) (.val (.int x248)) d14 d15 o_d0 o_d1 o_d2 o_d3 (One.val rfl) (One.val rfl) (One.val rfl) (One.val rfl) o_d14 o_d15 _ hF
  · rw [if_neg hc97] at hF
    refine own_Goes.via (B := T.setTop (mkF m 108 #[d0, d1, d2, d3, .val (.int v4), .val (.int v5), .val (.int v6), .val (.int v7), .val (.int v8), .val (.int v9), .val (.int v10), .val (.int x247), .val (.int x248), d13, d14, d15] [(.int ((3 : Int32) * x247)), (.int ((4 : Int32) * x248))])) (fun t k => ?_) ?_
    · show Steps p.tables e below (T.setTop (mkF m 97 #[d0, d1, d2, d3, .val (.int v4), .val (.int v5), .val (.int v6), .val (.int v7), .val (.int v8), .val (.int v9), .val (.int v10), .val (.int x247), .val (.int x248), d13, d14, d15] [(.int (64 : Int32)), (.int x247)])) t
      refine XS.icmpNo X.here hx rfl (hb hby at_97) rfl (flt hc97).1 ?_
      show Steps p.tables e below (T.setTop (mkF m 100 #[d0, d1, d2, d3, .val (.int v4), .val (.int v5), .val (.int v6), .val (.int v7), .val (.int v8), .val (.int v9), .val (.int v10), .val (.int x247), .val (.int x248), d13, d14, d15] [])) t
      refine XS.iconst X.here hx rfl (hb hby at_100) ?_
      show Steps p.tables e below (T.setTop (mkF m 101 #[d0, d1, d2, d3, .val (.int v4), .val (.int v5), .val (.int v6), .val (.int v7), .val (.int v8), .val (.int v9), .val (.int v10), .val (.int x247), .val (.int x248), d13, d14, d15] [(.int (4 : Int32))])) t
      refine XS.iload X.here hx rfl (hb hby at_101) rfl ?_
      show Steps p.tables e below (T.setTop (mkF m 103 #[d0, d1, d2, d3, .val (.int v4), .val (.int v5), .val (.int v6), .val (.int v7), .val (.int v8), .val (.int v9), .val (.int v10), .val (.int x247), .val (.int x248), d13, d14, d15] [(.int x248), (.int (4 : Int32))])) t
      refine XS.imul X.here hx rfl (hb hby at_103) rfl ?_
      show Steps p.tables e below (T.setTop (mkF m 104 #[d0, d1, d2, d3, .val (.int v4), .val (.int v5), .val (.int v6), .val (.int v7), .val (.int v8), .val (.int v9), .val (.int v10), .val (.int x247), .val (.int x248), d13, d14, d15] [(.int ((4 : Int32) * x248))])) t
      refine XS.iconst X.here hx rfl (hb hby at_104) ?_
      show Steps p.tables e below (T.setTop (mkF m 105 #[d0, d1, d2, d3, .val (.int v4), .val (.int v5), .val (.int v6), .val (.int v7), .val (.int v8), .val (.int v9), .val (.int v10), .val (.int x247), .val (.int x248), d13, d14, d15] [(.int (3 : Int32)), (.int ((4 : Int32) * x248))])) t
      refine XS.iload X.here hx rfl (hb hby at_105) rfl ?_
      show Steps p.tables e below (T.setTop (mkF m 107 #[d0, d1, d2, d3, .val (.int v4), .val (.int v5), .val (.int v6), .val (.int v7), .val (.int v8), .val (.int v9), .val (.int v10), .val (.int x247), .val (.int x248), d13, d14, d15] [(.int x247), (.int (3 : Int32)), (.int ((4 : Int32) * x248))])) t
      refine XS.imul X.here hx rfl (hb hby at_107) rfl ?_
      exact k
    by_cases hc108 : ((4 : Int32) * x248) < ((3 : Int32) * x247)
    · rw [if_pos hc108] at hF
      refine own_Goes.via (B := T.setTop (mkF m 125 #[d0, d1, d2, d3, .val (.int v4), .val (.int v5), .val (.int v6), .val (.int v7), .val (.int v8), .val (.int v9), .val (.int v10), .val (.int x247), .val (.int x248), .val (.int (0 : Int32)), d14, d15] [])) (fun t k => ?_) ?_
      · show Steps p.tables e below (T.setTop (mkF m 108 #[d0, d1, d2, d3, .val (.int v4), .val (.int v5), .val (.int v6), .val (.int v7), .val (.int v8), .val (.int v9), .val (.int v10), .val (.int x247), .val (.int x248), d13, d14, d15] [(.int ((3 : Int32) * x247)), (.int ((4 : Int32) * x248))])) t
        refine XS.icmpYes X.here hx rfl (pc0 := 108) (pc' := 115) rfl (hb hby at_108) rfl (tlt hc108).1 (by decide) (by decide) ?_
        show Steps p.tables e below (T.setTop (mkF m 115 #[d0, d1, d2, d3, .val (.int v4), .val (.int v5), .val (.int v6), .val (.int v7), .val (.int v8), .val (.int v9), .val (.int v10), .val (.int x247), .val (.int x248), d13, d14, d15] [])) t
        refine XS.iconst X.here hx rfl (hb hby at_115) ?_
        show Steps p.tables e below (T.setTop (mkF m 116 #[d0, d1, d2, d3, .val (.int v4), .val (.int v5), .val (.int v6), .val (.int v7), .val (.int v8), .val (.int v9), .val (.int v10), .val (.int x247), .val (.int x248), d13, d14, d15] [(.int (0 : Int32))])) t
        refine XS.istoreS X.here hx rfl (hb hby at_116) rfl rfl o_d13 ?_
        show Steps p.tables e below (T.setTop (mkF m 118 #[d0, d1, d2, d3, .val (.int v4), .val (.int v5), .val (.int v6), .val (.int v7), .val (.int v8), .val (.int v9), .val (.int v10), .val (.int x247), .val (.int x248), .val (.int (0 : Int32)), d14, d15] [])) t
        refine XS.goto X.here hx rfl (pc0 := 118) (pc' := 125) rfl (hb hby at_118) (by decide) (by decide) ?_
        exact k
      exact b_law_125 cx X eT N K z v4 v5 v6 v7 v8 (0 : Int32) d0 d1 d2 d3 (.val (.int v9)) (.val (.int v10)) (.val (.int x247)) (.val (.int x248)) d14 d15 o_d0 o_d1 o_d2 o_d3 (One.val rfl) (One.val rfl) (One.val rfl) (One.val rfl) o_d14 o_d15 _ hF
    · rw [if_neg hc108] at hF
      refine own_Goes.via (B := T.setTop (mkF m 125 #[d0, d1, d2, d3, .val (.int v4), .val (.int v5), .val (.int v6), .val (.int v7), .val (.int v8), .val (.int v9), .val (.int v10), .val (.int x247), .val (.int x248), .val (.int (1 : Int32)), d14, d15] [])) (fun t k => ?_) ?_
      · show Steps p.tables e below (T.setTop (mkF m 108 #[d0, d1, d2, d3, .val (.int v4), .val (.int v5), .val (.int v6), .val (.int v7), .val (.int v8), .val (.int v9), .val (.int v10), .val (.int x247), .val (.int x248), d13, d14, d15] [(.int ((3 : Int32) * x247)), (.int ((4 : Int32) * x248))])) t
        refine XS.icmpNo X.here hx rfl (hb hby at_108) rfl (flt hc108).1 ?_
        show Steps p.tables e below (T.setTop (mkF m 111 #[d0, d1, d2, d3, .val (.int v4), .val (.int v5), .val (.int v6), .val (.int v7), .val (.int v8), .val (.int v9), .val (.int v10), .val (.int x247), .val (.int x248), d13, d14, d15] [])) t
        refine XS.iconst X.here hx rfl (hb hby at_111) ?_
        show Steps p.tables e below (T.setTop (mkF m 112 #[d0, d1, d2, d3, .val (.int v4), .val (.int v5), .val (.int v6), .val (.int v7), .val (.int v8), .val (.int v9), .val (.int v10), .val (.int x247), .val (.int x248), d13, d14, d15] [(.int (1 : Int32))])) t
        refine XS.goto X.here hx rfl (pc0 := 112) (pc' := 116) rfl (hb hby at_112) (by decide) (by decide) ?_
        show Steps p.tables e below (T.setTop (mkF m 116 #[d0, d1, d2, d3, .val (.int v4), .val (.int v5), .val (.int v6), .val (.int v7), .val (.int v8), .val (.int v9), .val (.int v10), .val (.int x247), .val (.int x248), d13, d14, d15] [(.int (1 : Int32))])) t
        refine XS.istoreS X.here hx rfl (hb hby at_116) rfl rfl o_d13 ?_
        show Steps p.tables e below (T.setTop (mkF m 118 #[d0, d1, d2, d3, .val (.int v4), .val (.int v5), .val (.int v6), .val (.int v7), .val (.int v8), .val (.int v9), .val (.int v10), .val (.int x247), .val (.int x248), .val (.int (1 : Int32)), d14, d15] [])) t
        refine XS.goto X.here hx rfl (pc0 := 118) (pc' := 125) rfl (hb hby at_118) (by decide) (by decide) ?_
        exact k
      exact b_law_125 cx X eT N K z v4 v5 v6 v7 v8 (1 : Int32) d0 d1 d2 d3 (.val (.int v9)) (.val (.int v10)) (.val (.int x247)) (.val (.int x248)) d14 d15 o_d0 o_d1 o_d2 o_d3 (One.val rfl) (One.val rfl) (One.val rfl) (One.val rfl) o_d14 o_d15 _ hF
set_option maxRecDepth 65536 in
set_option maxHeartbeats 4000000 in
theorem b_law {p : Program} {l : Launch} {e : Env} {s : State} {m : MethodId} {args : Array Value} {below : List Frame} {meth : Method} {c : Code} {Z : State} {a0 : Array Value} {n0 : Nat} {hE : Heap} (cx : Cx_law p s m meth c Z a0) :
    ∀ {T : State} {locs : List Loc} {h : Heap} (X : Stand p l e room_1 s m args below meth c T locs 0 0) (eT : T.heap = h) (N : Fr n0 locs) (K : Keep hE h []) (z : n0 ≤ h.size) (v0 : Int32) (v1 : Int32) (v2 : Int32) (v3 : Int32) (r : Int32), f_law v0 v1 v2 v3 = some r → own_Goes p e below s (Q_law Z hE n0 r) 1 5 (T.setTop (mkF m 0 #[.val (.int v0), .val (.int v1), .val (.int v2), .val (.int v3), .unset, .unset, .unset, .unset, .unset, .unset, .unset, .unset, .unset, .unset, .unset, .unset] [])) := by
  have cx' := cx
  obtain ⟨hx, hZ, hw, hby, hml, hown, hret, hlk, hnm⟩ := cx'
  intro T locs h X eT N K z v0 v1 v2 v3 r hF
  unfold f_law at hF
  refine own_Goes.via (B := T.setTop (mkF m 4 #[.val (.int v0), .val (.int v1), .val (.int v2), .val (.int v3), .unset, .unset, .unset, .unset, .unset, .unset, .unset, .unset, .unset, .unset, .unset, .unset] [(.int (v0 &&& (127 : Int32)))])) (fun t k => ?_) ?_
  · show Steps p.tables e below (T.setTop (mkF m 0 #[.val (.int v0), .val (.int v1), .val (.int v2), .val (.int v3), .unset, .unset, .unset, .unset, .unset, .unset, .unset, .unset, .unset, .unset, .unset, .unset] [])) t
    refine XS.iloadN X.here hx rfl (hb hby at_0) rfl ?_
    show Steps p.tables e below (T.setTop (mkF m 1 #[.val (.int v0), .val (.int v1), .val (.int v2), .val (.int v3), .unset, .unset, .unset, .unset, .unset, .unset, .unset, .unset, .unset, .unset, .unset, .unset] [(.int v0)])) t
    refine XS.bipush X.here hx rfl (hb hby at_1) ?_
    show Steps p.tables e below (T.setTop (mkF m 3 #[.val (.int v0), .val (.int v1), .val (.int v2), .val (.int v3), .unset, .unset, .unset, .unset, .unset, .unset, .unset, .unset, .unset, .unset, .unset, .unset] [(.int (127 : Int32)), (.int v0)])) t
    refine XS.iand X.here hx rfl (hb hby at_3) rfl ?_
    exact k
  obtain ⟨x249, hx249, hF⟩ := own_lt_e hF
  rw [← hx249]
  refine own_Goes.via (B := T.setTop (mkF m 14 #[.val (.int v0), .val (.int v1), .val (.int v2), .val (.int v3), .val (.int x249), .unset, .unset, .unset, .unset, .unset, .unset, .unset, .unset, .unset, .unset, .unset] [(.int (x249 + (1 : Int32))), (.int (v1 &&& (2147483647 : Int32)))])) (fun t k => ?_) ?_
  · show Steps p.tables e below (T.setTop (mkF m 4 #[.val (.int v0), .val (.int v1), .val (.int v2), .val (.int v3), .unset, .unset, .unset, .unset, .unset, .unset, .unset, .unset, .unset, .unset, .unset, .unset] [(.int x249)])) t
    refine XS.istore X.here hx rfl (hb hby at_4) rfl (l' := #[.val (.int v0), .val (.int v1), .val (.int v2), .val (.int v3), .val (.int x249), .unset, .unset, .unset, .unset, .unset, .unset, .unset, .unset, .unset, .unset, .unset]) rfl ?_
    show Steps p.tables e below (T.setTop (mkF m 6 #[.val (.int v0), .val (.int v1), .val (.int v2), .val (.int v3), .val (.int x249), .unset, .unset, .unset, .unset, .unset, .unset, .unset, .unset, .unset, .unset, .unset] [])) t
    refine XS.iloadN X.here hx rfl (hb hby at_6) rfl ?_
    show Steps p.tables e below (T.setTop (mkF m 7 #[.val (.int v0), .val (.int v1), .val (.int v2), .val (.int v3), .val (.int x249), .unset, .unset, .unset, .unset, .unset, .unset, .unset, .unset, .unset, .unset, .unset] [(.int v1)])) t
    refine X.ldcInt hx hown (mvT hZ (w0 hw)) (g := (mkF m 7 #[.val (.int v0), .val (.int v1), .val (.int v2), .val (.int v3), .val (.int x249), .unset, .unset, .unset, .unset, .unset, .unset, .unset, .unset, .unset, .unset, .unset] [(.int v1)])) rfl (hb hby at_7) _ ?_
    show Steps p.tables e below (T.setTop (mkF m 9 #[.val (.int v0), .val (.int v1), .val (.int v2), .val (.int v3), .val (.int x249), .unset, .unset, .unset, .unset, .unset, .unset, .unset, .unset, .unset, .unset, .unset] [(.int (2147483647 : Int32)), (.int v1)])) t
    refine XS.iand X.here hx rfl (hb hby at_9) rfl ?_
    show Steps p.tables e below (T.setTop (mkF m 10 #[.val (.int v0), .val (.int v1), .val (.int v2), .val (.int v3), .val (.int x249), .unset, .unset, .unset, .unset, .unset, .unset, .unset, .unset, .unset, .unset, .unset] [(.int (v1 &&& (2147483647 : Int32)))])) t
    refine XS.iload X.here hx rfl (hb hby at_10) rfl ?_
    show Steps p.tables e below (T.setTop (mkF m 12 #[.val (.int v0), .val (.int v1), .val (.int v2), .val (.int v3), .val (.int x249), .unset, .unset, .unset, .unset, .unset, .unset, .unset, .unset, .unset, .unset, .unset] [(.int x249), (.int (v1 &&& (2147483647 : Int32)))])) t
    refine XS.iconst X.here hx rfl (hb hby at_12) ?_
    show Steps p.tables e below (T.setTop (mkF m 13 #[.val (.int v0), .val (.int v1), .val (.int v2), .val (.int v3), .val (.int x249), .unset, .unset, .unset, .unset, .unset, .unset, .unset, .unset, .unset, .unset, .unset] [(.int (1 : Int32)), (.int x249), (.int (v1 &&& (2147483647 : Int32)))])) t
    refine XS.iadd X.here hx rfl (hb hby at_13) rfl ?_
    exact k
  obtain ⟨hz14, hF⟩ := own_ck_e hF
  refine own_Goes.via (B := T.setTop (mkF m 15 #[.val (.int v0), .val (.int v1), .val (.int v2), .val (.int v3), .val (.int x249), .unset, .unset, .unset, .unset, .unset, .unset, .unset, .unset, .unset, .unset, .unset] [(.int ((v1 &&& (2147483647 : Int32)) % (x249 + (1 : Int32))))])) (fun t k => ?_) ?_
  · show Steps p.tables e below (T.setTop (mkF m 14 #[.val (.int v0), .val (.int v1), .val (.int v2), .val (.int v3), .val (.int x249), .unset, .unset, .unset, .unset, .unset, .unset, .unset, .unset, .unset, .unset, .unset] [(.int (x249 + (1 : Int32))), (.int (v1 &&& (2147483647 : Int32)))])) t
    refine own_irem X hx rfl (hb hby at_14) rfl hz14 ?_
    exact k
  obtain ⟨x250, hx250, hF⟩ := own_lt_e hF
  rw [← hx250]
  refine own_Goes.via (B := T.setTop (mkF m 21 #[.val (.int v0), .val (.int v1), .val (.int v2), .val (.int v3), .val (.int x249), .val (.int x250), .unset, .unset, .unset, .unset, .unset, .unset, .unset, .unset, .unset, .unset] [(.int (v2 &&& (127 : Int32)))])) (fun t k => ?_) ?_
  · show Steps p.tables e below (T.setTop (mkF m 15 #[.val (.int v0), .val (.int v1), .val (.int v2), .val (.int v3), .val (.int x249), .unset, .unset, .unset, .unset, .unset, .unset, .unset, .unset, .unset, .unset, .unset] [(.int x250)])) t
    refine XS.istore X.here hx rfl (hb hby at_15) rfl (l' := #[.val (.int v0), .val (.int v1), .val (.int v2), .val (.int v3), .val (.int x249), .val (.int x250), .unset, .unset, .unset, .unset, .unset, .unset, .unset, .unset, .unset, .unset]) rfl ?_
    show Steps p.tables e below (T.setTop (mkF m 17 #[.val (.int v0), .val (.int v1), .val (.int v2), .val (.int v3), .val (.int x249), .val (.int x250), .unset, .unset, .unset, .unset, .unset, .unset, .unset, .unset, .unset, .unset] [])) t
    refine XS.iloadN X.here hx rfl (hb hby at_17) rfl ?_
    show Steps p.tables e below (T.setTop (mkF m 18 #[.val (.int v0), .val (.int v1), .val (.int v2), .val (.int v3), .val (.int x249), .val (.int x250), .unset, .unset, .unset, .unset, .unset, .unset, .unset, .unset, .unset, .unset] [(.int v2)])) t
    refine XS.bipush X.here hx rfl (hb hby at_18) ?_
    show Steps p.tables e below (T.setTop (mkF m 20 #[.val (.int v0), .val (.int v1), .val (.int v2), .val (.int v3), .val (.int x249), .val (.int x250), .unset, .unset, .unset, .unset, .unset, .unset, .unset, .unset, .unset, .unset] [(.int (127 : Int32)), (.int v2)])) t
    refine XS.iand X.here hx rfl (hb hby at_20) rfl ?_
    exact k
  obtain ⟨x251, hx251, hF⟩ := own_lt_e hF
  rw [← hx251]
  refine own_Goes.via (B := T.setTop (mkF m 31 #[.val (.int v0), .val (.int v1), .val (.int v2), .val (.int v3), .val (.int x249), .val (.int x250), .val (.int x251), .unset, .unset, .unset, .unset, .unset, .unset, .unset, .unset, .unset] [(.int (x251 + (1 : Int32))), (.int (v3 &&& (2147483647 : Int32)))])) (fun t k => ?_) ?_
  · show Steps p.tables e below (T.setTop (mkF m 21 #[.val (.int v0), .val (.int v1), .val (.int v2), .val (.int v3), .val (.int x249), .val (.int x250), .unset, .unset, .unset, .unset, .unset, .unset, .unset, .unset, .unset, .unset] [(.int x251)])) t
    refine XS.istore X.here hx rfl (hb hby at_21) rfl (l' := #[.val (.int v0), .val (.int v1), .val (.int v2), .val (.int v3), .val (.int x249), .val (.int x250), .val (.int x251), .unset, .unset, .unset, .unset, .unset, .unset, .unset, .unset, .unset]) rfl ?_
    show Steps p.tables e below (T.setTop (mkF m 23 #[.val (.int v0), .val (.int v1), .val (.int v2), .val (.int v3), .val (.int x249), .val (.int x250), .val (.int x251), .unset, .unset, .unset, .unset, .unset, .unset, .unset, .unset, .unset] [])) t
    refine XS.iloadN X.here hx rfl (hb hby at_23) rfl ?_
    show Steps p.tables e below (T.setTop (mkF m 24 #[.val (.int v0), .val (.int v1), .val (.int v2), .val (.int v3), .val (.int x249), .val (.int x250), .val (.int x251), .unset, .unset, .unset, .unset, .unset, .unset, .unset, .unset, .unset] [(.int v3)])) t
    refine X.ldcInt hx hown (mvT hZ (w0 hw)) (g := (mkF m 24 #[.val (.int v0), .val (.int v1), .val (.int v2), .val (.int v3), .val (.int x249), .val (.int x250), .val (.int x251), .unset, .unset, .unset, .unset, .unset, .unset, .unset, .unset, .unset] [(.int v3)])) rfl (hb hby at_24) _ ?_
    show Steps p.tables e below (T.setTop (mkF m 26 #[.val (.int v0), .val (.int v1), .val (.int v2), .val (.int v3), .val (.int x249), .val (.int x250), .val (.int x251), .unset, .unset, .unset, .unset, .unset, .unset, .unset, .unset, .unset] [(.int (2147483647 : Int32)), (.int v3)])) t
    refine XS.iand X.here hx rfl (hb hby at_26) rfl ?_
    show Steps p.tables e below (T.setTop (mkF m 27 #[.val (.int v0), .val (.int v1), .val (.int v2), .val (.int v3), .val (.int x249), .val (.int x250), .val (.int x251), .unset, .unset, .unset, .unset, .unset, .unset, .unset, .unset, .unset] [(.int (v3 &&& (2147483647 : Int32)))])) t
    refine XS.iload X.here hx rfl (hb hby at_27) rfl ?_
    show Steps p.tables e below (T.setTop (mkF m 29 #[.val (.int v0), .val (.int v1), .val (.int v2), .val (.int v3), .val (.int x249), .val (.int x250), .val (.int x251), .unset, .unset, .unset, .unset, .unset, .unset, .unset, .unset, .unset] [(.int x251), (.int (v3 &&& (2147483647 : Int32)))])) t
    refine XS.iconst X.here hx rfl (hb hby at_29) ?_
    show Steps p.tables e below (T.setTop (mkF m 30 #[.val (.int v0), .val (.int v1), .val (.int v2), .val (.int v3), .val (.int x249), .val (.int x250), .val (.int x251), .unset, .unset, .unset, .unset, .unset, .unset, .unset, .unset, .unset] [(.int (1 : Int32)), (.int x251), (.int (v3 &&& (2147483647 : Int32)))])) t
    refine XS.iadd X.here hx rfl (hb hby at_30) rfl ?_
    exact k
  obtain ⟨hz31, hF⟩ := own_ck_e hF
  refine own_Goes.via (B := T.setTop (mkF m 32 #[.val (.int v0), .val (.int v1), .val (.int v2), .val (.int v3), .val (.int x249), .val (.int x250), .val (.int x251), .unset, .unset, .unset, .unset, .unset, .unset, .unset, .unset, .unset] [(.int ((v3 &&& (2147483647 : Int32)) % (x251 + (1 : Int32))))])) (fun t k => ?_) ?_
  · show Steps p.tables e below (T.setTop (mkF m 31 #[.val (.int v0), .val (.int v1), .val (.int v2), .val (.int v3), .val (.int x249), .val (.int x250), .val (.int x251), .unset, .unset, .unset, .unset, .unset, .unset, .unset, .unset, .unset] [(.int (x251 + (1 : Int32))), (.int (v3 &&& (2147483647 : Int32)))])) t
    refine own_irem X hx rfl (hb hby at_31) rfl hz31 ?_
    exact k
  obtain ⟨x252, hx252, hF⟩ := own_lt_e hF
  rw [← hx252]
  refine own_Goes.via (B := T.setTop (mkF m 38 #[.val (.int v0), .val (.int v1), .val (.int v2), .val (.int v3), .val (.int x249), .val (.int x250), .val (.int x251), .val (.int x252), .unset, .unset, .unset, .unset, .unset, .unset, .unset, .unset] [(.int (64 : Int32)), (.int x249)])) (fun t k => ?_) ?_
  · show Steps p.tables e below (T.setTop (mkF m 32 #[.val (.int v0), .val (.int v1), .val (.int v2), .val (.int v3), .val (.int x249), .val (.int x250), .val (.int x251), .unset, .unset, .unset, .unset, .unset, .unset, .unset, .unset, .unset] [(.int x252)])) t
    refine XS.istore X.here hx rfl (hb hby at_32) rfl (l' := #[.val (.int v0), .val (.int v1), .val (.int v2), .val (.int v3), .val (.int x249), .val (.int x250), .val (.int x251), .val (.int x252), .unset, .unset, .unset, .unset, .unset, .unset, .unset, .unset]) rfl ?_
    show Steps p.tables e below (T.setTop (mkF m 34 #[.val (.int v0), .val (.int v1), .val (.int v2), .val (.int v3), .val (.int x249), .val (.int x250), .val (.int x251), .val (.int x252), .unset, .unset, .unset, .unset, .unset, .unset, .unset, .unset] [])) t
    refine XS.iload X.here hx rfl (hb hby at_34) rfl ?_
    show Steps p.tables e below (T.setTop (mkF m 36 #[.val (.int v0), .val (.int v1), .val (.int v2), .val (.int v3), .val (.int x249), .val (.int x250), .val (.int x251), .val (.int x252), .unset, .unset, .unset, .unset, .unset, .unset, .unset, .unset] [(.int x249)])) t
    refine XS.bipush X.here hx rfl (hb hby at_36) ?_
    exact k
  by_cases hc38 : x249 < (64 : Int32)
  · rw [if_pos hc38] at hF
    refine own_Goes.via (B := T.setTop (mkF m 79 #[.val (.int v0), .val (.int v1), .val (.int v2), .val (.int v3), .val (.int x249), .val (.int x250), .val (.int x251), .val (.int x252), .val (.int (1 : Int32)), .val (.int x249), .val (.int x250), .unset, .unset, .unset, .unset, .unset] [])) (fun t k => ?_) ?_
    · show Steps p.tables e below (T.setTop (mkF m 38 #[.val (.int v0), .val (.int v1), .val (.int v2), .val (.int v3), .val (.int x249), .val (.int x250), .val (.int x251), .val (.int x252), .unset, .unset, .unset, .unset, .unset, .unset, .unset, .unset] [(.int (64 : Int32)), (.int x249)])) t
      refine XS.icmpYes X.here hx rfl (pc0 := 38) (pc' := 68) rfl (hb hby at_38) rfl (tlt hc38).1 (by decide) (by decide) ?_
      show Steps p.tables e below (T.setTop (mkF m 68 #[.val (.int v0), .val (.int v1), .val (.int v2), .val (.int v3), .val (.int x249), .val (.int x250), .val (.int x251), .val (.int x252), .unset, .unset, .unset, .unset, .unset, .unset, .unset, .unset] [])) t
      refine XS.iconst X.here hx rfl (hb hby at_68) ?_
      show Steps p.tables e below (T.setTop (mkF m 69 #[.val (.int v0), .val (.int v1), .val (.int v2), .val (.int v3), .val (.int x249), .val (.int x250), .val (.int x251), .val (.int x252), .unset, .unset, .unset, .unset, .unset, .unset, .unset, .unset] [(.int (1 : Int32))])) t
      refine XS.istore X.here hx rfl (hb hby at_69) rfl (l' := #[.val (.int v0), .val (.int v1), .val (.int v2), .val (.int v3), .val (.int x249), .val (.int x250), .val (.int x251), .val (.int x252), .val (.int (1 : Int32)), .unset, .unset, .unset, .unset, .unset, .unset, .unset]) rfl ?_
      show Steps p.tables e below (T.setTop (mkF m 71 #[.val (.int v0), .val (.int v1), .val (.int v2), .val (.int v3), .val (.int x249), .val (.int x250), .val (.int x251), .val (.int x252), .val (.int (1 : Int32)), .unset, .unset, .unset, .unset, .unset, .unset, .unset] [])) t
      refine XS.iload X.here hx rfl (hb hby at_71) rfl ?_
      show Steps p.tables e below (T.setTop (mkF m 73 #[.val (.int v0), .val (.int v1), .val (.int v2), .val (.int v3), .val (.int x249), .val (.int x250), .val (.int x251), .val (.int x252), .val (.int (1 : Int32)), .unset, .unset, .unset, .unset, .unset, .unset, .unset] [(.int x249)])) t
      refine XS.istore X.here hx rfl (hb hby at_73) rfl (l' := #[.val (.int v0), .val (.int v1), .val (.int v2), .val (.int v3), .val (.int x249), .val (.int x250), .val (.int x251), .val (.int x252), .val (.int (1 : Int32)), .val (.int x249), .unset, .unset, .unset, .unset, .unset, .unset]) rfl ?_
      show Steps p.tables e below (T.setTop (mkF m 75 #[.val (.int v0), .val (.int v1), .val (.int v2), .val (.int v3), .val (.int x249), .val (.int x250), .val (.int x251), .val (.int x252), .val (.int (1 : Int32)), .val (.int x249), .unset, .unset, .unset, .unset, .unset, .unset] [])) t
      refine XS.iload X.here hx rfl (hb hby at_75) rfl ?_
      show Steps p.tables e below (T.setTop (mkF m 77 #[.val (.int v0), .val (.int v1), .val (.int v2), .val (.int v3), .val (.int x249), .val (.int x250), .val (.int x251), .val (.int x252), .val (.int (1 : Int32)), .val (.int x249), .unset, .unset, .unset, .unset, .unset, .unset] [(.int x250)])) t
      refine XS.istore X.here hx rfl (hb hby at_77) rfl (l' := #[.val (.int v0), .val (.int v1), .val (.int v2), .val (.int v3), .val (.int x249), .val (.int x250), .val (.int x251), .val (.int x252), .val (.int (1 : Int32)), .val (.int x249), .val (.int x250), .unset, .unset, .unset, .unset, .unset]) rfl ?_
      exact k
    exact b_law_79 cx X eT N K z x249 x250 x251 x252 (1 : Int32) x249 x250 (.val (.int v0)) (.val (.int v1)) (.val (.int v2)) (.val (.int v3)) (.unset) (.unset) (.unset) (.unset) (.unset) (One.val rfl) (One.val rfl) (One.val rfl) (One.val rfl) One.u One.u One.u One.u One.u _ hF
  · rw [if_neg hc38] at hF
    refine own_Goes.via (B := T.setTop (mkF m 49 #[.val (.int v0), .val (.int v1), .val (.int v2), .val (.int v3), .val (.int x249), .val (.int x250), .val (.int x251), .val (.int x252), .unset, .unset, .unset, .unset, .unset, .unset, .unset, .unset] [(.int ((3 : Int32) * x249)), (.int ((4 : Int32) * x250))])) (fun t k => ?_) ?_
    · show Steps p.tables e below (T.setTop (mkF m 38 #[.val (.int v0), .val (.int v1), .val (.int v2), .val (.int v3), .val (.int x249), .val (.int x250), .val (.int x251), .val (.int x252), .unset, .unset, .unset, .unset, .unset, .unset, .unset, .unset] [(.int (64 : Int32)), (.int x249)])) t
      refine XS.icmpNo X.here hx rfl (hb hby at_38) rfl (flt hc38).1 ?_
      show Steps p.tables e below (T.setTop (mkF m 41 #[.val (.int v0), .val (.int v1), .val (.int v2), .val (.int v3), .val (.int x249), .val (.int x250), .val (.int x251), .val (.int x252), .unset, .unset, .unset, .unset, .unset, .unset, .unset, .unset] [])) t
      refine XS.iconst X.here hx rfl (hb hby at_41) ?_
      show Steps p.tables e below (T.setTop (mkF m 42 #[.val (.int v0), .val (.int v1), .val (.int v2), .val (.int v3), .val (.int x249), .val (.int x250), .val (.int x251), .val (.int x252), .unset, .unset, .unset, .unset, .unset, .unset, .unset, .unset] [(.int (4 : Int32))])) t
      refine XS.iload X.here hx rfl (hb hby at_42) rfl ?_
      show Steps p.tables e below (T.setTop (mkF m 44 #[.val (.int v0), .val (.int v1), .val (.int v2), .val (.int v3), .val (.int x249), .val (.int x250), .val (.int x251), .val (.int x252), .unset, .unset, .unset, .unset, .unset, .unset, .unset, .unset] [(.int x250), (.int (4 : Int32))])) t
      refine XS.imul X.here hx rfl (hb hby at_44) rfl ?_
      show Steps p.tables e below (T.setTop (mkF m 45 #[.val (.int v0), .val (.int v1), .val (.int v2), .val (.int v3), .val (.int x249), .val (.int x250), .val (.int x251), .val (.int x252), .unset, .unset, .unset, .unset, .unset, .unset, .unset, .unset] [(.int ((4 : Int32) * x250))])) t
      refine XS.iconst X.here hx rfl (hb hby at_45) ?_
      show Steps p.tables e below (T.setTop (mkF m 46 #[.val (.int v0), .val (.int v1), .val (.int v2), .val (.int v3), .val (.int x249), .val (.int x250), .val (.int x251), .val (.int x252), .unset, .unset, .unset, .unset, .unset, .unset, .unset, .unset] [(.int (3 : Int32)), (.int ((4 : Int32) * x250))])) t
      refine XS.iload X.here hx rfl (hb hby at_46) rfl ?_
      show Steps p.tables e below (T.setTop (mkF m 48 #[.val (.int v0), .val (.int v1), .val (.int v2), .val (.int v3), .val (.int x249), .val (.int x250), .val (.int x251), .val (.int x252), .unset, .unset, .unset, .unset, .unset, .unset, .unset, .unset] [(.int x249), (.int (3 : Int32)), (.int ((4 : Int32) * x250))])) t
      refine XS.imul X.here hx rfl (hb hby at_48) rfl ?_
      exact k
    by_cases hc49 : ((4 : Int32) * x250) < ((3 : Int32) * x249)
    · rw [if_pos hc49] at hF
      refine own_Goes.via (B := T.setTop (mkF m 79 #[.val (.int v0), .val (.int v1), .val (.int v2), .val (.int v3), .val (.int x249), .val (.int x250), .val (.int x251), .val (.int x252), .val (.int (0 : Int32)), .val (.int (0 : Int32)), .val (.int (0 : Int32)), .unset, .unset, .unset, .unset, .unset] [])) (fun t k => ?_) ?_
      · show Steps p.tables e below (T.setTop (mkF m 49 #[.val (.int v0), .val (.int v1), .val (.int v2), .val (.int v3), .val (.int x249), .val (.int x250), .val (.int x251), .val (.int x252), .unset, .unset, .unset, .unset, .unset, .unset, .unset, .unset] [(.int ((3 : Int32) * x249)), (.int ((4 : Int32) * x250))])) t
        refine XS.icmpYes X.here hx rfl (pc0 := 49) (pc' := 56) rfl (hb hby at_49) rfl (tlt hc49).1 (by decide) (by decide) ?_
        show Steps p.tables e below (T.setTop (mkF m 56 #[.val (.int v0), .val (.int v1), .val (.int v2), .val (.int v3), .val (.int x249), .val (.int x250), .val (.int x251), .val (.int x252), .unset, .unset, .unset, .unset, .unset, .unset, .unset, .unset] [])) t
        refine XS.iconst X.here hx rfl (hb hby at_56) ?_
        show Steps p.tables e below (T.setTop (mkF m 57 #[.val (.int v0), .val (.int v1), .val (.int v2), .val (.int v3), .val (.int x249), .val (.int x250), .val (.int x251), .val (.int x252), .unset, .unset, .unset, .unset, .unset, .unset, .unset, .unset] [(.int (0 : Int32))])) t
        refine XS.istore X.here hx rfl (hb hby at_57) rfl (l' := #[.val (.int v0), .val (.int v1), .val (.int v2), .val (.int v3), .val (.int x249), .val (.int x250), .val (.int x251), .val (.int x252), .val (.int (0 : Int32)), .unset, .unset, .unset, .unset, .unset, .unset, .unset]) rfl ?_
        show Steps p.tables e below (T.setTop (mkF m 59 #[.val (.int v0), .val (.int v1), .val (.int v2), .val (.int v3), .val (.int x249), .val (.int x250), .val (.int x251), .val (.int x252), .val (.int (0 : Int32)), .unset, .unset, .unset, .unset, .unset, .unset, .unset] [])) t
        refine XS.iconst X.here hx rfl (hb hby at_59) ?_
        show Steps p.tables e below (T.setTop (mkF m 60 #[.val (.int v0), .val (.int v1), .val (.int v2), .val (.int v3), .val (.int x249), .val (.int x250), .val (.int x251), .val (.int x252), .val (.int (0 : Int32)), .unset, .unset, .unset, .unset, .unset, .unset, .unset] [(.int (0 : Int32))])) t
        refine XS.istore X.here hx rfl (hb hby at_60) rfl (l' := #[.val (.int v0), .val (.int v1), .val (.int v2), .val (.int v3), .val (.int x249), .val (.int x250), .val (.int x251), .val (.int x252), .val (.int (0 : Int32)), .val (.int (0 : Int32)), .unset, .unset, .unset, .unset, .unset, .unset]) rfl ?_
        show Steps p.tables e below (T.setTop (mkF m 62 #[.val (.int v0), .val (.int v1), .val (.int v2), .val (.int v3), .val (.int x249), .val (.int x250), .val (.int x251), .val (.int x252), .val (.int (0 : Int32)), .val (.int (0 : Int32)), .unset, .unset, .unset, .unset, .unset, .unset] [])) t
        refine XS.iconst X.here hx rfl (hb hby at_62) ?_
        show Steps p.tables e below (T.setTop (mkF m 63 #[.val (.int v0), .val (.int v1), .val (.int v2), .val (.int v3), .val (.int x249), .val (.int x250), .val (.int x251), .val (.int x252), .val (.int (0 : Int32)), .val (.int (0 : Int32)), .unset, .unset, .unset, .unset, .unset, .unset] [(.int (0 : Int32))])) t
        refine XS.istore X.here hx rfl (hb hby at_63) rfl (l' := #[.val (.int v0), .val (.int v1), .val (.int v2), .val (.int v3), .val (.int x249), .val (.int x250), .val (.int x251), .val (.int x252), .val (.int (0 : Int32)), .val (.int (0 : Int32)), .val (.int (0 : Int32)), .unset, .unset, .unset, .unset, .unset]) rfl ?_
        show Steps p.tables e below (T.setTop (mkF m 65 #[.val (.int v0), .val (.int v1), .val (.int v2), .val (.int v3), .val (.int x249), .val (.int x250), .val (.int x251), .val (.int x252), .val (.int (0 : Int32)), .val (.int (0 : Int32)), .val (.int (0 : Int32)), .unset, .unset, .unset, .unset, .unset] [])) t
        refine XS.goto X.here hx rfl (pc0 := 65) (pc' := 79) rfl (hb hby at_65) (by decide) (by decide) ?_
        exact k
      exact b_law_79 cx X eT N K z x249 x250 x251 x252 (0 : Int32) (0 : Int32) (0 : Int32) (.val (.int v0)) (.val (.int v1)) (.val (.int v2)) (.val (.int v3)) (.unset) (.unset) (.unset) (.unset) (.unset) (One.val rfl) (One.val rfl) (One.val rfl) (One.val rfl) One.u One.u One.u One.u One.u _ hF
    · rw [if_neg hc49] at hF
      refine own_Goes.via (B := T.setTop (mkF m 79 #[.val (.int v0), .val (.int v1), .val (.int v2), .val (.int v3), .val (.int x249), .val (.int x250), .val (.int x251), .val (.int x252), .val (.int (1 : Int32)), .val (.int (0 : Int32)), .val (.int (0 : Int32)), .unset, .unset, .unset, .unset, .unset] [])) (fun t k => ?_) ?_
      · show Steps p.tables e below (T.setTop (mkF m 49 #[.val (.int v0), .val (.int v1), .val (.int v2), .val (.int v3), .val (.int x249), .val (.int x250), .val (.int x251), .val (.int x252), .unset, .unset, .unset, .unset, .unset, .unset, .unset, .unset] [(.int ((3 : Int32) * x249)), (.int ((4 : Int32) * x250))])) t
        refine XS.icmpNo X.here hx rfl (hb hby at_49) rfl (flt hc49).1 ?_
        show Steps p.tables e below (T.setTop (mkF m 52 #[.val (.int v0), .val (.int v1), .val (.int v2), .val (.int v3), .val (.int x249), .val (.int x250), .val (.int x251), .val (.int x252), .unset, .unset, .unset, .unset, .unset, .unset, .unset, .unset] [])) t
        refine XS.iconst X.here hx rfl (hb hby at_52) ?_
        show Steps p.tables e below (T.setTop (mkF m 53 #[.val (.int v0), .val (.int v1), .val (.int v2), .val (.int v3), .val (.int x249), .val (.int x250), .val (.int x251), .val (.int x252), .unset, .unset, .unset, .unset, .unset, .unset, .unset, .unset] [(.int (1 : Int32))])) t
        refine XS.goto X.here hx rfl (pc0 := 53) (pc' := 57) rfl (hb hby at_53) (by decide) (by decide) ?_
        show Steps p.tables e below (T.setTop (mkF m 57 #[.val (.int v0), .val (.int v1), .val (.int v2), .val (.int v3), .val (.int x249), .val (.int x250), .val (.int x251), .val (.int x252), .unset, .unset, .unset, .unset, .unset, .unset, .unset, .unset] [(.int (1 : Int32))])) t
        refine XS.istore X.here hx rfl (hb hby at_57) rfl (l' := #[.val (.int v0), .val (.int v1), .val (.int v2), .val (.int v3), .val (.int x249), .val (.int x250), .val (.int x251), .val (.int x252), .val (.int (1 : Int32)), .unset, .unset, .unset, .unset, .unset, .unset, .unset]) rfl ?_
        show Steps p.tables e below (T.setTop (mkF m 59 #[.val (.int v0), .val (.int v1), .val (.int v2), .val (.int v3), .val (.int x249), .val (.int x250), .val (.int x251), .val (.int x252), .val (.int (1 : Int32)), .unset, .unset, .unset, .unset, .unset, .unset, .unset] [])) t
        refine XS.iconst X.here hx rfl (hb hby at_59) ?_
        show Steps p.tables e below (T.setTop (mkF m 60 #[.val (.int v0), .val (.int v1), .val (.int v2), .val (.int v3), .val (.int x249), .val (.int x250), .val (.int x251), .val (.int x252), .val (.int (1 : Int32)), .unset, .unset, .unset, .unset, .unset, .unset, .unset] [(.int (0 : Int32))])) t
        refine XS.istore X.here hx rfl (hb hby at_60) rfl (l' := #[.val (.int v0), .val (.int v1), .val (.int v2), .val (.int v3), .val (.int x249), .val (.int x250), .val (.int x251), .val (.int x252), .val (.int (1 : Int32)), .val (.int (0 : Int32)), .unset, .unset, .unset, .unset, .unset, .unset]) rfl ?_
        show Steps p.tables e below (T.setTop (mkF m 62 #[.val (.int v0), .val (.int v1), .val (.int v2), .val (.int v3), .val (.int x249), .val (.int x250), .val (.int x251), .val (.int x252), .val (.int (1 : Int32)), .val (.int (0 : Int32)), .unset, .unset, .unset, .unset, .unset, .unset] [])) t
        refine XS.iconst X.here hx rfl (hb hby at_62) ?_
        show Steps p.tables e below (T.setTop (mkF m 63 #[.val (.int v0), .val (.int v1), .val (.int v2), .val (.int v3), .val (.int x249), .val (.int x250), .val (.int x251), .val (.int x252), .val (.int (1 : Int32)), .val (.int (0 : Int32)), .unset, .unset, .unset, .unset, .unset, .unset] [(.int (0 : Int32))])) t
        refine XS.istore X.here hx rfl (hb hby at_63) rfl (l' := #[.val (.int v0), .val (.int v1), .val (.int v2), .val (.int v3), .val (.int x249), .val (.int x250), .val (.int x251), .val (.int x252), .val (.int (1 : Int32)), .val (.int (0 : Int32)), .val (.int (0 : Int32)), .unset, .unset, .unset, .unset, .unset]) rfl ?_
        show Steps p.tables e below (T.setTop (mkF m 65 #[.val (.int v0), .val (.int v1), .val (.int v2), .val (.int v3), .val (.int x249), .val (.int x250), .val (.int x251), .val (.int x252), .val (.int (1 : Int32)), .val (.int (0 : Int32)), .val (.int (0 : Int32)), .unset, .unset, .unset, .unset, .unset] [])) t
        refine XS.goto X.here hx rfl (pc0 := 65) (pc' := 79) rfl (hb hby at_65) (by decide) (by decide) ?_
        exact k
      exact b_law_79 cx X eT N K z x249 x250 x251 x252 (1 : Int32) (0 : Int32) (0 : Int32) (.val (.int v0)) (.val (.int v1)) (.val (.int v2)) (.val (.int v3)) (.unset) (.unset) (.unset) (.unset) (.unset) (One.val rfl) (One.val rfl) (One.val rfl) (One.val rfl) One.u One.u One.u One.u One.u _ hF
theorem ef_law (m : MethodId) (x0 : Int32) (x1 : Int32) (x2 : Int32) (x3 : Int32) : entryFrame m #[(.int x0), (.int x1), (.int x2), (.int x3)] maxLocals = mkF m 0 #[.val (.int x0), .val (.int x1), .val (.int x2), .val (.int x3), .unset, .unset, .unset, .unset, .unset, .unset, .unset, .unset, .unset, .unset, .unset, .unset] [] := by first | (simp [entryFrame, mkF, argsToLocals, Value.category, maxLocals]; done) | rfl
set_option maxRecDepth 65536 in
set_option maxHeartbeats 4000000 in
theorem rm_law (l : Launch) (Z : State) (a0 : Array Value) (hw : ∀ d ∈ tables_1, d.before a0 Z = true) (ws : List Jvm.Cond) (hE : Heap) (n0 : Nat) (z : n0 ≤ hE.size)  (v0 : Int32) (v1 : Int32) (v2 : Int32) (v3 : Int32) (r : Int32) (hF : (f_law v0 v1 v2 v3) = some r) :
    MetFree l x (head1 (Jvm.Cond.code x code maxLocals ret :: ws) room_1) (fun a U => a = #[(.int v0), (.int v1), (.int v2), (.int v3)] ∧ Z.Warmed39 U.vm ∧ U.heap = hE) (fun _ _ _ _ _ => True) (fun _ U o U' => ∃ v L, o = .returned v ∧ (Q_law Z hE n0 r) v U'.heap L ∧ FrameEnd U o U' L 1 5) := by
  refine MetFree.of_bodySF (plainFor_of_name pn_tidemark_PayingPassTakenPinLaw) hisR ?_
  intro p e s m args below meth c s₁ Bd hml0 hP hK
  obtain ⟨rfl, hZ, hh⟩ := hP
  have X0 : Stand p l e room_1 s m #[(.int v0), (.int v1), (.int v2), (.int v3)] below meth c s₁ [] 0 0 := Stand.of_body Bd
  have e0 : s₁.heap = hE := by rw [← hh, Bd.state]; rfl
  have cx : Cx_law p s m meth c Z a0 := ⟨Bd.exec, hZ, hw, Bd.bytes, hml0, findClass_of_methodNamed Bd.named, Bd.returns, Bd.notSynchronized, (name_of_methodNamed Bd.named Bd.method).1⟩
  show own_Goes p e below s (Q_law Z hE n0 r) 1 5 (s₁.setTop (entryFrame m #[(.int v0), (.int v1), (.int v2), (.int v3)] maxLocals))
  rw [ef_law]
  exact b_law cx X0 e0 (Fr.nil n0) (Keep.refl _ _) z v0 v1 v2 v3 _ hF
/-! the words of the mirrors -/
theorem own_bs {α β : Type} (x : α) (f : α → Option β) : own_bd (some x) f = f x := by unfold own_bd; exact rfl
theorem own_ls {α β : Type} (x : α) (f : α → Option β) : own_lt x f = f x := by unfold own_lt; exact rfl
theorem own_bn {α : Type} (x : Option α) : own_bd x (fun y => some y) = x := by cases x <;> exact rfl
theorem own_ct {β : Type} {P : Prop} [Decidable P] (x : Option β) (h : P) : own_ck P x = x := by unfold own_ck; exact if_pos h
/-! numbers: ints and longs as integers -/
theorem own_i1 (x : Int32) : -2147483648 ≤ x.toInt := Int32.le_toInt x
theorem own_i2 (x : Int32) : x.toInt < 2147483648 := Int32.toInt_lt x
theorem own_j1 (x : Int64) : -9223372036854775808 ≤ x.toInt := Int64.le_toInt x
theorem own_j2 (x : Int64) : x.toInt < 9223372036854775808 := Int64.toInt_lt x
theorem own_iadd {a b : Int32} (h1 : -2147483648 ≤ a.toInt + b.toInt) (h2 : a.toInt + b.toInt < 2147483648) : (a + b).toInt = a.toInt + b.toInt := by
  rw [Int32.toInt_add]; exact Int.bmod_eq_of_le (by omega) (by omega)
theorem own_isub {a b : Int32} (h1 : -2147483648 ≤ a.toInt - b.toInt) (h2 : a.toInt - b.toInt < 2147483648) : (a - b).toInt = a.toInt - b.toInt := by
  rw [Int32.toInt_sub]; exact Int.bmod_eq_of_le (by omega) (by omega)
theorem own_imul {a b : Int32} (h1 : -2147483648 ≤ a.toInt * b.toInt) (h2 : a.toInt * b.toInt < 2147483648) : (a * b).toInt = a.toInt * b.toInt := by
  rw [Int32.toInt_mul]; exact Int.bmod_eq_of_le (by omega) (by omega)
theorem own_ladd {a b : Int64} (h1 : -9223372036854775808 ≤ a.toInt + b.toInt) (h2 : a.toInt + b.toInt < 9223372036854775808) : (a + b).toInt = a.toInt + b.toInt := by
  rw [Int64.toInt_add]; exact Int.bmod_eq_of_le (by omega) (by omega)
theorem own_lsub {a b : Int64} (h1 : -9223372036854775808 ≤ a.toInt - b.toInt) (h2 : a.toInt - b.toInt < 9223372036854775808) : (a - b).toInt = a.toInt - b.toInt := by
  rw [Int64.toInt_sub]; exact Int.bmod_eq_of_le (by omega) (by omega)
theorem own_lmul {a b : Int64} (h1 : -9223372036854775808 ≤ a.toInt * b.toInt) (h2 : a.toInt * b.toInt < 9223372036854775808) : (a * b).toInt = a.toInt * b.toInt := by
  rw [Int64.toInt_mul]; exact Int.bmod_eq_of_le (by omega) (by omega)
theorem own_imask {x m : Int32} (k : Nat) (hk : k ≤ 31) (hm : m.toBitVec.toNat = 2 ^ k - 1) : (x &&& m).toInt = x.toInt % 2 ^ k := by
  have h1 : (x &&& m).toBitVec.toNat = x.toBitVec.toNat % 2 ^ k := by rw [Int32.toBitVec_and, BitVec.toNat_and, hm, Nat.and_two_pow_sub_one_eq_mod]
  have h3 : x.toBitVec.toNat % 2 ^ k < 2 ^ k := Nat.mod_lt _ (Nat.pow_pos (by decide))
  have h4 : (2 : Nat) ^ k ≤ 2 ^ 31 := Nat.pow_le_pow_right (by decide) hk
  have h2 : (x &&& m).toInt = ((x.toBitVec.toNat % 2 ^ k : Nat) : Int) := by
    show (x &&& m).toBitVec.toInt = _
    rw [BitVec.toInt_eq_toNat_of_lt (by rw [h1]; omega), h1]
  rw [h2]
  have h5 : x.toInt = x.toBitVec.toInt := rfl
  have h6 : ((2 : Int) ^ k) ∣ 4294967296 := by
    have : (4294967296 : Int) = 2 ^ k * 2 ^ (32 - k) := by rw [← Int.pow_add, show k + (32 - k) = 32 by omega]; rfl
    exact ⟨_, this⟩
  rw [h5, BitVec.toInt_eq_toNat_cond]
  split
  · exact Int.natCast_emod _ _
  · rw [Int.natCast_emod, show (((2 ^ 32 : Nat) : Int)) = 4294967296 from rfl, Int.sub_emod, Int.emod_eq_zero_of_dvd h6]; simp
theorem own_lmask {x m : Int64} (k : Nat) (hk : k ≤ 63) (hm : m.toBitVec.toNat = 2 ^ k - 1) : (x &&& m).toInt = x.toInt % 2 ^ k := by
  have h1 : (x &&& m).toBitVec.toNat = x.toBitVec.toNat % 2 ^ k := by rw [Int64.toBitVec_and, BitVec.toNat_and, hm, Nat.and_two_pow_sub_one_eq_mod]
  have h3 : x.toBitVec.toNat % 2 ^ k < 2 ^ k := Nat.mod_lt _ (Nat.pow_pos (by decide))
  have h4 : (2 : Nat) ^ k ≤ 2 ^ 63 := Nat.pow_le_pow_right (by decide) hk
  have h2 : (x &&& m).toInt = ((x.toBitVec.toNat % 2 ^ k : Nat) : Int) := by
    show (x &&& m).toBitVec.toInt = _
    rw [BitVec.toInt_eq_toNat_of_lt (by rw [h1]; omega), h1]
  rw [h2]
  have h5 : x.toInt = x.toBitVec.toInt := rfl
  have h6 : ((2 : Int) ^ k) ∣ 18446744073709551616 := by
    have : (18446744073709551616 : Int) = 2 ^ k * 2 ^ (64 - k) := by rw [← Int.pow_add, show k + (64 - k) = 64 by omega]; rfl
    exact ⟨_, this⟩
  rw [h5, BitVec.toInt_eq_toNat_cond]
  split
  · exact Int.natCast_emod _ _
  · rw [Int.natCast_emod, show (((2 ^ 64 : Nat) : Int)) = 18446744073709551616 from rfl, Int.sub_emod, Int.emod_eq_zero_of_dvd h6]; simp
theorem own_bm32 (x : Int) : x.bmod 4294967296 = (x + 2147483648) % 4294967296 - 2147483648 := by
  unfold Int.bmod; dsimp only; split <;> omega
theorem own_bm64 (x : Int) : x.bmod 18446744073709551616 = (x + 9223372036854775808) % 18446744073709551616 - 9223372036854775808 := by
  unfold Int.bmod; dsimp only; split <;> omega
theorem own_bm8 (x : Int) : x.bmod 256 = (x + 128) % 256 - 128 := by
  unfold Int.bmod; dsimp only; split <;> omega
theorem own_bm16 (x : Int) : x.bmod 65536 = (x + 32768) % 65536 - 32768 := by
  unfold Int.bmod; dsimp only; split <;> omega
theorem own_b8 (x : Int32) : x.toInt8.toInt32.toInt = (x.toInt + 128) % 256 - 128 := by rw [Int8.toInt_toInt32, Int32.toInt_toInt8]; exact own_bm8 _
theorem own_s16 (x : Int32) : x.toInt16.toInt32.toInt = (x.toInt + 32768) % 65536 - 32768 := by rw [Int16.toInt_toInt32, Int32.toInt_toInt16]; exact own_bm16 _
theorem own_l2i (x : Int64) : x.toInt32.toInt = (x.toInt + 2147483648) % 4294967296 - 2147483648 := by rw [Int64.toInt_toInt32]; exact own_bm32 _
theorem own_i2l (x : Int32) : x.toInt64.toInt = x.toInt := Int32.toInt_toInt64 x
theorem own_idiv {a b : Int32} (h1 : 0 ≤ a.toInt) (h2 : 0 < b.toInt) : (a / b).toInt = a.toInt / b.toInt := by
  rw [Int32.toInt_div_of_ne_right a b (fun q => by rw [q] at h2; exact absurd h2 (by decide)), Int.tdiv_eq_ediv_of_nonneg h1]
theorem own_ldiv {a b : Int64} (h1 : 0 ≤ a.toInt) (h2 : 0 < b.toInt) : (a / b).toInt = a.toInt / b.toInt := by
  rw [Int64.toInt_div_of_ne_right a b (fun q => by rw [q] at h2; exact absurd h2 (by decide)), Int.tdiv_eq_ediv_of_nonneg h1]
theorem own_imod {a b : Int32} (h1 : 0 ≤ a.toInt) : (a % b).toInt = a.toInt % b.toInt := by rw [Int32.toInt_mod, Int.tmod_eq_emod_of_nonneg h1]
theorem own_lmod {a b : Int64} (h1 : 0 ≤ a.toInt) : (a % b).toInt = a.toInt % b.toInt := by rw [Int64.toInt_mod, Int.tmod_eq_emod_of_nonneg h1]
theorem own_uI (x : Int32) : (x.toUInt32.toNat : Int) = x.toInt % 4294967296 := by
  have h : x.toInt = x.toBitVec.toInt := rfl
  have q : x.toUInt32.toNat = x.toBitVec.toNat := rfl
  have b := x.toBitVec.isLt
  rw [h, q, BitVec.toInt_eq_toNat_cond]
  split <;> omega
theorem own_uJ (x : Int64) : (x.toUInt64.toNat : Int) = x.toInt % 18446744073709551616 := by
  have h : x.toInt = x.toBitVec.toInt := rfl
  have q : x.toUInt64.toNat = x.toBitVec.toNat := rfl
  have b := x.toBitVec.isLt
  rw [h, q, BitVec.toInt_eq_toNat_cond]
  split <;> omega
theorem own_ofU (u : UInt32) (h : u.toNat < 2147483648) : u.toInt32.toInt = u.toNat := by
  show u.toBitVec.toInt = _
  exact BitVec.toInt_eq_toNat_of_lt (by show 2 * u.toNat < 2 ^ 32; omega)
theorem own_ofUJ (u : UInt64) (h : u.toNat < 9223372036854775808) : u.toInt64.toInt = u.toNat := by
  show u.toBitVec.toInt = _
  exact BitVec.toInt_eq_toNat_of_lt (by show 2 * u.toNat < 2 ^ 64; omega)
/-- Java's >>> on ints by a constant from 1 to 31 -/
theorem own_iushr (x s : Int32) (n : Nat) (h0 : 1 ≤ n) (hn : n < 32) (hs : (s &&& 31).toUInt32.toNat = n) : ((x.toUInt32 >>> (s &&& 31).toUInt32).toInt32).toInt = (x.toInt % 4294967296) / (2 ^ n : Nat) := by
  have e : (x.toUInt32 >>> (s &&& 31).toUInt32).toNat = x.toUInt32.toNat / 2 ^ n := by rw [UInt32.toNat_shiftRight, hs, Nat.mod_eq_of_lt hn, Nat.shiftRight_eq_div_pow]
  have b : x.toUInt32.toNat < 4294967296 := x.toUInt32.toNat_lt
  have c : x.toUInt32.toNat / 2 ^ n ≤ x.toUInt32.toNat / 2 ^ 1 := Nat.div_le_div_left (Nat.pow_le_pow_right (by decide) h0) (by decide)
  rw [own_ofU _ (by rw [e]; omega), e, Int.natCast_ediv, own_uI]
theorem own_lushr (x : Int64) (s : Int32) (n : Nat) (h0 : 1 ≤ n) (hn : n < 64) (hs : (s &&& 0x3f).toInt64.toUInt64.toNat = n) : ((x.toUInt64 >>> (s &&& 0x3f).toInt64.toUInt64).toInt64).toInt = (x.toInt % 18446744073709551616) / (2 ^ n : Nat) := by
  have e : (x.toUInt64 >>> (s &&& 0x3f).toInt64.toUInt64).toNat = x.toUInt64.toNat / 2 ^ n := by rw [UInt64.toNat_shiftRight, hs, Nat.mod_eq_of_lt hn, Nat.shiftRight_eq_div_pow]
  have b : x.toUInt64.toNat < 18446744073709551616 := x.toUInt64.toNat_lt
  have c : x.toUInt64.toNat / 2 ^ n ≤ x.toUInt64.toNat / 2 ^ 1 := Nat.div_le_div_left (Nat.pow_le_pow_right (by decide) h0) (by decide)
  rw [own_ofUJ _ (by rw [e]; omega), e, Int.natCast_ediv, own_uJ]
theorem own_ishl {x s : Int32} (n : Nat) (hs : (s.toBitVec.smod 32).toNat = n) (h0 : 0 ≤ x.toInt) (h1 : x.toInt * (2 ^ n : Nat) < 2147483648) : (x <<< s).toInt = x.toInt * (2 ^ n : Nat) := by
  have h : x.toInt = x.toBitVec.toInt := rfl
  have hx : x.toInt = x.toBitVec.toNat := by
    have b := x.toBitVec.isLt
    rw [h, BitVec.toInt_eq_toNat_cond]; rw [h, BitVec.toInt_eq_toNat_cond] at h0
    split at h0 <;> rename_i q
    · rw [if_pos q]
    · omega
  have e : (x <<< s).toBitVec.toNat = x.toBitVec.toNat * 2 ^ n := by
    rw [Int32.toBitVec_shiftLeft, BitVec.shiftLeft_eq', hs, BitVec.toNat_shiftLeft, Nat.shiftLeft_eq]
    apply Nat.mod_eq_of_lt
    rw [hx] at h1
    omega
  show (x <<< s).toBitVec.toInt = _
  rw [BitVec.toInt_eq_toNat_of_lt (by rw [e]; rw [hx] at h1; omega), e, hx]
  simp
theorem own_lshl {x s : Int64} (n : Nat) (hs : (s.toBitVec.smod 64).toNat = n) (h0 : 0 ≤ x.toInt) (h1 : x.toInt * (2 ^ n : Nat) < 9223372036854775808) : (x <<< s).toInt = x.toInt * (2 ^ n : Nat) := by
  have h : x.toInt = x.toBitVec.toInt := rfl
  have hx : x.toInt = x.toBitVec.toNat := by
    have b := x.toBitVec.isLt
    rw [h, BitVec.toInt_eq_toNat_cond]; rw [h, BitVec.toInt_eq_toNat_cond] at h0
    split at h0 <;> rename_i q
    · rw [if_pos q]
    · omega
  have e : (x <<< s).toBitVec.toNat = x.toBitVec.toNat * 2 ^ n := by
    rw [Int64.toBitVec_shiftLeft, BitVec.shiftLeft_eq', hs, BitVec.toNat_shiftLeft, Nat.shiftLeft_eq]
    apply Nat.mod_eq_of_lt
    rw [hx] at h1
    omega
  show (x <<< s).toBitVec.toInt = _
  rw [BitVec.toInt_eq_toNat_of_lt (by rw [e]; rw [hx] at h1; omega), e, hx]
  simp
theorem own_ishr (x s : Int32) (n : Nat) (hs : (s.toBitVec.smod 32).toNat = n) : (x >>> s).toInt = x.toInt / (2 ^ n : Nat) := by
  show (x >>> s).toBitVec.toInt = _
  rw [Int32.toBitVec_shiftRight, BitVec.sshiftRight', hs, BitVec.toInt_sshiftRight, Int.shiftRight_eq_div_pow]
  rfl
theorem own_lshr (x s : Int64) (n : Nat) (hs : (s.toBitVec.smod 64).toNat = n) : (x >>> s).toInt = x.toInt / (2 ^ n : Nat) := by
  show (x >>> s).toBitVec.toInt = _
  rw [Int64.toBitVec_shiftRight, BitVec.sshiftRight', hs, BitVec.toInt_sshiftRight, Int.shiftRight_eq_div_pow]
  rfl
theorem own_natbit (x k : Nat) : x &&& 2 ^ k = 0 ↔ x / 2 ^ k % 2 = 0 := by
  constructor
  · intro h
    have q : (x &&& 2 ^ k).testBit k = false := by rw [h]; exact Nat.zero_testBit k
    rw [Nat.testBit_and, Nat.testBit_two_pow_self, Bool.and_true, Nat.testBit_eq_decide_div_mod_eq] at q
    have q := of_decide_eq_false q
    omega
  · intro h
    apply Nat.eq_of_testBit_eq
    intro i
    rw [Nat.testBit_and, Nat.zero_testBit, Nat.testBit_two_pow]
    by_cases e : k = i
    · subst e
      rw [Nat.testBit_eq_decide_div_mod_eq, h]; rfl
    · simp [e]
/-- one bit of an int -/
theorem own_ibit (x m : Int32) (k : Nat) (hm : m.toBitVec.toNat = 2 ^ k) : (x &&& m = 0) ↔ x.toInt % 4294967296 / (2 ^ k : Nat) % 2 = 0 := by
  have u : (x.toBitVec.toNat : Int) = x.toInt % 4294967296 := own_uI x
  have z : (0 : Int32).toBitVec.toNat = 0 := rfl
  rw [← u, ← Int.natCast_ediv, ← Int32.toBitVec_inj, ← BitVec.toNat_inj, Int32.toBitVec_and, BitVec.toNat_and, hm, z, own_natbit]
  omega
theorem own_k0 : (0 : Int32).toNatClampNeg = 0 := by decide
theorem own_k1 : (1 : Int32).toNatClampNeg = 1 := by decide
theorem own_k2 : (2 : Int32).toNatClampNeg = 2 := by decide
theorem own_k3 : (3 : Int32).toNatClampNeg = 3 := by decide
theorem own_k4 : (4 : Int32).toNatClampNeg = 4 := by decide
theorem own_k5 : (5 : Int32).toNatClampNeg = 5 := by decide
theorem own_k6 : (6 : Int32).toNatClampNeg = 6 := by decide
theorem own_k7 : (7 : Int32).toNatClampNeg = 7 := by decide
/-- a byte, and what a property of the 256 of them says -/
theorem own_byte {P : Int32 → Prop} (h : ∀ n : Nat, n < 256 → P (Int32.ofNat n)) (x : Int32) (h1 : 0 ≤ x.toInt) (h2 : x.toInt < 256) : P x := by
  have e : x = Int32.ofNat x.toInt.toNat := by
    apply Int32.toInt_inj.mp
    rw [Int32.toInt_ofNat_of_lt (by omega)]; omega
  rw [e]; exact h _ (by omega)
theorem own_192 (x : Int32) (h1 : 0 ≤ x.toInt) (h2 : x.toInt < 256) : (x &&& 192).toInt = x.toInt / 64 * 64 :=
  own_byte (P := fun x => (x &&& 192).toInt = x.toInt / 64 * 64) (by decide +kernel) x h1 h2
/-- the or of two numbers that share no bit -/
theorem own_ior {x y : Int32} (k : Nat) (q : Int) (hq : 0 ≤ q) (hx : x.toInt = (2 ^ k : Nat) * q) (hy : 0 ≤ y.toInt) (hy2 : y.toInt < (2 ^ k : Nat)) : (x ||| y).toInt = x.toInt + y.toInt := by
  have x0 : 0 ≤ x.toInt := by rw [hx]; exact Int.mul_nonneg (Int.natCast_nonneg _) hq
  have ux := own_uI x
  have uy := own_uI y
  have x2 := own_i2 x
  have y2 := own_i2 y
  have nx : x.toUInt32.toNat = 2 ^ k * q.toNat := by
    have : ((2 ^ k * q.toNat : Nat) : Int) = (2 ^ k : Nat) * q := by rw [Int.natCast_mul, Int.toNat_of_nonneg hq]
    omega
  have e : (x ||| y).toBitVec.toNat = x.toUInt32.toNat + y.toUInt32.toNat := by
    rw [Int32.toBitVec_or, BitVec.toNat_or]
    show x.toUInt32.toNat ||| y.toUInt32.toNat = _
    rw [nx]
    exact (Nat.two_pow_add_eq_or_of_lt (by omega) _).symm
  have lt : x.toInt + y.toInt < 2147483648 := by
    by_cases k31 : k ≤ 31
    · have d : (2 ^ 31 : Nat) = 2 ^ k * 2 ^ (31 - k) := by rw [← Nat.pow_add]; congr 1; omega
      have z1 : q.toNat < 2 ^ (31 - k) := by
        apply Nat.lt_of_mul_lt_mul_left (a := 2 ^ k)
        rw [← d, ← nx]; omega
      have z2 : 2 ^ k * (q.toNat + 1) ≤ 2 ^ k * 2 ^ (31 - k) := Nat.mul_le_mul_left _ z1
      rw [← d, Nat.mul_add, ← nx] at z2
      omega
    · have z0 : q = 0 := by
        have z1 : (2 ^ 32 : Nat) ≤ 2 ^ k := Nat.pow_le_pow_right (by decide) (by omega)
        by_cases q0 : q = 0
        · exact q0
        · have z3 : (2 ^ k : Nat) * 1 ≤ ((2 ^ k : Nat) : Int) * q := Int.mul_le_mul_of_nonneg_left (by omega) (Int.natCast_nonneg _)
          omega
      rw [hx, z0]; omega
  show (x ||| y).toBitVec.toInt = _
  rw [BitVec.toInt_eq_toNat_of_lt (by rw [e]; omega), e]
  omega
theorem own_min1 : f_Math_min 128 4096 = some 128 := by unfold f_Math_min; rw [if_neg (by decide)]
theorem own_min2 : f_Math_min 256 4096 = some 256 := by unfold f_Math_min; rw [if_neg (by decide)]
theorem own_calc (g1 p1 g2 p2 : Int32) : (if g1 < (64 : Int32) then f_law_79 g1 p1 g2 p2 1 g1 p1 else if (4 : Int32) * p1 < (3 : Int32) * g1 then f_law_79 g1 p1 g2 p2 0 0 0 else f_law_79 g1 p1 g2 p2 1 0 0) = some 1 := by
  by_cases h1 : g1 < (64 : Int32)
  · rw [if_pos h1]
    by_cases h2 : g1 + g2 < (64 : Int32)
    · simp [f_law_79, f_law_125, f_law_187, f_law_227, f_law_256, f_PayingPass_mk, f_PayingPass_taken, f_PayingPass_judge, f_PayingPass_judge_50, f_PayingPass_pays, own_bs, own_ls, h1, h2, own_min1, own_min2]
    · by_cases h3 : (4 : Int32) * (p1 + p2) < (3 : Int32) * (g1 + g2)
      · simp [f_law_79, f_law_125, f_law_187, f_law_227, f_law_256, f_PayingPass_mk, f_PayingPass_taken, f_PayingPass_judge, f_PayingPass_judge_50, f_PayingPass_pays, own_bs, own_ls, h1, h2, h3, own_min1, own_min2]
      · simp [f_law_79, f_law_125, f_law_187, f_law_227, f_law_256, f_PayingPass_mk, f_PayingPass_taken, f_PayingPass_judge, f_PayingPass_judge_50, f_PayingPass_pays, own_bs, own_ls, h1, h2, h3, own_min1, own_min2]
  · rw [if_neg h1]
    by_cases h4 : (4 : Int32) * p1 < (3 : Int32) * g1
    · rw [if_pos h4]
      by_cases h2 : g2 < (64 : Int32)
      · simp [f_law_79, f_law_125, f_law_187, f_law_227, f_law_256, f_PayingPass_mk, f_PayingPass_taken, f_PayingPass_judge, f_PayingPass_judge_50, f_PayingPass_pays, own_bs, own_ls, h1, h2, h4, own_min1, own_min2]
      · by_cases h3 : (4 : Int32) * p2 < (3 : Int32) * g2
        · simp [f_law_79, f_law_125, f_law_187, f_law_227, f_law_256, f_PayingPass_mk, f_PayingPass_taken, f_PayingPass_judge, f_PayingPass_judge_50, f_PayingPass_pays, own_bs, own_ls, h1, h2, h3, h4, own_min1, own_min2]
        · simp [f_law_79, f_law_125, f_law_187, f_law_227, f_law_256, f_PayingPass_mk, f_PayingPass_taken, f_PayingPass_judge, f_PayingPass_judge_50, f_PayingPass_pays, own_bs, own_ls, h1, h2, h3, h4, own_min1, own_min2]
    · rw [if_neg h4]
      by_cases h2 : g2 < (64 : Int32)
      · simp [f_law_79, f_law_125, f_law_187, f_law_227, f_law_256, f_PayingPass_mk, f_PayingPass_taken, f_PayingPass_judge, f_PayingPass_judge_50, f_PayingPass_pays, own_bs, own_ls, h1, h2, h4, own_min1, own_min2]
      · by_cases h3 : (4 : Int32) * p2 < (3 : Int32) * g2
        · simp [f_law_79, f_law_125, f_law_187, f_law_227, f_law_256, f_PayingPass_mk, f_PayingPass_taken, f_PayingPass_judge, f_PayingPass_judge_50, f_PayingPass_pays, own_bs, own_ls, h1, h2, h3, h4, own_min1, own_min2]
        · simp [f_law_79, f_law_125, f_law_187, f_law_227, f_law_256, f_PayingPass_mk, f_PayingPass_taken, f_PayingPass_judge, f_PayingPass_judge_50, f_PayingPass_pays, own_bs, own_ls, h1, h2, h3, h4, own_min1, own_min2]
theorem own_law (g p k q : Int32) : f_law g p k q = some 1 := by
  have l0 : (0 : Int32).toInt = 0 := rfl
  have l1 : (1 : Int32).toInt = 1 := rfl
  have m1 : (g &&& (127 : Int32)).toInt = g.toInt % 2 ^ 7 := own_imask 7 (by decide) (by decide)
  have m2 : (k &&& (127 : Int32)).toInt = k.toInt % 2 ^ 7 := own_imask 7 (by decide) (by decide)
  have e1 : ((g &&& (127 : Int32)) + 1).toInt = g.toInt % 2 ^ 7 + 1 := by rw [own_iadd (by omega) (by omega), m1, l1]
  have e2 : ((k &&& (127 : Int32)) + 1).toInt = k.toInt % 2 ^ 7 + 1 := by rw [own_iadd (by omega) (by omega), m2, l1]
  unfold f_law
  rw [own_ls, own_ct _ (by rw [← Int32.toInt_inj, e1, l0]; omega), own_ls, own_ls, own_ct _ (by rw [← Int32.toInt_inj, e2, l0]; omega), own_ls]
  exact own_calc _ _ _ _

set_option maxRecDepth 65536 in
set_option maxHeartbeats 4000000 in
theorem comes_1 {Post : Tables → Env → Array Value → State → Outcome → State → Prop} (hpost : ∀ tb e args s v u, (limb_1_1.after args s (.returned v) u = true ∧ limb_1_2.after args s (.returned v) u = true ∧ True) → FrameEnd s (.returned v) u (Jvm.fieldLocs frame_1_writes args s ++ Jvm.arrayLocs frame_1_arrays args s ++ Jvm.staticLocs frame_1_statics s) 16 128 → Post tb e args s (.returned v) u) :
    ArmFor flags0 classFile x code maxLocals ret World_1 tables_1 room_1 Calls_1 rest_1 Pre_1 Post := by
  intro l hfl _ _ p e ha hc hk s m args below hf hA hF happ hP
  obtain ⟨hcalls, hrest, hpre⟩ := hP
  obtain ⟨-, -, -, hnamed, -, -, -, hat⟩ := (Spec.applies_iff hf).mp happ
  obtain ⟨hg, hn⟩ := and_e (Cond.before_iff.mp (show (Jvm.Cond.and given_1 narrow_1).before args s = true from hpre))
  obtain ⟨gc, g0⟩ := and_e hg
  obtain ⟨ga0, g1⟩ := and_e g0
  obtain ⟨ga1, g2⟩ := and_e g1
  obtain ⟨ga2, g3⟩ := and_e g2
  have ga3 := g3
  obtain ⟨w0, w1, w2, w3, rfl⟩ : ∃ w0 w1 w2 w3 : Value, args = #[w0, w1, w2, w3] := by
    have hs : args.size = 4 := by simpa [Cond.value, given_1] using gc
    obtain ⟨L⟩ := args
    match L, hs with
    | [w0, w1, w2, w3], _ => exact ⟨w0, w1, w2, w3, rfl⟩
  have hw := fun d (hd : d ∈ tables_1) => atoms_spec (ws := Jvm.Cond.code x code maxLocals ret :: tables_1) hat d (List.mem_cons_of_mem _ hd)
  obtain ⟨i0, ei0⟩ := is_v ga0
  obtain rfl : w0 = (.int i0) := Option.some.inj ei0
  obtain ⟨i1, ei1⟩ := is_v ga1
  obtain rfl : w1 = (.int i1) := Option.some.inj ei1
  obtain ⟨i2, ei2⟩ := is_v ga2
  obtain rfl : w2 = (.int i2) := Option.some.inj ei2
  obtain ⟨i3, ei3⟩ := is_v ga3
  obtain rfl : w3 = (.int i3) := Option.some.inj ei3
  obtain ⟨n, o, h1, h2, h3, _, L, rfl, hQ, hq⟩ := rm_law l s _ hw tables_1 s.heap s.heap.size (Nat.le_refl _) i0 i1 i2 i3 1 (own_law i0 i1 i2 i3) p e ha hc hk s m _ below hf ((Spec.applies_iff_loose hf).mp happ).1 ⟨rfl, State.Warmed39.refl s, rfl⟩ trivial
  obtain ⟨rfl, N, -⟩ := hQ
  refine ⟨n, _, h1, h2, h3, hpost _ _ _ _ _ _ ⟨Cond.after_iff.mpr rfl, Cond.after_iff.mpr (eq_i res_at (Term.int_eval (1)) rfl), trivial⟩ ⟨hq.1, hq.2.1, (hq.2.2.sift fun y hy => Or.inr (N y hy)).mono (by decide) (by decide)⟩⟩
theorem main_1_1 : Claimed_1_1 := comes_1 fun _ _ _ _ _ _ h hF => ⟨h.1, hF⟩
theorem main_1_2 : Claimed_1_2 := comes_1 fun _ _ _ _ _ _ h hF => ⟨h.2.1, hF⟩
end Jvm.Pilot.@@N@@
namespace Jvm.Pilot.@@N@@
open Jvm Jvm.ClassFile Sem Op Lib Jvm.Free Jvm.Stand Jvm.Pilot.@@N@@.Jvm.D
/-! MADE BY PROGRAM (witnessworld.py) out of the Statement's table words and the real class files: 10 classes; the members and pool entries that the words name. The judged class is class 1, her method 1. -/
namespace start1
open Jvm.ClassFile
def u (s : String) : CpInfo := .utf8 (stringToUtf16 s)
/-- a pool by its gaps: so many unusable entries, then the entry; so many at the end -/
def gap : Nat → List CpInfo → List CpInfo
  | 0, r => r
  | n + 1, r => .unusable :: gap n r
def poolList (es : List (Nat × CpInfo)) (last : Nat) : List CpInfo := es.foldr (fun e r => gap e.1 (e.2 :: r)) (gap last [])
def pool (es : List (Nat × CpInfo)) (last : Nat) : Array CpInfo := ⟨poolList es last⟩
def fileOf (pool : Array CpInfo) (this : Nat) (attrs : Array Attribute := #[]) (ms : Array MethodInfo := #[]) (fl : Nat := 33) (sup : Nat := 0) (ifs : Array Nat := #[]) (fds : Array FieldInfo := #[]) : ClassFile where
  minorVersion := 0
  majorVersion := 65
  constantPool := pool
  accessFlags := fl
  thisClass := this
  superClass := sup
  interfaces := ifs
  fields := fds
  methods := ms
  attributes := attrs
def plain (name : String) (sup : Option ClassId) : Class where
  name := name
  kind := .ordinary
  loader := none
  accessFlags := 33
  super := sup
  interfaces := #[]
  cf := none
  fields := #[]
  methods := #[]
  instanceTypes := #[]
  staticTypes := #[]
  resolved := #[]
  callSites := []
  init := .initialized
  statics := none
  mirror := none

def pool0 : Array CpInfo := pool [(5, u "<init>"), (0, u "()V"), (1, .class_ 10), (1, u "java/lang/Object")] 113

def k0c0 : Code := { maxStack := 0, maxLocals := 1, code := object_method_1_code, exceptionTable := #[], attributes := #[] }
def k0m0 : Method := { name := "<init>", desc := "()V", sig := { parameters := [], returnType := none }, accessFlags := 1, code := some k0c0 }
/-- java/lang/Object -/
def k0 : Class := { plain "java/lang/Object" none with
  accessFlags := 33
  interfaces := #[]
  cf := some (fileOf pool0 8 #[] #[{ accessFlags := 1, nameIndex := 5, descriptorIndex := 6, attributes := #[] }] 33 0 #[] #[])
  fields := #[]
  methods := #[k0m0]
  instanceTypes := #[]
  staticTypes := #[]
  resolved := Array.replicate 124 none
  statics := none }

def pool1 : Array CpInfo := pool [(2, .class_ 4), (0, .nameAndType 5 6), (0, u "java/lang/Object"), (0, u "<init>"), (0, u "()V"), (0, .integer 2147483647), (0, .class_ 9), (0, u "tidemark/PayingPass"), (0, .methodref 8 3), (0, .methodref 8 12), (0, .nameAndType 13 14), (0, u "taken"), (0, u "()Z"), (0, .methodref 8 16), (0, .nameAndType 17 18), (0, u "judge"), (0, u "(II)V"), (0, .methodref 8 20), (0, .nameAndType 21 14), (0, u "pays"), (0, .class_ 23), (0, u "tidemark/PayingPassTakenPinLaw"), (2, u "law"), (0, u "(IIII)Z")] 3

def k1m0 : Method := { name := "<init>", desc := "()V", sig := { parameters := [], returnType := none }, accessFlags := 1, code := none }
def k1c1 : Code := { maxStack := 3, maxLocals := 16, code := code, exceptionTable := #[], attributes := #[] }
def k1m1 : Method := { name := "law", desc := "(IIII)Z", sig := { parameters := [.int, .int, .int, .int], returnType := some .boolean }, accessFlags := 9, code := some k1c1 }
/-- tidemark/PayingPassTakenPinLaw -/
def k1 : Class := { plain "tidemark/PayingPassTakenPinLaw" (some 0) with
  accessFlags := 49
  interfaces := #[]
  cf := some (fileOf pool1 22 #[] #[{ accessFlags := 1, nameIndex := 5, descriptorIndex := 6, attributes := #[] }, { accessFlags := 9, nameIndex := 26, descriptorIndex := 27, attributes := #[] }] 49 2 #[] #[])
  fields := #[]
  methods := #[k1m0, k1m1]
  instanceTypes := #[]
  staticTypes := #[]
  resolved := Array.replicate 31 none
  statics := none }

def pool2 : Array CpInfo := pool [(1, .methodref 2 3), (0, .class_ 4), (0, .nameAndType 5 6), (0, u "java/lang/Object"), (0, u "<init>"), (0, u "()V"), (0, .fieldref 8 9), (0, .class_ 10), (0, .nameAndType 11 12), (0, u "tidemark/PayingPass"), (0, u "taking"), (0, u "Z"), (0, .fieldref 8 14), (0, .nameAndType 15 16), (0, u "probedEvery"), (0, u "I"), (0, .fieldref 8 18), (0, .nameAndType 19 16), (0, u "untilProbed"), (0, .fieldref 8 21), (0, .nameAndType 22 16), (0, u "given"), (0, .fieldref 8 24), (0, .nameAndType 25 16), (0, u "placed"), (0, .methodref 27 28), (0, .class_ 29), (0, .nameAndType 30 31), (0, u "java/lang/Math"), (0, u "min"), (0, u "(II)I"), (0, u "PAYING_QUARTERS"), (2, u "JUDGED"), (1, u "PROBED"), (0, u "PROBED_MOST"), (3, u "pays"), (0, u "()Z"), (0, u "taken"), (1, u "judge"), (0, u "(II)V")] 2

def k2c0 : Code := { maxStack := 2, maxLocals := 1, code := prog_33_method_1_code, exceptionTable := #[], attributes := #[] }
def k2m0 : Method := { name := "<init>", desc := "()V", sig := { parameters := [], returnType := none }, accessFlags := 0, code := some k2c0 }
def k2c1 : Code := { maxStack := 1, maxLocals := 1, code := prog_33_method_2_code, exceptionTable := #[], attributes := #[] }
def k2m1 : Method := { name := "pays", desc := "()Z", sig := { parameters := [], returnType := some .boolean }, accessFlags := 0, code := some k2c1 }
def k2c2 : Code := { maxStack := 3, maxLocals := 1, code := prog_33_method_3_code, exceptionTable := #[], attributes := #[] }
def k2m2 : Method := { name := "taken", desc := "()Z", sig := { parameters := [], returnType := some .boolean }, accessFlags := 0, code := some k2c2 }
def k2c3 : Code := { maxStack := 4, maxLocals := 3, code := prog_33_method_4_code, exceptionTable := #[], attributes := #[] }
def k2m3 : Method := { name := "judge", desc := "(II)V", sig := { parameters := [.int, .int], returnType := none }, accessFlags := 0, code := some k2c3 }
/-- tidemark/PayingPass -/
def k2 : Class := { plain "tidemark/PayingPass" (some 0) with
  accessFlags := 48
  interfaces := #[]
  cf := some (fileOf pool2 8 #[] #[{ accessFlags := 0, nameIndex := 5, descriptorIndex := 6, attributes := #[] }, { accessFlags := 0, nameIndex := 42, descriptorIndex := 43, attributes := #[] }, { accessFlags := 0, nameIndex := 44, descriptorIndex := 43, attributes := #[] }, { accessFlags := 0, nameIndex := 46, descriptorIndex := 47, attributes := #[] }] 48 2 #[] #[{ accessFlags := 26, nameIndex := 32, descriptorIndex := 16, attributes := #[] }, { accessFlags := 26, nameIndex := 35, descriptorIndex := 16, attributes := #[] }, { accessFlags := 26, nameIndex := 37, descriptorIndex := 16, attributes := #[] }, { accessFlags := 26, nameIndex := 38, descriptorIndex := 16, attributes := #[] }, { accessFlags := 2, nameIndex := 11, descriptorIndex := 12, attributes := #[] }, { accessFlags := 2, nameIndex := 15, descriptorIndex := 16, attributes := #[] }, { accessFlags := 2, nameIndex := 19, descriptorIndex := 16, attributes := #[] }, { accessFlags := 2, nameIndex := 22, descriptorIndex := 16, attributes := #[] }, { accessFlags := 2, nameIndex := 25, descriptorIndex := 16, attributes := #[] }])
  fields := #[{ name := "PAYING_QUARTERS", type := .int, accessFlags := 26, slot := 0, constantValue := 0 }, { name := "JUDGED", type := .int, accessFlags := 26, slot := 1, constantValue := 0 }, { name := "PROBED", type := .int, accessFlags := 26, slot := 2, constantValue := 0 }, { name := "PROBED_MOST", type := .int, accessFlags := 26, slot := 3, constantValue := 0 }, { name := "taking", type := .boolean, accessFlags := 2, slot := 0, constantValue := 0 }, { name := "probedEvery", type := .int, accessFlags := 2, slot := 1, constantValue := 0 }, { name := "untilProbed", type := .int, accessFlags := 2, slot := 2, constantValue := 0 }, { name := "given", type := .int, accessFlags := 2, slot := 3, constantValue := 0 }, { name := "placed", type := .int, accessFlags := 2, slot := 4, constantValue := 0 }]
  methods := #[k2m0, k2m1, k2m2, k2m3]
  instanceTypes := #[.boolean, .int, .int, .int, .int]
  staticTypes := #[.int, .int, .int, .int]
  resolved := Array.replicate 50 none
  statics := none }

def pool3 : Array CpInfo := pool [(1, .class_ 2), (0, u "java/lang/Math"), (1, .class_ 6), (1, u "java/lang/Object"), (0, u "<init>"), (0, u "()V"), (89, .class_ 100), (1, u "java/lang/Math$RandomNumberGeneratorHolder"), (71, u "negativeZeroFloatBits"), (0, u "J"), (2, u "negativeZeroDoubleBits"), (24, u "min"), (43, u "$assertionsDisabled"), (0, u "Z"), (88, u "(II)I"), (2, u "twoToTheDoubleScaleDown"), (0, u "D"), (4, u "twoToTheDoubleScaleUp"), (9, u "E"), (3, u "PI"), (2, u "TAU"), (2, u "DEGREES_TO_RADIANS"), (0, u "RADIANS_TO_DEGREES")] 94

def k3m0 : Method := { name := "<init>", desc := "()V", sig := { parameters := [], returnType := none }, accessFlags := 2, code := none }
def k3c1 : Code := { maxStack := 2, maxLocals := 2, code := jdk_29_method_69_code, exceptionTable := #[], attributes := #[] }
def k3m1 : Method := { name := "min", desc := "(II)I", sig := { parameters := [.int, .int], returnType := some .int }, accessFlags := 9, code := some k3c1 }
/-- java/lang/Math -/
def k3 : Class := { plain "java/lang/Math" (some 0) with
  accessFlags := 49
  interfaces := #[]
  cf := some (fileOf pool3 1 #[.nestMembers #[98]] #[{ accessFlags := 2, nameIndex := 7, descriptorIndex := 8, attributes := #[] }, { accessFlags := 9, nameIndex := 201, descriptorIndex := 335, attributes := #[] }] 49 4 #[] #[{ accessFlags := 25, nameIndex := 354, descriptorIndex := 339, attributes := #[] }, { accessFlags := 25, nameIndex := 358, descriptorIndex := 339, attributes := #[] }, { accessFlags := 25, nameIndex := 361, descriptorIndex := 339, attributes := #[] }, { accessFlags := 26, nameIndex := 364, descriptorIndex := 339, attributes := #[] }, { accessFlags := 26, nameIndex := 365, descriptorIndex := 339, attributes := #[] }, { accessFlags := 26, nameIndex := 172, descriptorIndex := 173, attributes := #[] }, { accessFlags := 26, nameIndex := 176, descriptorIndex := 173, attributes := #[] }, { accessFlags := 8, nameIndex := 344, descriptorIndex := 339, attributes := #[] }, { accessFlags := 8, nameIndex := 338, descriptorIndex := 339, attributes := #[] }, { accessFlags := 4120, nameIndex := 245, descriptorIndex := 246, attributes := #[] }])
  fields := #[{ name := "E", type := .double, accessFlags := 25, slot := 0, constantValue := 0 }, { name := "PI", type := .double, accessFlags := 25, slot := 1, constantValue := 0 }, { name := "TAU", type := .double, accessFlags := 25, slot := 2, constantValue := 0 }, { name := "DEGREES_TO_RADIANS", type := .double, accessFlags := 26, slot := 3, constantValue := 0 }, { name := "RADIANS_TO_DEGREES", type := .double, accessFlags := 26, slot := 4, constantValue := 0 }, { name := "negativeZeroFloatBits", type := .long, accessFlags := 26, slot := 5, constantValue := 0 }, { name := "negativeZeroDoubleBits", type := .long, accessFlags := 26, slot := 6, constantValue := 0 }, { name := "twoToTheDoubleScaleUp", type := .double, accessFlags := 8, slot := 7, constantValue := 0 }, { name := "twoToTheDoubleScaleDown", type := .double, accessFlags := 8, slot := 8, constantValue := 0 }, { name := "$assertionsDisabled", type := .boolean, accessFlags := 4120, slot := 9, constantValue := 0 }]
  methods := #[k3m0, k3m1]
  instanceTypes := #[]
  staticTypes := #[.double, .double, .double, .double, .double, .long, .long, .double, .double, .boolean]
  resolved := Array.replicate 460 none
  statics := none }

def pool4 : Array CpInfo := pool [(1, u "java/lang/Cloneable"), (0, .class_ 1), (0, u "java/lang/Object"), (0, .class_ 3)] 3

/-- java/lang/Cloneable -/
def k4 : Class := { plain "java/lang/Cloneable" (some 0) with
  accessFlags := 1537
  interfaces := #[]
  cf := some (fileOf pool4 2 #[] #[] 1537 4 #[] #[])
  fields := #[]
  methods := #[]
  instanceTypes := #[]
  staticTypes := #[]
  resolved := Array.replicate 8 none
  statics := none }

def pool5 : Array CpInfo := pool [(1, u "java/io/Serializable"), (0, .class_ 1), (0, u "java/lang/Object"), (0, .class_ 3)] 3

/-- java/io/Serializable -/
def k5 : Class := { plain "java/io/Serializable" (some 0) with
  accessFlags := 1537
  interfaces := #[]
  cf := some (fileOf pool5 2 #[] #[] 1537 4 #[] #[])
  fields := #[]
  methods := #[]
  instanceTypes := #[]
  staticTypes := #[]
  resolved := Array.replicate 8 none
  statics := none }

/-- the primitive byte -/
def k6 : Class := { plain "byte" none with kind := .primitive 'B', accessFlags := 0x411 }
/-- [B -/
def k7 : Class := { plain "[B" (some 0) with kind := .array 6 .byte, interfaces := #[4, 5], accessFlags := 1041 }

/-- the primitive int -/
def k8 : Class := { plain "int" none with kind := .primitive 'I', accessFlags := 0x411 }
/-- [I -/
def k9 : Class := { plain "[I" (some 0) with kind := .array 8 .int, interfaces := #[4, 5], accessFlags := 1041 }

def heap : Heap := #[]
def classes : Array Class := #[k0, k1, k2, k3, k4, k5, k6, k7, k8, k9]
def interned : List (Array UInt16 × Addr) := []
def slotsUsed : Nat := 0
def theMethod : MethodId := ⟨1, 1⟩
def args0 : Array Value := #[.int 5, .int 5, .int 5, .int 5]
def aboutOver (below : List Frame) : State where
  vm := { classes := classes, interned := interned.toArray }
  heap := heap
  slotsUsed := slotsUsed
  threads := #[{ frames := .invoking theMethod args0 :: below }]
def below0 : List Frame := [.native { method := ⟨0, 0⟩, args := #[] }]
def about1 : State := aboutOver below0
def p0 : Program := .bare "" "" ""
def e0 : Env := launch0.env 0 0 0
theorem w_frames : about1.frames = Frame.invoking theMethod args0 :: below0 := rfl
set_option maxRecDepth 65536 in
theorem w_args : argsFit about1.vm theMethod args0 = true := by decide +kernel
set_option maxRecDepth 65536 in
theorem w_heap : heapFits about1 = true := by decide +kernel
set_option maxRecDepth 65536 in
theorem w_runnable : about1.curStatus? = some .runnable := by decide +kernel
set_option maxRecDepth 65536 in
theorem w_alone : about1.alone = true := by decide +kernel
set_option maxRecDepth 65536 in
theorem w_named : about1.methodNamed? x = some theMethod := by decide +kernel
set_option maxRecDepth 65536 in
theorem w_hears : about1.hears theMethod below0 = true := by decide +kernel
set_option maxRecDepth 65536 in
theorem w_ripe : about1.ripe theMethod args0 below0 = true := by decide +kernel
theorem w_running : about1.status = .running := rfl
set_option maxRecDepth 65536 in
theorem w_room : about1.hasRoom e0.platform room_1 = true :=
  launch0.hasRoom_least _ room_1 (by decide +kernel) (by decide +kernel) (by decide +kernel) (by decide +kernel) (by decide +kernel) (by decide +kernel)
theorem allAtoms_all (ts : List Jvm.Cond) (a : Array Jvm.Value) (st : Jvm.State) : (allAtoms ts).before a st = ts.all (fun c => c.before a st) := by
  induction ts with
  | nil => rfl
  | cons c t ih =>
    show (Jvm.Cond.and c (allAtoms t)).before a st = _
    rw [Jvm.Cond.before_and, ih, List.all_cons]
def words1 : List Jvm.Cond := Jvm.Cond.code x code maxLocals ret :: tables_1
/-- a 'code' word, met by the world's own term for the bytes: nothing is compared byte by byte -/
theorem code_word {y : MethodName} {bytes : ByteArray} {mx : Nat} {rt : Option FieldType} {a : Array Value} {s : State} {m : MethodId} {meth : Method} {c : Code} (h1 : s.methodNamed? y = some m) (h2 : s.vm.method? m = some meth) (h3 : meth.code = some c) (h4 : c.code = bytes)
    (h5 : (c.maxLocals == mx && c.exceptionTable.isEmpty && decide (c.maxStack ≤ mostOperands) && decide (meth.sig.returnType = rt) && !meth.locks && decide (parseMethodDescriptor y.desc = some meth.sig)) = true) : (Jvm.Cond.code y bytes mx rt).before a s = true := by
  simp only [Bool.and_eq_true, beq_iff_eq, Bool.not_eq_true', decide_eq_true_eq] at h5
  obtain ⟨⟨⟨⟨⟨g1, g2⟩, g3⟩, g4⟩, g5⟩, g6⟩ := h5
  simp [Cond.before, Cond.holds, Cond.value, h1, h2, h3, h4, g1, g2, g3, g4, g5, g6]
def isCode : Jvm.Cond → Bool
  | .code _ _ _ _ => true
  | _ => false
theorem all_split {L : List Jvm.Cond} {P : Jvm.Cond → Bool} (h1 : L.all (fun c => isCode c || P c) = true) (h2 : ∀ c ∈ L.filter isCode, P c = true) : L.all P = true := by
  refine List.all_eq_true.mpr fun c hc => ?_
  have h := List.all_eq_true.mp h1 c hc
  rcases Bool.eq_false_or_eq_true (isCode c) with hi | hi
  · exact h2 c (List.mem_filter.mpr ⟨hc, hi⟩)
  · simpa [hi] using h
set_option maxRecDepth 65536 in
theorem w_c0 : (Jvm.Cond.code x code maxLocals ret).before args0 about1 = true := code_word (m := ⟨1, 1⟩) (meth := k1m1) (c := k1c1) (by decide +kernel) rfl rfl rfl (by decide +kernel)
set_option maxRecDepth 65536 in
theorem w_c1 : (Jvm.Cond.code ({ cls := "tidemark/PayingPass", name := "<init>", desc := "()V" } : Jvm.MethodName) prog_33_method_1_code (1 : Nat) (Option.none : Option Jvm.ClassFile.FieldType)).before args0 about1 = true := code_word (m := ⟨2, 0⟩) (meth := k2m0) (c := k2c0) (by decide +kernel) rfl rfl rfl (by decide +kernel)
set_option maxRecDepth 65536 in
theorem w_c2 : (Jvm.Cond.code ({ cls := "java/lang/Object", name := "<init>", desc := "()V" } : Jvm.MethodName) object_method_1_code (1 : Nat) (Option.none : Option Jvm.ClassFile.FieldType)).before args0 about1 = true := code_word (m := ⟨0, 0⟩) (meth := k0m0) (c := k0c0) (by decide +kernel) rfl rfl rfl (by decide +kernel)
set_option maxRecDepth 65536 in
theorem w_c3 : (Jvm.Cond.code ({ cls := "tidemark/PayingPass", name := "taken", desc := "()Z" } : Jvm.MethodName) prog_33_method_3_code (1 : Nat) (Option.some Jvm.ClassFile.FieldType.boolean)).before args0 about1 = true := code_word (m := ⟨2, 2⟩) (meth := k2m2) (c := k2c2) (by decide +kernel) rfl rfl rfl (by decide +kernel)
set_option maxRecDepth 65536 in
theorem w_c4 : (Jvm.Cond.code ({ cls := "tidemark/PayingPass", name := "judge", desc := "(II)V" } : Jvm.MethodName) prog_33_method_4_code (3 : Nat) (Option.none : Option Jvm.ClassFile.FieldType)).before args0 about1 = true := code_word (m := ⟨2, 3⟩) (meth := k2m3) (c := k2c3) (by decide +kernel) rfl rfl rfl (by decide +kernel)
set_option maxRecDepth 65536 in
theorem w_c5 : (Jvm.Cond.code ({ cls := "tidemark/PayingPass", name := "pays", desc := "()Z" } : Jvm.MethodName) prog_33_method_2_code (1 : Nat) (Option.some Jvm.ClassFile.FieldType.boolean)).before args0 about1 = true := code_word (m := ⟨2, 1⟩) (meth := k2m1) (c := k2c1) (by decide +kernel) rfl rfl rfl (by decide +kernel)
set_option maxRecDepth 65536 in
theorem w_c6 : (Jvm.Cond.code ({ cls := "java/lang/Math", name := "min", desc := "(II)I" } : Jvm.MethodName) jdk_29_method_69_code (2 : Nat) (Option.some Jvm.ClassFile.FieldType.int)).before args0 about1 = true := code_word (m := ⟨3, 1⟩) (meth := k3m1) (c := k3c1) (by decide +kernel) rfl rfl rfl (by decide +kernel)
def codes1 : List Jvm.Cond := [Jvm.Cond.code x code maxLocals ret, Jvm.Cond.code ({ cls := "tidemark/PayingPass", name := "<init>", desc := "()V" } : Jvm.MethodName) prog_33_method_1_code (1 : Nat) (Option.none : Option Jvm.ClassFile.FieldType), Jvm.Cond.code ({ cls := "java/lang/Object", name := "<init>", desc := "()V" } : Jvm.MethodName) object_method_1_code (1 : Nat) (Option.none : Option Jvm.ClassFile.FieldType), Jvm.Cond.code ({ cls := "tidemark/PayingPass", name := "taken", desc := "()Z" } : Jvm.MethodName) prog_33_method_3_code (1 : Nat) (Option.some Jvm.ClassFile.FieldType.boolean), Jvm.Cond.code ({ cls := "tidemark/PayingPass", name := "judge", desc := "(II)V" } : Jvm.MethodName) prog_33_method_4_code (3 : Nat) (Option.none : Option Jvm.ClassFile.FieldType), Jvm.Cond.code ({ cls := "tidemark/PayingPass", name := "pays", desc := "()Z" } : Jvm.MethodName) prog_33_method_2_code (1 : Nat) (Option.some Jvm.ClassFile.FieldType.boolean), Jvm.Cond.code ({ cls := "java/lang/Math", name := "min", desc := "(II)I" } : Jvm.MethodName) jdk_29_method_69_code (2 : Nat) (Option.some Jvm.ClassFile.FieldType.int)]
set_option maxRecDepth 65536 in
theorem codes_eq : words1.filter isCode = codes1 := rfl
theorem w_codes : ∀ c ∈ words1.filter isCode, c.before args0 about1 = true := by
  rw [codes_eq]
  intro c hc
  simp only [codes1, List.mem_cons, List.not_mem_nil, or_false] at hc
  rcases hc with rfl | rfl | rfl | rfl | rfl | rfl | rfl
  · exact w_c0
  · exact w_c1
  · exact w_c2
  · exact w_c3
  · exact w_c4
  · exact w_c5
  · exact w_c6
set_option maxRecDepth 65536 in
theorem w_t1 : (words1.take 24).all (fun c => isCode c || c.before args0 about1) = true := by decide +kernel
set_option maxRecDepth 65536 in
theorem w_t2 : (words1.drop 24).all (fun c => isCode c || c.before args0 about1) = true := by decide +kernel
theorem w_tables : (allAtoms (Jvm.Cond.code x code maxLocals ret :: tables_1)).before args0 about1 = true := by
  rw [allAtoms_all]
  show words1.all (fun c => c.before args0 about1) = true
  refine all_split ?_ w_codes
  rw [← List.take_append_drop 24 words1, List.all_append, w_t1, w_t2]
  rfl
set_option maxRecDepth 65536 in
theorem w_case : (Jvm.Cond.and given_1 narrow_1).before args0 about1 = true := by decide +kernel
theorem w_applies : (headSpec (Jvm.Cond.code x code maxLocals ret :: tables_1) room_1).applies x e0.platform about1 = true :=
  (Spec.applies_iff w_frames).mpr ⟨w_running, w_runnable, w_alone, w_named, w_hears, w_ripe, w_room, w_tables⟩
theorem atStart : AtStart classFile x code maxLocals ret World_1 tables_1 room_1 Calls_1 rest_1 Pre_1 launch0 p0 e0 about1 theMethod args0 below0 :=
  ⟨lists_1, trivial, launch0.admits_env _ _ _, launch0.least_env, fairChoices_fair.cas, fairChoices_fair.clock, w_frames, w_args, w_heap, w_applies, trivial, trivial, w_case⟩
end start1
theorem witness_1 : WitnessClaimed_1 := ⟨start1.p0, start1.e0, start1.about1, start1.theMethod, start1.args0, start1.below0, start1.atStart⟩
end Jvm.Pilot.@@N@@
