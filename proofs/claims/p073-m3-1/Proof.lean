import JvmDerived
import JvmDerived.Pilot.@@N@@Statement
import JvmDerived.Pilot.@@N@@Code
set_option linter.unusedVariables false
set_option linter.unusedSimpArgs false
namespace Jvm.Pilot.@@N@@
open Jvm Jvm.ClassFile Sem Op Lib Jvm.Free Jvm.Stand Jvm.LawKit Jvm.RoadKit Bundle Jvm.Pilot.@@N@@.Jvm.D
/-! 1. the words of the mirrors: a named value, a check, a call -/
def own_lt {α β : Type} (x : α) (f : α → Option β) : Option β := f x
def own_ck {β : Type} (P : Prop) [Decidable P] (x : Option β) : Option β := if P then x else none
def own_bd {α β : Type} (x : Option α) (f : α → Option β) : Option β := x.bind f
theorem own_lt_e {α β : Type} {x : α} {f : α → Option β} {r : β} (h : own_lt x f = some r) : ∃ v, v = x ∧ f v = some r := ⟨x, rfl, h⟩
theorem own_ck_e {β : Type} {P : Prop} [Decidable P] {x : Option β} {r : β} (h : own_ck P x = some r) : P ∧ x = some r := by
  unfold own_ck at h
  by_cases q : P
  · rw [if_pos q] at h; exact ⟨q, h⟩
  · rw [if_neg q] at h; cases h
theorem own_bd_e {α β : Type} {x : Option α} {f : α → Option β} {r : β} (h : own_bd x f = some r) : ∃ v, x = some v ∧ f v = some r := by
  unfold own_bd at h
  cases x with
  | none => cases h
  | some v => exact ⟨v, rfl, h⟩
abbrev own_inb {α : Type} (bs : List α) (j : Int32) : Prop := ¬ j < 0 ∧ j.toNatClampNeg < bs.length
def own_rd {α : Type} [OfNat α 0] (bs : List α) (j : Int32) : α := bs.getD j.toNatClampNeg 0
def own_wr {α : Type} (bs : List α) (j : Int32) (v : α) : List α := bs.set j.toNatClampNeg v
def own_sz {α : Type} (bs : List α) : Int32 := bs.length.toInt32
/-! 2. a run that comes to an end as Q says -/
def own_Goes (p : Program) (e : Env) (below : List Frame) (s : State) (Q : Option Value → Heap → List Loc → Prop) (ce sl : Nat) (A : State) : Prop :=
  ∃ s₂ o, Steps p.tables e below A s₂ ∧ s₂.status = .running ∧ Ended s₂ below o ∧ ∃ v L, o = .returned v ∧ Q v s₂.heap L ∧ FrameEnd s o s₂ L ce sl
section Own
variable {p : Program} {l : Launch} {e : Env} {R : Room} {s : State} {m : MethodId} {args : Array Value} {below : List Frame} {meth : Method} {c : Code} {T : State} {locs : List Loc} {cells slots : Nat} {Z : State} {h h' : Heap} {Q : Option Value → Heap → List Loc → Prop} {ce sl : Nat}
theorem own_Goes.via {A B : State} (q : ∀ t, Steps p.tables e below B t → Steps p.tables e below A t) (g : own_Goes p e below s Q ce sl B) : own_Goes p e below s Q ce sl A := by
  obtain ⟨s₂, o, h1, r⟩ := g
  exact ⟨s₂, o, q _ h1, r⟩
theorem own_Goes.tr {A B : State} (q : Steps p.tables e below A B) (g : own_Goes p e below s Q ce sl B) : own_Goes p e below s Q ce sl A := g.via fun _ k => q.trans k
theorem own_retV (X : Stand p l e R s m args below meth c T locs cells slots) (hx : p.tables.exec = Jvm.exec) {pc : Nat} {Ls : Array Slot} (hret : meth.sig.returnType = none) (hlk : meth.locks = false) (hd : decode c.code pc = .ok (.return_, 1)) (eT : T.heap = h) (hQ : Q none h locs) (hc : cells ≤ ce) (hs : slots ≤ sl) :
    own_Goes p e below s Q ce sl (T.setTop (mkF m pc Ls [])) := by
  obtain ⟨fs, hr, hrun, hended, hW, hsame⟩ := X.leave (v := none) (fun _ => rfl) hlk
  refine ⟨_, _, ?_, hrun, hended, _, _, rfl, ?_, ⟨_, rfl⟩, hW, hsame.mono hc hs⟩
  · exact X.returnOut hx hret hd hr
  · show Q none T.heap locs
    rw [eT]; exact hQ
theorem own_retI (X : Stand p l e R s m args below meth c T locs cells slots) (hx : p.tables.exec = Jvm.exec) {pc : Nat} {Ls : Array Slot} {z : Int32} {rest : List Value} (hret : meth.sig.returnType = some .int) (hlk : meth.locks = false) (hd : decode c.code pc = .ok (.ireturn, 1)) (eT : T.heap = h) (hQ : Q (some (.int z)) h locs) (hc : cells ≤ ce) (hs : slots ≤ sl) :
    own_Goes p e below s Q ce sl (T.setTop (mkF m pc Ls (.int z :: rest))) := by
  obtain ⟨fs, hr, hrun, hended, hW, hsame⟩ := X.leave (v := some (.int z)) (fun h => by rw [hret] at h; cases h) hlk
  refine ⟨_, _, ?_, hrun, hended, _, _, rfl, ?_, ⟨_, rfl⟩, hW, hsame.mono hc hs⟩
  · exact retOut X hx hret rfl (Or.inl ⟨rfl, Or.inl rfl, z, rfl⟩) hd hr
  · show Q _ T.heap locs
    rw [eT]; exact hQ
theorem own_retJ (X : Stand p l e R s m args below meth c T locs cells slots) (hx : p.tables.exec = Jvm.exec) {pc : Nat} {Ls : Array Slot} {z : Int64} {rest : List Value} (hret : meth.sig.returnType = some .long) (hlk : meth.locks = false) (hd : decode c.code pc = .ok (.lreturn, 1)) (eT : T.heap = h) (hQ : Q (some (.long z)) h locs) (hc : cells ≤ ce) (hs : slots ≤ sl) :
    own_Goes p e below s Q ce sl (T.setTop (mkF m pc Ls (.long z :: rest))) := by
  obtain ⟨fs, hr, hrun, hended, hW, hsame⟩ := X.leave (v := some (.long z)) (fun h => by rw [hret] at h; cases h) hlk
  refine ⟨_, _, ?_, hrun, hended, _, _, rfl, ?_, ⟨_, rfl⟩, hW, hsame.mono hc hs⟩
  · exact retOut X hx hret rfl (Or.inr (Or.inl ⟨rfl, rfl, z, rfl⟩)) hd hr
  · show Q _ T.heap locs
    rw [eT]; exact hQ
theorem own_retR (X : Stand p l e R s m args below meth c T locs cells slots) (hx : p.tables.exec = Jvm.exec) {pc : Nat} {Ls : Array Slot} {t : FieldType} {w : Value} {rest : List Value} (hret : meth.sig.returnType = some t) (hlk : meth.locks = false) (hd : decode c.code pc = .ok (.areturn, 1)) (ht : t.isReference = true) (eT : T.heap = h) (hw : w.isRef = true) (hQ : Q (some w) h locs) (hc : cells ≤ ce) (hs : slots ≤ sl) :
    own_Goes p e below s Q ce sl (T.setTop (mkF m pc Ls (w :: rest))) := by
  obtain ⟨fs, hr, hrun, hended, hW, hsame⟩ := X.leave (v := some w) (fun h => by rw [hret] at h; cases h) hlk
  refine ⟨_, _, ?_, hrun, hended, _, _, rfl, ?_, ⟨_, rfl⟩, hW, hsame.mono hc hs⟩
  · exact retOut X hx hret (by cases t <;> first | (cases ht; done) | rfl) (Or.inr (Or.inr (Or.inr (Or.inr ⟨rfl, ht, hw⟩)))) hd hr
  · show Q _ T.heap locs
    rw [eT]; exact hQ
theorem own_retN (X : Stand p l e R s m args below meth c T locs cells slots) (hx : p.tables.exec = Jvm.exec) {pc : Nat} {Ls : Array Slot} {z v : Int32} {t : FieldType} {rest : List Value} (hret : meth.sig.returnType = some t) (hlk : meth.locks = false) (ht : t = .boolean ∨ t = .byte ∨ t = .char ∨ t = .short) (hd : decode c.code pc = .ok (.ireturn, 1)) (eT : T.heap = h) (hv : nar t z = v) (hQ : Q (some (.int v)) h locs) (hc : cells ≤ ce) (hs : slots ≤ sl) :
    own_Goes p e below s Q ce sl (T.setTop (mkF m pc Ls (.int z :: rest))) := by
  subst hv
  obtain ⟨fs, hr, hrun, hended, hW, hsame⟩ := X.leave (v := some (.int (nar t z))) (fun h => by rw [hret] at h; cases h) hlk
  refine ⟨_, _, ?_, hrun, hended, _, _, rfl, ?_, ⟨_, rfl⟩, hW, hsame.mono hc hs⟩
  · exact retN X hx hret ht hd hr
  · show Q _ T.heap locs
    rw [eT]; exact hQ
/-! 3. single steps -/
theorem own_irem {g : JFrame} {target : State} (X : Stand p l e R s m args below meth c T locs cells slots) (hx : p.tables.exec = Jvm.exec) (hg : g.method = m) {x y : Int32} {rest : List Value} (hd : decode c.code g.pc = .ok (.irem, 1)) (hs : g.stack = .int y :: .int x :: rest) (hy : y ≠ 0)
    (hr : Steps p.tables e below (T.setTop { g with pc := g.pc + 1, stack := .int (x % y) :: rest }) target) : Steps p.tables e below (T.setTop g) target := iremM X hx hg hd hs hy hr
theorem own_lrem {g : JFrame} {target : State} (X : Stand p l e R s m args below meth c T locs cells slots) (hx : p.tables.exec = Jvm.exec) (hg : g.method = m) {x y : Int64} {rest : List Value} (hd : decode c.code g.pc = .ok (.lrem, 1)) (hs : g.stack = .long y :: .long x :: rest) (hy : y ≠ 0)
    (hr : Steps p.tables e below (T.setTop { g with pc := g.pc + 1, stack := .long (x % y) :: rest }) target) : Steps p.tables e below (T.setTop g) target :=
  XS.lrem X.here hx hg hd hs hy (by rw [lrem_mod]; exact hr)
theorem own_tltL {x y : Int64} (q : x < y) : ifCond.holds .lt (lcmpW x y) = true ∧ ifCond.holds .ge (lcmpW x y) = false := by
  rw [if0, if0]; exact ⟨(tlt ((lw_lt x y).mpr q)).1, (tlt ((lw_lt x y).mpr q)).2.1⟩
theorem own_fltL {x y : Int64} (q : ¬ x < y) : ifCond.holds .lt (lcmpW x y) = false ∧ ifCond.holds .ge (lcmpW x y) = true := by
  rw [if0, if0]; exact ⟨(flt fun z => q ((lw_lt x y).mp z)).1, (flt fun z => q ((lw_lt x y).mp z)).2.1⟩
theorem own_tgtL {x y : Int64} (q : y < x) : ifCond.holds .gt (lcmpW x y) = true ∧ ifCond.holds .le (lcmpW x y) = false := by
  rw [if0, if0]; exact ⟨(tlt ((lw_gt x y).mpr q)).2.2.1, (tlt ((lw_gt x y).mpr q)).2.2.2⟩
theorem own_fgtL {x y : Int64} (q : ¬ y < x) : ifCond.holds .gt (lcmpW x y) = false ∧ ifCond.holds .le (lcmpW x y) = true := by
  rw [if0, if0]; exact ⟨(flt fun z => q ((lw_gt x y).mp z)).2.2.1, (flt fun z => q ((lw_gt x y).mp z)).2.2.2⟩
theorem own_teqL {x y : Int64} (q : x = y) : ifCond.holds .eq (lcmpW x y) = true ∧ ifCond.holds .ne (lcmpW x y) = false := by
  rw [if0, if0]; exact ⟨(teq ((lw_eq x y).mpr q)).1, (teq ((lw_eq x y).mpr q)).2⟩
theorem own_feqL {x y : Int64} (q : ¬ x = y) : ifCond.holds .eq (lcmpW x y) = false ∧ ifCond.holds .ne (lcmpW x y) = true := by
  rw [if0, if0]; exact ⟨(feq fun z => q ((lw_eq x y).mp z)).1, (feq fun z => q ((lw_eq x y).mp z)).2⟩
theorem own_st1 {L : Array Slot} {i : Nat} {v : Value} {o : Slot} {L' : Array Slot} (hold : L[i]? = some o) (ho : One o) (hv : v.category = 1) (hL : L.setIfInBounds i (.val v) = L' := by rfl) : storeLocals L i v = some L' := hL ▸ XS.store1 hold ho hv
theorem own_privSel {s : State} {args : Array Value} {y : MethodName} {n : Nat} (wi : (Cond.instantiable y.cls n).before args s = true) (hp : s.PrivateAt y) (hinst : (Cond.instanceMethod y).before args s = true) (hy : y.cls ≠ "java/lang/invoke/MethodHandle" ∧ y.cls ≠ "java/lang/invoke/VarHandle") : (Cond.selects y.cls y y).before args s = true := by
  obtain ⟨c, k, h1, h2, -, h3, -⟩ := Cond.instantiable_spec wi
  exact selects_self_of_private h1 h2 (Bool.or_eq_false_iff.mp h3).1 hp hinst hy
theorem own_st2 {L L' : Array Slot} {i : Nat} {x : Int64} {o1 o2 : Slot} (h1 : L[i]? = some o1) (h2 : L[i + 1]? = some o2) (q1 : One o1) (q2 : One o2) (hL : (L.setIfInBounds i (.val (.long x))).setIfInBounds (i + 1) .second = L' := by rfl) : storeLocals L i (.long x) = some L' := by
  subst hL
  obtain ⟨b1, g1⟩ := Array.getElem?_eq_some_iff.mp h1
  obtain ⟨b2, g2⟩ := Array.getElem?_eq_some_iff.mp h2
  have hc : (Value.long x).category = 2 := rfl
  rcases q1 with rfl | ⟨w, rfl, hw⟩ <;> rcases q2 with rfl | ⟨w', rfl, hw'⟩ <;> simp [storeLocals, storeSelf, setAt, hc, *]
/-! 4. arrays: what lies in them, as a list -/
def own_Ar (Z : State) (h : Heap) (a : Addr) (ty : FieldType) (vs : List Value) : Prop := ∃ c : Cell, Arr Z h a c ty ∧ c.slots.toList = vs ∧ vs.length < 2 ^ 31 ∧ ∀ v ∈ vs, fits ty v = true
variable {a b : Addr} {ty : FieldType} {vs : List Value}
theorem own_Ar.lt (F : own_Ar Z h a ty vs) : a < h.size := by obtain ⟨c, A, -⟩ := F; exact A.lt
theorem own_Ar.ext (F : own_Ar Z h a ty vs) (E : Ext h h') : own_Ar Z h' a ty vs := by obtain ⟨c, A, r⟩ := F; exact ⟨c, A.ext E, r⟩
theorem own_Ar.other {k : Nat} {v : Value} (F : own_Ar Z h b ty vs) (W : Wr h h' a k v) (q : b ≠ a) : own_Ar Z h' b ty vs := by obtain ⟨c, A, r⟩ := F; exact ⟨c, A.other W q, r⟩
theorem own_Ar.keep {ws : List Addr} (F : own_Ar Z h a ty vs) (K : Keep h h' ws) (q : a ∉ ws) : own_Ar Z h' a ty vs := by obtain ⟨c, A, r⟩ := F; exact ⟨c, ⟨K.2.1 a c A.1 q, A.2⟩, r⟩
theorem own_Ar.size {c : Cell} (q : c.slots.toList = vs) : c.slots.size = vs.length := by rw [← q]; simp
theorem own_in {c : Cell} {j : Int32} (q : c.slots.toList = vs) (hj : own_inb vs j) : ¬ (j < 0 ∨ c.slots.size ≤ j.toNatClampNeg) := by
  rw [own_Ar.size q]
  rintro (r | r)
  · exact hj.1 r
  · exact absurd hj.2 (Nat.not_lt.mpr r)
theorem own_get {c : Cell} {i : Nat} (q : c.slots.toList = vs) (d : Value) (hi : i < vs.length) : c.slots[i]? = some (vs.getD i d) := by
  have e : c.slots = vs.toArray := by rw [← q]
  rw [e]
  simp [List.getD, hi]
theorem own_set {c : Cell} {i : Nat} {v : Value} (q : c.slots.toList = vs) : (c.setSlot i v).slots.toList = vs.set i v := by
  have e : c.slots = vs.toArray := by rw [← q]
  simp [Cell.setSlot, e]
theorem own_fits {i : Nat} {v : Value} (q : ∀ v ∈ vs, fits ty v = true) (hv : fits ty v = true) : ∀ u ∈ vs.set i v, fits ty u = true := fun u hu => by
  rcases List.mem_or_eq_of_mem_set hu with r | r
  · exact q u r
  · rw [r]; exact hv
theorem own_mapGet {bs : List Int32} {i : Nat} (hi : i < bs.length) : (bs.map Value.int).getD i (.int 0) = .int (bs.getD i 0) := by simp [List.getD, hi]
theorem own_mapGetJ {bs : List Int64} {i : Nat} (hi : i < bs.length) : (bs.map Value.long).getD i (.long 0) = .long (bs.getD i 0) := by simp [List.getD, hi]
theorem own_mapSet {bs : List Int32} {i : Nat} {v : Int32} : (bs.map Value.int).set i (.int v) = (bs.set i v).map Value.int := by simp
theorem own_mapSetJ {bs : List Int64} {i : Nat} {v : Int64} : (bs.map Value.long).set i (.long v) = (bs.set i v).map Value.long := by simp
theorem own_inbM {α : Type} {f : α → Value} {bs : List α} {j : Int32} (q : own_inb bs j) : own_inb (bs.map f) j := ⟨q.1, by rw [List.length_map]; exact q.2⟩
theorem own_wrk {α : Type} {bs : List α} {j : Int32} {v : α} (k : Nat) (hk : j.toNatClampNeg = k) : own_wr bs j v = bs.set k v := by rw [own_wr, hk]
theorem own_rdk {α : Type} [OfNat α 0] {bs : List α} {j : Int32} (k : Nat) (hk : j.toNatClampNeg = k) : own_rd bs j = bs.getD k 0 := by rw [own_rd, hk]
theorem own_inbk {α : Type} {bs : List α} {j : Int32} (k n : Nat) (h0 : ¬ j < 0) (hk : j.toNatClampNeg = k) (hl : bs.length = n) (hkn : k < n) : own_inb bs j := ⟨h0, by rw [hk, hl]; exact hkn⟩
theorem own_len {α : Type} {f : α → Value} {bs : List α} (X : Stand p l e R s m args below meth c T locs cells slots) (hx : p.tables.exec = Jvm.exec) (hZ : Z.Warmed39 s.vm) (eT : T.heap = h) (A : own_Ar Z h a ty (bs.map f)) {g : JFrame} (hg : g.method = m) {rest : List Value} (hs : g.stack = .ref a :: rest) (hd : decode c.code g.pc = .ok (.arraylength, 1)) {target : State}
    (hr : Steps p.tables e below (T.setTop { g with pc := g.pc + 1, stack := .int (own_sz bs) :: rest }) target) : Steps p.tables e below (T.setTop g) target := by
  obtain ⟨cl, A, q, -⟩ := A
  refine X.arraylength hx (by rw [eT]; exact A.1) (State.isArrayOf_alike hZ.alike A.2.1) hg hs hd _ ?_
  rw [own_Ar.size q, List.length_map]; exact hr
theorem own_ldI {bs : List Int32} {j v : Int32} (X : Stand p l e R s m args below meth c T locs cells slots) (hx : p.tables.exec = Jvm.exec) (hZ : Z.Warmed39 s.vm) (eT : T.heap = h) (A : own_Ar Z h a .int (bs.map Value.int)) (hj : own_inb bs j) (hv : own_rd bs j = v) {g : JFrame} (hg : g.method = m) {rest : List Value} (hs : g.stack = .int j :: .ref a :: rest) (hd : decode c.code g.pc = .ok (.iaload, 1)) {target : State}
    (hr : Steps p.tables e below (T.setTop { g with pc := g.pc + 1, stack := .int v :: rest }) target) : Steps p.tables e below (T.setTop g) target := by
  subst hv
  obtain ⟨cl, A, q, -⟩ := A
  exact X.iaload hx (by rw [eT]; exact A.1) (State.isArrayOf_alike hZ.alike A.2.1) A.2.2 (own_in q (own_inbM hj)) ((own_get q (.int 0) (own_inbM hj).2).trans (congrArg some (own_mapGet hj.2))) hg hs hd _ hr
theorem own_ldB {bs : List Int32} {j v : Int32} (X : Stand p l e R s m args below meth c T locs cells slots) (hx : p.tables.exec = Jvm.exec) (hZ : Z.Warmed39 s.vm) (eT : T.heap = h) (A : own_Ar Z h a .byte (bs.map Value.int)) (hj : own_inb bs j) (hv : own_rd bs j = v) {g : JFrame} (hg : g.method = m) {rest : List Value} (hs : g.stack = .int j :: .ref a :: rest) (hd : decode c.code g.pc = .ok (.baload, 1)) {target : State}
    (hr : Steps p.tables e below (T.setTop { g with pc := g.pc + 1, stack := .int v :: rest }) target) : Steps p.tables e below (T.setTop g) target := by
  subst hv
  obtain ⟨cl, A, q, -⟩ := A
  exact X.baloadBytes hx (by rw [eT]; exact A.1) (State.isArrayOf_alike hZ.alike A.2.1) A.2.2 (own_in q (own_inbM hj)) ((own_get q (.int 0) (own_inbM hj).2).trans (congrArg some (own_mapGet hj.2))) hg hs hd _ hr
theorem own_ldZ {bs : List Int32} {j v : Int32} (X : Stand p l e R s m args below meth c T locs cells slots) (hx : p.tables.exec = Jvm.exec) (hZ : Z.Warmed39 s.vm) (eT : T.heap = h) (A : own_Ar Z h a .boolean (bs.map Value.int)) (hj : own_inb bs j) (hv : own_rd bs j = v) {g : JFrame} (hg : g.method = m) {rest : List Value} (hs : g.stack = .int j :: .ref a :: rest) (hd : decode c.code g.pc = .ok (.baload, 1)) {target : State}
    (hr : Steps p.tables e below (T.setTop { g with pc := g.pc + 1, stack := .int v :: rest }) target) : Steps p.tables e below (T.setTop g) target := by
  subst hv
  obtain ⟨cl, A, q, -⟩ := A
  exact X.baloadBooleans hx (by rw [eT]; exact A.1) (State.isArrayOf_alike hZ.alike A.2.1) A.2.2 (own_in q (own_inbM hj)) ((own_get q (.int 0) (own_inbM hj).2).trans (congrArg some (own_mapGet hj.2))) hg hs hd _ hr
theorem own_ldJ {bs : List Int64} {j : Int32} {v : Int64} (X : Stand p l e R s m args below meth c T locs cells slots) (hx : p.tables.exec = Jvm.exec) (hZ : Z.Warmed39 s.vm) (eT : T.heap = h) (A : own_Ar Z h a .long (bs.map Value.long)) (hj : own_inb bs j) (hv : own_rd bs j = v) {g : JFrame} (hg : g.method = m) {rest : List Value} (hs : g.stack = .int j :: .ref a :: rest) (hd : decode c.code g.pc = .ok (.laload, 1)) {target : State}
    (hr : Steps p.tables e below (T.setTop { g with pc := g.pc + 1, stack := .long v :: rest }) target) : Steps p.tables e below (T.setTop g) target := by
  subst hv
  obtain ⟨cl, A, q, -⟩ := A
  exact X.laload hx (by rw [eT]; exact A.1) (State.isArrayOf_alike hZ.alike A.2.1) A.2.2 (own_in q (own_inbM hj)) ((own_get q (.long 0) (own_inbM hj).2).trans (congrArg some (own_mapGetJ hj.2))) hg hs hd _ hr
theorem own_stI {bs : List Int32} {j x : Int32} (X : Stand p l e R s m args below meth c T locs cells slots) (hx : p.tables.exec = Jvm.exec) (hZ : Z.Warmed39 s.vm) (eT : T.heap = h) (A : own_Ar Z h a .int (bs.map Value.int)) (hj : own_inb bs j) {g : JFrame} (hg : g.method = m) {rest : List Value} (hs : g.stack = .int x :: .int j :: .ref a :: rest) (hd : decode c.code g.pc = .ok (.iastore, 1)) :
    ∃ T' h', Stand p l e R s m args below meth c T' (locs ++ [⟨a, j.toNatClampNeg⟩]) cells slots ∧ T'.heap = h' ∧ Wr h h' a j.toNatClampNeg (.int x) ∧ own_Ar Z h' a .int ((own_wr bs j x).map Value.int) ∧ ∀ target, Steps p.tables e below (T'.setTop { g with pc := g.pc + 1, stack := rest }) target → Steps p.tables e below (T.setTop g) target := by
  obtain ⟨cl, A, q, r, ft⟩ := A
  obtain ⟨T', h', X', e', W, st⟩ := stI X hx hZ eT A (own_in q (own_inbM hj)) hg hs hd
  exact ⟨T', h', X', e', W, ⟨_, A.same W, (own_set q).trans own_mapSet, by simpa [own_wr] using r, own_mapSet ▸ own_fits ft rfl⟩, st⟩
theorem own_stB {bs : List Int32} {j x : Int32} (X : Stand p l e R s m args below meth c T locs cells slots) (hx : p.tables.exec = Jvm.exec) (hZ : Z.Warmed39 s.vm) (eT : T.heap = h) (A : own_Ar Z h a .byte (bs.map Value.int)) (hj : own_inb bs j) {g : JFrame} (hg : g.method = m) {rest : List Value} (hs : g.stack = .int x :: .int j :: .ref a :: rest) (hd : decode c.code g.pc = .ok (.bastore, 1)) :
    ∃ T' h', Stand p l e R s m args below meth c T' (locs ++ [⟨a, j.toNatClampNeg⟩]) cells slots ∧ T'.heap = h' ∧ Wr h h' a j.toNatClampNeg (.int x.toInt8.toInt32) ∧ own_Ar Z h' a .byte ((own_wr bs j x.toInt8.toInt32).map Value.int) ∧ ∀ target, Steps p.tables e below (T'.setTop { g with pc := g.pc + 1, stack := rest }) target → Steps p.tables e below (T.setTop g) target := by
  obtain ⟨cl, A, q, r, ft⟩ := A
  obtain ⟨T', h', X', e', W, st⟩ := stB X hx hZ eT A (own_in q (own_inbM hj)) hg hs hd
  exact ⟨T', h', X', e', W, ⟨_, A.same W, (own_set q).trans own_mapSet, by simpa [own_wr] using r, own_mapSet ▸ own_fits ft (fits_nar_byte _)⟩, st⟩
theorem own_stZ {bs : List Int32} {j x : Int32} (X : Stand p l e R s m args below meth c T locs cells slots) (hx : p.tables.exec = Jvm.exec) (hZ : Z.Warmed39 s.vm) (eT : T.heap = h) (A : own_Ar Z h a .boolean (bs.map Value.int)) (hj : own_inb bs j) {g : JFrame} (hg : g.method = m) {rest : List Value} (hs : g.stack = .int x :: .int j :: .ref a :: rest) (hd : decode c.code g.pc = .ok (.bastore, 1)) :
    ∃ T' h', Stand p l e R s m args below meth c T' (locs ++ [⟨a, j.toNatClampNeg⟩]) cells slots ∧ T'.heap = h' ∧ Wr h h' a j.toNatClampNeg (.int (x &&& 1)) ∧ own_Ar Z h' a .boolean ((own_wr bs j (x &&& 1)).map Value.int) ∧ ∀ target, Steps p.tables e below (T'.setTop { g with pc := g.pc + 1, stack := rest }) target → Steps p.tables e below (T.setTop g) target := by
  obtain ⟨cl, A, q, r, ft⟩ := A
  obtain ⟨T', h', X', e', W, st⟩ := stZ X hx hZ eT A (own_in q (own_inbM hj)) hg hs hd
  exact ⟨T', h', X', e', W, ⟨_, A.same W, (own_set q).trans own_mapSet, by simpa [own_wr] using r, own_mapSet ▸ own_fits ft (fits_nar_bool _)⟩, st⟩
theorem own_stJ {bs : List Int64} {j : Int32} {x : Int64} (X : Stand p l e R s m args below meth c T locs cells slots) (hx : p.tables.exec = Jvm.exec) (hZ : Z.Warmed39 s.vm) (eT : T.heap = h) (A : own_Ar Z h a .long (bs.map Value.long)) (hj : own_inb bs j) {g : JFrame} (hg : g.method = m) {rest : List Value} (hs : g.stack = .long x :: .int j :: .ref a :: rest) (hd : decode c.code g.pc = .ok (.lastore, 1)) :
    ∃ T' h', Stand p l e R s m args below meth c T' (locs ++ [⟨a, j.toNatClampNeg⟩]) cells slots ∧ T'.heap = h' ∧ Wr h h' a j.toNatClampNeg (.long x) ∧ own_Ar Z h' a .long ((own_wr bs j x).map Value.long) ∧ ∀ target, Steps p.tables e below (T'.setTop { g with pc := g.pc + 1, stack := rest }) target → Steps p.tables e below (T.setTop g) target := by
  obtain ⟨cl, A, q, r, ft⟩ := A
  obtain ⟨T', h', X', e', W, st⟩ := stJ X hx hZ eT A (own_in q (own_inbM hj)) hg hs hd
  exact ⟨T', h', X', e', W, ⟨_, A.same W, (own_set q).trans own_mapSetJ, by simpa [own_wr] using r, own_mapSetJ ▸ own_fits ft rfl⟩, st⟩
theorem own_newI {k : ClassId} {n : Int32} {kk : Nat} (A : Arr Z h a (newA k ty n) ty) (q : ¬ n < 0) (hd : defaultValue ty = .int 0) (hk : n.toNatClampNeg = kk) : own_Ar Z h a ty ((List.replicate kk (0 : Int32)).map Value.int) := hk ▸
  ⟨_, A, by simp [newA, hd], by rw [List.length_map, List.length_replicate]; exact (back32 q).2, fun v hv => by
    rw [List.map_replicate] at hv
    rw [(List.mem_replicate.mp hv).2, ← hd]; cases ty <;> rfl⟩
theorem own_newJ {k : ClassId} {n : Int32} {kk : Nat} (A : Arr Z h a (newA k ty n) ty) (q : ¬ n < 0) (hd : defaultValue ty = .long 0) (hk : n.toNatClampNeg = kk) : own_Ar Z h a ty ((List.replicate kk (0 : Int64)).map Value.long) := hk ▸
  ⟨_, A, by simp [newA, hd], by rw [List.length_map, List.length_replicate]; exact (back32 q).2, fun v hv => by
    rw [List.map_replicate] at hv
    rw [(List.mem_replicate.mp hv).2, ← hd]; cases ty <;> rfl⟩
end Own
theorem w0 {a0 : Array Value} {Z : State} (hw : ∀ d ∈ tables_1, d.before a0 Z = true) : ((Jvm.Cond.arrayClass Jvm.ClassFile.FieldType.byte)).before a0 Z = true := hw _ (List.mem_of_getElem? (i := 0) rfl)
theorem w1 {a0 : Array Value} {Z : State} (hw : ∀ d ∈ tables_1, d.before a0 Z = true) : ((Jvm.Cond.methodLink "com/example/oxpecker/oxpecker/sip/RawMessageSecondValueStartPinLaw" (30 : Nat) ({ cls := "com/example/oxpecker/oxpecker/sip/RawMessageSecondValueStartPinLaw", name := "kind", desc := "(I)B" } : Jvm.MethodName))).before a0 Z = true := hw _ (List.mem_of_getElem? (i := 1) rfl)
theorem w2 {a0 : Array Value} {Z : State} (hw : ∀ d ∈ tables_1, d.before a0 Z = true) : ((Jvm.Cond.static ({ cls := "com/example/oxpecker/oxpecker/sip/RawMessageSecondValueStartPinLaw", name := "kind", desc := "(I)B" } : Jvm.MethodName))).before a0 Z = true := hw _ (List.mem_of_getElem? (i := 2) rfl)
theorem w3 {a0 : Array Value} {Z : State} (hw : ∀ d ∈ tables_1, d.before a0 Z = true) : ((Jvm.Cond.initialized "com/example/oxpecker/oxpecker/sip/RawMessageSecondValueStartPinLaw")).before a0 Z = true := hw _ (List.mem_of_getElem? (i := 3) rfl)
theorem w4 {a0 : Array Value} {Z : State} (hw : ∀ d ∈ tables_1, d.before a0 Z = true) : ((Jvm.Cond.code ({ cls := "com/example/oxpecker/oxpecker/sip/RawMessageSecondValueStartPinLaw", name := "kind", desc := "(I)B" } : Jvm.MethodName) method_2_code (2 : Nat) (Option.some Jvm.ClassFile.FieldType.byte))).before a0 Z = true := hw _ (List.mem_of_getElem? (i := 4) rfl)
theorem w5 {a0 : Array Value} {Z : State} (hw : ∀ d ∈ tables_1, d.before a0 Z = true) : ((Jvm.Cond.constant "com/example/oxpecker/oxpecker/sip/RawMessageSecondValueStartPinLaw" (34 : Nat) (2147483647 : Int32))).before a0 Z = true := hw _ (List.mem_of_getElem? (i := 5) rfl)
theorem w6 {a0 : Array Value} {Z : State} (hw : ∀ d ∈ tables_1, d.before a0 Z = true) : ((Jvm.Cond.classLink "com/example/oxpecker/oxpecker/sip/RawMessageSecondValueStartPinLaw" (35 : Nat) "com/example/oxpecker/oxpecker/sip/RawMessage")).before a0 Z = true := hw _ (List.mem_of_getElem? (i := 6) rfl)
theorem w7 {a0 : Array Value} {Z : State} (hw : ∀ d ∈ tables_1, d.before a0 Z = true) : ((Jvm.Cond.instantiable "com/example/oxpecker/oxpecker/sip/RawMessage" (6 : Nat))).before a0 Z = true := hw _ (List.mem_of_getElem? (i := 7) rfl)
theorem w8 {a0 : Array Value} {Z : State} (hw : ∀ d ∈ tables_1, d.before a0 Z = true) : ((Jvm.Cond.initialized "com/example/oxpecker/oxpecker/sip/RawMessage")).before a0 Z = true := hw _ (List.mem_of_getElem? (i := 8) rfl)
theorem w9 {a0 : Array Value} {Z : State} (hw : ∀ d ∈ tables_1, d.before a0 Z = true) : ((Jvm.Cond.methodLink "com/example/oxpecker/oxpecker/sip/RawMessageSecondValueStartPinLaw" (37 : Nat) ({ cls := "com/example/oxpecker/oxpecker/sip/RawMessage", name := "<init>", desc := "([B)V" } : Jvm.MethodName))).before a0 Z = true := hw _ (List.mem_of_getElem? (i := 9) rfl)
theorem w10 {a0 : Array Value} {Z : State} (hw : ∀ d ∈ tables_1, d.before a0 Z = true) : ((Jvm.Cond.instanceMethod ({ cls := "com/example/oxpecker/oxpecker/sip/RawMessage", name := "<init>", desc := "([B)V" } : Jvm.MethodName))).before a0 Z = true := hw _ (List.mem_of_getElem? (i := 10) rfl)
theorem w11 {a0 : Array Value} {Z : State} (hw : ∀ d ∈ tables_1, d.before a0 Z = true) : ((Jvm.Cond.code ({ cls := "com/example/oxpecker/oxpecker/sip/RawMessage", name := "<init>", desc := "([B)V" } : Jvm.MethodName) prog_12_method_1_code (11 : Nat) (Option.none : Option Jvm.ClassFile.FieldType))).before a0 Z = true := hw _ (List.mem_of_getElem? (i := 11) rfl)
theorem w12 {a0 : Array Value} {Z : State} (hw : ∀ d ∈ tables_1, d.before a0 Z = true) : ((Jvm.Cond.methodLink "com/example/oxpecker/oxpecker/sip/RawMessage" (1 : Nat) ({ cls := "java/lang/Object", name := "<init>", desc := "()V" } : Jvm.MethodName))).before a0 Z = true := hw _ (List.mem_of_getElem? (i := 12) rfl)
theorem w13 {a0 : Array Value} {Z : State} (hw : ∀ d ∈ tables_1, d.before a0 Z = true) : ((Jvm.Cond.instanceMethod ({ cls := "java/lang/Object", name := "<init>", desc := "()V" } : Jvm.MethodName))).before a0 Z = true := hw _ (List.mem_of_getElem? (i := 13) rfl)
theorem w14 {a0 : Array Value} {Z : State} (hw : ∀ d ∈ tables_1, d.before a0 Z = true) : ((Jvm.Cond.code ({ cls := "java/lang/Object", name := "<init>", desc := "()V" } : Jvm.MethodName) object_method_1_code (1 : Nat) (Option.none : Option Jvm.ClassFile.FieldType))).before a0 Z = true := hw _ (List.mem_of_getElem? (i := 14) rfl)
theorem w15 {a0 : Array Value} {Z : State} (hw : ∀ d ∈ tables_1, d.before a0 Z = true) : ((Jvm.Cond.fieldLink "com/example/oxpecker/oxpecker/sip/RawMessage" (7 : Nat) "com/example/oxpecker/oxpecker/sip/RawMessage" "bytes" "[B")).before a0 Z = true := hw _ (List.mem_of_getElem? (i := 15) rfl)
theorem w16 {a0 : Array Value} {Z : State} (hw : ∀ d ∈ tables_1, d.before a0 Z = true) : ((Jvm.Cond.laysFinal "com/example/oxpecker/oxpecker/sip/RawMessage" "com/example/oxpecker/oxpecker/sip/RawMessage" "bytes" "[B")).before a0 Z = true := hw _ (List.mem_of_getElem? (i := 16) rfl)
theorem w17 {a0 : Array Value} {Z : State} (hw : ∀ d ∈ tables_1, d.before a0 Z = true) : ((Jvm.Cond.arrayClass Jvm.ClassFile.FieldType.int)).before a0 Z = true := hw _ (List.mem_of_getElem? (i := 17) rfl)
theorem w18 {a0 : Array Value} {Z : State} (hw : ∀ d ∈ tables_1, d.before a0 Z = true) : ((Jvm.Cond.methodLink "com/example/oxpecker/oxpecker/sip/RawMessage" (13 : Nat) ({ cls := "com/example/oxpecker/oxpecker/sip/RawMessage", name := "indexOf", desc := "(BI)I" } : Jvm.MethodName))).before a0 Z = true := hw _ (List.mem_of_getElem? (i := 18) rfl)
theorem w19 {a0 : Array Value} {Z : State} (hw : ∀ d ∈ tables_1, d.before a0 Z = true) : ((Jvm.Cond.instanceMethod ({ cls := "com/example/oxpecker/oxpecker/sip/RawMessage", name := "indexOf", desc := "(BI)I" } : Jvm.MethodName))).before a0 Z = true := hw _ (List.mem_of_getElem? (i := 19) rfl)
theorem w20 {a0 : Array Value} {Z : State} (hw : ∀ d ∈ tables_1, d.before a0 Z = true) : ((Jvm.Cond.privateMethod ({ cls := "com/example/oxpecker/oxpecker/sip/RawMessage", name := "indexOf", desc := "(BI)I" } : Jvm.MethodName))).before a0 Z = true := hw _ (List.mem_of_getElem? (i := 20) rfl)
theorem w21 {a0 : Array Value} {Z : State} (hw : ∀ d ∈ tables_1, d.before a0 Z = true) : ((Jvm.Cond.code ({ cls := "com/example/oxpecker/oxpecker/sip/RawMessage", name := "indexOf", desc := "(BI)I" } : Jvm.MethodName) prog_12_method_17_code (4 : Nat) (Option.some Jvm.ClassFile.FieldType.int))).before a0 Z = true := hw _ (List.mem_of_getElem? (i := 21) rfl)
theorem w22 {a0 : Array Value} {Z : State} (hw : ∀ d ∈ tables_1, d.before a0 Z = true) : ((Jvm.Cond.fieldLink "com/example/oxpecker/oxpecker/sip/RawMessage" (23 : Nat) "com/example/oxpecker/oxpecker/sip/RawMessage" "lineStarts" "[I")).before a0 Z = true := hw _ (List.mem_of_getElem? (i := 22) rfl)
theorem w23 {a0 : Array Value} {Z : State} (hw : ∀ d ∈ tables_1, d.before a0 Z = true) : ((Jvm.Cond.laysFinal "com/example/oxpecker/oxpecker/sip/RawMessage" "com/example/oxpecker/oxpecker/sip/RawMessage" "lineStarts" "[I")).before a0 Z = true := hw _ (List.mem_of_getElem? (i := 23) rfl)
theorem w24 {a0 : Array Value} {Z : State} (hw : ∀ d ∈ tables_1, d.before a0 Z = true) : ((Jvm.Cond.fieldLink "com/example/oxpecker/oxpecker/sip/RawMessage" (27 : Nat) "com/example/oxpecker/oxpecker/sip/RawMessage" "lineEnds" "[I")).before a0 Z = true := hw _ (List.mem_of_getElem? (i := 24) rfl)
theorem w25 {a0 : Array Value} {Z : State} (hw : ∀ d ∈ tables_1, d.before a0 Z = true) : ((Jvm.Cond.laysFinal "com/example/oxpecker/oxpecker/sip/RawMessage" "com/example/oxpecker/oxpecker/sip/RawMessage" "lineEnds" "[I")).before a0 Z = true := hw _ (List.mem_of_getElem? (i := 25) rfl)
theorem w26 {a0 : Array Value} {Z : State} (hw : ∀ d ∈ tables_1, d.before a0 Z = true) : ((Jvm.Cond.fieldLink "com/example/oxpecker/oxpecker/sip/RawMessage" (30 : Nat) "com/example/oxpecker/oxpecker/sip/RawMessage" "wordLengths" "[I")).before a0 Z = true := hw _ (List.mem_of_getElem? (i := 26) rfl)
theorem w27 {a0 : Array Value} {Z : State} (hw : ∀ d ∈ tables_1, d.before a0 Z = true) : ((Jvm.Cond.laysFinal "com/example/oxpecker/oxpecker/sip/RawMessage" "com/example/oxpecker/oxpecker/sip/RawMessage" "wordLengths" "[I")).before a0 Z = true := hw _ (List.mem_of_getElem? (i := 27) rfl)
theorem w28 {a0 : Array Value} {Z : State} (hw : ∀ d ∈ tables_1, d.before a0 Z = true) : ((Jvm.Cond.fieldLink "com/example/oxpecker/oxpecker/sip/RawMessage" (33 : Nat) "com/example/oxpecker/oxpecker/sip/RawMessage" "lines" "I")).before a0 Z = true := hw _ (List.mem_of_getElem? (i := 28) rfl)
theorem w29 {a0 : Array Value} {Z : State} (hw : ∀ d ∈ tables_1, d.before a0 Z = true) : ((Jvm.Cond.laysFinal "com/example/oxpecker/oxpecker/sip/RawMessage" "com/example/oxpecker/oxpecker/sip/RawMessage" "lines" "I")).before a0 Z = true := hw _ (List.mem_of_getElem? (i := 29) rfl)
theorem w30 {a0 : Array Value} {Z : State} (hw : ∀ d ∈ tables_1, d.before a0 Z = true) : ((Jvm.Cond.fieldLink "com/example/oxpecker/oxpecker/sip/RawMessage" (37 : Nat) "com/example/oxpecker/oxpecker/sip/RawMessage" "bodyStart" "I")).before a0 Z = true := hw _ (List.mem_of_getElem? (i := 30) rfl)
theorem w31 {a0 : Array Value} {Z : State} (hw : ∀ d ∈ tables_1, d.before a0 Z = true) : ((Jvm.Cond.laysFinal "com/example/oxpecker/oxpecker/sip/RawMessage" "com/example/oxpecker/oxpecker/sip/RawMessage" "bodyStart" "I")).before a0 Z = true := hw _ (List.mem_of_getElem? (i := 31) rfl)
theorem w32 {a0 : Array Value} {Z : State} (hw : ∀ d ∈ tables_1, d.before a0 Z = true) : ((Jvm.Cond.classLink "com/example/oxpecker/oxpecker/sip/RawMessageSecondValueStartPinLaw" (40 : Nat) "com/example/oxpecker/oxpecker/sip/RawMessage$Header")).before a0 Z = true := hw _ (List.mem_of_getElem? (i := 32) rfl)
theorem w33 {a0 : Array Value} {Z : State} (hw : ∀ d ∈ tables_1, d.before a0 Z = true) : ((Jvm.Cond.instantiable "com/example/oxpecker/oxpecker/sip/RawMessage$Header" (4 : Nat))).before a0 Z = true := hw _ (List.mem_of_getElem? (i := 33) rfl)
theorem w34 {a0 : Array Value} {Z : State} (hw : ∀ d ∈ tables_1, d.before a0 Z = true) : ((Jvm.Cond.initialized "com/example/oxpecker/oxpecker/sip/RawMessage$Header")).before a0 Z = true := hw _ (List.mem_of_getElem? (i := 34) rfl)
theorem w35 {a0 : Array Value} {Z : State} (hw : ∀ d ∈ tables_1, d.before a0 Z = true) : ((Jvm.Cond.methodLink "com/example/oxpecker/oxpecker/sip/RawMessageSecondValueStartPinLaw" (42 : Nat) ({ cls := "com/example/oxpecker/oxpecker/sip/RawMessage$Header", name := "<init>", desc := "(IIII)V" } : Jvm.MethodName))).before a0 Z = true := hw _ (List.mem_of_getElem? (i := 35) rfl)
theorem w36 {a0 : Array Value} {Z : State} (hw : ∀ d ∈ tables_1, d.before a0 Z = true) : ((Jvm.Cond.instanceMethod ({ cls := "com/example/oxpecker/oxpecker/sip/RawMessage$Header", name := "<init>", desc := "(IIII)V" } : Jvm.MethodName))).before a0 Z = true := hw _ (List.mem_of_getElem? (i := 36) rfl)
theorem w37 {a0 : Array Value} {Z : State} (hw : ∀ d ∈ tables_1, d.before a0 Z = true) : ((Jvm.Cond.code ({ cls := "com/example/oxpecker/oxpecker/sip/RawMessage$Header", name := "<init>", desc := "(IIII)V" } : Jvm.MethodName) prog_13_method_1_code (5 : Nat) (Option.none : Option Jvm.ClassFile.FieldType))).before a0 Z = true := hw _ (List.mem_of_getElem? (i := 37) rfl)
theorem w38 {a0 : Array Value} {Z : State} (hw : ∀ d ∈ tables_1, d.before a0 Z = true) : ((Jvm.Cond.methodLink "com/example/oxpecker/oxpecker/sip/RawMessage$Header" (1 : Nat) ({ cls := "java/lang/Record", name := "<init>", desc := "()V" } : Jvm.MethodName))).before a0 Z = true := hw _ (List.mem_of_getElem? (i := 38) rfl)
theorem w39 {a0 : Array Value} {Z : State} (hw : ∀ d ∈ tables_1, d.before a0 Z = true) : ((Jvm.Cond.instanceMethod ({ cls := "java/lang/Record", name := "<init>", desc := "()V" } : Jvm.MethodName))).before a0 Z = true := hw _ (List.mem_of_getElem? (i := 39) rfl)
theorem w41 {a0 : Array Value} {Z : State} (hw : ∀ d ∈ tables_1, d.before a0 Z = true) : ((Jvm.Cond.initialized "java/lang/Record")).before a0 Z = true := hw _ (List.mem_of_getElem? (i := 41) rfl)
theorem w42 {a0 : Array Value} {Z : State} (hw : ∀ d ∈ tables_1, d.before a0 Z = true) : ((Jvm.Cond.code ({ cls := "java/lang/Record", name := "<init>", desc := "()V" } : Jvm.MethodName) jdk_30_method_1_code (1 : Nat) (Option.none : Option Jvm.ClassFile.FieldType))).before a0 Z = true := hw _ (List.mem_of_getElem? (i := 42) rfl)
theorem w43 {a0 : Array Value} {Z : State} (hw : ∀ d ∈ tables_1, d.before a0 Z = true) : ((Jvm.Cond.methodLink "java/lang/Record" (1 : Nat) ({ cls := "java/lang/Object", name := "<init>", desc := "()V" } : Jvm.MethodName))).before a0 Z = true := hw _ (List.mem_of_getElem? (i := 43) rfl)
theorem w44 {a0 : Array Value} {Z : State} (hw : ∀ d ∈ tables_1, d.before a0 Z = true) : ((Jvm.Cond.fieldLink "com/example/oxpecker/oxpecker/sip/RawMessage$Header" (7 : Nat) "com/example/oxpecker/oxpecker/sip/RawMessage$Header" "start" "I")).before a0 Z = true := hw _ (List.mem_of_getElem? (i := 44) rfl)
theorem w45 {a0 : Array Value} {Z : State} (hw : ∀ d ∈ tables_1, d.before a0 Z = true) : ((Jvm.Cond.laysFinal "com/example/oxpecker/oxpecker/sip/RawMessage$Header" "com/example/oxpecker/oxpecker/sip/RawMessage$Header" "start" "I")).before a0 Z = true := hw _ (List.mem_of_getElem? (i := 45) rfl)
theorem w46 {a0 : Array Value} {Z : State} (hw : ∀ d ∈ tables_1, d.before a0 Z = true) : ((Jvm.Cond.fieldLink "com/example/oxpecker/oxpecker/sip/RawMessage$Header" (13 : Nat) "com/example/oxpecker/oxpecker/sip/RawMessage$Header" "valueStart" "I")).before a0 Z = true := hw _ (List.mem_of_getElem? (i := 46) rfl)
theorem w47 {a0 : Array Value} {Z : State} (hw : ∀ d ∈ tables_1, d.before a0 Z = true) : ((Jvm.Cond.laysFinal "com/example/oxpecker/oxpecker/sip/RawMessage$Header" "com/example/oxpecker/oxpecker/sip/RawMessage$Header" "valueStart" "I")).before a0 Z = true := hw _ (List.mem_of_getElem? (i := 47) rfl)
theorem w48 {a0 : Array Value} {Z : State} (hw : ∀ d ∈ tables_1, d.before a0 Z = true) : ((Jvm.Cond.fieldLink "com/example/oxpecker/oxpecker/sip/RawMessage$Header" (16 : Nat) "com/example/oxpecker/oxpecker/sip/RawMessage$Header" "valueEnd" "I")).before a0 Z = true := hw _ (List.mem_of_getElem? (i := 48) rfl)
theorem w49 {a0 : Array Value} {Z : State} (hw : ∀ d ∈ tables_1, d.before a0 Z = true) : ((Jvm.Cond.laysFinal "com/example/oxpecker/oxpecker/sip/RawMessage$Header" "com/example/oxpecker/oxpecker/sip/RawMessage$Header" "valueEnd" "I")).before a0 Z = true := hw _ (List.mem_of_getElem? (i := 49) rfl)
theorem w50 {a0 : Array Value} {Z : State} (hw : ∀ d ∈ tables_1, d.before a0 Z = true) : ((Jvm.Cond.fieldLink "com/example/oxpecker/oxpecker/sip/RawMessage$Header" (19 : Nat) "com/example/oxpecker/oxpecker/sip/RawMessage$Header" "next" "I")).before a0 Z = true := hw _ (List.mem_of_getElem? (i := 50) rfl)
theorem w51 {a0 : Array Value} {Z : State} (hw : ∀ d ∈ tables_1, d.before a0 Z = true) : ((Jvm.Cond.laysFinal "com/example/oxpecker/oxpecker/sip/RawMessage$Header" "com/example/oxpecker/oxpecker/sip/RawMessage$Header" "next" "I")).before a0 Z = true := hw _ (List.mem_of_getElem? (i := 51) rfl)
theorem w52 {a0 : Array Value} {Z : State} (hw : ∀ d ∈ tables_1, d.before a0 Z = true) : ((Jvm.Cond.methodLink "com/example/oxpecker/oxpecker/sip/RawMessageSecondValueStartPinLaw" (45 : Nat) ({ cls := "com/example/oxpecker/oxpecker/sip/RawMessage", name := "secondValueStart", desc := "(Lcom/example/oxpecker/oxpecker/sip/RawMessage$Header;)I" } : Jvm.MethodName))).before a0 Z = true := hw _ (List.mem_of_getElem? (i := 52) rfl)
theorem w53 {a0 : Array Value} {Z : State} (hw : ∀ d ∈ tables_1, d.before a0 Z = true) : ((Jvm.Cond.declares ({ cls := "com/example/oxpecker/oxpecker/sip/RawMessage", name := "secondValueStart", desc := "(Lcom/example/oxpecker/oxpecker/sip/RawMessage$Header;)I" } : Jvm.MethodName))).before a0 Z = true := hw _ (List.mem_of_getElem? (i := 53) rfl)
theorem w54 {a0 : Array Value} {Z : State} (hw : ∀ d ∈ tables_1, d.before a0 Z = true) : ((Jvm.Cond.instanceMethod ({ cls := "com/example/oxpecker/oxpecker/sip/RawMessage", name := "secondValueStart", desc := "(Lcom/example/oxpecker/oxpecker/sip/RawMessage$Header;)I" } : Jvm.MethodName))).before a0 Z = true := hw _ (List.mem_of_getElem? (i := 54) rfl)
theorem w55 {a0 : Array Value} {Z : State} (hw : ∀ d ∈ tables_1, d.before a0 Z = true) : ((Jvm.Cond.selects "com/example/oxpecker/oxpecker/sip/RawMessage" ({ cls := "com/example/oxpecker/oxpecker/sip/RawMessage", name := "secondValueStart", desc := "(Lcom/example/oxpecker/oxpecker/sip/RawMessage$Header;)I" } : Jvm.MethodName) ({ cls := "com/example/oxpecker/oxpecker/sip/RawMessage", name := "secondValueStart", desc := "(Lcom/example/oxpecker/oxpecker/sip/RawMessage$Header;)I" } : Jvm.MethodName))).before a0 Z = true := hw _ (List.mem_of_getElem? (i := 55) rfl)
theorem w56 {a0 : Array Value} {Z : State} (hw : ∀ d ∈ tables_1, d.before a0 Z = true) : ((Jvm.Cond.code ({ cls := "com/example/oxpecker/oxpecker/sip/RawMessage", name := "secondValueStart", desc := "(Lcom/example/oxpecker/oxpecker/sip/RawMessage$Header;)I" } : Jvm.MethodName) prog_12_method_9_code (3 : Nat) (Option.some Jvm.ClassFile.FieldType.int))).before a0 Z = true := hw _ (List.mem_of_getElem? (i := 56) rfl)
theorem w57 {a0 : Array Value} {Z : State} (hw : ∀ d ∈ tables_1, d.before a0 Z = true) : ((Jvm.Cond.methodLink "com/example/oxpecker/oxpecker/sip/RawMessage" (84 : Nat) ({ cls := "com/example/oxpecker/oxpecker/sip/RawMessage$Header", name := "valueStart", desc := "()I" } : Jvm.MethodName))).before a0 Z = true := hw _ (List.mem_of_getElem? (i := 57) rfl)
theorem w58 {a0 : Array Value} {Z : State} (hw : ∀ d ∈ tables_1, d.before a0 Z = true) : ((Jvm.Cond.declares ({ cls := "com/example/oxpecker/oxpecker/sip/RawMessage$Header", name := "valueStart", desc := "()I" } : Jvm.MethodName))).before a0 Z = true := hw _ (List.mem_of_getElem? (i := 58) rfl)
theorem w59 {a0 : Array Value} {Z : State} (hw : ∀ d ∈ tables_1, d.before a0 Z = true) : ((Jvm.Cond.instanceMethod ({ cls := "com/example/oxpecker/oxpecker/sip/RawMessage$Header", name := "valueStart", desc := "()I" } : Jvm.MethodName))).before a0 Z = true := hw _ (List.mem_of_getElem? (i := 59) rfl)
theorem w60 {a0 : Array Value} {Z : State} (hw : ∀ d ∈ tables_1, d.before a0 Z = true) : ((Jvm.Cond.selects "com/example/oxpecker/oxpecker/sip/RawMessage$Header" ({ cls := "com/example/oxpecker/oxpecker/sip/RawMessage$Header", name := "valueStart", desc := "()I" } : Jvm.MethodName) ({ cls := "com/example/oxpecker/oxpecker/sip/RawMessage$Header", name := "valueStart", desc := "()I" } : Jvm.MethodName))).before a0 Z = true := hw _ (List.mem_of_getElem? (i := 60) rfl)
theorem w61 {a0 : Array Value} {Z : State} (hw : ∀ d ∈ tables_1, d.before a0 Z = true) : ((Jvm.Cond.code ({ cls := "com/example/oxpecker/oxpecker/sip/RawMessage$Header", name := "valueStart", desc := "()I" } : Jvm.MethodName) prog_13_method_6_code (1 : Nat) (Option.some Jvm.ClassFile.FieldType.int))).before a0 Z = true := hw _ (List.mem_of_getElem? (i := 61) rfl)
theorem w62 {a0 : Array Value} {Z : State} (hw : ∀ d ∈ tables_1, d.before a0 Z = true) : ((Jvm.Cond.methodLink "com/example/oxpecker/oxpecker/sip/RawMessage" (87 : Nat) ({ cls := "com/example/oxpecker/oxpecker/sip/RawMessage$Header", name := "valueEnd", desc := "()I" } : Jvm.MethodName))).before a0 Z = true := hw _ (List.mem_of_getElem? (i := 62) rfl)
theorem w63 {a0 : Array Value} {Z : State} (hw : ∀ d ∈ tables_1, d.before a0 Z = true) : ((Jvm.Cond.declares ({ cls := "com/example/oxpecker/oxpecker/sip/RawMessage$Header", name := "valueEnd", desc := "()I" } : Jvm.MethodName))).before a0 Z = true := hw _ (List.mem_of_getElem? (i := 63) rfl)
theorem w64 {a0 : Array Value} {Z : State} (hw : ∀ d ∈ tables_1, d.before a0 Z = true) : ((Jvm.Cond.instanceMethod ({ cls := "com/example/oxpecker/oxpecker/sip/RawMessage$Header", name := "valueEnd", desc := "()I" } : Jvm.MethodName))).before a0 Z = true := hw _ (List.mem_of_getElem? (i := 64) rfl)
theorem w65 {a0 : Array Value} {Z : State} (hw : ∀ d ∈ tables_1, d.before a0 Z = true) : ((Jvm.Cond.selects "com/example/oxpecker/oxpecker/sip/RawMessage$Header" ({ cls := "com/example/oxpecker/oxpecker/sip/RawMessage$Header", name := "valueEnd", desc := "()I" } : Jvm.MethodName) ({ cls := "com/example/oxpecker/oxpecker/sip/RawMessage$Header", name := "valueEnd", desc := "()I" } : Jvm.MethodName))).before a0 Z = true := hw _ (List.mem_of_getElem? (i := 65) rfl)
theorem w66 {a0 : Array Value} {Z : State} (hw : ∀ d ∈ tables_1, d.before a0 Z = true) : ((Jvm.Cond.code ({ cls := "com/example/oxpecker/oxpecker/sip/RawMessage$Header", name := "valueEnd", desc := "()I" } : Jvm.MethodName) prog_13_method_7_code (1 : Nat) (Option.some Jvm.ClassFile.FieldType.int))).before a0 Z = true := hw _ (List.mem_of_getElem? (i := 66) rfl)
theorem w67 {a0 : Array Value} {Z : State} (hw : ∀ d ∈ tables_1, d.before a0 Z = true) : ((Jvm.Cond.methodLink "com/example/oxpecker/oxpecker/sip/RawMessageSecondValueStartPinLaw" (23 : Nat) ({ cls := "com/example/oxpecker/oxpecker/sip/RawMessageSecondValueStartPinLaw", name := "noComma", desc := "([BII)Z" } : Jvm.MethodName))).before a0 Z = true := hw _ (List.mem_of_getElem? (i := 67) rfl)
theorem w68 {a0 : Array Value} {Z : State} (hw : ∀ d ∈ tables_1, d.before a0 Z = true) : ((Jvm.Cond.static ({ cls := "com/example/oxpecker/oxpecker/sip/RawMessageSecondValueStartPinLaw", name := "noComma", desc := "([BII)Z" } : Jvm.MethodName))).before a0 Z = true := hw _ (List.mem_of_getElem? (i := 68) rfl)
theorem w69 {a0 : Array Value} {Z : State} (hw : ∀ d ∈ tables_1, d.before a0 Z = true) : ((Jvm.Cond.code ({ cls := "com/example/oxpecker/oxpecker/sip/RawMessageSecondValueStartPinLaw", name := "noComma", desc := "([BII)Z" } : Jvm.MethodName) method_6_code (3 : Nat) (Option.some Jvm.ClassFile.FieldType.boolean))).before a0 Z = true := hw _ (List.mem_of_getElem? (i := 69) rfl)
theorem w70 {a0 : Array Value} {Z : State} (hw : ∀ d ∈ tables_1, d.before a0 Z = true) : ((Jvm.Cond.methodLink "com/example/oxpecker/oxpecker/sip/RawMessageSecondValueStartPinLaw" (13 : Nat) ({ cls := "com/example/oxpecker/oxpecker/sip/RawMessageSecondValueStartPinLaw", name := "free", desc := "([BIII)Z" } : Jvm.MethodName))).before a0 Z = true := hw _ (List.mem_of_getElem? (i := 70) rfl)
theorem w71 {a0 : Array Value} {Z : State} (hw : ∀ d ∈ tables_1, d.before a0 Z = true) : ((Jvm.Cond.static ({ cls := "com/example/oxpecker/oxpecker/sip/RawMessageSecondValueStartPinLaw", name := "free", desc := "([BIII)Z" } : Jvm.MethodName))).before a0 Z = true := hw _ (List.mem_of_getElem? (i := 71) rfl)
theorem w72 {a0 : Array Value} {Z : State} (hw : ∀ d ∈ tables_1, d.before a0 Z = true) : ((Jvm.Cond.code ({ cls := "com/example/oxpecker/oxpecker/sip/RawMessageSecondValueStartPinLaw", name := "free", desc := "([BIII)Z" } : Jvm.MethodName) method_5_code (4 : Nat) (Option.some Jvm.ClassFile.FieldType.boolean))).before a0 Z = true := hw _ (List.mem_of_getElem? (i := 72) rfl)
theorem w73 {a0 : Array Value} {Z : State} (hw : ∀ d ∈ tables_1, d.before a0 Z = true) : ((Jvm.Cond.methodLink "com/example/oxpecker/oxpecker/sip/RawMessage" (90 : Nat) ({ cls := "com/example/oxpecker/oxpecker/sip/RawMessage", name := "skipBlanks", desc := "(I)I" } : Jvm.MethodName))).before a0 Z = true := hw _ (List.mem_of_getElem? (i := 73) rfl)
theorem w74 {a0 : Array Value} {Z : State} (hw : ∀ d ∈ tables_1, d.before a0 Z = true) : ((Jvm.Cond.instanceMethod ({ cls := "com/example/oxpecker/oxpecker/sip/RawMessage", name := "skipBlanks", desc := "(I)I" } : Jvm.MethodName))).before a0 Z = true := hw _ (List.mem_of_getElem? (i := 74) rfl)
theorem w75 {a0 : Array Value} {Z : State} (hw : ∀ d ∈ tables_1, d.before a0 Z = true) : ((Jvm.Cond.privateMethod ({ cls := "com/example/oxpecker/oxpecker/sip/RawMessage", name := "skipBlanks", desc := "(I)I" } : Jvm.MethodName))).before a0 Z = true := hw _ (List.mem_of_getElem? (i := 75) rfl)
theorem w76 {a0 : Array Value} {Z : State} (hw : ∀ d ∈ tables_1, d.before a0 Z = true) : ((Jvm.Cond.code ({ cls := "com/example/oxpecker/oxpecker/sip/RawMessage", name := "skipBlanks", desc := "(I)I" } : Jvm.MethodName) prog_12_method_14_code (3 : Nat) (Option.some Jvm.ClassFile.FieldType.int))).before a0 Z = true := hw _ (List.mem_of_getElem? (i := 76) rfl)
theorem w77 {a0 : Array Value} {Z : State} (hw : ∀ d ∈ tables_1, d.before a0 Z = true) : ((Jvm.Cond.methodLink "com/example/oxpecker/oxpecker/sip/RawMessageSecondValueStartPinLaw" (49 : Nat) ({ cls := "com/example/oxpecker/oxpecker/sip/RawMessageSecondValueStartPinLaw", name := "commaAt", desc := "([BIIII)Z" } : Jvm.MethodName))).before a0 Z = true := hw _ (List.mem_of_getElem? (i := 77) rfl)
theorem w78 {a0 : Array Value} {Z : State} (hw : ∀ d ∈ tables_1, d.before a0 Z = true) : ((Jvm.Cond.static ({ cls := "com/example/oxpecker/oxpecker/sip/RawMessageSecondValueStartPinLaw", name := "commaAt", desc := "([BIIII)Z" } : Jvm.MethodName))).before a0 Z = true := hw _ (List.mem_of_getElem? (i := 78) rfl)
theorem w79 {a0 : Array Value} {Z : State} (hw : ∀ d ∈ tables_1, d.before a0 Z = true) : ((Jvm.Cond.code ({ cls := "com/example/oxpecker/oxpecker/sip/RawMessageSecondValueStartPinLaw", name := "commaAt", desc := "([BIIII)Z" } : Jvm.MethodName) method_9_code (5 : Nat) (Option.some Jvm.ClassFile.FieldType.boolean))).before a0 Z = true := hw _ (List.mem_of_getElem? (i := 79) rfl)
theorem w80 {a0 : Array Value} {Z : State} (hw : ∀ d ∈ tables_1, d.before a0 Z = true) : ((Jvm.Cond.methodLink "com/example/oxpecker/oxpecker/sip/RawMessageSecondValueStartPinLaw" (7 : Nat) ({ cls := "com/example/oxpecker/oxpecker/sip/RawMessageSecondValueStartPinLaw", name := "isC", desc := "([BI)Z" } : Jvm.MethodName))).before a0 Z = true := hw _ (List.mem_of_getElem? (i := 80) rfl)
theorem w81 {a0 : Array Value} {Z : State} (hw : ∀ d ∈ tables_1, d.before a0 Z = true) : ((Jvm.Cond.static ({ cls := "com/example/oxpecker/oxpecker/sip/RawMessageSecondValueStartPinLaw", name := "isC", desc := "([BI)Z" } : Jvm.MethodName))).before a0 Z = true := hw _ (List.mem_of_getElem? (i := 81) rfl)
theorem w82 {a0 : Array Value} {Z : State} (hw : ∀ d ∈ tables_1, d.before a0 Z = true) : ((Jvm.Cond.code ({ cls := "com/example/oxpecker/oxpecker/sip/RawMessageSecondValueStartPinLaw", name := "isC", desc := "([BI)Z" } : Jvm.MethodName) method_3_code (2 : Nat) (Option.some Jvm.ClassFile.FieldType.boolean))).before a0 Z = true := hw _ (List.mem_of_getElem? (i := 82) rfl)
theorem w83 {a0 : Array Value} {Z : State} (hw : ∀ d ∈ tables_1, d.before a0 Z = true) : ((Jvm.Cond.methodLink "com/example/oxpecker/oxpecker/sip/RawMessageSecondValueStartPinLaw" (27 : Nat) ({ cls := "com/example/oxpecker/oxpecker/sip/RawMessageSecondValueStartPinLaw", name := "allBlank", desc := "([BII)Z" } : Jvm.MethodName))).before a0 Z = true := hw _ (List.mem_of_getElem? (i := 83) rfl)
theorem w84 {a0 : Array Value} {Z : State} (hw : ∀ d ∈ tables_1, d.before a0 Z = true) : ((Jvm.Cond.static ({ cls := "com/example/oxpecker/oxpecker/sip/RawMessageSecondValueStartPinLaw", name := "allBlank", desc := "([BII)Z" } : Jvm.MethodName))).before a0 Z = true := hw _ (List.mem_of_getElem? (i := 84) rfl)
theorem w85 {a0 : Array Value} {Z : State} (hw : ∀ d ∈ tables_1, d.before a0 Z = true) : ((Jvm.Cond.code ({ cls := "com/example/oxpecker/oxpecker/sip/RawMessageSecondValueStartPinLaw", name := "allBlank", desc := "([BII)Z" } : Jvm.MethodName) method_8_code (3 : Nat) (Option.some Jvm.ClassFile.FieldType.boolean))).before a0 Z = true := hw _ (List.mem_of_getElem? (i := 85) rfl)
theorem w86 {a0 : Array Value} {Z : State} (hw : ∀ d ∈ tables_1, d.before a0 Z = true) : ((Jvm.Cond.methodLink "com/example/oxpecker/oxpecker/sip/RawMessageSecondValueStartPinLaw" (20 : Nat) ({ cls := "com/example/oxpecker/oxpecker/sip/RawMessageSecondValueStartPinLaw", name := "blankOrOut", desc := "([BIII)Z" } : Jvm.MethodName))).before a0 Z = true := hw _ (List.mem_of_getElem? (i := 86) rfl)
theorem w87 {a0 : Array Value} {Z : State} (hw : ∀ d ∈ tables_1, d.before a0 Z = true) : ((Jvm.Cond.static ({ cls := "com/example/oxpecker/oxpecker/sip/RawMessageSecondValueStartPinLaw", name := "blankOrOut", desc := "([BIII)Z" } : Jvm.MethodName))).before a0 Z = true := hw _ (List.mem_of_getElem? (i := 87) rfl)
theorem w88 {a0 : Array Value} {Z : State} (hw : ∀ d ∈ tables_1, d.before a0 Z = true) : ((Jvm.Cond.code ({ cls := "com/example/oxpecker/oxpecker/sip/RawMessageSecondValueStartPinLaw", name := "blankOrOut", desc := "([BIII)Z" } : Jvm.MethodName) method_7_code (4 : Nat) (Option.some Jvm.ClassFile.FieldType.boolean))).before a0 Z = true := hw _ (List.mem_of_getElem? (i := 88) rfl)
theorem w89 {a0 : Array Value} {Z : State} (hw : ∀ d ∈ tables_1, d.before a0 Z = true) : ((Jvm.Cond.methodLink "com/example/oxpecker/oxpecker/sip/RawMessageSecondValueStartPinLaw" (17 : Nat) ({ cls := "com/example/oxpecker/oxpecker/sip/RawMessageSecondValueStartPinLaw", name := "isBl", desc := "([BI)Z" } : Jvm.MethodName))).before a0 Z = true := hw _ (List.mem_of_getElem? (i := 89) rfl)
theorem w90 {a0 : Array Value} {Z : State} (hw : ∀ d ∈ tables_1, d.before a0 Z = true) : ((Jvm.Cond.static ({ cls := "com/example/oxpecker/oxpecker/sip/RawMessageSecondValueStartPinLaw", name := "isBl", desc := "([BI)Z" } : Jvm.MethodName))).before a0 Z = true := hw _ (List.mem_of_getElem? (i := 90) rfl)
theorem w91 {a0 : Array Value} {Z : State} (hw : ∀ d ∈ tables_1, d.before a0 Z = true) : ((Jvm.Cond.code ({ cls := "com/example/oxpecker/oxpecker/sip/RawMessageSecondValueStartPinLaw", name := "isBl", desc := "([BI)Z" } : Jvm.MethodName) method_4_code (2 : Nat) (Option.some Jvm.ClassFile.FieldType.boolean))).before a0 Z = true := hw _ (List.mem_of_getElem? (i := 91) rfl)
theorem pn_com_example_oxpecker_oxpecker_sip_RawMessageSecondValueStartPinLaw : plainName "com/example/oxpecker/oxpecker/sip/RawMessageSecondValueStartPinLaw" = true := by first | (simp [plainName, overriddenIn]; done) | decide +kernel
theorem pn_com_example_oxpecker_oxpecker_sip_RawMessage : plainName "com/example/oxpecker/oxpecker/sip/RawMessage" = true := by first | (simp [plainName, overriddenIn]; done) | decide +kernel
theorem pn_java_lang_Record : plainName "java/lang/Record" = true := by first | (simp [plainName, overriddenIn]; done) | decide +kernel
theorem pn_com_example_oxpecker_oxpecker_sip_RawMessage_Header : plainName "com/example/oxpecker/oxpecker/sip/RawMessage$Header" = true := by first | (simp [plainName, overriddenIn]; done) | decide +kernel
theorem pd_0 : parseMethodDescriptor "(I)B" = some ⟨[.int], some .byte⟩ := by decide +kernel
theorem pd_1 : parseMethodDescriptor "(BI)I" = some ⟨[.byte, .int], some .int⟩ := by decide +kernel
theorem pd_2 : parseMethodDescriptor "([B)V" = some ⟨[(.array .byte)], none⟩ := by decide +kernel
theorem pd_3 : parseMethodDescriptor "()V" = some ⟨[], none⟩ := by decide +kernel
theorem pd_4 : parseMethodDescriptor "(IIII)V" = some ⟨[.int, .int, .int, .int], none⟩ := by decide +kernel
theorem pd_5 : parseMethodDescriptor "()I" = some ⟨[], some .int⟩ := by decide +kernel
theorem pd_6 : parseMethodDescriptor "(I)I" = some ⟨[.int], some .int⟩ := by decide +kernel
theorem pd_7 : parseMethodDescriptor "(Lcom/example/oxpecker/oxpecker/sip/RawMessage$Header;)I" = some ⟨[(.object "com/example/oxpecker/oxpecker/sip/RawMessage$Header")], some .int⟩ := by decide +kernel
theorem pd_8 : parseMethodDescriptor "([BI)Z" = some ⟨[(.array .byte), .int], some .boolean⟩ := by decide +kernel
theorem pd_9 : parseMethodDescriptor "([BIII)Z" = some ⟨[(.array .byte), .int, .int, .int], some .boolean⟩ := by decide +kernel
theorem pd_10 : parseMethodDescriptor "([BII)Z" = some ⟨[(.array .byte), .int, .int], some .boolean⟩ := by decide +kernel
theorem pd_11 : parseMethodDescriptor "([BIIII)Z" = some ⟨[(.array .byte), .int, .int, .int, .int], some .boolean⟩ := by decide +kernel
theorem dRawMessageSecondValueStartPinLaw_kind_0 : decode method_2_code 0 = .ok (.iload_n 0, 1) := by decide +kernel
theorem dRawMessageSecondValueStartPinLaw_kind_1 : decode method_2_code 1 = .ok (.bipush 7, 2) := by decide +kernel
theorem dRawMessageSecondValueStartPinLaw_kind_3 : decode method_2_code 3 = .ok (.iand, 1) := by decide +kernel
theorem dRawMessageSecondValueStartPinLaw_kind_4 : decode method_2_code 4 = .ok (.istore_n 1, 1) := by decide +kernel
theorem dRawMessageSecondValueStartPinLaw_kind_5 : decode method_2_code 5 = .ok (.iload_n 1, 1) := by decide +kernel
theorem dRawMessageSecondValueStartPinLaw_kind_6 : decode method_2_code 6 = .ok (.ifCond .ne 6, 3) := by decide +kernel
theorem dRawMessageSecondValueStartPinLaw_kind_9 : decode method_2_code 9 = .ok (.bipush 44, 2) := by decide +kernel
theorem dRawMessageSecondValueStartPinLaw_kind_11 : decode method_2_code 11 = .ok (.ireturn, 1) := by decide +kernel
theorem dRawMessageSecondValueStartPinLaw_kind_12 : decode method_2_code 12 = .ok (.iload_n 1, 1) := by decide +kernel
theorem dRawMessageSecondValueStartPinLaw_kind_13 : decode method_2_code 13 = .ok (.iconst 1, 1) := by decide +kernel
theorem dRawMessageSecondValueStartPinLaw_kind_14 : decode method_2_code 14 = .ok (.if_icmp .ne 6, 3) := by decide +kernel
theorem dRawMessageSecondValueStartPinLaw_kind_17 : decode method_2_code 17 = .ok (.bipush 32, 2) := by decide +kernel
theorem dRawMessageSecondValueStartPinLaw_kind_19 : decode method_2_code 19 = .ok (.ireturn, 1) := by decide +kernel
theorem dRawMessageSecondValueStartPinLaw_kind_20 : decode method_2_code 20 = .ok (.iload_n 1, 1) := by decide +kernel
theorem dRawMessageSecondValueStartPinLaw_kind_21 : decode method_2_code 21 = .ok (.iconst 2, 1) := by decide +kernel
theorem dRawMessageSecondValueStartPinLaw_kind_22 : decode method_2_code 22 = .ok (.if_icmp .ne 6, 3) := by decide +kernel
theorem dRawMessageSecondValueStartPinLaw_kind_25 : decode method_2_code 25 = .ok (.bipush 9, 2) := by decide +kernel
theorem dRawMessageSecondValueStartPinLaw_kind_27 : decode method_2_code 27 = .ok (.ireturn, 1) := by decide +kernel
theorem dRawMessageSecondValueStartPinLaw_kind_28 : decode method_2_code 28 = .ok (.iload_n 1, 1) := by decide +kernel
theorem dRawMessageSecondValueStartPinLaw_kind_29 : decode method_2_code 29 = .ok (.iconst 3, 1) := by decide +kernel
theorem dRawMessageSecondValueStartPinLaw_kind_30 : decode method_2_code 30 = .ok (.if_icmp .ne 6, 3) := by decide +kernel
theorem dRawMessageSecondValueStartPinLaw_kind_33 : decode method_2_code 33 = .ok (.bipush 120, 2) := by decide +kernel
theorem dRawMessageSecondValueStartPinLaw_kind_35 : decode method_2_code 35 = .ok (.ireturn, 1) := by decide +kernel
theorem dRawMessageSecondValueStartPinLaw_kind_36 : decode method_2_code 36 = .ok (.iload_n 1, 1) := by decide +kernel
theorem dRawMessageSecondValueStartPinLaw_kind_37 : decode method_2_code 37 = .ok (.iconst 4, 1) := by decide +kernel
theorem dRawMessageSecondValueStartPinLaw_kind_38 : decode method_2_code 38 = .ok (.if_icmp .ne 6, 3) := by decide +kernel
theorem dRawMessageSecondValueStartPinLaw_kind_41 : decode method_2_code 41 = .ok (.bipush 13, 2) := by decide +kernel
theorem dRawMessageSecondValueStartPinLaw_kind_43 : decode method_2_code 43 = .ok (.ireturn, 1) := by decide +kernel
theorem dRawMessageSecondValueStartPinLaw_kind_44 : decode method_2_code 44 = .ok (.iload_n 1, 1) := by decide +kernel
theorem dRawMessageSecondValueStartPinLaw_kind_45 : decode method_2_code 45 = .ok (.iconst 5, 1) := by decide +kernel
theorem dRawMessageSecondValueStartPinLaw_kind_46 : decode method_2_code 46 = .ok (.if_icmp .ne 6, 3) := by decide +kernel
theorem dRawMessageSecondValueStartPinLaw_kind_49 : decode method_2_code 49 = .ok (.bipush 10, 2) := by decide +kernel
theorem dRawMessageSecondValueStartPinLaw_kind_51 : decode method_2_code 51 = .ok (.ireturn, 1) := by decide +kernel
theorem dRawMessageSecondValueStartPinLaw_kind_52 : decode method_2_code 52 = .ok (.iload_n 1, 1) := by decide +kernel
theorem dRawMessageSecondValueStartPinLaw_kind_53 : decode method_2_code 53 = .ok (.bipush 6, 2) := by decide +kernel
theorem dRawMessageSecondValueStartPinLaw_kind_55 : decode method_2_code 55 = .ok (.if_icmp .ne 6, 3) := by decide +kernel
theorem dRawMessageSecondValueStartPinLaw_kind_58 : decode method_2_code 58 = .ok (.bipush 59, 2) := by decide +kernel
theorem dRawMessageSecondValueStartPinLaw_kind_60 : decode method_2_code 60 = .ok (.ireturn, 1) := by decide +kernel
theorem dRawMessageSecondValueStartPinLaw_kind_61 : decode method_2_code 61 = .ok (.bipush (-84), 2) := by decide +kernel
theorem dRawMessageSecondValueStartPinLaw_kind_63 : decode method_2_code 63 = .ok (.ireturn, 1) := by decide +kernel
theorem dRawMessage_mk_0 : decode prog_12_method_1_code 0 = .ok (.aload_n 0, 1) := by decide +kernel
theorem dRawMessage_mk_1 : decode prog_12_method_1_code 1 = .ok (.invokespecial 1, 3) := by decide +kernel
theorem dRawMessage_mk_4 : decode prog_12_method_1_code 4 = .ok (.aload_n 0, 1) := by decide +kernel
theorem dRawMessage_mk_5 : decode prog_12_method_1_code 5 = .ok (.aload_n 1, 1) := by decide +kernel
theorem dRawMessage_mk_6 : decode prog_12_method_1_code 6 = .ok (.putfield 7, 3) := by decide +kernel
theorem dRawMessage_mk_9 : decode prog_12_method_1_code 9 = .ok (.bipush 16, 2) := by decide +kernel
theorem dRawMessage_mk_11 : decode prog_12_method_1_code 11 = .ok (.newarray .int, 2) := by decide +kernel
theorem dRawMessage_mk_13 : decode prog_12_method_1_code 13 = .ok (.astore_n 2, 1) := by decide +kernel
theorem dRawMessage_mk_14 : decode prog_12_method_1_code 14 = .ok (.bipush 16, 2) := by decide +kernel
theorem dRawMessage_mk_16 : decode prog_12_method_1_code 16 = .ok (.newarray .int, 2) := by decide +kernel
theorem dRawMessage_mk_18 : decode prog_12_method_1_code 18 = .ok (.astore_n 3, 1) := by decide +kernel
theorem dRawMessage_mk_19 : decode prog_12_method_1_code 19 = .ok (.bipush 16, 2) := by decide +kernel
theorem dRawMessage_mk_21 : decode prog_12_method_1_code 21 = .ok (.newarray .int, 2) := by decide +kernel
theorem dRawMessage_mk_23 : decode prog_12_method_1_code 23 = .ok (.astore 4, 2) := by decide +kernel
theorem dRawMessage_mk_25 : decode prog_12_method_1_code 25 = .ok (.iconst 0, 1) := by decide +kernel
theorem dRawMessage_mk_26 : decode prog_12_method_1_code 26 = .ok (.istore 5, 2) := by decide +kernel
theorem dRawMessage_mk_28 : decode prog_12_method_1_code 28 = .ok (.iconst (-1), 1) := by decide +kernel
theorem dRawMessage_mk_29 : decode prog_12_method_1_code 29 = .ok (.istore 6, 2) := by decide +kernel
theorem dRawMessage_mk_31 : decode prog_12_method_1_code 31 = .ok (.iconst 0, 1) := by decide +kernel
theorem dRawMessage_mk_32 : decode prog_12_method_1_code 32 = .ok (.istore 7, 2) := by decide +kernel
theorem dRawMessage_mk_34 : decode prog_12_method_1_code 34 = .ok (.iload 7, 2) := by decide +kernel
theorem dRawMessage_mk_36 : decode prog_12_method_1_code 36 = .ok (.aload_n 1, 1) := by decide +kernel
theorem dRawMessage_mk_37 : decode prog_12_method_1_code 37 = .ok (.arraylength, 1) := by decide +kernel
theorem dRawMessage_mk_38 : decode prog_12_method_1_code 38 = .ok (.if_icmp .ge 184, 3) := by decide +kernel
theorem dRawMessage_mk_41 : decode prog_12_method_1_code 41 = .ok (.aload_n 0, 1) := by decide +kernel
theorem dRawMessage_mk_42 : decode prog_12_method_1_code 42 = .ok (.bipush 10, 2) := by decide +kernel
theorem dRawMessage_mk_44 : decode prog_12_method_1_code 44 = .ok (.iload 7, 2) := by decide +kernel
theorem dRawMessage_mk_46 : decode prog_12_method_1_code 46 = .ok (.invokevirtual 13, 3) := by decide +kernel
theorem dRawMessage_mk_49 : decode prog_12_method_1_code 49 = .ok (.istore 8, 2) := by decide +kernel
theorem dRawMessage_mk_51 : decode prog_12_method_1_code 51 = .ok (.iload 8, 2) := by decide +kernel
theorem dRawMessage_mk_53 : decode prog_12_method_1_code 53 = .ok (.ifCond .ge 8, 3) := by decide +kernel
theorem dRawMessage_mk_56 : decode prog_12_method_1_code 56 = .ok (.aload_n 1, 1) := by decide +kernel
theorem dRawMessage_mk_57 : decode prog_12_method_1_code 57 = .ok (.arraylength, 1) := by decide +kernel
theorem dRawMessage_mk_58 : decode prog_12_method_1_code 58 = .ok (.goto 5, 3) := by decide +kernel
theorem dRawMessage_mk_61 : decode prog_12_method_1_code 61 = .ok (.iload 8, 2) := by decide +kernel
theorem dRawMessage_mk_63 : decode prog_12_method_1_code 63 = .ok (.istore 9, 2) := by decide +kernel
theorem dRawMessage_mk_65 : decode prog_12_method_1_code 65 = .ok (.iload 9, 2) := by decide +kernel
theorem dRawMessage_mk_67 : decode prog_12_method_1_code 67 = .ok (.iload 7, 2) := by decide +kernel
theorem dRawMessage_mk_69 : decode prog_12_method_1_code 69 = .ok (.if_icmp .eq 21, 3) := by decide +kernel
theorem dRawMessage_mk_72 : decode prog_12_method_1_code 72 = .ok (.iload 9, 2) := by decide +kernel
theorem dRawMessage_mk_74 : decode prog_12_method_1_code 74 = .ok (.iload 7, 2) := by decide +kernel
theorem dRawMessage_mk_76 : decode prog_12_method_1_code 76 = .ok (.iconst 1, 1) := by decide +kernel
theorem dRawMessage_mk_77 : decode prog_12_method_1_code 77 = .ok (.iadd, 1) := by decide +kernel
theorem dRawMessage_mk_78 : decode prog_12_method_1_code 78 = .ok (.if_icmp .ne 30, 3) := by decide +kernel
theorem dRawMessage_mk_81 : decode prog_12_method_1_code 81 = .ok (.aload_n 1, 1) := by decide +kernel
theorem dRawMessage_mk_82 : decode prog_12_method_1_code 82 = .ok (.iload 7, 2) := by decide +kernel
theorem dRawMessage_mk_84 : decode prog_12_method_1_code 84 = .ok (.baload, 1) := by decide +kernel
theorem dRawMessage_mk_85 : decode prog_12_method_1_code 85 = .ok (.bipush 13, 2) := by decide +kernel
theorem dRawMessage_mk_87 : decode prog_12_method_1_code 87 = .ok (.if_icmp .ne 21, 3) := by decide +kernel
theorem dRawMessage_mk_90 : decode prog_12_method_1_code 90 = .ok (.iload 8, 2) := by decide +kernel
theorem dRawMessage_mk_92 : decode prog_12_method_1_code 92 = .ok (.ifCond .ge 7, 3) := by decide +kernel
theorem dRawMessage_mk_95 : decode prog_12_method_1_code 95 = .ok (.iconst (-1), 1) := by decide +kernel
theorem dRawMessage_mk_96 : decode prog_12_method_1_code 96 = .ok (.goto 7, 3) := by decide +kernel
theorem dRawMessage_mk_99 : decode prog_12_method_1_code 99 = .ok (.iload 8, 2) := by decide +kernel
theorem dRawMessage_mk_101 : decode prog_12_method_1_code 101 = .ok (.iconst 1, 1) := by decide +kernel
theorem dRawMessage_mk_102 : decode prog_12_method_1_code 102 = .ok (.iadd, 1) := by decide +kernel
theorem dRawMessage_mk_103 : decode prog_12_method_1_code 103 = .ok (.istore 6, 2) := by decide +kernel
theorem dRawMessage_mk_105 : decode prog_12_method_1_code 105 = .ok (.goto 117, 3) := by decide +kernel
theorem dRawMessage_mk_108 : decode prog_12_method_1_code 108 = .ok (.iload 5, 2) := by decide +kernel
theorem dRawMessage_mk_110 : decode prog_12_method_1_code 110 = .ok (.aload_n 2, 1) := by decide +kernel
theorem dRawMessage_mk_111 : decode prog_12_method_1_code 111 = .ok (.arraylength, 1) := by decide +kernel
theorem dRawMessage_mk_112 : decode prog_12_method_1_code 112 = .ok (.if_icmp .ne 32, 3) := by decide +kernel
theorem dRawMessage_mk_115 : decode prog_12_method_1_code 115 = .ok (.aload_n 2, 1) := by decide +kernel
theorem dRawMessage_mk_116 : decode prog_12_method_1_code 116 = .ok (.iconst 2, 1) := by decide +kernel
theorem dRawMessage_mk_117 : decode prog_12_method_1_code 117 = .ok (.iload 5, 2) := by decide +kernel
theorem dRawMessage_mk_119 : decode prog_12_method_1_code 119 = .ok (.imul, 1) := by decide +kernel
theorem dRawMessage_mk_120 : decode prog_12_method_1_code 120 = .ok (.invokestatic 17, 3) := by decide +kernel
theorem dRawMessage_mk_144 : decode prog_12_method_1_code 144 = .ok (.iload 7, 2) := by decide +kernel
theorem dRawMessage_mk_146 : decode prog_12_method_1_code 146 = .ok (.istore 10, 2) := by decide +kernel
theorem dRawMessage_mk_148 : decode prog_12_method_1_code 148 = .ok (.iload 10, 2) := by decide +kernel
theorem dRawMessage_mk_150 : decode prog_12_method_1_code 150 = .ok (.iload 9, 2) := by decide +kernel
theorem dRawMessage_mk_152 : decode prog_12_method_1_code 152 = .ok (.if_icmp .ge 36, 3) := by decide +kernel
theorem dRawMessage_mk_155 : decode prog_12_method_1_code 155 = .ok (.aload_n 1, 1) := by decide +kernel
theorem dRawMessage_mk_156 : decode prog_12_method_1_code 156 = .ok (.iload 10, 2) := by decide +kernel
theorem dRawMessage_mk_158 : decode prog_12_method_1_code 158 = .ok (.baload, 1) := by decide +kernel
theorem dRawMessage_mk_159 : decode prog_12_method_1_code 159 = .ok (.bipush 58, 2) := by decide +kernel
theorem dRawMessage_mk_161 : decode prog_12_method_1_code 161 = .ok (.if_icmp .eq 27, 3) := by decide +kernel
theorem dRawMessage_mk_164 : decode prog_12_method_1_code 164 = .ok (.aload_n 1, 1) := by decide +kernel
theorem dRawMessage_mk_165 : decode prog_12_method_1_code 165 = .ok (.iload 10, 2) := by decide +kernel
theorem dRawMessage_mk_167 : decode prog_12_method_1_code 167 = .ok (.baload, 1) := by decide +kernel
theorem dRawMessage_mk_168 : decode prog_12_method_1_code 168 = .ok (.bipush 32, 2) := by decide +kernel
theorem dRawMessage_mk_170 : decode prog_12_method_1_code 170 = .ok (.if_icmp .eq 18, 3) := by decide +kernel
theorem dRawMessage_mk_173 : decode prog_12_method_1_code 173 = .ok (.aload_n 1, 1) := by decide +kernel
theorem dRawMessage_mk_174 : decode prog_12_method_1_code 174 = .ok (.iload 10, 2) := by decide +kernel
theorem dRawMessage_mk_176 : decode prog_12_method_1_code 176 = .ok (.baload, 1) := by decide +kernel
theorem dRawMessage_mk_177 : decode prog_12_method_1_code 177 = .ok (.bipush 9, 2) := by decide +kernel
theorem dRawMessage_mk_179 : decode prog_12_method_1_code 179 = .ok (.if_icmp .eq 9, 3) := by decide +kernel
theorem dRawMessage_mk_182 : decode prog_12_method_1_code 182 = .ok (.iinc 10 1, 3) := by decide +kernel
theorem dRawMessage_mk_185 : decode prog_12_method_1_code 185 = .ok (.goto (-37), 3) := by decide +kernel
theorem dRawMessage_mk_188 : decode prog_12_method_1_code 188 = .ok (.aload_n 2, 1) := by decide +kernel
theorem dRawMessage_mk_189 : decode prog_12_method_1_code 189 = .ok (.iload 5, 2) := by decide +kernel
theorem dRawMessage_mk_191 : decode prog_12_method_1_code 191 = .ok (.iload 7, 2) := by decide +kernel
theorem dRawMessage_mk_193 : decode prog_12_method_1_code 193 = .ok (.iastore, 1) := by decide +kernel
theorem dRawMessage_mk_194 : decode prog_12_method_1_code 194 = .ok (.aload_n 3, 1) := by decide +kernel
theorem dRawMessage_mk_195 : decode prog_12_method_1_code 195 = .ok (.iload 5, 2) := by decide +kernel
theorem dRawMessage_mk_197 : decode prog_12_method_1_code 197 = .ok (.iload 9, 2) := by decide +kernel
theorem dRawMessage_mk_199 : decode prog_12_method_1_code 199 = .ok (.iastore, 1) := by decide +kernel
theorem dRawMessage_mk_200 : decode prog_12_method_1_code 200 = .ok (.aload 4, 2) := by decide +kernel
theorem dRawMessage_mk_202 : decode prog_12_method_1_code 202 = .ok (.iload 5, 2) := by decide +kernel
theorem dRawMessage_mk_204 : decode prog_12_method_1_code 204 = .ok (.iload 10, 2) := by decide +kernel
theorem dRawMessage_mk_206 : decode prog_12_method_1_code 206 = .ok (.iload 7, 2) := by decide +kernel
theorem dRawMessage_mk_208 : decode prog_12_method_1_code 208 = .ok (.isub, 1) := by decide +kernel
theorem dRawMessage_mk_209 : decode prog_12_method_1_code 209 = .ok (.iastore, 1) := by decide +kernel
theorem dRawMessage_mk_210 : decode prog_12_method_1_code 210 = .ok (.iinc 5 1, 3) := by decide +kernel
theorem dRawMessage_mk_213 : decode prog_12_method_1_code 213 = .ok (.iload 9, 2) := by decide +kernel
theorem dRawMessage_mk_215 : decode prog_12_method_1_code 215 = .ok (.iconst 1, 1) := by decide +kernel
theorem dRawMessage_mk_216 : decode prog_12_method_1_code 216 = .ok (.iadd, 1) := by decide +kernel
theorem dRawMessage_mk_217 : decode prog_12_method_1_code 217 = .ok (.istore 7, 2) := by decide +kernel
theorem dRawMessage_mk_219 : decode prog_12_method_1_code 219 = .ok (.goto (-185), 3) := by decide +kernel
theorem dRawMessage_mk_222 : decode prog_12_method_1_code 222 = .ok (.aload_n 0, 1) := by decide +kernel
theorem dRawMessage_mk_223 : decode prog_12_method_1_code 223 = .ok (.aload_n 2, 1) := by decide +kernel
theorem dRawMessage_mk_224 : decode prog_12_method_1_code 224 = .ok (.putfield 23, 3) := by decide +kernel
theorem dRawMessage_mk_227 : decode prog_12_method_1_code 227 = .ok (.aload_n 0, 1) := by decide +kernel
theorem dRawMessage_mk_228 : decode prog_12_method_1_code 228 = .ok (.aload_n 3, 1) := by decide +kernel
theorem dRawMessage_mk_229 : decode prog_12_method_1_code 229 = .ok (.putfield 27, 3) := by decide +kernel
theorem dRawMessage_mk_232 : decode prog_12_method_1_code 232 = .ok (.aload_n 0, 1) := by decide +kernel
theorem dRawMessage_mk_233 : decode prog_12_method_1_code 233 = .ok (.aload 4, 2) := by decide +kernel
theorem dRawMessage_mk_235 : decode prog_12_method_1_code 235 = .ok (.putfield 30, 3) := by decide +kernel
theorem dRawMessage_mk_238 : decode prog_12_method_1_code 238 = .ok (.aload_n 0, 1) := by decide +kernel
theorem dRawMessage_mk_239 : decode prog_12_method_1_code 239 = .ok (.iload 5, 2) := by decide +kernel
theorem dRawMessage_mk_241 : decode prog_12_method_1_code 241 = .ok (.putfield 33, 3) := by decide +kernel
theorem dRawMessage_mk_244 : decode prog_12_method_1_code 244 = .ok (.aload_n 0, 1) := by decide +kernel
theorem dRawMessage_mk_245 : decode prog_12_method_1_code 245 = .ok (.iload 6, 2) := by decide +kernel
theorem dRawMessage_mk_247 : decode prog_12_method_1_code 247 = .ok (.putfield 37, 3) := by decide +kernel
theorem dRawMessage_mk_250 : decode prog_12_method_1_code 250 = .ok (.return_, 1) := by decide +kernel
theorem dRawMessage_indexOf_0 : decode prog_12_method_17_code 0 = .ok (.iload_n 2, 1) := by decide +kernel
theorem dRawMessage_indexOf_1 : decode prog_12_method_17_code 1 = .ok (.istore_n 3, 1) := by decide +kernel
theorem dRawMessage_indexOf_2 : decode prog_12_method_17_code 2 = .ok (.iload_n 3, 1) := by decide +kernel
theorem dRawMessage_indexOf_3 : decode prog_12_method_17_code 3 = .ok (.aload_n 0, 1) := by decide +kernel
theorem dRawMessage_indexOf_4 : decode prog_12_method_17_code 4 = .ok (.getfield 7, 3) := by decide +kernel
theorem dRawMessage_indexOf_7 : decode prog_12_method_17_code 7 = .ok (.arraylength, 1) := by decide +kernel
theorem dRawMessage_indexOf_8 : decode prog_12_method_17_code 8 = .ok (.if_icmp .ge 21, 3) := by decide +kernel
theorem dRawMessage_indexOf_11 : decode prog_12_method_17_code 11 = .ok (.aload_n 0, 1) := by decide +kernel
theorem dRawMessage_indexOf_12 : decode prog_12_method_17_code 12 = .ok (.getfield 7, 3) := by decide +kernel
theorem dRawMessage_indexOf_15 : decode prog_12_method_17_code 15 = .ok (.iload_n 3, 1) := by decide +kernel
theorem dRawMessage_indexOf_16 : decode prog_12_method_17_code 16 = .ok (.baload, 1) := by decide +kernel
theorem dRawMessage_indexOf_17 : decode prog_12_method_17_code 17 = .ok (.iload_n 1, 1) := by decide +kernel
theorem dRawMessage_indexOf_18 : decode prog_12_method_17_code 18 = .ok (.if_icmp .ne 5, 3) := by decide +kernel
theorem dRawMessage_indexOf_21 : decode prog_12_method_17_code 21 = .ok (.iload_n 3, 1) := by decide +kernel
theorem dRawMessage_indexOf_22 : decode prog_12_method_17_code 22 = .ok (.ireturn, 1) := by decide +kernel
theorem dRawMessage_indexOf_23 : decode prog_12_method_17_code 23 = .ok (.iinc 3 1, 3) := by decide +kernel
theorem dRawMessage_indexOf_26 : decode prog_12_method_17_code 26 = .ok (.goto (-24), 3) := by decide +kernel
theorem dRawMessage_indexOf_29 : decode prog_12_method_17_code 29 = .ok (.iconst (-1), 1) := by decide +kernel
theorem dRawMessage_indexOf_30 : decode prog_12_method_17_code 30 = .ok (.ireturn, 1) := by decide +kernel
theorem dHeader_mk_0 : decode prog_13_method_1_code 0 = .ok (.aload_n 0, 1) := by decide +kernel
theorem dHeader_mk_1 : decode prog_13_method_1_code 1 = .ok (.invokespecial 1, 3) := by decide +kernel
theorem dHeader_mk_4 : decode prog_13_method_1_code 4 = .ok (.aload_n 0, 1) := by decide +kernel
theorem dHeader_mk_5 : decode prog_13_method_1_code 5 = .ok (.iload_n 1, 1) := by decide +kernel
theorem dHeader_mk_6 : decode prog_13_method_1_code 6 = .ok (.putfield 7, 3) := by decide +kernel
theorem dHeader_mk_9 : decode prog_13_method_1_code 9 = .ok (.aload_n 0, 1) := by decide +kernel
theorem dHeader_mk_10 : decode prog_13_method_1_code 10 = .ok (.iload_n 2, 1) := by decide +kernel
theorem dHeader_mk_11 : decode prog_13_method_1_code 11 = .ok (.putfield 13, 3) := by decide +kernel
theorem dHeader_mk_14 : decode prog_13_method_1_code 14 = .ok (.aload_n 0, 1) := by decide +kernel
theorem dHeader_mk_15 : decode prog_13_method_1_code 15 = .ok (.iload_n 3, 1) := by decide +kernel
theorem dHeader_mk_16 : decode prog_13_method_1_code 16 = .ok (.putfield 16, 3) := by decide +kernel
theorem dHeader_mk_19 : decode prog_13_method_1_code 19 = .ok (.aload_n 0, 1) := by decide +kernel
theorem dHeader_mk_20 : decode prog_13_method_1_code 20 = .ok (.iload 4, 2) := by decide +kernel
theorem dHeader_mk_22 : decode prog_13_method_1_code 22 = .ok (.putfield 19, 3) := by decide +kernel
theorem dHeader_mk_25 : decode prog_13_method_1_code 25 = .ok (.return_, 1) := by decide +kernel
theorem dRecord_mk_0 : decode jdk_30_method_1_code 0 = .ok (.aload_n 0, 1) := by decide +kernel
theorem dRecord_mk_1 : decode jdk_30_method_1_code 1 = .ok (.invokespecial 1, 3) := by decide +kernel
theorem dRecord_mk_4 : decode jdk_30_method_1_code 4 = .ok (.return_, 1) := by decide +kernel
theorem dRawMessage_secondValueStart_0 : decode prog_12_method_9_code 0 = .ok (.aload_n 0, 1) := by decide +kernel
theorem dRawMessage_secondValueStart_1 : decode prog_12_method_9_code 1 = .ok (.bipush 44, 2) := by decide +kernel
theorem dRawMessage_secondValueStart_3 : decode prog_12_method_9_code 3 = .ok (.aload_n 1, 1) := by decide +kernel
theorem dRawMessage_secondValueStart_4 : decode prog_12_method_9_code 4 = .ok (.invokevirtual 84, 3) := by decide +kernel
theorem dRawMessage_secondValueStart_7 : decode prog_12_method_9_code 7 = .ok (.invokevirtual 13, 3) := by decide +kernel
theorem dRawMessage_secondValueStart_10 : decode prog_12_method_9_code 10 = .ok (.istore_n 2, 1) := by decide +kernel
theorem dRawMessage_secondValueStart_11 : decode prog_12_method_9_code 11 = .ok (.iload_n 2, 1) := by decide +kernel
theorem dRawMessage_secondValueStart_12 : decode prog_12_method_9_code 12 = .ok (.ifCond .lt 11, 3) := by decide +kernel
theorem dRawMessage_secondValueStart_15 : decode prog_12_method_9_code 15 = .ok (.iload_n 2, 1) := by decide +kernel
theorem dRawMessage_secondValueStart_16 : decode prog_12_method_9_code 16 = .ok (.aload_n 1, 1) := by decide +kernel
theorem dRawMessage_secondValueStart_17 : decode prog_12_method_9_code 17 = .ok (.invokevirtual 87, 3) := by decide +kernel
theorem dRawMessage_secondValueStart_20 : decode prog_12_method_9_code 20 = .ok (.if_icmp .lt 5, 3) := by decide +kernel
theorem dRawMessage_secondValueStart_23 : decode prog_12_method_9_code 23 = .ok (.iconst (-1), 1) := by decide +kernel
theorem dRawMessage_secondValueStart_24 : decode prog_12_method_9_code 24 = .ok (.ireturn, 1) := by decide +kernel
theorem dRawMessage_secondValueStart_25 : decode prog_12_method_9_code 25 = .ok (.aload_n 0, 1) := by decide +kernel
theorem dRawMessage_secondValueStart_26 : decode prog_12_method_9_code 26 = .ok (.iload_n 2, 1) := by decide +kernel
theorem dRawMessage_secondValueStart_27 : decode prog_12_method_9_code 27 = .ok (.iconst 1, 1) := by decide +kernel
theorem dRawMessage_secondValueStart_28 : decode prog_12_method_9_code 28 = .ok (.iadd, 1) := by decide +kernel
theorem dRawMessage_secondValueStart_29 : decode prog_12_method_9_code 29 = .ok (.invokevirtual 90, 3) := by decide +kernel
theorem dRawMessage_secondValueStart_32 : decode prog_12_method_9_code 32 = .ok (.ireturn, 1) := by decide +kernel
theorem dHeader_valueStart_0 : decode prog_13_method_6_code 0 = .ok (.aload_n 0, 1) := by decide +kernel
theorem dHeader_valueStart_1 : decode prog_13_method_6_code 1 = .ok (.getfield 13, 3) := by decide +kernel
theorem dHeader_valueStart_4 : decode prog_13_method_6_code 4 = .ok (.ireturn, 1) := by decide +kernel
theorem dHeader_valueEnd_0 : decode prog_13_method_7_code 0 = .ok (.aload_n 0, 1) := by decide +kernel
theorem dHeader_valueEnd_1 : decode prog_13_method_7_code 1 = .ok (.getfield 16, 3) := by decide +kernel
theorem dHeader_valueEnd_4 : decode prog_13_method_7_code 4 = .ok (.ireturn, 1) := by decide +kernel
theorem dRawMessage_skipBlanks_0 : decode prog_12_method_14_code 0 = .ok (.iload_n 1, 1) := by decide +kernel
theorem dRawMessage_skipBlanks_1 : decode prog_12_method_14_code 1 = .ok (.istore_n 2, 1) := by decide +kernel
theorem dRawMessage_skipBlanks_2 : decode prog_12_method_14_code 2 = .ok (.iload_n 2, 1) := by decide +kernel
theorem dRawMessage_skipBlanks_3 : decode prog_12_method_14_code 3 = .ok (.aload_n 0, 1) := by decide +kernel
theorem dRawMessage_skipBlanks_4 : decode prog_12_method_14_code 4 = .ok (.getfield 7, 3) := by decide +kernel
theorem dRawMessage_skipBlanks_7 : decode prog_12_method_14_code 7 = .ok (.arraylength, 1) := by decide +kernel
theorem dRawMessage_skipBlanks_8 : decode prog_12_method_14_code 8 = .ok (.if_icmp .ge 31, 3) := by decide +kernel
theorem dRawMessage_skipBlanks_11 : decode prog_12_method_14_code 11 = .ok (.aload_n 0, 1) := by decide +kernel
theorem dRawMessage_skipBlanks_12 : decode prog_12_method_14_code 12 = .ok (.getfield 7, 3) := by decide +kernel
theorem dRawMessage_skipBlanks_15 : decode prog_12_method_14_code 15 = .ok (.iload_n 2, 1) := by decide +kernel
theorem dRawMessage_skipBlanks_16 : decode prog_12_method_14_code 16 = .ok (.baload, 1) := by decide +kernel
theorem dRawMessage_skipBlanks_17 : decode prog_12_method_14_code 17 = .ok (.bipush 32, 2) := by decide +kernel
theorem dRawMessage_skipBlanks_19 : decode prog_12_method_14_code 19 = .ok (.if_icmp .eq 14, 3) := by decide +kernel
theorem dRawMessage_skipBlanks_22 : decode prog_12_method_14_code 22 = .ok (.aload_n 0, 1) := by decide +kernel
theorem dRawMessage_skipBlanks_23 : decode prog_12_method_14_code 23 = .ok (.getfield 7, 3) := by decide +kernel
theorem dRawMessage_skipBlanks_26 : decode prog_12_method_14_code 26 = .ok (.iload_n 2, 1) := by decide +kernel
theorem dRawMessage_skipBlanks_27 : decode prog_12_method_14_code 27 = .ok (.baload, 1) := by decide +kernel
theorem dRawMessage_skipBlanks_28 : decode prog_12_method_14_code 28 = .ok (.bipush 9, 2) := by decide +kernel
theorem dRawMessage_skipBlanks_30 : decode prog_12_method_14_code 30 = .ok (.if_icmp .ne 9, 3) := by decide +kernel
theorem dRawMessage_skipBlanks_33 : decode prog_12_method_14_code 33 = .ok (.iinc 2 1, 3) := by decide +kernel
theorem dRawMessage_skipBlanks_36 : decode prog_12_method_14_code 36 = .ok (.goto (-34), 3) := by decide +kernel
theorem dRawMessage_skipBlanks_39 : decode prog_12_method_14_code 39 = .ok (.iload_n 2, 1) := by decide +kernel
theorem dRawMessage_skipBlanks_40 : decode prog_12_method_14_code 40 = .ok (.ireturn, 1) := by decide +kernel
theorem dRawMessageSecondValueStartPinLaw_noComma_0 : decode method_6_code 0 = .ok (.aload_n 0, 1) := by decide +kernel
theorem dRawMessageSecondValueStartPinLaw_noComma_1 : decode method_6_code 1 = .ok (.iconst 0, 1) := by decide +kernel
theorem dRawMessageSecondValueStartPinLaw_noComma_2 : decode method_6_code 2 = .ok (.iload_n 1, 1) := by decide +kernel
theorem dRawMessageSecondValueStartPinLaw_noComma_3 : decode method_6_code 3 = .ok (.iload_n 2, 1) := by decide +kernel
theorem dRawMessageSecondValueStartPinLaw_noComma_4 : decode method_6_code 4 = .ok (.invokestatic 13, 3) := by decide +kernel
theorem dRawMessageSecondValueStartPinLaw_noComma_7 : decode method_6_code 7 = .ok (.ifCond .eq 57, 3) := by decide +kernel
theorem dRawMessageSecondValueStartPinLaw_noComma_10 : decode method_6_code 10 = .ok (.aload_n 0, 1) := by decide +kernel
theorem dRawMessageSecondValueStartPinLaw_noComma_11 : decode method_6_code 11 = .ok (.iconst 1, 1) := by decide +kernel
theorem dRawMessageSecondValueStartPinLaw_noComma_12 : decode method_6_code 12 = .ok (.iload_n 1, 1) := by decide +kernel
theorem dRawMessageSecondValueStartPinLaw_noComma_13 : decode method_6_code 13 = .ok (.iload_n 2, 1) := by decide +kernel
theorem dRawMessageSecondValueStartPinLaw_noComma_14 : decode method_6_code 14 = .ok (.invokestatic 13, 3) := by decide +kernel
theorem dRawMessageSecondValueStartPinLaw_noComma_17 : decode method_6_code 17 = .ok (.ifCond .eq 47, 3) := by decide +kernel
theorem dRawMessageSecondValueStartPinLaw_noComma_20 : decode method_6_code 20 = .ok (.aload_n 0, 1) := by decide +kernel
theorem dRawMessageSecondValueStartPinLaw_noComma_21 : decode method_6_code 21 = .ok (.iconst 2, 1) := by decide +kernel
theorem dRawMessageSecondValueStartPinLaw_noComma_22 : decode method_6_code 22 = .ok (.iload_n 1, 1) := by decide +kernel
theorem dRawMessageSecondValueStartPinLaw_noComma_23 : decode method_6_code 23 = .ok (.iload_n 2, 1) := by decide +kernel
theorem dRawMessageSecondValueStartPinLaw_noComma_24 : decode method_6_code 24 = .ok (.invokestatic 13, 3) := by decide +kernel
theorem dRawMessageSecondValueStartPinLaw_noComma_27 : decode method_6_code 27 = .ok (.ifCond .eq 37, 3) := by decide +kernel
theorem dRawMessageSecondValueStartPinLaw_noComma_30 : decode method_6_code 30 = .ok (.aload_n 0, 1) := by decide +kernel
theorem dRawMessageSecondValueStartPinLaw_noComma_31 : decode method_6_code 31 = .ok (.iconst 3, 1) := by decide +kernel
theorem dRawMessageSecondValueStartPinLaw_noComma_32 : decode method_6_code 32 = .ok (.iload_n 1, 1) := by decide +kernel
theorem dRawMessageSecondValueStartPinLaw_noComma_33 : decode method_6_code 33 = .ok (.iload_n 2, 1) := by decide +kernel
theorem dRawMessageSecondValueStartPinLaw_noComma_34 : decode method_6_code 34 = .ok (.invokestatic 13, 3) := by decide +kernel
theorem dRawMessageSecondValueStartPinLaw_noComma_37 : decode method_6_code 37 = .ok (.ifCond .eq 27, 3) := by decide +kernel
theorem dRawMessageSecondValueStartPinLaw_noComma_40 : decode method_6_code 40 = .ok (.aload_n 0, 1) := by decide +kernel
theorem dRawMessageSecondValueStartPinLaw_noComma_41 : decode method_6_code 41 = .ok (.iconst 4, 1) := by decide +kernel
theorem dRawMessageSecondValueStartPinLaw_noComma_42 : decode method_6_code 42 = .ok (.iload_n 1, 1) := by decide +kernel
theorem dRawMessageSecondValueStartPinLaw_noComma_43 : decode method_6_code 43 = .ok (.iload_n 2, 1) := by decide +kernel
theorem dRawMessageSecondValueStartPinLaw_noComma_44 : decode method_6_code 44 = .ok (.invokestatic 13, 3) := by decide +kernel
theorem dRawMessageSecondValueStartPinLaw_noComma_47 : decode method_6_code 47 = .ok (.ifCond .eq 17, 3) := by decide +kernel
theorem dRawMessageSecondValueStartPinLaw_noComma_50 : decode method_6_code 50 = .ok (.aload_n 0, 1) := by decide +kernel
theorem dRawMessageSecondValueStartPinLaw_noComma_51 : decode method_6_code 51 = .ok (.iconst 5, 1) := by decide +kernel
theorem dRawMessageSecondValueStartPinLaw_noComma_52 : decode method_6_code 52 = .ok (.iload_n 1, 1) := by decide +kernel
theorem dRawMessageSecondValueStartPinLaw_noComma_53 : decode method_6_code 53 = .ok (.iload_n 2, 1) := by decide +kernel
theorem dRawMessageSecondValueStartPinLaw_noComma_54 : decode method_6_code 54 = .ok (.invokestatic 13, 3) := by decide +kernel
theorem dRawMessageSecondValueStartPinLaw_noComma_57 : decode method_6_code 57 = .ok (.ifCond .eq 7, 3) := by decide +kernel
theorem dRawMessageSecondValueStartPinLaw_noComma_60 : decode method_6_code 60 = .ok (.iconst 1, 1) := by decide +kernel
theorem dRawMessageSecondValueStartPinLaw_noComma_61 : decode method_6_code 61 = .ok (.goto 4, 3) := by decide +kernel
theorem dRawMessageSecondValueStartPinLaw_noComma_64 : decode method_6_code 64 = .ok (.iconst 0, 1) := by decide +kernel
theorem dRawMessageSecondValueStartPinLaw_noComma_65 : decode method_6_code 65 = .ok (.ireturn, 1) := by decide +kernel
theorem dRawMessageSecondValueStartPinLaw_free_0 : decode method_5_code 0 = .ok (.iload_n 1, 1) := by decide +kernel
theorem dRawMessageSecondValueStartPinLaw_free_1 : decode method_5_code 1 = .ok (.iload_n 2, 1) := by decide +kernel
theorem dRawMessageSecondValueStartPinLaw_free_2 : decode method_5_code 2 = .ok (.if_icmp .lt 16, 3) := by decide +kernel
theorem dRawMessageSecondValueStartPinLaw_free_5 : decode method_5_code 5 = .ok (.iload_n 1, 1) := by decide +kernel
theorem dRawMessageSecondValueStartPinLaw_free_6 : decode method_5_code 6 = .ok (.iload_n 3, 1) := by decide +kernel
theorem dRawMessageSecondValueStartPinLaw_free_7 : decode method_5_code 7 = .ok (.if_icmp .ge 11, 3) := by decide +kernel
theorem dRawMessageSecondValueStartPinLaw_free_10 : decode method_5_code 10 = .ok (.aload_n 0, 1) := by decide +kernel
theorem dRawMessageSecondValueStartPinLaw_free_11 : decode method_5_code 11 = .ok (.iload_n 1, 1) := by decide +kernel
theorem dRawMessageSecondValueStartPinLaw_free_12 : decode method_5_code 12 = .ok (.invokestatic 7, 3) := by decide +kernel
theorem dRawMessageSecondValueStartPinLaw_free_15 : decode method_5_code 15 = .ok (.ifCond .ne 7, 3) := by decide +kernel
theorem dRawMessageSecondValueStartPinLaw_free_18 : decode method_5_code 18 = .ok (.iconst 1, 1) := by decide +kernel
theorem dRawMessageSecondValueStartPinLaw_free_19 : decode method_5_code 19 = .ok (.goto 4, 3) := by decide +kernel
theorem dRawMessageSecondValueStartPinLaw_free_22 : decode method_5_code 22 = .ok (.iconst 0, 1) := by decide +kernel
theorem dRawMessageSecondValueStartPinLaw_free_23 : decode method_5_code 23 = .ok (.ireturn, 1) := by decide +kernel
theorem dRawMessageSecondValueStartPinLaw_isC_0 : decode method_3_code 0 = .ok (.iload_n 1, 1) := by decide +kernel
theorem dRawMessageSecondValueStartPinLaw_isC_1 : decode method_3_code 1 = .ok (.ifCond .lt 21, 3) := by decide +kernel
theorem dRawMessageSecondValueStartPinLaw_isC_4 : decode method_3_code 4 = .ok (.iload_n 1, 1) := by decide +kernel
theorem dRawMessageSecondValueStartPinLaw_isC_5 : decode method_3_code 5 = .ok (.aload_n 0, 1) := by decide +kernel
theorem dRawMessageSecondValueStartPinLaw_isC_6 : decode method_3_code 6 = .ok (.arraylength, 1) := by decide +kernel
theorem dRawMessageSecondValueStartPinLaw_isC_7 : decode method_3_code 7 = .ok (.if_icmp .ge 15, 3) := by decide +kernel
theorem dRawMessageSecondValueStartPinLaw_isC_10 : decode method_3_code 10 = .ok (.aload_n 0, 1) := by decide +kernel
theorem dRawMessageSecondValueStartPinLaw_isC_11 : decode method_3_code 11 = .ok (.iload_n 1, 1) := by decide +kernel
theorem dRawMessageSecondValueStartPinLaw_isC_12 : decode method_3_code 12 = .ok (.baload, 1) := by decide +kernel
theorem dRawMessageSecondValueStartPinLaw_isC_13 : decode method_3_code 13 = .ok (.bipush 44, 2) := by decide +kernel
theorem dRawMessageSecondValueStartPinLaw_isC_15 : decode method_3_code 15 = .ok (.if_icmp .ne 7, 3) := by decide +kernel
theorem dRawMessageSecondValueStartPinLaw_isC_18 : decode method_3_code 18 = .ok (.iconst 1, 1) := by decide +kernel
theorem dRawMessageSecondValueStartPinLaw_isC_19 : decode method_3_code 19 = .ok (.goto 4, 3) := by decide +kernel
theorem dRawMessageSecondValueStartPinLaw_isC_22 : decode method_3_code 22 = .ok (.iconst 0, 1) := by decide +kernel
theorem dRawMessageSecondValueStartPinLaw_isC_23 : decode method_3_code 23 = .ok (.ireturn, 1) := by decide +kernel
theorem dRawMessageSecondValueStartPinLaw_commaAt_0 : decode method_9_code 0 = .ok (.aload_n 0, 1) := by decide +kernel
theorem dRawMessageSecondValueStartPinLaw_commaAt_1 : decode method_9_code 1 = .ok (.iload_n 1, 1) := by decide +kernel
theorem dRawMessageSecondValueStartPinLaw_commaAt_2 : decode method_9_code 2 = .ok (.invokestatic 7, 3) := by decide +kernel
theorem dRawMessageSecondValueStartPinLaw_commaAt_5 : decode method_9_code 5 = .ok (.ifCond .eq 67, 3) := by decide +kernel
theorem dRawMessageSecondValueStartPinLaw_commaAt_8 : decode method_9_code 8 = .ok (.iload_n 2, 1) := by decide +kernel
theorem dRawMessageSecondValueStartPinLaw_commaAt_9 : decode method_9_code 9 = .ok (.iload_n 1, 1) := by decide +kernel
theorem dRawMessageSecondValueStartPinLaw_commaAt_10 : decode method_9_code 10 = .ok (.if_icmp .gt 62, 3) := by decide +kernel
theorem dRawMessageSecondValueStartPinLaw_commaAt_13 : decode method_9_code 13 = .ok (.iload_n 1, 1) := by decide +kernel
theorem dRawMessageSecondValueStartPinLaw_commaAt_14 : decode method_9_code 14 = .ok (.iload_n 3, 1) := by decide +kernel
theorem dRawMessageSecondValueStartPinLaw_commaAt_15 : decode method_9_code 15 = .ok (.if_icmp .ge 57, 3) := by decide +kernel
theorem dRawMessageSecondValueStartPinLaw_commaAt_18 : decode method_9_code 18 = .ok (.aload_n 0, 1) := by decide +kernel
theorem dRawMessageSecondValueStartPinLaw_commaAt_19 : decode method_9_code 19 = .ok (.iload_n 2, 1) := by decide +kernel
theorem dRawMessageSecondValueStartPinLaw_commaAt_20 : decode method_9_code 20 = .ok (.iload_n 1, 1) := by decide +kernel
theorem dRawMessageSecondValueStartPinLaw_commaAt_21 : decode method_9_code 21 = .ok (.invokestatic 23, 3) := by decide +kernel
theorem dRawMessageSecondValueStartPinLaw_commaAt_24 : decode method_9_code 24 = .ok (.ifCond .eq 48, 3) := by decide +kernel
theorem dRawMessageSecondValueStartPinLaw_commaAt_27 : decode method_9_code 27 = .ok (.iload 4, 2) := by decide +kernel
theorem dRawMessageSecondValueStartPinLaw_commaAt_29 : decode method_9_code 29 = .ok (.iload_n 1, 1) := by decide +kernel
theorem dRawMessageSecondValueStartPinLaw_commaAt_30 : decode method_9_code 30 = .ok (.if_icmp .le 42, 3) := by decide +kernel
theorem dRawMessageSecondValueStartPinLaw_commaAt_33 : decode method_9_code 33 = .ok (.aload_n 0, 1) := by decide +kernel
theorem dRawMessageSecondValueStartPinLaw_commaAt_34 : decode method_9_code 34 = .ok (.iload_n 1, 1) := by decide +kernel
theorem dRawMessageSecondValueStartPinLaw_commaAt_35 : decode method_9_code 35 = .ok (.iconst 1, 1) := by decide +kernel
theorem dRawMessageSecondValueStartPinLaw_commaAt_36 : decode method_9_code 36 = .ok (.iadd, 1) := by decide +kernel
theorem dRawMessageSecondValueStartPinLaw_commaAt_37 : decode method_9_code 37 = .ok (.iload 4, 2) := by decide +kernel
theorem dRawMessageSecondValueStartPinLaw_commaAt_39 : decode method_9_code 39 = .ok (.invokestatic 27, 3) := by decide +kernel
theorem dRawMessageSecondValueStartPinLaw_commaAt_42 : decode method_9_code 42 = .ok (.ifCond .eq 30, 3) := by decide +kernel
theorem dRawMessageSecondValueStartPinLaw_commaAt_45 : decode method_9_code 45 = .ok (.iload 4, 2) := by decide +kernel
theorem dRawMessageSecondValueStartPinLaw_commaAt_47 : decode method_9_code 47 = .ok (.aload_n 0, 1) := by decide +kernel
theorem dRawMessageSecondValueStartPinLaw_commaAt_48 : decode method_9_code 48 = .ok (.arraylength, 1) := by decide +kernel
theorem dRawMessageSecondValueStartPinLaw_commaAt_49 : decode method_9_code 49 = .ok (.if_icmp .eq 19, 3) := by decide +kernel
theorem dRawMessageSecondValueStartPinLaw_commaAt_52 : decode method_9_code 52 = .ok (.iload 4, 2) := by decide +kernel
theorem dRawMessageSecondValueStartPinLaw_commaAt_54 : decode method_9_code 54 = .ok (.aload_n 0, 1) := by decide +kernel
theorem dRawMessageSecondValueStartPinLaw_commaAt_55 : decode method_9_code 55 = .ok (.arraylength, 1) := by decide +kernel
theorem dRawMessageSecondValueStartPinLaw_commaAt_56 : decode method_9_code 56 = .ok (.if_icmp .ge 16, 3) := by decide +kernel
theorem dRawMessageSecondValueStartPinLaw_commaAt_59 : decode method_9_code 59 = .ok (.aload_n 0, 1) := by decide +kernel
theorem dRawMessageSecondValueStartPinLaw_commaAt_60 : decode method_9_code 60 = .ok (.iload 4, 2) := by decide +kernel
theorem dRawMessageSecondValueStartPinLaw_commaAt_62 : decode method_9_code 62 = .ok (.invokestatic 17, 3) := by decide +kernel
theorem dRawMessageSecondValueStartPinLaw_commaAt_65 : decode method_9_code 65 = .ok (.ifCond .ne 7, 3) := by decide +kernel
theorem dRawMessageSecondValueStartPinLaw_commaAt_68 : decode method_9_code 68 = .ok (.iconst 1, 1) := by decide +kernel
theorem dRawMessageSecondValueStartPinLaw_commaAt_69 : decode method_9_code 69 = .ok (.goto 4, 3) := by decide +kernel
theorem dRawMessageSecondValueStartPinLaw_commaAt_72 : decode method_9_code 72 = .ok (.iconst 0, 1) := by decide +kernel
theorem dRawMessageSecondValueStartPinLaw_commaAt_73 : decode method_9_code 73 = .ok (.ireturn, 1) := by decide +kernel
theorem dRawMessageSecondValueStartPinLaw_allBlank_0 : decode method_8_code 0 = .ok (.aload_n 0, 1) := by decide +kernel
theorem dRawMessageSecondValueStartPinLaw_allBlank_1 : decode method_8_code 1 = .ok (.iconst 0, 1) := by decide +kernel
theorem dRawMessageSecondValueStartPinLaw_allBlank_2 : decode method_8_code 2 = .ok (.iload_n 1, 1) := by decide +kernel
theorem dRawMessageSecondValueStartPinLaw_allBlank_3 : decode method_8_code 3 = .ok (.iload_n 2, 1) := by decide +kernel
theorem dRawMessageSecondValueStartPinLaw_allBlank_4 : decode method_8_code 4 = .ok (.invokestatic 20, 3) := by decide +kernel
theorem dRawMessageSecondValueStartPinLaw_allBlank_7 : decode method_8_code 7 = .ok (.ifCond .eq 57, 3) := by decide +kernel
theorem dRawMessageSecondValueStartPinLaw_allBlank_10 : decode method_8_code 10 = .ok (.aload_n 0, 1) := by decide +kernel
theorem dRawMessageSecondValueStartPinLaw_allBlank_11 : decode method_8_code 11 = .ok (.iconst 1, 1) := by decide +kernel
theorem dRawMessageSecondValueStartPinLaw_allBlank_12 : decode method_8_code 12 = .ok (.iload_n 1, 1) := by decide +kernel
theorem dRawMessageSecondValueStartPinLaw_allBlank_13 : decode method_8_code 13 = .ok (.iload_n 2, 1) := by decide +kernel
theorem dRawMessageSecondValueStartPinLaw_allBlank_14 : decode method_8_code 14 = .ok (.invokestatic 20, 3) := by decide +kernel
theorem dRawMessageSecondValueStartPinLaw_allBlank_17 : decode method_8_code 17 = .ok (.ifCond .eq 47, 3) := by decide +kernel
theorem dRawMessageSecondValueStartPinLaw_allBlank_20 : decode method_8_code 20 = .ok (.aload_n 0, 1) := by decide +kernel
theorem dRawMessageSecondValueStartPinLaw_allBlank_21 : decode method_8_code 21 = .ok (.iconst 2, 1) := by decide +kernel
theorem dRawMessageSecondValueStartPinLaw_allBlank_22 : decode method_8_code 22 = .ok (.iload_n 1, 1) := by decide +kernel
theorem dRawMessageSecondValueStartPinLaw_allBlank_23 : decode method_8_code 23 = .ok (.iload_n 2, 1) := by decide +kernel
theorem dRawMessageSecondValueStartPinLaw_allBlank_24 : decode method_8_code 24 = .ok (.invokestatic 20, 3) := by decide +kernel
theorem dRawMessageSecondValueStartPinLaw_allBlank_27 : decode method_8_code 27 = .ok (.ifCond .eq 37, 3) := by decide +kernel
theorem dRawMessageSecondValueStartPinLaw_allBlank_30 : decode method_8_code 30 = .ok (.aload_n 0, 1) := by decide +kernel
theorem dRawMessageSecondValueStartPinLaw_allBlank_31 : decode method_8_code 31 = .ok (.iconst 3, 1) := by decide +kernel
theorem dRawMessageSecondValueStartPinLaw_allBlank_32 : decode method_8_code 32 = .ok (.iload_n 1, 1) := by decide +kernel
theorem dRawMessageSecondValueStartPinLaw_allBlank_33 : decode method_8_code 33 = .ok (.iload_n 2, 1) := by decide +kernel
theorem dRawMessageSecondValueStartPinLaw_allBlank_34 : decode method_8_code 34 = .ok (.invokestatic 20, 3) := by decide +kernel
theorem dRawMessageSecondValueStartPinLaw_allBlank_37 : decode method_8_code 37 = .ok (.ifCond .eq 27, 3) := by decide +kernel
theorem dRawMessageSecondValueStartPinLaw_allBlank_40 : decode method_8_code 40 = .ok (.aload_n 0, 1) := by decide +kernel
theorem dRawMessageSecondValueStartPinLaw_allBlank_41 : decode method_8_code 41 = .ok (.iconst 4, 1) := by decide +kernel
theorem dRawMessageSecondValueStartPinLaw_allBlank_42 : decode method_8_code 42 = .ok (.iload_n 1, 1) := by decide +kernel
theorem dRawMessageSecondValueStartPinLaw_allBlank_43 : decode method_8_code 43 = .ok (.iload_n 2, 1) := by decide +kernel
theorem dRawMessageSecondValueStartPinLaw_allBlank_44 : decode method_8_code 44 = .ok (.invokestatic 20, 3) := by decide +kernel
theorem dRawMessageSecondValueStartPinLaw_allBlank_47 : decode method_8_code 47 = .ok (.ifCond .eq 17, 3) := by decide +kernel
theorem dRawMessageSecondValueStartPinLaw_allBlank_50 : decode method_8_code 50 = .ok (.aload_n 0, 1) := by decide +kernel
theorem dRawMessageSecondValueStartPinLaw_allBlank_51 : decode method_8_code 51 = .ok (.iconst 5, 1) := by decide +kernel
theorem dRawMessageSecondValueStartPinLaw_allBlank_52 : decode method_8_code 52 = .ok (.iload_n 1, 1) := by decide +kernel
theorem dRawMessageSecondValueStartPinLaw_allBlank_53 : decode method_8_code 53 = .ok (.iload_n 2, 1) := by decide +kernel
theorem dRawMessageSecondValueStartPinLaw_allBlank_54 : decode method_8_code 54 = .ok (.invokestatic 20, 3) := by decide +kernel
theorem dRawMessageSecondValueStartPinLaw_allBlank_57 : decode method_8_code 57 = .ok (.ifCond .eq 7, 3) := by decide +kernel
theorem dRawMessageSecondValueStartPinLaw_allBlank_60 : decode method_8_code 60 = .ok (.iconst 1, 1) := by decide +kernel
theorem dRawMessageSecondValueStartPinLaw_allBlank_61 : decode method_8_code 61 = .ok (.goto 4, 3) := by decide +kernel
theorem dRawMessageSecondValueStartPinLaw_allBlank_64 : decode method_8_code 64 = .ok (.iconst 0, 1) := by decide +kernel
theorem dRawMessageSecondValueStartPinLaw_allBlank_65 : decode method_8_code 65 = .ok (.ireturn, 1) := by decide +kernel
theorem dRawMessageSecondValueStartPinLaw_blankOrOut_0 : decode method_7_code 0 = .ok (.iload_n 1, 1) := by decide +kernel
theorem dRawMessageSecondValueStartPinLaw_blankOrOut_1 : decode method_7_code 1 = .ok (.iload_n 2, 1) := by decide +kernel
theorem dRawMessageSecondValueStartPinLaw_blankOrOut_2 : decode method_7_code 2 = .ok (.if_icmp .lt 16, 3) := by decide +kernel
theorem dRawMessageSecondValueStartPinLaw_blankOrOut_5 : decode method_7_code 5 = .ok (.iload_n 1, 1) := by decide +kernel
theorem dRawMessageSecondValueStartPinLaw_blankOrOut_6 : decode method_7_code 6 = .ok (.iload_n 3, 1) := by decide +kernel
theorem dRawMessageSecondValueStartPinLaw_blankOrOut_7 : decode method_7_code 7 = .ok (.if_icmp .ge 11, 3) := by decide +kernel
theorem dRawMessageSecondValueStartPinLaw_blankOrOut_10 : decode method_7_code 10 = .ok (.aload_n 0, 1) := by decide +kernel
theorem dRawMessageSecondValueStartPinLaw_blankOrOut_11 : decode method_7_code 11 = .ok (.iload_n 1, 1) := by decide +kernel
theorem dRawMessageSecondValueStartPinLaw_blankOrOut_12 : decode method_7_code 12 = .ok (.invokestatic 17, 3) := by decide +kernel
theorem dRawMessageSecondValueStartPinLaw_blankOrOut_15 : decode method_7_code 15 = .ok (.ifCond .eq 7, 3) := by decide +kernel
theorem dRawMessageSecondValueStartPinLaw_blankOrOut_18 : decode method_7_code 18 = .ok (.iconst 1, 1) := by decide +kernel
theorem dRawMessageSecondValueStartPinLaw_blankOrOut_19 : decode method_7_code 19 = .ok (.goto 4, 3) := by decide +kernel
theorem dRawMessageSecondValueStartPinLaw_blankOrOut_22 : decode method_7_code 22 = .ok (.iconst 0, 1) := by decide +kernel
theorem dRawMessageSecondValueStartPinLaw_blankOrOut_23 : decode method_7_code 23 = .ok (.ireturn, 1) := by decide +kernel
theorem dRawMessageSecondValueStartPinLaw_isBl_0 : decode method_4_code 0 = .ok (.iload_n 1, 1) := by decide +kernel
theorem dRawMessageSecondValueStartPinLaw_isBl_1 : decode method_4_code 1 = .ok (.ifCond .lt 29, 3) := by decide +kernel
theorem dRawMessageSecondValueStartPinLaw_isBl_4 : decode method_4_code 4 = .ok (.iload_n 1, 1) := by decide +kernel
theorem dRawMessageSecondValueStartPinLaw_isBl_5 : decode method_4_code 5 = .ok (.aload_n 0, 1) := by decide +kernel
theorem dRawMessageSecondValueStartPinLaw_isBl_6 : decode method_4_code 6 = .ok (.arraylength, 1) := by decide +kernel
theorem dRawMessageSecondValueStartPinLaw_isBl_7 : decode method_4_code 7 = .ok (.if_icmp .ge 23, 3) := by decide +kernel
theorem dRawMessageSecondValueStartPinLaw_isBl_10 : decode method_4_code 10 = .ok (.aload_n 0, 1) := by decide +kernel
theorem dRawMessageSecondValueStartPinLaw_isBl_11 : decode method_4_code 11 = .ok (.iload_n 1, 1) := by decide +kernel
theorem dRawMessageSecondValueStartPinLaw_isBl_12 : decode method_4_code 12 = .ok (.baload, 1) := by decide +kernel
theorem dRawMessageSecondValueStartPinLaw_isBl_13 : decode method_4_code 13 = .ok (.bipush 32, 2) := by decide +kernel
theorem dRawMessageSecondValueStartPinLaw_isBl_15 : decode method_4_code 15 = .ok (.if_icmp .eq 11, 3) := by decide +kernel
theorem dRawMessageSecondValueStartPinLaw_isBl_18 : decode method_4_code 18 = .ok (.aload_n 0, 1) := by decide +kernel
theorem dRawMessageSecondValueStartPinLaw_isBl_19 : decode method_4_code 19 = .ok (.iload_n 1, 1) := by decide +kernel
theorem dRawMessageSecondValueStartPinLaw_isBl_20 : decode method_4_code 20 = .ok (.baload, 1) := by decide +kernel
theorem dRawMessageSecondValueStartPinLaw_isBl_21 : decode method_4_code 21 = .ok (.bipush 9, 2) := by decide +kernel
theorem dRawMessageSecondValueStartPinLaw_isBl_23 : decode method_4_code 23 = .ok (.if_icmp .ne 7, 3) := by decide +kernel
theorem dRawMessageSecondValueStartPinLaw_isBl_26 : decode method_4_code 26 = .ok (.iconst 1, 1) := by decide +kernel
theorem dRawMessageSecondValueStartPinLaw_isBl_27 : decode method_4_code 27 = .ok (.goto 4, 3) := by decide +kernel
theorem dRawMessageSecondValueStartPinLaw_isBl_30 : decode method_4_code 30 = .ok (.iconst 0, 1) := by decide +kernel
theorem dRawMessageSecondValueStartPinLaw_isBl_31 : decode method_4_code 31 = .ok (.ireturn, 1) := by decide +kernel
/-! com/example/oxpecker/oxpecker/sip/RawMessageSecondValueStartPinLaw.kind:(I)B -/
def f_RawMessageSecondValueStartPinLaw_kind (v0 : Int32) : Option (Int32) :=
  own_lt (v0 &&& (7 : Int32)) fun x5 =>
  if x5 = (0 : Int32) then
    some (44 : Int32)
  else
    if x5 = (1 : Int32) then
      some (32 : Int32)
    else
      if x5 = (2 : Int32) then
        some (9 : Int32)
      else
        if x5 = (3 : Int32) then
          some (120 : Int32)
        else
          if x5 = (4 : Int32) then
            some (13 : Int32)
          else
            if x5 = (5 : Int32) then
              some (10 : Int32)
            else
              if x5 = (6 : Int32) then
                some (59 : Int32)
              else
                some ((-84 : Int32).toInt8.toInt32)
def Q_RawMessageSecondValueStartPinLaw_kind (Z : State) (hE : Heap) (n0 : Nat)  (r : Int32) (v : Option Value) (h : Heap) (L : List Loc) : Prop := v = some (.int r) ∧ Fr n0 L ∧ h = hE
def Cx_RawMessageSecondValueStartPinLaw_kind (p : Program) (s : State) (m : MethodId) (meth : Method) (c : Code) (Z : State) (a0 : Array Value) : Prop := p.tables.exec = Jvm.exec ∧ Z.Warmed39 s.vm ∧ (∀ d ∈ tables_1, d.before a0 Z = true) ∧ c.code = method_2_code ∧ c.maxLocals = 2 ∧ s.vm.findClass "com/example/oxpecker/oxpecker/sip/RawMessageSecondValueStartPinLaw" = some m.cls ∧ meth.sig.returnType = some .byte ∧ meth.locks = false ∧ meth.name = "kind"
set_option maxRecDepth 65536 in
set_option maxHeartbeats 4000000 in
theorem b_RawMessageSecondValueStartPinLaw_kind {p : Program} {l : Launch} {e : Env} {s : State} {m : MethodId} {args : Array Value} {below : List Frame} {meth : Method} {c : Code} {Z : State} {a0 : Array Value} {n0 : Nat} {hE : Heap} (cx : Cx_RawMessageSecondValueStartPinLaw_kind p s m meth c Z a0) :
    ∀ {T : State} {locs : List Loc} (X : Stand p l e ({ frames := 0, cells := 0, slots := 0, locals := 0 } : Room) s m args below meth c T locs 0 0) (eT : T.heap = hE) (N : Fr n0 locs) (z : n0 ≤ hE.size) (v0 : Int32) (r : Int32), f_RawMessageSecondValueStartPinLaw_kind v0 = some r → own_Goes p e below s (Q_RawMessageSecondValueStartPinLaw_kind Z hE n0 r) 0 0 (T.setTop (mkF m 0 #[.val (.int v0), .unset] [])) := by
  have cx' := cx
  obtain ⟨hx, hZ, hw, hby, hml, hown, hret, hlk, hnm⟩ := cx'
  intro T locs X eT N z v0 r hF
  unfold f_RawMessageSecondValueStartPinLaw_kind at hF
  refine own_Goes.via (B := T.setTop (mkF m 4 #[.val (.int v0), .unset] [(.int (v0 &&& (7 : Int32)))])) (fun t k => ?_) ?_
  · show Steps p.tables e below (T.setTop (mkF m 0 #[.val (.int v0), .unset] [])) t
    refine XS.iloadN X.here hx rfl (hb hby dRawMessageSecondValueStartPinLaw_kind_0) rfl ?_
    show Steps p.tables e below (T.setTop (mkF m 1 #[.val (.int v0), .unset] [(.int v0)])) t
    refine XS.bipush X.here hx rfl (hb hby dRawMessageSecondValueStartPinLaw_kind_1) ?_
    show Steps p.tables e below (T.setTop (mkF m 3 #[.val (.int v0), .unset] [(.int (7 : Int32)), (.int v0)])) t
    refine XS.iand X.here hx rfl (hb hby dRawMessageSecondValueStartPinLaw_kind_3) rfl ?_
    exact k
  obtain ⟨x5, hx5, hF⟩ := own_lt_e hF
  rw [← hx5]
  refine own_Goes.via (B := T.setTop (mkF m 6 #[.val (.int v0), .val (.int x5)] [(.int x5)])) (fun t k => ?_) ?_
  · show Steps p.tables e below (T.setTop (mkF m 4 #[.val (.int v0), .unset] [(.int x5)])) t
    refine XS.istoreN X.here hx rfl (hb hby dRawMessageSecondValueStartPinLaw_kind_4) rfl (l' := #[.val (.int v0), .val (.int x5)]) rfl ?_
    show Steps p.tables e below (T.setTop (mkF m 5 #[.val (.int v0), .val (.int x5)] [])) t
    refine XS.iloadN X.here hx rfl (hb hby dRawMessageSecondValueStartPinLaw_kind_5) rfl ?_
    exact k
  by_cases hc6 : x5 = (0 : Int32)
  · rw [if_pos hc6] at hF
    refine own_Goes.via (B := T.setTop (mkF m 11 #[.val (.int v0), .val (.int x5)] [(.int (44 : Int32))])) (fun t k => ?_) ?_
    · show Steps p.tables e below (T.setTop (mkF m 6 #[.val (.int v0), .val (.int x5)] [(.int x5)])) t
      refine XS.ifNo X.here hx rfl (hb hby dRawMessageSecondValueStartPinLaw_kind_6) rfl ((if0 _ _).trans (teq hc6).2) ?_
      show Steps p.tables e below (T.setTop (mkF m 9 #[.val (.int v0), .val (.int x5)] [])) t
      refine XS.bipush X.here hx rfl (hb hby dRawMessageSecondValueStartPinLaw_kind_9) ?_
      exact k
    obtain rfl : (44 : Int32) = r := Option.some.inj hF
    exact own_retN X hx (t := .byte) hret hlk (by simp) (hb hby dRawMessageSecondValueStartPinLaw_kind_11) eT (v := (44 : Int32)) (by decide) ⟨rfl, N, rfl⟩ (by decide) (by decide)
  · rw [if_neg hc6] at hF
    refine own_Goes.via (B := T.setTop (mkF m 14 #[.val (.int v0), .val (.int x5)] [(.int (1 : Int32)), (.int x5)])) (fun t k => ?_) ?_
    · show Steps p.tables e below (T.setTop (mkF m 6 #[.val (.int v0), .val (.int x5)] [(.int x5)])) t
      refine XS.ifYes X.here hx rfl (pc0 := 6) (pc' := 12) rfl (hb hby dRawMessageSecondValueStartPinLaw_kind_6) rfl ((if0 _ _).trans (feq hc6).2) (by decide) (by decide) ?_
      show Steps p.tables e below (T.setTop (mkF m 12 #[.val (.int v0), .val (.int x5)] [])) t
      refine XS.iloadN X.here hx rfl (hb hby dRawMessageSecondValueStartPinLaw_kind_12) rfl ?_
      show Steps p.tables e below (T.setTop (mkF m 13 #[.val (.int v0), .val (.int x5)] [(.int x5)])) t
      refine XS.iconst X.here hx rfl (hb hby dRawMessageSecondValueStartPinLaw_kind_13) ?_
      exact k
    by_cases hc14 : x5 = (1 : Int32)
    · rw [if_pos hc14] at hF
      refine own_Goes.via (B := T.setTop (mkF m 19 #[.val (.int v0), .val (.int x5)] [(.int (32 : Int32))])) (fun t k => ?_) ?_
      · show Steps p.tables e below (T.setTop (mkF m 14 #[.val (.int v0), .val (.int x5)] [(.int (1 : Int32)), (.int x5)])) t
        refine XS.icmpNo X.here hx rfl (hb hby dRawMessageSecondValueStartPinLaw_kind_14) rfl (teq hc14).2 ?_
        show Steps p.tables e below (T.setTop (mkF m 17 #[.val (.int v0), .val (.int x5)] [])) t
        refine XS.bipush X.here hx rfl (hb hby dRawMessageSecondValueStartPinLaw_kind_17) ?_
        exact k
      obtain rfl : (32 : Int32) = r := Option.some.inj hF
      exact own_retN X hx (t := .byte) hret hlk (by simp) (hb hby dRawMessageSecondValueStartPinLaw_kind_19) eT (v := (32 : Int32)) (by decide) ⟨rfl, N, rfl⟩ (by decide) (by decide)
    · rw [if_neg hc14] at hF
      refine own_Goes.via (B := T.setTop (mkF m 22 #[.val (.int v0), .val (.int x5)] [(.int (2 : Int32)), (.int x5)])) (fun t k => ?_) ?_
      · show Steps p.tables e below (T.setTop (mkF m 14 #[.val (.int v0), .val (.int x5)] [(.int (1 : Int32)), (.int x5)])) t
        refine XS.icmpYes X.here hx rfl (pc0 := 14) (pc' := 20) rfl (hb hby dRawMessageSecondValueStartPinLaw_kind_14) rfl (feq hc14).2 (by decide) (by decide) ?_
        show Steps p.tables e below (T.setTop (mkF m 20 #[.val (.int v0), .val (.int x5)] [])) t
        refine XS.iloadN X.here hx rfl (hb hby dRawMessageSecondValueStartPinLaw_kind_20) rfl ?_
        show Steps p.tables e below (T.setTop (mkF m 21 #[.val (.int v0), .val (.int x5)] [(.int x5)])) t
        refine XS.iconst X.here hx rfl (hb hby dRawMessageSecondValueStartPinLaw_kind_21) ?_
        exact k
      by_cases hc22 : x5 = (2 : Int32)
      · rw [if_pos hc22] at hF
        refine own_Goes.via (B := T.setTop (mkF m 27 #[.val (.int v0), .val (.int x5)] [(.int (9 : Int32))])) (fun t k => ?_) ?_
        · show Steps p.tables e below (T.setTop (mkF m 22 #[.val (.int v0), .val (.int x5)] [(.int (2 : Int32)), (.int x5)])) t
          refine XS.icmpNo X.here hx rfl (hb hby dRawMessageSecondValueStartPinLaw_kind_22) rfl (teq hc22).2 ?_
          show Steps p.tables e below (T.setTop (mkF m 25 #[.val (.int v0), .val (.int x5)] [])) t
          refine XS.bipush X.here hx rfl (hb hby dRawMessageSecondValueStartPinLaw_kind_25) ?_
          exact k
        obtain rfl : (9 : Int32) = r := Option.some.inj hF
        exact own_retN X hx (t := .byte) hret hlk (by simp) (hb hby dRawMessageSecondValueStartPinLaw_kind_27) eT (v := (9 : Int32)) (by decide) ⟨rfl, N, rfl⟩ (by decide) (by decide)
      · rw [if_neg hc22] at hF
        refine own_Goes.via (B := T.setTop (mkF m 30 #[.val (.int v0), .val (.int x5)] [(.int (3 : Int32)), (.int x5)])) (fun t k => ?_) ?_
        · show Steps p.tables e below (T.setTop (mkF m 22 #[.val (.int v0), .val (.int x5)] [(.int (2 : Int32)), (.int x5)])) t
          refine XS.icmpYes X.here hx rfl (pc0 := 22) (pc' := 28) rfl (hb hby dRawMessageSecondValueStartPinLaw_kind_22) rfl (feq hc22).2 (by decide) (by decide) ?_
          show Steps p.tables e below (T.setTop (mkF m 28 #[.val (.int v0), .val (.int x5)] [])) t
          refine XS.iloadN X.here hx rfl (hb hby dRawMessageSecondValueStartPinLaw_kind_28) rfl ?_
          show Steps p.tables e below (T.setTop (mkF m 29 #[.val (.int v0), .val (.int x5)] [(.int x5)])) t
          refine XS.iconst X.here hx rfl (hb hby dRawMessageSecondValueStartPinLaw_kind_29) ?_
          exact k
        by_cases hc30 : x5 = (3 : Int32)
        · rw [if_pos hc30] at hF
          refine own_Goes.via (B := T.setTop (mkF m 35 #[.val (.int v0), .val (.int x5)] [(.int (120 : Int32))])) (fun t k => ?_) ?_
          · show Steps p.tables e below (T.setTop (mkF m 30 #[.val (.int v0), .val (.int x5)] [(.int (3 : Int32)), (.int x5)])) t
            refine XS.icmpNo X.here hx rfl (hb hby dRawMessageSecondValueStartPinLaw_kind_30) rfl (teq hc30).2 ?_
            show Steps p.tables e below (T.setTop (mkF m 33 #[.val (.int v0), .val (.int x5)] [])) t
            refine XS.bipush X.here hx rfl (hb hby dRawMessageSecondValueStartPinLaw_kind_33) ?_
            exact k
          obtain rfl : (120 : Int32) = r := Option.some.inj hF
          exact own_retN X hx (t := .byte) hret hlk (by simp) (hb hby dRawMessageSecondValueStartPinLaw_kind_35) eT (v := (120 : Int32)) (by decide) ⟨rfl, N, rfl⟩ (by decide) (by decide)
        · rw [if_neg hc30] at hF
          refine own_Goes.via (B := T.setTop (mkF m 38 #[.val (.int v0), .val (.int x5)] [(.int (4 : Int32)), (.int x5)])) (fun t k => ?_) ?_
          · show Steps p.tables e below (T.setTop (mkF m 30 #[.val (.int v0), .val (.int x5)] [(.int (3 : Int32)), (.int x5)])) t
            refine XS.icmpYes X.here hx rfl (pc0 := 30) (pc' := 36) rfl (hb hby dRawMessageSecondValueStartPinLaw_kind_30) rfl (feq hc30).2 (by decide) (by decide) ?_
            show Steps p.tables e below (T.setTop (mkF m 36 #[.val (.int v0), .val (.int x5)] [])) t
            refine XS.iloadN X.here hx rfl (hb hby dRawMessageSecondValueStartPinLaw_kind_36) rfl ?_
            show Steps p.tables e below (T.setTop (mkF m 37 #[.val (.int v0), .val (.int x5)] [(.int x5)])) t
            refine XS.iconst X.here hx rfl (hb hby dRawMessageSecondValueStartPinLaw_kind_37) ?_
            exact k
          by_cases hc38 : x5 = (4 : Int32)
          · rw [if_pos hc38] at hF
            refine own_Goes.via (B := T.setTop (mkF m 43 #[.val (.int v0), .val (.int x5)] [(.int (13 : Int32))])) (fun t k => ?_) ?_
            · show Steps p.tables e below (T.setTop (mkF m 38 #[.val (.int v0), .val (.int x5)] [(.int (4 : Int32)), (.int x5)])) t
              refine XS.icmpNo X.here hx rfl (hb hby dRawMessageSecondValueStartPinLaw_kind_38) rfl (teq hc38).2 ?_
              show Steps p.tables e below (T.setTop (mkF m 41 #[.val (.int v0), .val (.int x5)] [])) t
              refine XS.bipush X.here hx rfl (hb hby dRawMessageSecondValueStartPinLaw_kind_41) ?_
              exact k
            obtain rfl : (13 : Int32) = r := Option.some.inj hF
            exact own_retN X hx (t := .byte) hret hlk (by simp) (hb hby dRawMessageSecondValueStartPinLaw_kind_43) eT (v := (13 : Int32)) (by decide) ⟨rfl, N, rfl⟩ (by decide) (by decide)
          · rw [if_neg hc38] at hF
            refine own_Goes.via (B := T.setTop (mkF m 46 #[.val (.int v0), .val (.int x5)] [(.int (5 : Int32)), (.int x5)])) (fun t k => ?_) ?_
            · show Steps p.tables e below (T.setTop (mkF m 38 #[.val (.int v0), .val (.int x5)] [(.int (4 : Int32)), (.int x5)])) t
              refine XS.icmpYes X.here hx rfl (pc0 := 38) (pc' := 44) rfl (hb hby dRawMessageSecondValueStartPinLaw_kind_38) rfl (feq hc38).2 (by decide) (by decide) ?_
              show Steps p.tables e below (T.setTop (mkF m 44 #[.val (.int v0), .val (.int x5)] [])) t
              refine XS.iloadN X.here hx rfl (hb hby dRawMessageSecondValueStartPinLaw_kind_44) rfl ?_
              show Steps p.tables e below (T.setTop (mkF m 45 #[.val (.int v0), .val (.int x5)] [(.int x5)])) t
              refine XS.iconst X.here hx rfl (hb hby dRawMessageSecondValueStartPinLaw_kind_45) ?_
              exact k
            by_cases hc46 : x5 = (5 : Int32)
            · rw [if_pos hc46] at hF
              refine own_Goes.via (B := T.setTop (mkF m 51 #[.val (.int v0), .val (.int x5)] [(.int (10 : Int32))])) (fun t k => ?_) ?_
              · show Steps p.tables e below (T.setTop (mkF m 46 #[.val (.int v0), .val (.int x5)] [(.int (5 : Int32)), (.int x5)])) t
                refine XS.icmpNo X.here hx rfl (hb hby dRawMessageSecondValueStartPinLaw_kind_46) rfl (teq hc46).2 ?_
                show Steps p.tables e below (T.setTop (mkF m 49 #[.val (.int v0), .val (.int x5)] [])) t
                refine XS.bipush X.here hx rfl (hb hby dRawMessageSecondValueStartPinLaw_kind_49) ?_
                exact k
              obtain rfl : (10 : Int32) = r := Option.some.inj hF
              exact own_retN X hx (t := .byte) hret hlk (by simp) (hb hby dRawMessageSecondValueStartPinLaw_kind_51) eT (v := (10 : Int32)) (by decide) ⟨rfl, N, rfl⟩ (by decide) (by decide)
            · rw [if_neg hc46] at hF
              refine own_Goes.via (B := T.setTop (mkF m 55 #[.val (.int v0), .val (.int x5)] [(.int (6 : Int32)), (.int x5)])) (fun t k => ?_) ?_
              · show Steps p.tables e below (T.setTop (mkF m 46 #[.val (.int v0), .val (.int x5)] [(.int (5 : Int32)), (.int x5)])) t
                refine XS.icmpYes X.here hx rfl (pc0 := 46) (pc' := 52) rfl (hb hby dRawMessageSecondValueStartPinLaw_kind_46) rfl (feq hc46).2 (by decide) (by decide) ?_
                show Steps p.tables e below (T.setTop (mkF m 52 #[.val (.int v0), .val (.int x5)] [])) t
                refine XS.iloadN X.here hx rfl (hb hby dRawMessageSecondValueStartPinLaw_kind_52) rfl ?_
                show Steps p.tables e below (T.setTop (mkF m 53 #[.val (.int v0), .val (.int x5)] [(.int x5)])) t
                refine XS.bipush X.here hx rfl (hb hby dRawMessageSecondValueStartPinLaw_kind_53) ?_
                exact k
              by_cases hc55 : x5 = (6 : Int32)
              · rw [if_pos hc55] at hF
                refine own_Goes.via (B := T.setTop (mkF m 60 #[.val (.int v0), .val (.int x5)] [(.int (59 : Int32))])) (fun t k => ?_) ?_
                · show Steps p.tables e below (T.setTop (mkF m 55 #[.val (.int v0), .val (.int x5)] [(.int (6 : Int32)), (.int x5)])) t
                  refine XS.icmpNo X.here hx rfl (hb hby dRawMessageSecondValueStartPinLaw_kind_55) rfl (teq hc55).2 ?_
                  show Steps p.tables e below (T.setTop (mkF m 58 #[.val (.int v0), .val (.int x5)] [])) t
                  refine XS.bipush X.here hx rfl (hb hby dRawMessageSecondValueStartPinLaw_kind_58) ?_
                  exact k
                obtain rfl : (59 : Int32) = r := Option.some.inj hF
                exact own_retN X hx (t := .byte) hret hlk (by simp) (hb hby dRawMessageSecondValueStartPinLaw_kind_60) eT (v := (59 : Int32)) (by decide) ⟨rfl, N, rfl⟩ (by decide) (by decide)
              · rw [if_neg hc55] at hF
                refine own_Goes.via (B := T.setTop (mkF m 63 #[.val (.int v0), .val (.int x5)] [(.int (-84 : Int32))])) (fun t k => ?_) ?_
                · show Steps p.tables e below (T.setTop (mkF m 55 #[.val (.int v0), .val (.int x5)] [(.int (6 : Int32)), (.int x5)])) t
                  refine XS.icmpYes X.here hx rfl (pc0 := 55) (pc' := 61) rfl (hb hby dRawMessageSecondValueStartPinLaw_kind_55) rfl (feq hc55).2 (by decide) (by decide) ?_
                  show Steps p.tables e below (T.setTop (mkF m 61 #[.val (.int v0), .val (.int x5)] [])) t
                  refine XS.bipush X.here hx rfl (hb hby dRawMessageSecondValueStartPinLaw_kind_61) ?_
                  exact k
                obtain rfl : ((-84 : Int32).toInt8.toInt32) = r := Option.some.inj hF
                exact own_retN X hx (t := .byte) hret hlk (by simp) (hb hby dRawMessageSecondValueStartPinLaw_kind_63) eT (v := ((-84 : Int32).toInt8.toInt32)) rfl ⟨rfl, N, rfl⟩ (by decide) (by decide)
theorem ef_RawMessageSecondValueStartPinLaw_kind (m : MethodId) (x0 : Int32) : entryFrame m #[(.int x0)] 2 = mkF m 0 #[.val (.int x0), .unset] [] := by first | (simp [entryFrame, mkF, argsToLocals, Value.category]; done) | rfl
set_option maxRecDepth 65536 in
set_option maxHeartbeats 4000000 in
theorem rm_RawMessageSecondValueStartPinLaw_kind (l : Launch) (Z : State) (a0 : Array Value) (hw : ∀ d ∈ tables_1, d.before a0 Z = true) (ws : List Jvm.Cond) (hE : Heap) (n0 : Nat) (z : n0 ≤ hE.size)  (v0 : Int32) (r : Int32) (hF : (f_RawMessageSecondValueStartPinLaw_kind v0) = some r) :
    MetFree l (⟨"com/example/oxpecker/oxpecker/sip/RawMessageSecondValueStartPinLaw", "kind", "(I)B"⟩ : MethodName) (head1 (Jvm.Cond.code (⟨"com/example/oxpecker/oxpecker/sip/RawMessageSecondValueStartPinLaw", "kind", "(I)B"⟩ : MethodName) method_2_code 2 (some .byte) :: ws) ({ frames := 0, cells := 0, slots := 0, locals := 0 } : Room)) (fun a U => a = #[(.int v0)] ∧ Z.Warmed39 U.vm ∧ U.heap = hE) (fun _ _ _ _ _ => True) (fun _ U o U' => ∃ v L, o = .returned v ∧ (Q_RawMessageSecondValueStartPinLaw_kind Z hE n0 r) v U'.heap L ∧ FrameEnd U o U' L ({ frames := 0, cells := 0, slots := 0, locals := 0 } : Room).cells ({ frames := 0, cells := 0, slots := 0, locals := 0 } : Room).slots) := by
  refine MetFree.of_bodySF (plainFor_of_name pn_com_example_oxpecker_oxpecker_sip_RawMessageSecondValueStartPinLaw) hisR ?_
  intro p e s m args below meth c s₁ Bd hml0 hP hK
  obtain ⟨rfl, hZ, hh⟩ := hP
  have X0 : Stand p l e ({ frames := 0, cells := 0, slots := 0, locals := 0 } : Room) s m #[(.int v0)] below meth c s₁ [] 0 0 := Stand.of_body Bd
  have e0 : s₁.heap = hE := by rw [← hh, Bd.state]; rfl
  have cx : Cx_RawMessageSecondValueStartPinLaw_kind p s m meth c Z a0 := ⟨Bd.exec, hZ, hw, Bd.bytes, hml0, findClass_of_methodNamed Bd.named, Bd.returns, Bd.notSynchronized, (name_of_methodNamed Bd.named Bd.method).1⟩
  show own_Goes p e below s (Q_RawMessageSecondValueStartPinLaw_kind Z hE n0 r) ({ frames := 0, cells := 0, slots := 0, locals := 0 } : Room).cells ({ frames := 0, cells := 0, slots := 0, locals := 0 } : Room).slots (s₁.setTop (entryFrame m #[(.int v0)] 2))
  rw [ef_RawMessageSecondValueStartPinLaw_kind]
  exact b_RawMessageSecondValueStartPinLaw_kind cx X0 e0 (Fr.nil n0) z v0 _ hF
/-! com/example/oxpecker/oxpecker/sip/RawMessage.indexOf:(BI)I -/
def f_RawMessage_indexOf_2 : Nat → Int32 → Int32 → Int32 → Int32 → (List Int32) → Option (Int32)
  | 0, _, _, _, _, _ => none
  | n + 1, v1, v3, f_a1_bodyStart, f_a1_lines, bs_a2 =>
    if v3 < (own_sz bs_a2) then
      own_ck (own_inb bs_a2 v3) <|
      if (own_rd bs_a2 v3) = v1 then
        some v3
      else
        own_lt (v3 + (1 : Int32)) fun x41 =>
        (f_RawMessage_indexOf_2 n) v1 x41 f_a1_bodyStart f_a1_lines bs_a2
    else
      some (-1 : Int32)
def f_RawMessage_indexOf (v1 : Int32) (v2 : Int32) (f_a1_bodyStart : Int32) (f_a1_lines : Int32) (bs_a2 : List Int32) : Option (Int32) :=
  (f_RawMessage_indexOf_2 100 v1 v2 f_a1_bodyStart f_a1_lines bs_a2)
def Q_RawMessage_indexOf (Z : State) (hE : Heap) (n0 : Nat) (a1 : Addr) (a2 : Addr) (r : Int32) (v : Option Value) (h : Heap) (L : List Loc) : Prop := v = some (.int r) ∧ Fr n0 L ∧ h = hE
def Cx_RawMessage_indexOf (p : Program) (s : State) (m : MethodId) (meth : Method) (c : Code) (Z : State) (a0 : Array Value) : Prop := p.tables.exec = Jvm.exec ∧ Z.Warmed39 s.vm ∧ (∀ d ∈ tables_1, d.before a0 Z = true) ∧ c.code = prog_12_method_17_code ∧ c.maxLocals = 4 ∧ s.vm.findClass "com/example/oxpecker/oxpecker/sip/RawMessage" = some m.cls ∧ meth.sig.returnType = some .int ∧ meth.locks = false ∧ meth.name = "indexOf"
set_option maxRecDepth 65536 in
set_option maxHeartbeats 4000000 in
theorem b_RawMessage_indexOf_2 {p : Program} {l : Launch} {e : Env} {s : State} {m : MethodId} {args : Array Value} {below : List Frame} {meth : Method} {c : Code} {Z : State} {a0 : Array Value} {n0 : Nat} {hE : Heap} (cx : Cx_RawMessage_indexOf p s m meth c Z a0) (a1 : Addr) (a2 : Addr) (n : Nat) :
    ∀ {T : State} {locs : List Loc} (X : Stand p l e ({ frames := 0, cells := 0, slots := 0, locals := 0 } : Room) s m args below meth c T locs 0 0) (eT : T.heap = hE) (N : Fr n0 locs) (z : n0 ≤ hE.size) (v1 : Int32) (v3 : Int32) (f_a1_bodyStart : Int32) (f_a1_lines : Int32) (bs_a2 : List Int32) (d2 : Slot) (o_d2 : One d2) (E_a1 : Exa Z hE a1 "com/example/oxpecker/oxpecker/sip/RawMessage") (F_a1_bodyStart : Fld Z hE a1 "com/example/oxpecker/oxpecker/sip/RawMessage" "bodyStart" "I" (.int f_a1_bodyStart)) (F_a1_bytes : Fld Z hE a1 "com/example/oxpecker/oxpecker/sip/RawMessage" "bytes" "[B" (.ref a2)) (F_a1_lineEnds : Fld Z hE a1 "com/example/oxpecker/oxpecker/sip/RawMessage" "lineEnds" "[I" .null) (F_a1_lineStarts : Fld Z hE a1 "com/example/oxpecker/oxpecker/sip/RawMessage" "lineStarts" "[I" .null) (F_a1_lines : Fld Z hE a1 "com/example/oxpecker/oxpecker/sip/RawMessage" "lines" "I" (.int f_a1_lines)) (F_a1_wordLengths : Fld Z hE a1 "com/example/oxpecker/oxpecker/sip/RawMessage" "wordLengths" "[I" .null) (g_a1 : n0 ≤ a1) (A_a2 : own_Ar Z hE a2 .byte (bs_a2.map Value.int)) (g_a2 : n0 ≤ a2) (ne_a1_a2 : a1 ≠ a2) (r : Int32), f_RawMessage_indexOf_2 n v1 v3 f_a1_bodyStart f_a1_lines bs_a2 = some r → own_Goes p e below s (Q_RawMessage_indexOf Z hE n0 a1 a2 r) 0 0 (T.setTop (mkF m 2 #[.val (.ref a1), .val (.int v1), d2, .val (.int v3)] [])) := by
  have cx' := cx
  obtain ⟨hx, hZ, hw, hby, hml, hown, hret, hlk, hnm⟩ := cx'
  induction n with
  | zero =>
    intro T locs X eT N z v1 v3 f_a1_bodyStart f_a1_lines bs_a2 d2 o_d2 E_a1 F_a1_bodyStart F_a1_bytes F_a1_lineEnds F_a1_lineStarts F_a1_lines F_a1_wordLengths g_a1 A_a2 g_a2 ne_a1_a2 r hF
    cases hF
  | succ n ih =>
    intro T locs X eT N z v1 v3 f_a1_bodyStart f_a1_lines bs_a2 d2 o_d2 E_a1 F_a1_bodyStart F_a1_bytes F_a1_lineEnds F_a1_lineStarts F_a1_lines F_a1_wordLengths g_a1 A_a2 g_a2 ne_a1_a2 r hF
    rw [f_RawMessage_indexOf_2] at hF
    refine own_Goes.via (B := T.setTop (mkF m 4 #[.val (.ref a1), .val (.int v1), d2, .val (.int v3)] [(.ref a1), (.int v3)])) (fun t k => ?_) ?_
    · show Steps p.tables e below (T.setTop (mkF m 2 #[.val (.ref a1), .val (.int v1), d2, .val (.int v3)] [])) t
      refine XS.iloadN X.here hx rfl (hb hby dRawMessage_indexOf_2) rfl ?_
      show Steps p.tables e below (T.setTop (mkF m 3 #[.val (.ref a1), .val (.int v1), d2, .val (.int v3)] [(.int v3)])) t
      refine XS.aloadN X.here hx rfl (hb hby dRawMessage_indexOf_3) rfl rfl ?_
      exact k
    obtain ⟨T39, X39, e39, st39⟩ := getF X hx hZ hown (host := "") (Or.inl (w15 hw)) Via.refl eT F_a1_bytes (g := (mkF m 4 #[.val (.ref a1), .val (.int v1), d2, .val (.int v3)] [(.ref a1), (.int v3)])) rfl rfl (hb hby dRawMessage_indexOf_4)
    refine own_Goes.via st39 ?_
    show own_Goes _ _ _ _ _ _ _ (T39.setTop (mkF m 7 #[.val (.ref a1), .val (.int v1), d2, .val (.int v3)] [(.ref a2), (.int v3)]))
    refine own_Goes.via (B := T39.setTop (mkF m 8 #[.val (.ref a1), .val (.int v1), d2, .val (.int v3)] [(.int (own_sz bs_a2)), (.int v3)])) (fun t k => ?_) ?_
    · show Steps p.tables e below (T39.setTop (mkF m 7 #[.val (.ref a1), .val (.int v1), d2, .val (.int v3)] [(.ref a2), (.int v3)])) t
      refine own_len X39 hx hZ e39 A_a2 (g := (mkF m 7 #[.val (.ref a1), .val (.int v1), d2, .val (.int v3)] [(.ref a2), (.int v3)])) rfl rfl (hb hby dRawMessage_indexOf_7) ?_
      exact k
    by_cases hc8 : v3 < (own_sz bs_a2)
    · rw [if_pos hc8] at hF
      refine own_Goes.via (B := T39.setTop (mkF m 12 #[.val (.ref a1), .val (.int v1), d2, .val (.int v3)] [(.ref a1)])) (fun t k => ?_) ?_
      · show Steps p.tables e below (T39.setTop (mkF m 8 #[.val (.ref a1), .val (.int v1), d2, .val (.int v3)] [(.int (own_sz bs_a2)), (.int v3)])) t
        refine XS.icmpNo X39.here hx rfl (hb hby dRawMessage_indexOf_8) rfl (tlt hc8).2.1 ?_
        show Steps p.tables e below (T39.setTop (mkF m 11 #[.val (.ref a1), .val (.int v1), d2, .val (.int v3)] [])) t
        refine XS.aloadN X39.here hx rfl (hb hby dRawMessage_indexOf_11) rfl rfl ?_
        exact k
      obtain ⟨T40, X40, e40, st40⟩ := getF X39 hx hZ hown (host := "") (Or.inl (w15 hw)) Via.refl e39 F_a1_bytes (g := (mkF m 12 #[.val (.ref a1), .val (.int v1), d2, .val (.int v3)] [(.ref a1)])) rfl rfl (hb hby dRawMessage_indexOf_12)
      refine own_Goes.via st40 ?_
      show own_Goes _ _ _ _ _ _ _ (T40.setTop (mkF m 15 #[.val (.ref a1), .val (.int v1), d2, .val (.int v3)] [(.ref a2)]))
      refine own_Goes.via (B := T40.setTop (mkF m 16 #[.val (.ref a1), .val (.int v1), d2, .val (.int v3)] [(.int v3), (.ref a2)])) (fun t k => ?_) ?_
      · show Steps p.tables e below (T40.setTop (mkF m 15 #[.val (.ref a1), .val (.int v1), d2, .val (.int v3)] [(.ref a2)])) t
        refine XS.iloadN X40.here hx rfl (hb hby dRawMessage_indexOf_15) rfl ?_
        exact k
      obtain ⟨hi16, hF⟩ := own_ck_e hF
      refine own_Goes.via (B := T40.setTop (mkF m 18 #[.val (.ref a1), .val (.int v1), d2, .val (.int v3)] [(.int v1), (.int (own_rd bs_a2 v3))])) (fun t k => ?_) ?_
      · show Steps p.tables e below (T40.setTop (mkF m 16 #[.val (.ref a1), .val (.int v1), d2, .val (.int v3)] [(.int v3), (.ref a2)])) t
        refine own_ldB X40 hx hZ e40 A_a2 hi16 rfl (g := (mkF m 16 #[.val (.ref a1), .val (.int v1), d2, .val (.int v3)] [(.int v3), (.ref a2)])) rfl rfl (hb hby dRawMessage_indexOf_16) ?_
        show Steps p.tables e below (T40.setTop (mkF m 17 #[.val (.ref a1), .val (.int v1), d2, .val (.int v3)] [(.int (own_rd bs_a2 v3))])) t
        refine XS.iloadN X40.here hx rfl (hb hby dRawMessage_indexOf_17) rfl ?_
        exact k
      by_cases hc18 : (own_rd bs_a2 v3) = v1
      · rw [if_pos hc18] at hF
        refine own_Goes.via (B := T40.setTop (mkF m 22 #[.val (.ref a1), .val (.int v1), d2, .val (.int v3)] [(.int v3)])) (fun t k => ?_) ?_
        · show Steps p.tables e below (T40.setTop (mkF m 18 #[.val (.ref a1), .val (.int v1), d2, .val (.int v3)] [(.int v1), (.int (own_rd bs_a2 v3))])) t
          refine XS.icmpNo X40.here hx rfl (hb hby dRawMessage_indexOf_18) rfl (teq hc18).2 ?_
          show Steps p.tables e below (T40.setTop (mkF m 21 #[.val (.ref a1), .val (.int v1), d2, .val (.int v3)] [])) t
          refine XS.iloadN X40.here hx rfl (hb hby dRawMessage_indexOf_21) rfl ?_
          exact k
        obtain rfl : v3 = r := Option.some.inj hF
        exact own_retI X40 hx hret hlk (hb hby dRawMessage_indexOf_22) e40 ⟨rfl, N, rfl⟩ (by decide) (by decide)
      · rw [if_neg hc18] at hF
        refine own_Goes.via (B := T40.setTop (mkF m 26 #[.val (.ref a1), .val (.int v1), d2, .val (.int (v3 + (1 : Int32)))] [])) (fun t k => ?_) ?_
        · show Steps p.tables e below (T40.setTop (mkF m 18 #[.val (.ref a1), .val (.int v1), d2, .val (.int v3)] [(.int v1), (.int (own_rd bs_a2 v3))])) t
          refine XS.icmpYes X40.here hx rfl (pc0 := 18) (pc' := 23) rfl (hb hby dRawMessage_indexOf_18) rfl (feq hc18).2 (by decide) (by decide) ?_
          show Steps p.tables e below (T40.setTop (mkF m 23 #[.val (.ref a1), .val (.int v1), d2, .val (.int v3)] [])) t
          refine XS.iinc X40.here hx rfl (hb hby dRawMessage_indexOf_23) rfl (l' := #[.val (.ref a1), .val (.int v1), d2, .val (.int (v3 + (1 : Int32)))]) rfl ?_
          exact k
        obtain ⟨x41, hx41, hF⟩ := own_lt_e hF
        rw [← hx41]
        refine own_Goes.via (B := T40.setTop (mkF m 2 #[.val (.ref a1), .val (.int v1), d2, .val (.int x41)] [])) (fun t k => ?_) ?_
        · show Steps p.tables e below (T40.setTop (mkF m 26 #[.val (.ref a1), .val (.int v1), d2, .val (.int x41)] [])) t
          refine XS.goto X40.here hx rfl (pc0 := 26) (pc' := 2) rfl (hb hby dRawMessage_indexOf_26) (by decide) (by decide) ?_
          exact k
        exact ih X40 e40 N z v1 x41 f_a1_bodyStart f_a1_lines bs_a2 d2 o_d2 E_a1 F_a1_bodyStart F_a1_bytes F_a1_lineEnds F_a1_lineStarts F_a1_lines F_a1_wordLengths g_a1 A_a2 g_a2 ne_a1_a2 _ hF
    · rw [if_neg hc8] at hF
      refine own_Goes.via (B := T39.setTop (mkF m 30 #[.val (.ref a1), .val (.int v1), d2, .val (.int v3)] [(.int (-1 : Int32))])) (fun t k => ?_) ?_
      · show Steps p.tables e below (T39.setTop (mkF m 8 #[.val (.ref a1), .val (.int v1), d2, .val (.int v3)] [(.int (own_sz bs_a2)), (.int v3)])) t
        refine XS.icmpYes X39.here hx rfl (pc0 := 8) (pc' := 29) rfl (hb hby dRawMessage_indexOf_8) rfl (flt hc8).2.1 (by decide) (by decide) ?_
        show Steps p.tables e below (T39.setTop (mkF m 29 #[.val (.ref a1), .val (.int v1), d2, .val (.int v3)] [])) t
        refine XS.iconst X39.here hx rfl (hb hby dRawMessage_indexOf_29) ?_
        exact k
      obtain rfl : (-1 : Int32) = r := Option.some.inj hF
      exact own_retI X39 hx hret hlk (hb hby dRawMessage_indexOf_30) e39 ⟨rfl, N, rfl⟩ (by decide) (by decide)
set_option maxRecDepth 65536 in
set_option maxHeartbeats 4000000 in
theorem b_RawMessage_indexOf {p : Program} {l : Launch} {e : Env} {s : State} {m : MethodId} {args : Array Value} {below : List Frame} {meth : Method} {c : Code} {Z : State} {a0 : Array Value} {n0 : Nat} {hE : Heap} (cx : Cx_RawMessage_indexOf p s m meth c Z a0) (a1 : Addr) (a2 : Addr) :
    ∀ {T : State} {locs : List Loc} (X : Stand p l e ({ frames := 0, cells := 0, slots := 0, locals := 0 } : Room) s m args below meth c T locs 0 0) (eT : T.heap = hE) (N : Fr n0 locs) (z : n0 ≤ hE.size) (v1 : Int32) (v2 : Int32) (f_a1_bodyStart : Int32) (f_a1_lines : Int32) (bs_a2 : List Int32) (E_a1 : Exa Z hE a1 "com/example/oxpecker/oxpecker/sip/RawMessage") (F_a1_bodyStart : Fld Z hE a1 "com/example/oxpecker/oxpecker/sip/RawMessage" "bodyStart" "I" (.int f_a1_bodyStart)) (F_a1_bytes : Fld Z hE a1 "com/example/oxpecker/oxpecker/sip/RawMessage" "bytes" "[B" (.ref a2)) (F_a1_lineEnds : Fld Z hE a1 "com/example/oxpecker/oxpecker/sip/RawMessage" "lineEnds" "[I" .null) (F_a1_lineStarts : Fld Z hE a1 "com/example/oxpecker/oxpecker/sip/RawMessage" "lineStarts" "[I" .null) (F_a1_lines : Fld Z hE a1 "com/example/oxpecker/oxpecker/sip/RawMessage" "lines" "I" (.int f_a1_lines)) (F_a1_wordLengths : Fld Z hE a1 "com/example/oxpecker/oxpecker/sip/RawMessage" "wordLengths" "[I" .null) (g_a1 : n0 ≤ a1) (A_a2 : own_Ar Z hE a2 .byte (bs_a2.map Value.int)) (g_a2 : n0 ≤ a2) (ne_a1_a2 : a1 ≠ a2) (r : Int32), f_RawMessage_indexOf v1 v2 f_a1_bodyStart f_a1_lines bs_a2 = some r → own_Goes p e below s (Q_RawMessage_indexOf Z hE n0 a1 a2 r) 0 0 (T.setTop (mkF m 0 #[.val (.ref a1), .val (.int v1), .val (.int v2), .unset] [])) := by
  have cx' := cx
  obtain ⟨hx, hZ, hw, hby, hml, hown, hret, hlk, hnm⟩ := cx'
  intro T locs X eT N z v1 v2 f_a1_bodyStart f_a1_lines bs_a2 E_a1 F_a1_bodyStart F_a1_bytes F_a1_lineEnds F_a1_lineStarts F_a1_lines F_a1_wordLengths g_a1 A_a2 g_a2 ne_a1_a2 r hF
  unfold f_RawMessage_indexOf at hF
  refine own_Goes.via (B := T.setTop (mkF m 2 #[.val (.ref a1), .val (.int v1), .val (.int v2), .val (.int v2)] [])) (fun t k => ?_) ?_
  · show Steps p.tables e below (T.setTop (mkF m 0 #[.val (.ref a1), .val (.int v1), .val (.int v2), .unset] [])) t
    refine XS.iloadN X.here hx rfl (hb hby dRawMessage_indexOf_0) rfl ?_
    show Steps p.tables e below (T.setTop (mkF m 1 #[.val (.ref a1), .val (.int v1), .val (.int v2), .unset] [(.int v2)])) t
    refine XS.istoreN X.here hx rfl (hb hby dRawMessage_indexOf_1) rfl (l' := #[.val (.ref a1), .val (.int v1), .val (.int v2), .val (.int v2)]) rfl ?_
    exact k
  exact b_RawMessage_indexOf_2 cx a1 a2 _ X eT N z v1 v2 f_a1_bodyStart f_a1_lines bs_a2 (.val (.int v2)) (One.val rfl) E_a1 F_a1_bodyStart F_a1_bytes F_a1_lineEnds F_a1_lineStarts F_a1_lines F_a1_wordLengths g_a1 A_a2 g_a2 ne_a1_a2 _ hF
theorem ef_RawMessage_indexOf (m : MethodId) (x0 : Addr) (x1 : Int32) (x2 : Int32) : entryFrame m #[(.ref x0), (.int x1), (.int x2)] 4 = mkF m 0 #[.val (.ref x0), .val (.int x1), .val (.int x2), .unset] [] := by first | (simp [entryFrame, mkF, argsToLocals, Value.category]; done) | rfl
set_option maxRecDepth 65536 in
set_option maxHeartbeats 4000000 in
theorem rm_RawMessage_indexOf (l : Launch) (Z : State) (a0 : Array Value) (hw : ∀ d ∈ tables_1, d.before a0 Z = true) (ws : List Jvm.Cond) (hE : Heap) (n0 : Nat) (z : n0 ≤ hE.size) (a1 : Addr) (a2 : Addr) (v1 : Int32) (v2 : Int32) (f_a1_bodyStart : Int32) (f_a1_lines : Int32) (bs_a2 : List Int32) (E_a1 : Exa Z hE a1 "com/example/oxpecker/oxpecker/sip/RawMessage") (F_a1_bodyStart : Fld Z hE a1 "com/example/oxpecker/oxpecker/sip/RawMessage" "bodyStart" "I" (.int f_a1_bodyStart)) (F_a1_bytes : Fld Z hE a1 "com/example/oxpecker/oxpecker/sip/RawMessage" "bytes" "[B" (.ref a2)) (F_a1_lineEnds : Fld Z hE a1 "com/example/oxpecker/oxpecker/sip/RawMessage" "lineEnds" "[I" .null) (F_a1_lineStarts : Fld Z hE a1 "com/example/oxpecker/oxpecker/sip/RawMessage" "lineStarts" "[I" .null) (F_a1_lines : Fld Z hE a1 "com/example/oxpecker/oxpecker/sip/RawMessage" "lines" "I" (.int f_a1_lines)) (F_a1_wordLengths : Fld Z hE a1 "com/example/oxpecker/oxpecker/sip/RawMessage" "wordLengths" "[I" .null) (g_a1 : n0 ≤ a1) (A_a2 : own_Ar Z hE a2 .byte (bs_a2.map Value.int)) (g_a2 : n0 ≤ a2) (ne_a1_a2 : a1 ≠ a2) (r : Int32) (hF : (f_RawMessage_indexOf v1 v2 f_a1_bodyStart f_a1_lines bs_a2) = some r) :
    MetFree l (⟨"com/example/oxpecker/oxpecker/sip/RawMessage", "indexOf", "(BI)I"⟩ : MethodName) (head1 (Jvm.Cond.code (⟨"com/example/oxpecker/oxpecker/sip/RawMessage", "indexOf", "(BI)I"⟩ : MethodName) prog_12_method_17_code 4 (some .int) :: ws) ({ frames := 0, cells := 0, slots := 0, locals := 0 } : Room)) (fun a U => a = #[(.ref a1), (.int v1), (.int v2)] ∧ Z.Warmed39 U.vm ∧ U.heap = hE) (fun _ _ _ _ _ => True) (fun _ U o U' => ∃ v L, o = .returned v ∧ (Q_RawMessage_indexOf Z hE n0 a1 a2 r) v U'.heap L ∧ FrameEnd U o U' L ({ frames := 0, cells := 0, slots := 0, locals := 0 } : Room).cells ({ frames := 0, cells := 0, slots := 0, locals := 0 } : Room).slots) := by
  refine MetFree.of_bodySF (plainFor_of_name pn_com_example_oxpecker_oxpecker_sip_RawMessage) hisR ?_
  intro p e s m args below meth c s₁ Bd hml0 hP hK
  obtain ⟨rfl, hZ, hh⟩ := hP
  have X0 : Stand p l e ({ frames := 0, cells := 0, slots := 0, locals := 0 } : Room) s m #[(.ref a1), (.int v1), (.int v2)] below meth c s₁ [] 0 0 := Stand.of_body Bd
  have e0 : s₁.heap = hE := by rw [← hh, Bd.state]; rfl
  have cx : Cx_RawMessage_indexOf p s m meth c Z a0 := ⟨Bd.exec, hZ, hw, Bd.bytes, hml0, findClass_of_methodNamed Bd.named, Bd.returns, Bd.notSynchronized, (name_of_methodNamed Bd.named Bd.method).1⟩
  show own_Goes p e below s (Q_RawMessage_indexOf Z hE n0 a1 a2 r) ({ frames := 0, cells := 0, slots := 0, locals := 0 } : Room).cells ({ frames := 0, cells := 0, slots := 0, locals := 0 } : Room).slots (s₁.setTop (entryFrame m #[(.ref a1), (.int v1), (.int v2)] 4))
  rw [ef_RawMessage_indexOf]
  exact b_RawMessage_indexOf cx a1 a2 X0 e0 (Fr.nil n0) z v1 v2 f_a1_bodyStart f_a1_lines bs_a2 E_a1 F_a1_bodyStart F_a1_bytes F_a1_lineEnds F_a1_lineStarts F_a1_lines F_a1_wordLengths g_a1 A_a2 g_a2 ne_a1_a2 _ hF
/-! com/example/oxpecker/oxpecker/sip/RawMessage.<init>:([B)V -/
def f_RawMessage_mk_222 (v5 : Int32) (v6 : Int32) (f_a1_bodyStart : Int32) (f_a1_lines : Int32) (bs_a2 : List Int32) (bs_b1 : List Int32) (bs_b2 : List Int32) (bs_b3 : List Int32) : Option (Int32 × Int32 × (List Int32) × (List Int32) × (List Int32)) :=
  some (v6, v5, bs_b2, bs_b1, bs_b3)
def f_RawMessage_mk_188 (k34 : Int32 → Int32 → Int32 → Int32 → Int32 → (List Int32) → (List Int32) → (List Int32) → (List Int32) → Option (Int32 × Int32 × (List Int32) × (List Int32) × (List Int32))) (v5 : Int32) (v6 : Int32) (v7 : Int32) (v9 : Int32) (v10 : Int32) (f_a1_bodyStart : Int32) (f_a1_lines : Int32) (bs_a2 : List Int32) (bs_b1 : List Int32) (bs_b2 : List Int32) (bs_b3 : List Int32) : Option (Int32 × Int32 × (List Int32) × (List Int32) × (List Int32)) :=
  own_ck (own_inb bs_b1 v5) <|
  own_lt (own_wr bs_b1 v5 v7) fun bs111 =>
  own_ck (own_inb bs_b2 v5) <|
  own_lt (own_wr bs_b2 v5 v9) fun bs113 =>
  own_lt (v10 - v7) fun x114 =>
  own_ck (own_inb bs_b3 v5) <|
  own_lt (own_wr bs_b3 v5 x114) fun bs116 =>
  own_lt (v5 + (1 : Int32)) fun x117 =>
  own_lt (v9 + (1 : Int32)) fun x118 =>
  k34 x117 v6 x118 f_a1_bodyStart f_a1_lines bs_a2 bs111 bs113 bs116
def f_RawMessage_mk_148 (k34 : Int32 → Int32 → Int32 → Int32 → Int32 → (List Int32) → (List Int32) → (List Int32) → (List Int32) → Option (Int32 × Int32 × (List Int32) × (List Int32) × (List Int32))) : Nat → Int32 → Int32 → Int32 → Int32 → Int32 → Int32 → Int32 → (List Int32) → (List Int32) → (List Int32) → (List Int32) → Option (Int32 × Int32 × (List Int32) × (List Int32) × (List Int32))
  | 0, _, _, _, _, _, _, _, _, _, _, _ => none
  | n + 1, v5, v6, v7, v9, v10, f_a1_bodyStart, f_a1_lines, bs_a2, bs_b1, bs_b2, bs_b3 =>
    if v10 < v9 then
      own_ck (own_inb bs_a2 v10) <|
      if (own_rd bs_a2 v10) = (58 : Int32) then
        (f_RawMessage_mk_188 k34 v5 v6 v7 v9 v10 f_a1_bodyStart f_a1_lines bs_a2 bs_b1 bs_b2 bs_b3)
      else
        own_ck (own_inb bs_a2 v10) <|
        if (own_rd bs_a2 v10) = (32 : Int32) then
          (f_RawMessage_mk_188 k34 v5 v6 v7 v9 v10 f_a1_bodyStart f_a1_lines bs_a2 bs_b1 bs_b2 bs_b3)
        else
          own_ck (own_inb bs_a2 v10) <|
          if (own_rd bs_a2 v10) = (9 : Int32) then
            (f_RawMessage_mk_188 k34 v5 v6 v7 v9 v10 f_a1_bodyStart f_a1_lines bs_a2 bs_b1 bs_b2 bs_b3)
          else
            own_lt (v10 + (1 : Int32)) fun x120 =>
            (f_RawMessage_mk_148 k34 n) v5 v6 v7 v9 x120 f_a1_bodyStart f_a1_lines bs_a2 bs_b1 bs_b2 bs_b3
    else
      (f_RawMessage_mk_188 k34 v5 v6 v7 v9 v10 f_a1_bodyStart f_a1_lines bs_a2 bs_b1 bs_b2 bs_b3)
def f_RawMessage_mk_108 (k34 : Int32 → Int32 → Int32 → Int32 → Int32 → (List Int32) → (List Int32) → (List Int32) → (List Int32) → Option (Int32 × Int32 × (List Int32) × (List Int32) × (List Int32))) (v5 : Int32) (v6 : Int32) (v7 : Int32) (v9 : Int32) (f_a1_bodyStart : Int32) (f_a1_lines : Int32) (bs_a2 : List Int32) (bs_b1 : List Int32) (bs_b2 : List Int32) (bs_b3 : List Int32) : Option (Int32 × Int32 × (List Int32) × (List Int32) × (List Int32)) :=
  if v5 = (own_sz bs_b1) then
    none
  else
    (f_RawMessage_mk_148 k34 100 v5 v6 v7 v9 v7 f_a1_bodyStart f_a1_lines bs_a2 bs_b1 bs_b2 bs_b3)
def f_RawMessage_mk_63 (k34 : Int32 → Int32 → Int32 → Int32 → Int32 → (List Int32) → (List Int32) → (List Int32) → (List Int32) → Option (Int32 × Int32 × (List Int32) × (List Int32) × (List Int32))) (v5 : Int32) (v6 : Int32) (v7 : Int32) (v8 : Int32) (t0 : Int32) (f_a1_bodyStart : Int32) (f_a1_lines : Int32) (bs_a2 : List Int32) (bs_b1 : List Int32) (bs_b2 : List Int32) (bs_b3 : List Int32) : Option (Int32 × Int32 × (List Int32) × (List Int32) × (List Int32)) :=
  if t0 = v7 then
    if v8 < (0 : Int32) then
      (f_RawMessage_mk_222 v5 (-1 : Int32) f_a1_bodyStart f_a1_lines bs_a2 bs_b1 bs_b2 bs_b3)
    else
      own_lt (v8 + (1 : Int32)) fun x121 =>
      (f_RawMessage_mk_222 v5 x121 f_a1_bodyStart f_a1_lines bs_a2 bs_b1 bs_b2 bs_b3)
  else
    if t0 = (v7 + (1 : Int32)) then
      own_ck (own_inb bs_a2 v7) <|
      if (own_rd bs_a2 v7) = (13 : Int32) then
        if v8 < (0 : Int32) then
          (f_RawMessage_mk_222 v5 (-1 : Int32) f_a1_bodyStart f_a1_lines bs_a2 bs_b1 bs_b2 bs_b3)
        else
          own_lt (v8 + (1 : Int32)) fun x122 =>
          (f_RawMessage_mk_222 v5 x122 f_a1_bodyStart f_a1_lines bs_a2 bs_b1 bs_b2 bs_b3)
      else
        (f_RawMessage_mk_108 k34 v5 v6 v7 t0 f_a1_bodyStart f_a1_lines bs_a2 bs_b1 bs_b2 bs_b3)
    else
      (f_RawMessage_mk_108 k34 v5 v6 v7 t0 f_a1_bodyStart f_a1_lines bs_a2 bs_b1 bs_b2 bs_b3)
def f_RawMessage_mk_34 : Nat → Int32 → Int32 → Int32 → Int32 → Int32 → (List Int32) → (List Int32) → (List Int32) → (List Int32) → Option (Int32 × Int32 × (List Int32) × (List Int32) × (List Int32))
  | 0, _, _, _, _, _, _, _, _, _ => none
  | n + 1, v5, v6, v7, f_a1_bodyStart, f_a1_lines, bs_a2, bs_b1, bs_b2, bs_b3 =>
    if v7 < (own_sz bs_a2) then
      own_bd (f_RawMessage_indexOf (10 : Int32) v7 f_a1_bodyStart f_a1_lines bs_a2) fun r123 =>
      if r123 < (0 : Int32) then
        (f_RawMessage_mk_63 (f_RawMessage_mk_34 n) v5 v6 v7 r123 (own_sz bs_a2) f_a1_bodyStart f_a1_lines bs_a2 bs_b1 bs_b2 bs_b3)
      else
        (f_RawMessage_mk_63 (f_RawMessage_mk_34 n) v5 v6 v7 r123 r123 f_a1_bodyStart f_a1_lines bs_a2 bs_b1 bs_b2 bs_b3)
    else
      (f_RawMessage_mk_222 v5 v6 f_a1_bodyStart f_a1_lines bs_a2 bs_b1 bs_b2 bs_b3)
def f_RawMessage_mk (f_a1_bodyStart : Int32) (f_a1_lines : Int32) (bs_a2 : List Int32) : Option (Int32 × Int32 × (List Int32) × (List Int32) × (List Int32)) :=
  (f_RawMessage_mk_34 100 (0 : Int32) (-1 : Int32) (0 : Int32) f_a1_bodyStart f_a1_lines bs_a2 ([(0 : Int32), (0 : Int32), (0 : Int32), (0 : Int32), (0 : Int32), (0 : Int32), (0 : Int32), (0 : Int32), (0 : Int32), (0 : Int32), (0 : Int32), (0 : Int32), (0 : Int32), (0 : Int32), (0 : Int32), (0 : Int32)] : List Int32) ([(0 : Int32), (0 : Int32), (0 : Int32), (0 : Int32), (0 : Int32), (0 : Int32), (0 : Int32), (0 : Int32), (0 : Int32), (0 : Int32), (0 : Int32), (0 : Int32), (0 : Int32), (0 : Int32), (0 : Int32), (0 : Int32)] : List Int32) ([(0 : Int32), (0 : Int32), (0 : Int32), (0 : Int32), (0 : Int32), (0 : Int32), (0 : Int32), (0 : Int32), (0 : Int32), (0 : Int32), (0 : Int32), (0 : Int32), (0 : Int32), (0 : Int32), (0 : Int32), (0 : Int32)] : List Int32))
def Q_RawMessage_mk (Z : State) (hE : Heap) (n0 : Nat) (a1 : Addr) (a2 : Addr) (r : Int32 × Int32 × (List Int32) × (List Int32) × (List Int32)) (v : Option Value) (h : Heap) (L : List Loc) : Prop := ∃ b1 : Addr, ∃ b2 : Addr, ∃ b3 : Addr, v = none ∧ Fr n0 L ∧ Keep hE h [a1] ∧ Exa Z h a1 "com/example/oxpecker/oxpecker/sip/RawMessage" ∧ Fld Z h a1 "com/example/oxpecker/oxpecker/sip/RawMessage" "bodyStart" "I" (.int r.1) ∧ Fld Z h a1 "com/example/oxpecker/oxpecker/sip/RawMessage" "bytes" "[B" (.ref a2) ∧ Fld Z h a1 "com/example/oxpecker/oxpecker/sip/RawMessage" "lineEnds" "[I" (.ref b1) ∧ Fld Z h a1 "com/example/oxpecker/oxpecker/sip/RawMessage" "lineStarts" "[I" (.ref b2) ∧ Fld Z h a1 "com/example/oxpecker/oxpecker/sip/RawMessage" "lines" "I" (.int r.2.1) ∧ Fld Z h a1 "com/example/oxpecker/oxpecker/sip/RawMessage" "wordLengths" "[I" (.ref b3) ∧ n0 ≤ b1 ∧ hE.size ≤ b1 ∧ own_Ar Z h b1 .int (r.2.2.1.map Value.int) ∧ n0 ≤ b2 ∧ hE.size ≤ b2 ∧ own_Ar Z h b2 .int (r.2.2.2.1.map Value.int) ∧ b2 ≠ b1 ∧ n0 ≤ b3 ∧ hE.size ≤ b3 ∧ own_Ar Z h b3 .int (r.2.2.2.2.map Value.int) ∧ b3 ≠ b1 ∧ b3 ≠ b2
def Cx_RawMessage_mk (p : Program) (s : State) (m : MethodId) (meth : Method) (c : Code) (Z : State) (a0 : Array Value) : Prop := p.tables.exec = Jvm.exec ∧ Z.Warmed39 s.vm ∧ (∀ d ∈ tables_1, d.before a0 Z = true) ∧ c.code = prog_12_method_1_code ∧ c.maxLocals = 11 ∧ s.vm.findClass "com/example/oxpecker/oxpecker/sip/RawMessage" = some m.cls ∧ meth.sig.returnType = none ∧ meth.locks = false ∧ meth.name = "<init>"
set_option maxRecDepth 65536 in
set_option maxHeartbeats 4000000 in
theorem b_RawMessage_mk_222 {p : Program} {l : Launch} {e : Env} {s : State} {m : MethodId} {args : Array Value} {below : List Frame} {meth : Method} {c : Code} {Z : State} {a0 : Array Value} {n0 : Nat} {hE : Heap} (cx : Cx_RawMessage_mk p s m meth c Z a0) (a1 : Addr) (a2 : Addr) :
    ∀ {T : State} {locs : List Loc} {h : Heap} (X : Stand p l e ({ frames := 1, cells := 3, slots := 48, locals := 15 } : Room) s m args below meth c T locs 3 48) (eT : T.heap = h) (N : Fr n0 locs) (K : Keep hE h [a1]) (z : n0 ≤ h.size) (b1 : Addr) (b2 : Addr) (b3 : Addr) (v5 : Int32) (v6 : Int32) (f_a1_bodyStart : Int32) (f_a1_lines : Int32) (bs_a2 : List Int32) (bs_b1 : List Int32) (bs_b2 : List Int32) (bs_b3 : List Int32) (d1 : Slot) (d7 : Slot) (d8 : Slot) (d9 : Slot) (d10 : Slot) (o_d1 : One d1) (o_d7 : One d7) (o_d8 : One d8) (o_d9 : One d9) (o_d10 : One d10) (E_a1 : Exa Z h a1 "com/example/oxpecker/oxpecker/sip/RawMessage") (F_a1_bodyStart : Fld Z h a1 "com/example/oxpecker/oxpecker/sip/RawMessage" "bodyStart" "I" (.int f_a1_bodyStart)) (F_a1_bytes : Fld Z h a1 "com/example/oxpecker/oxpecker/sip/RawMessage" "bytes" "[B" (.ref a2)) (F_a1_lineEnds : Fld Z h a1 "com/example/oxpecker/oxpecker/sip/RawMessage" "lineEnds" "[I" .null) (F_a1_lineStarts : Fld Z h a1 "com/example/oxpecker/oxpecker/sip/RawMessage" "lineStarts" "[I" .null) (F_a1_lines : Fld Z h a1 "com/example/oxpecker/oxpecker/sip/RawMessage" "lines" "I" (.int f_a1_lines)) (F_a1_wordLengths : Fld Z h a1 "com/example/oxpecker/oxpecker/sip/RawMessage" "wordLengths" "[I" .null) (g_a1 : n0 ≤ a1) (A_a2 : own_Ar Z h a2 .byte (bs_a2.map Value.int)) (g_a2 : n0 ≤ a2) (A_b1 : own_Ar Z h b1 .int (bs_b1.map Value.int)) (g_b1 : n0 ≤ b1) (nE_b1 : hE.size ≤ b1) (A_b2 : own_Ar Z h b2 .int (bs_b2.map Value.int)) (g_b2 : n0 ≤ b2) (nE_b2 : hE.size ≤ b2) (A_b3 : own_Ar Z h b3 .int (bs_b3.map Value.int)) (g_b3 : n0 ≤ b3) (nE_b3 : hE.size ≤ b3) (ne_a1_a2 : a1 ≠ a2) (ne_a1_b1 : a1 ≠ b1) (ne_a2_b1 : a2 ≠ b1) (ne_a1_b2 : a1 ≠ b2) (ne_a2_b2 : a2 ≠ b2) (ne_b1_b2 : b1 ≠ b2) (ne_a1_b3 : a1 ≠ b3) (ne_a2_b3 : a2 ≠ b3) (ne_b1_b3 : b1 ≠ b3) (ne_b2_b3 : b2 ≠ b3) (r : Int32 × Int32 × (List Int32) × (List Int32) × (List Int32)), f_RawMessage_mk_222 v5 v6 f_a1_bodyStart f_a1_lines bs_a2 bs_b1 bs_b2 bs_b3 = some r → own_Goes p e below s (Q_RawMessage_mk Z hE n0 a1 a2 r) 3 48 (T.setTop (mkF m 222 #[.val (.ref a1), d1, .val (.ref b1), .val (.ref b2), .val (.ref b3), .val (.int v5), .val (.int v6), d7, d8, d9, d10] [])) := by
  have cx' := cx
  obtain ⟨hx, hZ, hw, hby, hml, hown, hret, hlk, hnm⟩ := cx'
  intro T locs h X eT N K z b1 b2 b3 v5 v6 f_a1_bodyStart f_a1_lines bs_a2 bs_b1 bs_b2 bs_b3 d1 d7 d8 d9 d10 o_d1 o_d7 o_d8 o_d9 o_d10 E_a1 F_a1_bodyStart F_a1_bytes F_a1_lineEnds F_a1_lineStarts F_a1_lines F_a1_wordLengths g_a1 A_a2 g_a2 A_b1 g_b1 nE_b1 A_b2 g_b2 nE_b2 A_b3 g_b3 nE_b3 ne_a1_a2 ne_a1_b1 ne_a2_b1 ne_a1_b2 ne_a2_b2 ne_b1_b2 ne_a1_b3 ne_a2_b3 ne_b1_b3 ne_b2_b3 r hF
  unfold f_RawMessage_mk_222 at hF
  refine own_Goes.via (B := T.setTop (mkF m 224 #[.val (.ref a1), d1, .val (.ref b1), .val (.ref b2), .val (.ref b3), .val (.int v5), .val (.int v6), d7, d8, d9, d10] [(.ref b1), (.ref a1)])) (fun t k => ?_) ?_
  · show Steps p.tables e below (T.setTop (mkF m 222 #[.val (.ref a1), d1, .val (.ref b1), .val (.ref b2), .val (.ref b3), .val (.int v5), .val (.int v6), d7, d8, d9, d10] [])) t
    refine XS.aloadN X.here hx rfl (hb hby dRawMessage_mk_222) rfl rfl ?_
    show Steps p.tables e below (T.setTop (mkF m 223 #[.val (.ref a1), d1, .val (.ref b1), .val (.ref b2), .val (.ref b3), .val (.int v5), .val (.int v6), d7, d8, d9, d10] [(.ref a1)])) t
    refine XS.aloadN X.here hx rfl (hb hby dRawMessage_mk_223) rfl rfl ?_
    exact k
  obtain ⟨T94, h94, X94, e94, W94, st94⟩ := putF X hx hZ hown (host := "") (Or.inl (w22 hw)) Via.refl eT F_a1_lineStarts E_a1 (Or.inr ⟨(w23 hw), rfl, hnm⟩) (w7 hw) (ty := (.array .int)) (by decide) rfl rfl (g := (mkF m 224 #[.val (.ref a1), d1, .val (.ref b1), .val (.ref b2), .val (.ref b3), .val (.int v5), .val (.int v6), d7, d8, d9, d10] [(.ref b1), (.ref a1)])) rfl rfl (hb hby dRawMessage_mk_224)
  refine own_Goes.via st94 ?_
  have E94_a1 := E_a1.wr W94
  have F94_a1_bodyStart := F_a1_bodyStart.other W94 (Or.inr (slot_ne (Or.inr (w31 hw)) (Or.inr (w23 hw)) (by decide) (t := .int) (t' := (.array .int)) (by decide) (by decide)))
  have F94_a1_bytes := F_a1_bytes.other W94 (Or.inr (slot_ne (Or.inr (w16 hw)) (Or.inr (w23 hw)) (by decide) (t := (.array .byte)) (t' := (.array .int)) (by decide) (by decide)))
  have F94_a1_lineEnds := F_a1_lineEnds.other W94 (Or.inr (slot_ne (Or.inr (w25 hw)) (Or.inr (w23 hw)) (by decide) (t := (.array .int)) (t' := (.array .int)) (by decide) (by decide)))
  have F94_a1_lines := F_a1_lines.other W94 (Or.inr (slot_ne (Or.inr (w29 hw)) (Or.inr (w23 hw)) (by decide) (t := .int) (t' := (.array .int)) (by decide) (by decide)))
  have F94_a1_wordLengths := F_a1_wordLengths.other W94 (Or.inr (slot_ne (Or.inr (w27 hw)) (Or.inr (w23 hw)) (by decide) (t := (.array .int)) (t' := (.array .int)) (by decide) (by decide)))
  have A94_a2 := A_a2.other W94 (Ne.symm ne_a1_a2)
  have A94_b1 := A_b1.other W94 (Ne.symm ne_a1_b1)
  have A94_b2 := A_b2.other W94 (Ne.symm ne_a1_b2)
  have A94_b3 := A_b3.other W94 (Ne.symm ne_a1_b3)
  have F94_a1_lineStarts := F_a1_lineStarts.same W94
  have z94 := Nat.le_trans z (Keep.of_wr W94).1
  have K94_ := K.wr W94 (Or.inl (List.mem_of_getElem? (i := 0) rfl))
  have N94 := Fr.snoc X94 N g_a1
  show own_Goes _ _ _ _ _ _ _ (T94.setTop (mkF m 227 #[.val (.ref a1), d1, .val (.ref b1), .val (.ref b2), .val (.ref b3), .val (.int v5), .val (.int v6), d7, d8, d9, d10] []))
  refine own_Goes.via (B := T94.setTop (mkF m 229 #[.val (.ref a1), d1, .val (.ref b1), .val (.ref b2), .val (.ref b3), .val (.int v5), .val (.int v6), d7, d8, d9, d10] [(.ref b2), (.ref a1)])) (fun t k => ?_) ?_
  · show Steps p.tables e below (T94.setTop (mkF m 227 #[.val (.ref a1), d1, .val (.ref b1), .val (.ref b2), .val (.ref b3), .val (.int v5), .val (.int v6), d7, d8, d9, d10] [])) t
    refine XS.aloadN X94.here hx rfl (hb hby dRawMessage_mk_227) rfl rfl ?_
    show Steps p.tables e below (T94.setTop (mkF m 228 #[.val (.ref a1), d1, .val (.ref b1), .val (.ref b2), .val (.ref b3), .val (.int v5), .val (.int v6), d7, d8, d9, d10] [(.ref a1)])) t
    refine XS.aloadN X94.here hx rfl (hb hby dRawMessage_mk_228) rfl rfl ?_
    exact k
  obtain ⟨T95, h95, X95, e95, W95, st95⟩ := putF X94 hx hZ hown (host := "") (Or.inl (w24 hw)) Via.refl e94 F94_a1_lineEnds E94_a1 (Or.inr ⟨(w25 hw), rfl, hnm⟩) (w7 hw) (ty := (.array .int)) (by decide) rfl rfl (g := (mkF m 229 #[.val (.ref a1), d1, .val (.ref b1), .val (.ref b2), .val (.ref b3), .val (.int v5), .val (.int v6), d7, d8, d9, d10] [(.ref b2), (.ref a1)])) rfl rfl (hb hby dRawMessage_mk_229)
  refine own_Goes.via st95 ?_
  have E95_a1 := E94_a1.wr W95
  have F95_a1_bodyStart := F94_a1_bodyStart.other W95 (Or.inr (slot_ne (Or.inr (w31 hw)) (Or.inr (w25 hw)) (by decide) (t := .int) (t' := (.array .int)) (by decide) (by decide)))
  have F95_a1_bytes := F94_a1_bytes.other W95 (Or.inr (slot_ne (Or.inr (w16 hw)) (Or.inr (w25 hw)) (by decide) (t := (.array .byte)) (t' := (.array .int)) (by decide) (by decide)))
  have F95_a1_lineStarts := F94_a1_lineStarts.other W95 (Or.inr (slot_ne (Or.inr (w23 hw)) (Or.inr (w25 hw)) (by decide) (t := (.array .int)) (t' := (.array .int)) (by decide) (by decide)))
  have F95_a1_lines := F94_a1_lines.other W95 (Or.inr (slot_ne (Or.inr (w29 hw)) (Or.inr (w25 hw)) (by decide) (t := .int) (t' := (.array .int)) (by decide) (by decide)))
  have F95_a1_wordLengths := F94_a1_wordLengths.other W95 (Or.inr (slot_ne (Or.inr (w27 hw)) (Or.inr (w25 hw)) (by decide) (t := (.array .int)) (t' := (.array .int)) (by decide) (by decide)))
  have A95_a2 := A94_a2.other W95 (Ne.symm ne_a1_a2)
  have A95_b1 := A94_b1.other W95 (Ne.symm ne_a1_b1)
  have A95_b2 := A94_b2.other W95 (Ne.symm ne_a1_b2)
  have A95_b3 := A94_b3.other W95 (Ne.symm ne_a1_b3)
  have F95_a1_lineEnds := F94_a1_lineEnds.same W95
  have z95 := Nat.le_trans z94 (Keep.of_wr W95).1
  have K95_ := K94_.wr W95 (Or.inl (List.mem_of_getElem? (i := 0) rfl))
  have N95 := Fr.snoc X95 N94 g_a1
  show own_Goes _ _ _ _ _ _ _ (T95.setTop (mkF m 232 #[.val (.ref a1), d1, .val (.ref b1), .val (.ref b2), .val (.ref b3), .val (.int v5), .val (.int v6), d7, d8, d9, d10] []))
  refine own_Goes.via (B := T95.setTop (mkF m 235 #[.val (.ref a1), d1, .val (.ref b1), .val (.ref b2), .val (.ref b3), .val (.int v5), .val (.int v6), d7, d8, d9, d10] [(.ref b3), (.ref a1)])) (fun t k => ?_) ?_
  · show Steps p.tables e below (T95.setTop (mkF m 232 #[.val (.ref a1), d1, .val (.ref b1), .val (.ref b2), .val (.ref b3), .val (.int v5), .val (.int v6), d7, d8, d9, d10] [])) t
    refine XS.aloadN X95.here hx rfl (hb hby dRawMessage_mk_232) rfl rfl ?_
    show Steps p.tables e below (T95.setTop (mkF m 233 #[.val (.ref a1), d1, .val (.ref b1), .val (.ref b2), .val (.ref b3), .val (.int v5), .val (.int v6), d7, d8, d9, d10] [(.ref a1)])) t
    refine XS.aload X95.here hx rfl (hb hby dRawMessage_mk_233) rfl rfl ?_
    exact k
  obtain ⟨T96, h96, X96, e96, W96, st96⟩ := putF X95 hx hZ hown (host := "") (Or.inl (w26 hw)) Via.refl e95 F95_a1_wordLengths E95_a1 (Or.inr ⟨(w27 hw), rfl, hnm⟩) (w7 hw) (ty := (.array .int)) (by decide) rfl rfl (g := (mkF m 235 #[.val (.ref a1), d1, .val (.ref b1), .val (.ref b2), .val (.ref b3), .val (.int v5), .val (.int v6), d7, d8, d9, d10] [(.ref b3), (.ref a1)])) rfl rfl (hb hby dRawMessage_mk_235)
  refine own_Goes.via st96 ?_
  have E96_a1 := E95_a1.wr W96
  have F96_a1_bodyStart := F95_a1_bodyStart.other W96 (Or.inr (slot_ne (Or.inr (w31 hw)) (Or.inr (w27 hw)) (by decide) (t := .int) (t' := (.array .int)) (by decide) (by decide)))
  have F96_a1_bytes := F95_a1_bytes.other W96 (Or.inr (slot_ne (Or.inr (w16 hw)) (Or.inr (w27 hw)) (by decide) (t := (.array .byte)) (t' := (.array .int)) (by decide) (by decide)))
  have F96_a1_lineEnds := F95_a1_lineEnds.other W96 (Or.inr (slot_ne (Or.inr (w25 hw)) (Or.inr (w27 hw)) (by decide) (t := (.array .int)) (t' := (.array .int)) (by decide) (by decide)))
  have F96_a1_lineStarts := F95_a1_lineStarts.other W96 (Or.inr (slot_ne (Or.inr (w23 hw)) (Or.inr (w27 hw)) (by decide) (t := (.array .int)) (t' := (.array .int)) (by decide) (by decide)))
  have F96_a1_lines := F95_a1_lines.other W96 (Or.inr (slot_ne (Or.inr (w29 hw)) (Or.inr (w27 hw)) (by decide) (t := .int) (t' := (.array .int)) (by decide) (by decide)))
  have A96_a2 := A95_a2.other W96 (Ne.symm ne_a1_a2)
  have A96_b1 := A95_b1.other W96 (Ne.symm ne_a1_b1)
  have A96_b2 := A95_b2.other W96 (Ne.symm ne_a1_b2)
  have A96_b3 := A95_b3.other W96 (Ne.symm ne_a1_b3)
  have F96_a1_wordLengths := F95_a1_wordLengths.same W96
  have z96 := Nat.le_trans z95 (Keep.of_wr W96).1
  have K96_ := K95_.wr W96 (Or.inl (List.mem_of_getElem? (i := 0) rfl))
  have N96 := Fr.snoc X96 N95 g_a1
  show own_Goes _ _ _ _ _ _ _ (T96.setTop (mkF m 238 #[.val (.ref a1), d1, .val (.ref b1), .val (.ref b2), .val (.ref b3), .val (.int v5), .val (.int v6), d7, d8, d9, d10] []))
  refine own_Goes.via (B := T96.setTop (mkF m 241 #[.val (.ref a1), d1, .val (.ref b1), .val (.ref b2), .val (.ref b3), .val (.int v5), .val (.int v6), d7, d8, d9, d10] [(.int v5), (.ref a1)])) (fun t k => ?_) ?_
  · show Steps p.tables e below (T96.setTop (mkF m 238 #[.val (.ref a1), d1, .val (.ref b1), .val (.ref b2), .val (.ref b3), .val (.int v5), .val (.int v6), d7, d8, d9, d10] [])) t
    refine XS.aloadN X96.here hx rfl (hb hby dRawMessage_mk_238) rfl rfl ?_
    show Steps p.tables e below (T96.setTop (mkF m 239 #[.val (.ref a1), d1, .val (.ref b1), .val (.ref b2), .val (.ref b3), .val (.int v5), .val (.int v6), d7, d8, d9, d10] [(.ref a1)])) t
    refine XS.iload X96.here hx rfl (hb hby dRawMessage_mk_239) rfl ?_
    exact k
  obtain ⟨T97, h97, X97, e97, W97, st97⟩ := putF X96 hx hZ hown (host := "") (Or.inl (w28 hw)) Via.refl e96 F96_a1_lines E96_a1 (Or.inr ⟨(w29 hw), rfl, hnm⟩) (w7 hw) (ty := .int) (by decide) rfl rfl (g := (mkF m 241 #[.val (.ref a1), d1, .val (.ref b1), .val (.ref b2), .val (.ref b3), .val (.int v5), .val (.int v6), d7, d8, d9, d10] [(.int v5), (.ref a1)])) rfl rfl (hb hby dRawMessage_mk_241)
  refine own_Goes.via st97 ?_
  have E97_a1 := E96_a1.wr W97
  have F97_a1_bodyStart := F96_a1_bodyStart.other W97 (Or.inr (slot_ne (Or.inr (w31 hw)) (Or.inr (w29 hw)) (by decide) (t := .int) (t' := .int) (by decide) (by decide)))
  have F97_a1_bytes := F96_a1_bytes.other W97 (Or.inr (slot_ne (Or.inr (w16 hw)) (Or.inr (w29 hw)) (by decide) (t := (.array .byte)) (t' := .int) (by decide) (by decide)))
  have F97_a1_lineEnds := F96_a1_lineEnds.other W97 (Or.inr (slot_ne (Or.inr (w25 hw)) (Or.inr (w29 hw)) (by decide) (t := (.array .int)) (t' := .int) (by decide) (by decide)))
  have F97_a1_lineStarts := F96_a1_lineStarts.other W97 (Or.inr (slot_ne (Or.inr (w23 hw)) (Or.inr (w29 hw)) (by decide) (t := (.array .int)) (t' := .int) (by decide) (by decide)))
  have F97_a1_wordLengths := F96_a1_wordLengths.other W97 (Or.inr (slot_ne (Or.inr (w27 hw)) (Or.inr (w29 hw)) (by decide) (t := (.array .int)) (t' := .int) (by decide) (by decide)))
  have A97_a2 := A96_a2.other W97 (Ne.symm ne_a1_a2)
  have A97_b1 := A96_b1.other W97 (Ne.symm ne_a1_b1)
  have A97_b2 := A96_b2.other W97 (Ne.symm ne_a1_b2)
  have A97_b3 := A96_b3.other W97 (Ne.symm ne_a1_b3)
  have F97_a1_lines := F96_a1_lines.same W97
  have z97 := Nat.le_trans z96 (Keep.of_wr W97).1
  have K97_ := K96_.wr W97 (Or.inl (List.mem_of_getElem? (i := 0) rfl))
  have N97 := Fr.snoc X97 N96 g_a1
  show own_Goes _ _ _ _ _ _ _ (T97.setTop (mkF m 244 #[.val (.ref a1), d1, .val (.ref b1), .val (.ref b2), .val (.ref b3), .val (.int v5), .val (.int v6), d7, d8, d9, d10] []))
  refine own_Goes.via (B := T97.setTop (mkF m 247 #[.val (.ref a1), d1, .val (.ref b1), .val (.ref b2), .val (.ref b3), .val (.int v5), .val (.int v6), d7, d8, d9, d10] [(.int v6), (.ref a1)])) (fun t k => ?_) ?_
  · show Steps p.tables e below (T97.setTop (mkF m 244 #[.val (.ref a1), d1, .val (.ref b1), .val (.ref b2), .val (.ref b3), .val (.int v5), .val (.int v6), d7, d8, d9, d10] [])) t
    refine XS.aloadN X97.here hx rfl (hb hby dRawMessage_mk_244) rfl rfl ?_
    show Steps p.tables e below (T97.setTop (mkF m 245 #[.val (.ref a1), d1, .val (.ref b1), .val (.ref b2), .val (.ref b3), .val (.int v5), .val (.int v6), d7, d8, d9, d10] [(.ref a1)])) t
    refine XS.iload X97.here hx rfl (hb hby dRawMessage_mk_245) rfl ?_
    exact k
  obtain ⟨T98, h98, X98, e98, W98, st98⟩ := putF X97 hx hZ hown (host := "") (Or.inl (w30 hw)) Via.refl e97 F97_a1_bodyStart E97_a1 (Or.inr ⟨(w31 hw), rfl, hnm⟩) (w7 hw) (ty := .int) (by decide) rfl rfl (g := (mkF m 247 #[.val (.ref a1), d1, .val (.ref b1), .val (.ref b2), .val (.ref b3), .val (.int v5), .val (.int v6), d7, d8, d9, d10] [(.int v6), (.ref a1)])) rfl rfl (hb hby dRawMessage_mk_247)
  refine own_Goes.via st98 ?_
  have E98_a1 := E97_a1.wr W98
  have F98_a1_bytes := F97_a1_bytes.other W98 (Or.inr (slot_ne (Or.inr (w16 hw)) (Or.inr (w31 hw)) (by decide) (t := (.array .byte)) (t' := .int) (by decide) (by decide)))
  have F98_a1_lineEnds := F97_a1_lineEnds.other W98 (Or.inr (slot_ne (Or.inr (w25 hw)) (Or.inr (w31 hw)) (by decide) (t := (.array .int)) (t' := .int) (by decide) (by decide)))
  have F98_a1_lineStarts := F97_a1_lineStarts.other W98 (Or.inr (slot_ne (Or.inr (w23 hw)) (Or.inr (w31 hw)) (by decide) (t := (.array .int)) (t' := .int) (by decide) (by decide)))
  have F98_a1_lines := F97_a1_lines.other W98 (Or.inr (slot_ne (Or.inr (w29 hw)) (Or.inr (w31 hw)) (by decide) (t := .int) (t' := .int) (by decide) (by decide)))
  have F98_a1_wordLengths := F97_a1_wordLengths.other W98 (Or.inr (slot_ne (Or.inr (w27 hw)) (Or.inr (w31 hw)) (by decide) (t := (.array .int)) (t' := .int) (by decide) (by decide)))
  have A98_a2 := A97_a2.other W98 (Ne.symm ne_a1_a2)
  have A98_b1 := A97_b1.other W98 (Ne.symm ne_a1_b1)
  have A98_b2 := A97_b2.other W98 (Ne.symm ne_a1_b2)
  have A98_b3 := A97_b3.other W98 (Ne.symm ne_a1_b3)
  have F98_a1_bodyStart := F97_a1_bodyStart.same W98
  have z98 := Nat.le_trans z97 (Keep.of_wr W98).1
  have K98_ := K97_.wr W98 (Or.inl (List.mem_of_getElem? (i := 0) rfl))
  have N98 := Fr.snoc X98 N97 g_a1
  show own_Goes _ _ _ _ _ _ _ (T98.setTop (mkF m 250 #[.val (.ref a1), d1, .val (.ref b1), .val (.ref b2), .val (.ref b3), .val (.int v5), .val (.int v6), d7, d8, d9, d10] []))
  obtain rfl : (v6, v5, bs_b2, bs_b1, bs_b3) = r := Option.some.inj hF
  exact own_retV X98 hx hret hlk (hb hby dRawMessage_mk_250) e98 ⟨b2, b1, b3, rfl, N98, K98_, E98_a1, F98_a1_bodyStart, F98_a1_bytes, F98_a1_lineEnds, F98_a1_lineStarts, F98_a1_lines, F98_a1_wordLengths, g_b2, nE_b2, A98_b2, g_b1, nE_b1, A98_b1, ne_b1_b2, g_b3, nE_b3, A98_b3, (Ne.symm ne_b2_b3), (Ne.symm ne_b1_b3)⟩ (by decide) (by decide)
set_option maxRecDepth 65536 in
set_option maxHeartbeats 4000000 in
theorem b_RawMessage_mk_188 {p : Program} {l : Launch} {e : Env} {s : State} {m : MethodId} {args : Array Value} {below : List Frame} {meth : Method} {c : Code} {Z : State} {a0 : Array Value} {n0 : Nat} {hE : Heap} (cx : Cx_RawMessage_mk p s m meth c Z a0) (a1 : Addr) (a2 : Addr) {k34 : Int32 → Int32 → Int32 → Int32 → Int32 → (List Int32) → (List Int32) → (List Int32) → (List Int32) → Option (Int32 × Int32 × (List Int32) × (List Int32) × (List Int32))} (hk34 : ∀ {T : State} {locs : List Loc} {h : Heap} (X : Stand p l e ({ frames := 1, cells := 3, slots := 48, locals := 15 } : Room) s m args below meth c T locs 3 48) (eT : T.heap = h) (N : Fr n0 locs) (K : Keep hE h [a1]) (z : n0 ≤ h.size) (b1 : Addr) (b2 : Addr) (b3 : Addr) (v5 : Int32) (v6 : Int32) (v7 : Int32) (f_a1_bodyStart : Int32) (f_a1_lines : Int32) (bs_a2 : List Int32) (bs_b1 : List Int32) (bs_b2 : List Int32) (bs_b3 : List Int32) (d8 : Slot) (d9 : Slot) (d10 : Slot) (o_d8 : One d8) (o_d9 : One d9) (o_d10 : One d10) (E_a1 : Exa Z h a1 "com/example/oxpecker/oxpecker/sip/RawMessage") (F_a1_bodyStart : Fld Z h a1 "com/example/oxpecker/oxpecker/sip/RawMessage" "bodyStart" "I" (.int f_a1_bodyStart)) (F_a1_bytes : Fld Z h a1 "com/example/oxpecker/oxpecker/sip/RawMessage" "bytes" "[B" (.ref a2)) (F_a1_lineEnds : Fld Z h a1 "com/example/oxpecker/oxpecker/sip/RawMessage" "lineEnds" "[I" .null) (F_a1_lineStarts : Fld Z h a1 "com/example/oxpecker/oxpecker/sip/RawMessage" "lineStarts" "[I" .null) (F_a1_lines : Fld Z h a1 "com/example/oxpecker/oxpecker/sip/RawMessage" "lines" "I" (.int f_a1_lines)) (F_a1_wordLengths : Fld Z h a1 "com/example/oxpecker/oxpecker/sip/RawMessage" "wordLengths" "[I" .null) (g_a1 : n0 ≤ a1) (A_a2 : own_Ar Z h a2 .byte (bs_a2.map Value.int)) (g_a2 : n0 ≤ a2) (A_b1 : own_Ar Z h b1 .int (bs_b1.map Value.int)) (g_b1 : n0 ≤ b1) (nE_b1 : hE.size ≤ b1) (A_b2 : own_Ar Z h b2 .int (bs_b2.map Value.int)) (g_b2 : n0 ≤ b2) (nE_b2 : hE.size ≤ b2) (A_b3 : own_Ar Z h b3 .int (bs_b3.map Value.int)) (g_b3 : n0 ≤ b3) (nE_b3 : hE.size ≤ b3) (ne_a1_a2 : a1 ≠ a2) (ne_a1_b1 : a1 ≠ b1) (ne_a2_b1 : a2 ≠ b1) (ne_a1_b2 : a1 ≠ b2) (ne_a2_b2 : a2 ≠ b2) (ne_b1_b2 : b1 ≠ b2) (ne_a1_b3 : a1 ≠ b3) (ne_a2_b3 : a2 ≠ b3) (ne_b1_b3 : b1 ≠ b3) (ne_b2_b3 : b2 ≠ b3) (r : Int32 × Int32 × (List Int32) × (List Int32) × (List Int32)), k34 v5 v6 v7 f_a1_bodyStart f_a1_lines bs_a2 bs_b1 bs_b2 bs_b3 = some r → own_Goes p e below s (Q_RawMessage_mk Z hE n0 a1 a2 r) 3 48 (T.setTop (mkF m 34 #[.val (.ref a1), .val (.ref a2), .val (.ref b1), .val (.ref b2), .val (.ref b3), .val (.int v5), .val (.int v6), .val (.int v7), d8, d9, d10] []))) :
    ∀ {T : State} {locs : List Loc} {h : Heap} (X : Stand p l e ({ frames := 1, cells := 3, slots := 48, locals := 15 } : Room) s m args below meth c T locs 3 48) (eT : T.heap = h) (N : Fr n0 locs) (K : Keep hE h [a1]) (z : n0 ≤ h.size) (b1 : Addr) (b2 : Addr) (b3 : Addr) (v5 : Int32) (v6 : Int32) (v7 : Int32) (v9 : Int32) (v10 : Int32) (f_a1_bodyStart : Int32) (f_a1_lines : Int32) (bs_a2 : List Int32) (bs_b1 : List Int32) (bs_b2 : List Int32) (bs_b3 : List Int32) (d8 : Slot) (o_d8 : One d8) (E_a1 : Exa Z h a1 "com/example/oxpecker/oxpecker/sip/RawMessage") (F_a1_bodyStart : Fld Z h a1 "com/example/oxpecker/oxpecker/sip/RawMessage" "bodyStart" "I" (.int f_a1_bodyStart)) (F_a1_bytes : Fld Z h a1 "com/example/oxpecker/oxpecker/sip/RawMessage" "bytes" "[B" (.ref a2)) (F_a1_lineEnds : Fld Z h a1 "com/example/oxpecker/oxpecker/sip/RawMessage" "lineEnds" "[I" .null) (F_a1_lineStarts : Fld Z h a1 "com/example/oxpecker/oxpecker/sip/RawMessage" "lineStarts" "[I" .null) (F_a1_lines : Fld Z h a1 "com/example/oxpecker/oxpecker/sip/RawMessage" "lines" "I" (.int f_a1_lines)) (F_a1_wordLengths : Fld Z h a1 "com/example/oxpecker/oxpecker/sip/RawMessage" "wordLengths" "[I" .null) (g_a1 : n0 ≤ a1) (A_a2 : own_Ar Z h a2 .byte (bs_a2.map Value.int)) (g_a2 : n0 ≤ a2) (A_b1 : own_Ar Z h b1 .int (bs_b1.map Value.int)) (g_b1 : n0 ≤ b1) (nE_b1 : hE.size ≤ b1) (A_b2 : own_Ar Z h b2 .int (bs_b2.map Value.int)) (g_b2 : n0 ≤ b2) (nE_b2 : hE.size ≤ b2) (A_b3 : own_Ar Z h b3 .int (bs_b3.map Value.int)) (g_b3 : n0 ≤ b3) (nE_b3 : hE.size ≤ b3) (ne_a1_a2 : a1 ≠ a2) (ne_a1_b1 : a1 ≠ b1) (ne_a2_b1 : a2 ≠ b1) (ne_a1_b2 : a1 ≠ b2) (ne_a2_b2 : a2 ≠ b2) (ne_b1_b2 : b1 ≠ b2) (ne_a1_b3 : a1 ≠ b3) (ne_a2_b3 : a2 ≠ b3) (ne_b1_b3 : b1 ≠ b3) (ne_b2_b3 : b2 ≠ b3) (r : Int32 × Int32 × (List Int32) × (List Int32) × (List Int32)), f_RawMessage_mk_188 k34 v5 v6 v7 v9 v10 f_a1_bodyStart f_a1_lines bs_a2 bs_b1 bs_b2 bs_b3 = some r → own_Goes p e below s (Q_RawMessage_mk Z hE n0 a1 a2 r) 3 48 (T.setTop (mkF m 188 #[.val (.ref a1), .val (.ref a2), .val (.ref b1), .val (.ref b2), .val (.ref b3), .val (.int v5), .val (.int v6), .val (.int v7), d8, .val (.int v9), .val (.int v10)] [])) := by
  have cx' := cx
  obtain ⟨hx, hZ, hw, hby, hml, hown, hret, hlk, hnm⟩ := cx'
  intro T locs h X eT N K z b1 b2 b3 v5 v6 v7 v9 v10 f_a1_bodyStart f_a1_lines bs_a2 bs_b1 bs_b2 bs_b3 d8 o_d8 E_a1 F_a1_bodyStart F_a1_bytes F_a1_lineEnds F_a1_lineStarts F_a1_lines F_a1_wordLengths g_a1 A_a2 g_a2 A_b1 g_b1 nE_b1 A_b2 g_b2 nE_b2 A_b3 g_b3 nE_b3 ne_a1_a2 ne_a1_b1 ne_a2_b1 ne_a1_b2 ne_a2_b2 ne_b1_b2 ne_a1_b3 ne_a2_b3 ne_b1_b3 ne_b2_b3 r hF
  unfold f_RawMessage_mk_188 at hF
  refine own_Goes.via (B := T.setTop (mkF m 193 #[.val (.ref a1), .val (.ref a2), .val (.ref b1), .val (.ref b2), .val (.ref b3), .val (.int v5), .val (.int v6), .val (.int v7), d8, .val (.int v9), .val (.int v10)] [(.int v7), (.int v5), (.ref b1)])) (fun t k => ?_) ?_
  · show Steps p.tables e below (T.setTop (mkF m 188 #[.val (.ref a1), .val (.ref a2), .val (.ref b1), .val (.ref b2), .val (.ref b3), .val (.int v5), .val (.int v6), .val (.int v7), d8, .val (.int v9), .val (.int v10)] [])) t
    refine XS.aloadN X.here hx rfl (hb hby dRawMessage_mk_188) rfl rfl ?_
    show Steps p.tables e below (T.setTop (mkF m 189 #[.val (.ref a1), .val (.ref a2), .val (.ref b1), .val (.ref b2), .val (.ref b3), .val (.int v5), .val (.int v6), .val (.int v7), d8, .val (.int v9), .val (.int v10)] [(.ref b1)])) t
    refine XS.iload X.here hx rfl (hb hby dRawMessage_mk_189) rfl ?_
    show Steps p.tables e below (T.setTop (mkF m 191 #[.val (.ref a1), .val (.ref a2), .val (.ref b1), .val (.ref b2), .val (.ref b3), .val (.int v5), .val (.int v6), .val (.int v7), d8, .val (.int v9), .val (.int v10)] [(.int v5), (.ref b1)])) t
    refine XS.iload X.here hx rfl (hb hby dRawMessage_mk_191) rfl ?_
    exact k
  obtain ⟨hi193, hF⟩ := own_ck_e hF
  obtain ⟨T110, h110, X110, e110, W110, A110_b1, st110⟩ := own_stI X hx hZ eT A_b1 hi193 (g := (mkF m 193 #[.val (.ref a1), .val (.ref a2), .val (.ref b1), .val (.ref b2), .val (.ref b3), .val (.int v5), .val (.int v6), .val (.int v7), d8, .val (.int v9), .val (.int v10)] [(.int v7), (.int v5), (.ref b1)])) rfl rfl (hb hby dRawMessage_mk_193)
  refine own_Goes.via st110 ?_
  have E110_a1 := E_a1.wr W110
  have F110_a1_bodyStart := F_a1_bodyStart.other W110 (Or.inl ne_a1_b1)
  have F110_a1_bytes := F_a1_bytes.other W110 (Or.inl ne_a1_b1)
  have F110_a1_lineEnds := F_a1_lineEnds.other W110 (Or.inl ne_a1_b1)
  have F110_a1_lineStarts := F_a1_lineStarts.other W110 (Or.inl ne_a1_b1)
  have F110_a1_lines := F_a1_lines.other W110 (Or.inl ne_a1_b1)
  have F110_a1_wordLengths := F_a1_wordLengths.other W110 (Or.inl ne_a1_b1)
  have A110_a2 := A_a2.other W110 ne_a2_b1
  have A110_b2 := A_b2.other W110 (Ne.symm ne_b1_b2)
  have A110_b3 := A_b3.other W110 (Ne.symm ne_b1_b3)
  have z110 := Nat.le_trans z (Keep.of_wr W110).1
  have K110_ := K.wr W110 (Or.inr nE_b1)
  have N110 := Fr.snoc X110 N g_b1
  have A110_b1 : own_Ar Z h110 b1 .int ((own_wr bs_b1 v5 v7).map Value.int) := A110_b1
  show own_Goes _ _ _ _ _ _ _ (T110.setTop (mkF m 194 #[.val (.ref a1), .val (.ref a2), .val (.ref b1), .val (.ref b2), .val (.ref b3), .val (.int v5), .val (.int v6), .val (.int v7), d8, .val (.int v9), .val (.int v10)] []))
  obtain ⟨bs111, hbs111, hF⟩ := own_lt_e hF
  rw [← hbs111] at A110_b1
  refine own_Goes.via (B := T110.setTop (mkF m 199 #[.val (.ref a1), .val (.ref a2), .val (.ref b1), .val (.ref b2), .val (.ref b3), .val (.int v5), .val (.int v6), .val (.int v7), d8, .val (.int v9), .val (.int v10)] [(.int v9), (.int v5), (.ref b2)])) (fun t k => ?_) ?_
  · show Steps p.tables e below (T110.setTop (mkF m 194 #[.val (.ref a1), .val (.ref a2), .val (.ref b1), .val (.ref b2), .val (.ref b3), .val (.int v5), .val (.int v6), .val (.int v7), d8, .val (.int v9), .val (.int v10)] [])) t
    refine XS.aloadN X110.here hx rfl (hb hby dRawMessage_mk_194) rfl rfl ?_
    show Steps p.tables e below (T110.setTop (mkF m 195 #[.val (.ref a1), .val (.ref a2), .val (.ref b1), .val (.ref b2), .val (.ref b3), .val (.int v5), .val (.int v6), .val (.int v7), d8, .val (.int v9), .val (.int v10)] [(.ref b2)])) t
    refine XS.iload X110.here hx rfl (hb hby dRawMessage_mk_195) rfl ?_
    show Steps p.tables e below (T110.setTop (mkF m 197 #[.val (.ref a1), .val (.ref a2), .val (.ref b1), .val (.ref b2), .val (.ref b3), .val (.int v5), .val (.int v6), .val (.int v7), d8, .val (.int v9), .val (.int v10)] [(.int v5), (.ref b2)])) t
    refine XS.iload X110.here hx rfl (hb hby dRawMessage_mk_197) rfl ?_
    exact k
  obtain ⟨hi199, hF⟩ := own_ck_e hF
  obtain ⟨T112, h112, X112, e112, W112, A112_b2, st112⟩ := own_stI X110 hx hZ e110 A110_b2 hi199 (g := (mkF m 199 #[.val (.ref a1), .val (.ref a2), .val (.ref b1), .val (.ref b2), .val (.ref b3), .val (.int v5), .val (.int v6), .val (.int v7), d8, .val (.int v9), .val (.int v10)] [(.int v9), (.int v5), (.ref b2)])) rfl rfl (hb hby dRawMessage_mk_199)
  refine own_Goes.via st112 ?_
  have E112_a1 := E110_a1.wr W112
  have F112_a1_bodyStart := F110_a1_bodyStart.other W112 (Or.inl ne_a1_b2)
  have F112_a1_bytes := F110_a1_bytes.other W112 (Or.inl ne_a1_b2)
  have F112_a1_lineEnds := F110_a1_lineEnds.other W112 (Or.inl ne_a1_b2)
  have F112_a1_lineStarts := F110_a1_lineStarts.other W112 (Or.inl ne_a1_b2)
  have F112_a1_lines := F110_a1_lines.other W112 (Or.inl ne_a1_b2)
  have F112_a1_wordLengths := F110_a1_wordLengths.other W112 (Or.inl ne_a1_b2)
  have A112_a2 := A110_a2.other W112 ne_a2_b2
  have A112_b1 := A110_b1.other W112 ne_b1_b2
  have A112_b3 := A110_b3.other W112 (Ne.symm ne_b2_b3)
  have z112 := Nat.le_trans z110 (Keep.of_wr W112).1
  have K112_ := K110_.wr W112 (Or.inr nE_b2)
  have N112 := Fr.snoc X112 N110 g_b2
  have A112_b2 : own_Ar Z h112 b2 .int ((own_wr bs_b2 v5 v9).map Value.int) := A112_b2
  show own_Goes _ _ _ _ _ _ _ (T112.setTop (mkF m 200 #[.val (.ref a1), .val (.ref a2), .val (.ref b1), .val (.ref b2), .val (.ref b3), .val (.int v5), .val (.int v6), .val (.int v7), d8, .val (.int v9), .val (.int v10)] []))
  obtain ⟨bs113, hbs113, hF⟩ := own_lt_e hF
  rw [← hbs113] at A112_b2
  refine own_Goes.via (B := T112.setTop (mkF m 209 #[.val (.ref a1), .val (.ref a2), .val (.ref b1), .val (.ref b2), .val (.ref b3), .val (.int v5), .val (.int v6), .val (.int v7), d8, .val (.int v9), .val (.int v10)] [(.int (v10 - v7)), (.int v5), (.ref b3)])) (fun t k => ?_) ?_
  · show Steps p.tables e below (T112.setTop (mkF m 200 #[.val (.ref a1), .val (.ref a2), .val (.ref b1), .val (.ref b2), .val (.ref b3), .val (.int v5), .val (.int v6), .val (.int v7), d8, .val (.int v9), .val (.int v10)] [])) t
    refine XS.aload X112.here hx rfl (hb hby dRawMessage_mk_200) rfl rfl ?_
    show Steps p.tables e below (T112.setTop (mkF m 202 #[.val (.ref a1), .val (.ref a2), .val (.ref b1), .val (.ref b2), .val (.ref b3), .val (.int v5), .val (.int v6), .val (.int v7), d8, .val (.int v9), .val (.int v10)] [(.ref b3)])) t
    refine XS.iload X112.here hx rfl (hb hby dRawMessage_mk_202) rfl ?_
    show Steps p.tables e below (T112.setTop (mkF m 204 #[.val (.ref a1), .val (.ref a2), .val (.ref b1), .val (.ref b2), .val (.ref b3), .val (.int v5), .val (.int v6), .val (.int v7), d8, .val (.int v9), .val (.int v10)] [(.int v5), (.ref b3)])) t
    refine XS.iload X112.here hx rfl (hb hby dRawMessage_mk_204) rfl ?_
    show Steps p.tables e below (T112.setTop (mkF m 206 #[.val (.ref a1), .val (.ref a2), .val (.ref b1), .val (.ref b2), .val (.ref b3), .val (.int v5), .val (.int v6), .val (.int v7), d8, .val (.int v9), .val (.int v10)] [(.int v10), (.int v5), (.ref b3)])) t
    refine XS.iload X112.here hx rfl (hb hby dRawMessage_mk_206) rfl ?_
    show Steps p.tables e below (T112.setTop (mkF m 208 #[.val (.ref a1), .val (.ref a2), .val (.ref b1), .val (.ref b2), .val (.ref b3), .val (.int v5), .val (.int v6), .val (.int v7), d8, .val (.int v9), .val (.int v10)] [(.int v7), (.int v10), (.int v5), (.ref b3)])) t
    refine XS.isub X112.here hx rfl (hb hby dRawMessage_mk_208) rfl ?_
    exact k
  obtain ⟨x114, hx114, hF⟩ := own_lt_e hF
  rw [← hx114]
  obtain ⟨hi209, hF⟩ := own_ck_e hF
  obtain ⟨T115, h115, X115, e115, W115, A115_b3, st115⟩ := own_stI X112 hx hZ e112 A112_b3 hi209 (g := (mkF m 209 #[.val (.ref a1), .val (.ref a2), .val (.ref b1), .val (.ref b2), .val (.ref b3), .val (.int v5), .val (.int v6), .val (.int v7), d8, .val (.int v9), .val (.int v10)] [(.int x114), (.int v5), (.ref b3)])) rfl rfl (hb hby dRawMessage_mk_209)
  refine own_Goes.via st115 ?_
  have E115_a1 := E112_a1.wr W115
  have F115_a1_bodyStart := F112_a1_bodyStart.other W115 (Or.inl ne_a1_b3)
  have F115_a1_bytes := F112_a1_bytes.other W115 (Or.inl ne_a1_b3)
  have F115_a1_lineEnds := F112_a1_lineEnds.other W115 (Or.inl ne_a1_b3)
  have F115_a1_lineStarts := F112_a1_lineStarts.other W115 (Or.inl ne_a1_b3)
  have F115_a1_lines := F112_a1_lines.other W115 (Or.inl ne_a1_b3)
  have F115_a1_wordLengths := F112_a1_wordLengths.other W115 (Or.inl ne_a1_b3)
  have A115_a2 := A112_a2.other W115 ne_a2_b3
  have A115_b1 := A112_b1.other W115 ne_b1_b3
  have A115_b2 := A112_b2.other W115 ne_b2_b3
  have z115 := Nat.le_trans z112 (Keep.of_wr W115).1
  have K115_ := K112_.wr W115 (Or.inr nE_b3)
  have N115 := Fr.snoc X115 N112 g_b3
  have A115_b3 : own_Ar Z h115 b3 .int ((own_wr bs_b3 v5 x114).map Value.int) := A115_b3
  show own_Goes _ _ _ _ _ _ _ (T115.setTop (mkF m 210 #[.val (.ref a1), .val (.ref a2), .val (.ref b1), .val (.ref b2), .val (.ref b3), .val (.int v5), .val (.int v6), .val (.int v7), d8, .val (.int v9), .val (.int v10)] []))
  obtain ⟨bs116, hbs116, hF⟩ := own_lt_e hF
  rw [← hbs116] at A115_b3
  refine own_Goes.via (B := T115.setTop (mkF m 213 #[.val (.ref a1), .val (.ref a2), .val (.ref b1), .val (.ref b2), .val (.ref b3), .val (.int (v5 + (1 : Int32))), .val (.int v6), .val (.int v7), d8, .val (.int v9), .val (.int v10)] [])) (fun t k => ?_) ?_
  · show Steps p.tables e below (T115.setTop (mkF m 210 #[.val (.ref a1), .val (.ref a2), .val (.ref b1), .val (.ref b2), .val (.ref b3), .val (.int v5), .val (.int v6), .val (.int v7), d8, .val (.int v9), .val (.int v10)] [])) t
    refine XS.iinc X115.here hx rfl (hb hby dRawMessage_mk_210) rfl (l' := #[.val (.ref a1), .val (.ref a2), .val (.ref b1), .val (.ref b2), .val (.ref b3), .val (.int (v5 + (1 : Int32))), .val (.int v6), .val (.int v7), d8, .val (.int v9), .val (.int v10)]) rfl ?_
    exact k
  obtain ⟨x117, hx117, hF⟩ := own_lt_e hF
  rw [← hx117]
  refine own_Goes.via (B := T115.setTop (mkF m 217 #[.val (.ref a1), .val (.ref a2), .val (.ref b1), .val (.ref b2), .val (.ref b3), .val (.int x117), .val (.int v6), .val (.int v7), d8, .val (.int v9), .val (.int v10)] [(.int (v9 + (1 : Int32)))])) (fun t k => ?_) ?_
  · show Steps p.tables e below (T115.setTop (mkF m 213 #[.val (.ref a1), .val (.ref a2), .val (.ref b1), .val (.ref b2), .val (.ref b3), .val (.int x117), .val (.int v6), .val (.int v7), d8, .val (.int v9), .val (.int v10)] [])) t
    refine XS.iload X115.here hx rfl (hb hby dRawMessage_mk_213) rfl ?_
    show Steps p.tables e below (T115.setTop (mkF m 215 #[.val (.ref a1), .val (.ref a2), .val (.ref b1), .val (.ref b2), .val (.ref b3), .val (.int x117), .val (.int v6), .val (.int v7), d8, .val (.int v9), .val (.int v10)] [(.int v9)])) t
    refine XS.iconst X115.here hx rfl (hb hby dRawMessage_mk_215) ?_
    show Steps p.tables e below (T115.setTop (mkF m 216 #[.val (.ref a1), .val (.ref a2), .val (.ref b1), .val (.ref b2), .val (.ref b3), .val (.int x117), .val (.int v6), .val (.int v7), d8, .val (.int v9), .val (.int v10)] [(.int (1 : Int32)), (.int v9)])) t
    refine XS.iadd X115.here hx rfl (hb hby dRawMessage_mk_216) rfl ?_
    exact k
  obtain ⟨x118, hx118, hF⟩ := own_lt_e hF
  rw [← hx118]
  refine own_Goes.via (B := T115.setTop (mkF m 34 #[.val (.ref a1), .val (.ref a2), .val (.ref b1), .val (.ref b2), .val (.ref b3), .val (.int x117), .val (.int v6), .val (.int x118), d8, .val (.int v9), .val (.int v10)] [])) (fun t k => ?_) ?_
  · show Steps p.tables e below (T115.setTop (mkF m 217 #[.val (.ref a1), .val (.ref a2), .val (.ref b1), .val (.ref b2), .val (.ref b3), .val (.int x117), .val (.int v6), .val (.int v7), d8, .val (.int v9), .val (.int v10)] [(.int x118)])) t
    refine XS.istore X115.here hx rfl (hb hby dRawMessage_mk_217) rfl (l' := #[.val (.ref a1), .val (.ref a2), .val (.ref b1), .val (.ref b2), .val (.ref b3), .val (.int x117), .val (.int v6), .val (.int x118), d8, .val (.int v9), .val (.int v10)]) rfl ?_
    show Steps p.tables e below (T115.setTop (mkF m 219 #[.val (.ref a1), .val (.ref a2), .val (.ref b1), .val (.ref b2), .val (.ref b3), .val (.int x117), .val (.int v6), .val (.int x118), d8, .val (.int v9), .val (.int v10)] [])) t
    refine XS.goto X115.here hx rfl (pc0 := 219) (pc' := 34) rfl (hb hby dRawMessage_mk_219) (by decide) (by decide) ?_
    exact k
  exact hk34 X115 e115 N115 K115_ z115 b1 b2 b3 x117 v6 x118 f_a1_bodyStart f_a1_lines bs_a2 bs111 bs113 bs116 d8 (.val (.int v9)) (.val (.int v10)) o_d8 (One.val rfl) (One.val rfl) E115_a1 F115_a1_bodyStart F115_a1_bytes F115_a1_lineEnds F115_a1_lineStarts F115_a1_lines F115_a1_wordLengths g_a1 A115_a2 g_a2 A115_b1 g_b1 nE_b1 A115_b2 g_b2 nE_b2 A115_b3 g_b3 nE_b3 ne_a1_a2 ne_a1_b1 ne_a2_b1 ne_a1_b2 ne_a2_b2 ne_b1_b2 ne_a1_b3 ne_a2_b3 ne_b1_b3 ne_b2_b3 _ hF
set_option maxRecDepth 65536 in
set_option maxHeartbeats 4000000 in
theorem b_RawMessage_mk_148 {p : Program} {l : Launch} {e : Env} {s : State} {m : MethodId} {args : Array Value} {below : List Frame} {meth : Method} {c : Code} {Z : State} {a0 : Array Value} {n0 : Nat} {hE : Heap} (cx : Cx_RawMessage_mk p s m meth c Z a0) (a1 : Addr) (a2 : Addr) {k34 : Int32 → Int32 → Int32 → Int32 → Int32 → (List Int32) → (List Int32) → (List Int32) → (List Int32) → Option (Int32 × Int32 × (List Int32) × (List Int32) × (List Int32))} (hk34 : ∀ {T : State} {locs : List Loc} {h : Heap} (X : Stand p l e ({ frames := 1, cells := 3, slots := 48, locals := 15 } : Room) s m args below meth c T locs 3 48) (eT : T.heap = h) (N : Fr n0 locs) (K : Keep hE h [a1]) (z : n0 ≤ h.size) (b1 : Addr) (b2 : Addr) (b3 : Addr) (v5 : Int32) (v6 : Int32) (v7 : Int32) (f_a1_bodyStart : Int32) (f_a1_lines : Int32) (bs_a2 : List Int32) (bs_b1 : List Int32) (bs_b2 : List Int32) (bs_b3 : List Int32) (d8 : Slot) (d9 : Slot) (d10 : Slot) (o_d8 : One d8) (o_d9 : One d9) (o_d10 : One d10) (E_a1 : Exa Z h a1 "com/example/oxpecker/oxpecker/sip/RawMessage") (F_a1_bodyStart : Fld Z h a1 "com/example/oxpecker/oxpecker/sip/RawMessage" "bodyStart" "I" (.int f_a1_bodyStart)) (F_a1_bytes : Fld Z h a1 "com/example/oxpecker/oxpecker/sip/RawMessage" "bytes" "[B" (.ref a2)) (F_a1_lineEnds : Fld Z h a1 "com/example/oxpecker/oxpecker/sip/RawMessage" "lineEnds" "[I" .null) (F_a1_lineStarts : Fld Z h a1 "com/example/oxpecker/oxpecker/sip/RawMessage" "lineStarts" "[I" .null) (F_a1_lines : Fld Z h a1 "com/example/oxpecker/oxpecker/sip/RawMessage" "lines" "I" (.int f_a1_lines)) (F_a1_wordLengths : Fld Z h a1 "com/example/oxpecker/oxpecker/sip/RawMessage" "wordLengths" "[I" .null) (g_a1 : n0 ≤ a1) (A_a2 : own_Ar Z h a2 .byte (bs_a2.map Value.int)) (g_a2 : n0 ≤ a2) (A_b1 : own_Ar Z h b1 .int (bs_b1.map Value.int)) (g_b1 : n0 ≤ b1) (nE_b1 : hE.size ≤ b1) (A_b2 : own_Ar Z h b2 .int (bs_b2.map Value.int)) (g_b2 : n0 ≤ b2) (nE_b2 : hE.size ≤ b2) (A_b3 : own_Ar Z h b3 .int (bs_b3.map Value.int)) (g_b3 : n0 ≤ b3) (nE_b3 : hE.size ≤ b3) (ne_a1_a2 : a1 ≠ a2) (ne_a1_b1 : a1 ≠ b1) (ne_a2_b1 : a2 ≠ b1) (ne_a1_b2 : a1 ≠ b2) (ne_a2_b2 : a2 ≠ b2) (ne_b1_b2 : b1 ≠ b2) (ne_a1_b3 : a1 ≠ b3) (ne_a2_b3 : a2 ≠ b3) (ne_b1_b3 : b1 ≠ b3) (ne_b2_b3 : b2 ≠ b3) (r : Int32 × Int32 × (List Int32) × (List Int32) × (List Int32)), k34 v5 v6 v7 f_a1_bodyStart f_a1_lines bs_a2 bs_b1 bs_b2 bs_b3 = some r → own_Goes p e below s (Q_RawMessage_mk Z hE n0 a1 a2 r) 3 48 (T.setTop (mkF m 34 #[.val (.ref a1), .val (.ref a2), .val (.ref b1), .val (.ref b2), .val (.ref b3), .val (.int v5), .val (.int v6), .val (.int v7), d8, d9, d10] []))) (n : Nat) :
    ∀ {T : State} {locs : List Loc} {h : Heap} (X : Stand p l e ({ frames := 1, cells := 3, slots := 48, locals := 15 } : Room) s m args below meth c T locs 3 48) (eT : T.heap = h) (N : Fr n0 locs) (K : Keep hE h [a1]) (z : n0 ≤ h.size) (b1 : Addr) (b2 : Addr) (b3 : Addr) (v5 : Int32) (v6 : Int32) (v7 : Int32) (v9 : Int32) (v10 : Int32) (f_a1_bodyStart : Int32) (f_a1_lines : Int32) (bs_a2 : List Int32) (bs_b1 : List Int32) (bs_b2 : List Int32) (bs_b3 : List Int32) (d8 : Slot) (o_d8 : One d8) (E_a1 : Exa Z h a1 "com/example/oxpecker/oxpecker/sip/RawMessage") (F_a1_bodyStart : Fld Z h a1 "com/example/oxpecker/oxpecker/sip/RawMessage" "bodyStart" "I" (.int f_a1_bodyStart)) (F_a1_bytes : Fld Z h a1 "com/example/oxpecker/oxpecker/sip/RawMessage" "bytes" "[B" (.ref a2)) (F_a1_lineEnds : Fld Z h a1 "com/example/oxpecker/oxpecker/sip/RawMessage" "lineEnds" "[I" .null) (F_a1_lineStarts : Fld Z h a1 "com/example/oxpecker/oxpecker/sip/RawMessage" "lineStarts" "[I" .null) (F_a1_lines : Fld Z h a1 "com/example/oxpecker/oxpecker/sip/RawMessage" "lines" "I" (.int f_a1_lines)) (F_a1_wordLengths : Fld Z h a1 "com/example/oxpecker/oxpecker/sip/RawMessage" "wordLengths" "[I" .null) (g_a1 : n0 ≤ a1) (A_a2 : own_Ar Z h a2 .byte (bs_a2.map Value.int)) (g_a2 : n0 ≤ a2) (A_b1 : own_Ar Z h b1 .int (bs_b1.map Value.int)) (g_b1 : n0 ≤ b1) (nE_b1 : hE.size ≤ b1) (A_b2 : own_Ar Z h b2 .int (bs_b2.map Value.int)) (g_b2 : n0 ≤ b2) (nE_b2 : hE.size ≤ b2) (A_b3 : own_Ar Z h b3 .int (bs_b3.map Value.int)) (g_b3 : n0 ≤ b3) (nE_b3 : hE.size ≤ b3) (ne_a1_a2 : a1 ≠ a2) (ne_a1_b1 : a1 ≠ b1) (ne_a2_b1 : a2 ≠ b1) (ne_a1_b2 : a1 ≠ b2) (ne_a2_b2 : a2 ≠ b2) (ne_b1_b2 : b1 ≠ b2) (ne_a1_b3 : a1 ≠ b3) (ne_a2_b3 : a2 ≠ b3) (ne_b1_b3 : b1 ≠ b3) (ne_b2_b3 : b2 ≠ b3) (r : Int32 × Int32 × (List Int32) × (List Int32) × (List Int32)), f_RawMessage_mk_148 k34 n v5 v6 v7 v9 v10 f_a1_bodyStart f_a1_lines bs_a2 bs_b1 bs_b2 bs_b3 = some r → own_Goes p e below s (Q_RawMessage_mk Z hE n0 a1 a2 r) 3 48 (T.setTop (mkF m 148 #[.val (.ref a1), .val (.ref a2), .val (.ref b1), .val (.ref b2), .val (.ref b3), .val (.int v5), .val (.int v6), .val (.int v7), d8, .val (.int v9), .val (.int v10)] [])) := by
  have cx' := cx
  obtain ⟨hx, hZ, hw, hby, hml, hown, hret, hlk, hnm⟩ := cx'
  induction n with
  | zero =>
    intro T locs h X eT N K z b1 b2 b3 v5 v6 v7 v9 v10 f_a1_bodyStart f_a1_lines bs_a2 bs_b1 bs_b2 bs_b3 d8 o_d8 E_a1 F_a1_bodyStart F_a1_bytes F_a1_lineEnds F_a1_lineStarts F_a1_lines F_a1_wordLengths g_a1 A_a2 g_a2 A_b1 g_b1 nE_b1 A_b2 g_b2 nE_b2 A_b3 g_b3 nE_b3 ne_a1_a2 ne_a1_b1 ne_a2_b1 ne_a1_b2 ne_a2_b2 ne_b1_b2 ne_a1_b3 ne_a2_b3 ne_b1_b3 ne_b2_b3 r hF
    cases hF
  | succ n ih =>
    intro T locs h X eT N K z b1 b2 b3 v5 v6 v7 v9 v10 f_a1_bodyStart f_a1_lines bs_a2 bs_b1 bs_b2 bs_b3 d8 o_d8 E_a1 F_a1_bodyStart F_a1_bytes F_a1_lineEnds F_a1_lineStarts F_a1_lines F_a1_wordLengths g_a1 A_a2 g_a2 A_b1 g_b1 nE_b1 A_b2 g_b2 nE_b2 A_b3 g_b3 nE_b3 ne_a1_a2 ne_a1_b1 ne_a2_b1 ne_a1_b2 ne_a2_b2 ne_b1_b2 ne_a1_b3 ne_a2_b3 ne_b1_b3 ne_b2_b3 r hF
    rw [f_RawMessage_mk_148] at hF
    refine own_Goes.via (B := T.setTop (mkF m 152 #[.val (.ref a1), .val (.ref a2), .val (.ref b1), .val (.ref b2), .val (.ref b3), .val (.int v5), .val (.int v6), .val (.int v7), d8, .val (.int v9), .val (.int v10)] [(.int v9), (.int v10)])) (fun t k => ?_) ?_
    · show Steps p.tables e below (T.setTop (mkF m 148 #[.val (.ref a1), .val (.ref a2), .val (.ref b1), .val (.ref b2), .val (.ref b3), .val (.int v5), .val (.int v6), .val (.int v7), d8, .val (.int v9), .val (.int v10)] [])) t
      refine XS.iload X.here hx rfl (hb hby dRawMessage_mk_148) rfl ?_
      show Steps p.tables e below (T.setTop (mkF m 150 #[.val (.ref a1), .val (.ref a2), .val (.ref b1), .val (.ref b2), .val (.ref b3), .val (.int v5), .val (.int v6), .val (.int v7), d8, .val (.int v9), .val (.int v10)] [(.int v10)])) t
      refine XS.iload X.here hx rfl (hb hby dRawMessage_mk_150) rfl ?_
      exact k
    by_cases hc152 : v10 < v9
    · rw [if_pos hc152] at hF
      refine own_Goes.via (B := T.setTop (mkF m 158 #[.val (.ref a1), .val (.ref a2), .val (.ref b1), .val (.ref b2), .val (.ref b3), .val (.int v5), .val (.int v6), .val (.int v7), d8, .val (.int v9), .val (.int v10)] [(.int v10), (.ref a2)])) (fun t k => ?_) ?_
      · show Steps p.tables e below (T.setTop (mkF m 152 #[.val (.ref a1), .val (.ref a2), .val (.ref b1), .val (.ref b2), .val (.ref b3), .val (.int v5), .val (.int v6), .val (.int v7), d8, .val (.int v9), .val (.int v10)] [(.int v9), (.int v10)])) t
        refine XS.icmpNo X.here hx rfl (hb hby dRawMessage_mk_152) rfl (tlt hc152).2.1 ?_
        show Steps p.tables e below (T.setTop (mkF m 155 #[.val (.ref a1), .val (.ref a2), .val (.ref b1), .val (.ref b2), .val (.ref b3), .val (.int v5), .val (.int v6), .val (.int v7), d8, .val (.int v9), .val (.int v10)] [])) t
        refine XS.aloadN X.here hx rfl (hb hby dRawMessage_mk_155) rfl rfl ?_
        show Steps p.tables e below (T.setTop (mkF m 156 #[.val (.ref a1), .val (.ref a2), .val (.ref b1), .val (.ref b2), .val (.ref b3), .val (.int v5), .val (.int v6), .val (.int v7), d8, .val (.int v9), .val (.int v10)] [(.ref a2)])) t
        refine XS.iload X.here hx rfl (hb hby dRawMessage_mk_156) rfl ?_
        exact k
      obtain ⟨hi158, hF⟩ := own_ck_e hF
      refine own_Goes.via (B := T.setTop (mkF m 161 #[.val (.ref a1), .val (.ref a2), .val (.ref b1), .val (.ref b2), .val (.ref b3), .val (.int v5), .val (.int v6), .val (.int v7), d8, .val (.int v9), .val (.int v10)] [(.int (58 : Int32)), (.int (own_rd bs_a2 v10))])) (fun t k => ?_) ?_
      · show Steps p.tables e below (T.setTop (mkF m 158 #[.val (.ref a1), .val (.ref a2), .val (.ref b1), .val (.ref b2), .val (.ref b3), .val (.int v5), .val (.int v6), .val (.int v7), d8, .val (.int v9), .val (.int v10)] [(.int v10), (.ref a2)])) t
        refine own_ldB X hx hZ eT A_a2 hi158 rfl (g := (mkF m 158 #[.val (.ref a1), .val (.ref a2), .val (.ref b1), .val (.ref b2), .val (.ref b3), .val (.int v5), .val (.int v6), .val (.int v7), d8, .val (.int v9), .val (.int v10)] [(.int v10), (.ref a2)])) rfl rfl (hb hby dRawMessage_mk_158) ?_
        show Steps p.tables e below (T.setTop (mkF m 159 #[.val (.ref a1), .val (.ref a2), .val (.ref b1), .val (.ref b2), .val (.ref b3), .val (.int v5), .val (.int v6), .val (.int v7), d8, .val (.int v9), .val (.int v10)] [(.int (own_rd bs_a2 v10))])) t
        refine XS.bipush X.here hx rfl (hb hby dRawMessage_mk_159) ?_
        exact k
      by_cases hc161 : (own_rd bs_a2 v10) = (58 : Int32)
      · rw [if_pos hc161] at hF
        refine own_Goes.via (B := T.setTop (mkF m 188 #[.val (.ref a1), .val (.ref a2), .val (.ref b1), .val (.ref b2), .val (.ref b3), .val (.int v5), .val (.int v6), .val (.int v7), d8, .val (.int v9), .val (.int v10)] [])) (fun t k => ?_) ?_
        · show Steps p.tables e below (T.setTop (mkF m 161 #[.val (.ref a1), .val (.ref a2), .val (.ref b1), .val (.ref b2), .val (.ref b3), .val (.int v5), .val (.int v6), .val (.int v7), d8, .val (.int v9), .val (.int v10)] [(.int (58 : Int32)), (.int (own_rd bs_a2 v10))])) t
          refine XS.icmpYes X.here hx rfl (pc0 := 161) (pc' := 188) rfl (hb hby dRawMessage_mk_161) rfl (teq hc161).1 (by decide) (by decide) ?_
          exact k
        exact b_RawMessage_mk_188 cx a1 a2 (k34 := k34) (hk34) X eT N K z b1 b2 b3 v5 v6 v7 v9 v10 f_a1_bodyStart f_a1_lines bs_a2 bs_b1 bs_b2 bs_b3 d8 o_d8 E_a1 F_a1_bodyStart F_a1_bytes F_a1_lineEnds F_a1_lineStarts F_a1_lines F_a1_wordLengths g_a1 A_a2 g_a2 A_b1 g_b1 nE_b1 A_b2 g_b2 nE_b2 A_b3 g_b3 nE_b3 ne_a1_a2 ne_a1_b1 ne_a2_b1 ne_a1_b2 ne_a2_b2 ne_b1_b2 ne_a1_b3 ne_a2_b3 ne_b1_b3 ne_b2_b3 _ hF
      · rw [if_neg hc161] at hF
        refine own_Goes.via (B := T.setTop (mkF m 167 #[.val (.ref a1), .val (.ref a2), .val (.ref b1), .val (.ref b2), .val (.ref b3), .val (.int v5), .val (.int v6), .val (.int v7), d8, .val (.int v9), .val (.int v10)] [(.int v10), (.ref a2)])) (fun t k => ?_) ?_
        · show Steps p.tables e below (T.setTop (mkF m 161 #[.val (.ref a1), .val (.ref a2), .val (.ref b1), .val (.ref b2), .val (.ref b3), .val (.int v5), .val (.int v6), .val (.int v7), d8, .val (.int v9), .val (.int v10)] [(.int (58 : Int32)), (.int (own_rd bs_a2 v10))])) t
          refine XS.icmpNo X.here hx rfl (hb hby dRawMessage_mk_161) rfl (feq hc161).1 ?_
          show Steps p.tables e below (T.setTop (mkF m 164 #[.val (.ref a1), .val (.ref a2), .val (.ref b1), .val (.ref b2), .val (.ref b3), .val (.int v5), .val (.int v6), .val (.int v7), d8, .val (.int v9), .val (.int v10)] [])) t
          refine XS.aloadN X.here hx rfl (hb hby dRawMessage_mk_164) rfl rfl ?_
          show Steps p.tables e below (T.setTop (mkF m 165 #[.val (.ref a1), .val (.ref a2), .val (.ref b1), .val (.ref b2), .val (.ref b3), .val (.int v5), .val (.int v6), .val (.int v7), d8, .val (.int v9), .val (.int v10)] [(.ref a2)])) t
          refine XS.iload X.here hx rfl (hb hby dRawMessage_mk_165) rfl ?_
          exact k
        obtain ⟨hi167, hF⟩ := own_ck_e hF
        refine own_Goes.via (B := T.setTop (mkF m 170 #[.val (.ref a1), .val (.ref a2), .val (.ref b1), .val (.ref b2), .val (.ref b3), .val (.int v5), .val (.int v6), .val (.int v7), d8, .val (.int v9), .val (.int v10)] [(.int (32 : Int32)), (.int (own_rd bs_a2 v10))])) (fun t k => ?_) ?_
        · show Steps p.tables e below (T.setTop (mkF m 167 #[.val (.ref a1), .val (.ref a2), .val (.ref b1), .val (.ref b2), .val (.ref b3), .val (.int v5), .val (.int v6), .val (.int v7), d8, .val (.int v9), .val (.int v10)] [(.int v10), (.ref a2)])) t
          refine own_ldB X hx hZ eT A_a2 hi167 rfl (g := (mkF m 167 #[.val (.ref a1), .val (.ref a2), .val (.ref b1), .val (.ref b2), .val (.ref b3), .val (.int v5), .val (.int v6), .val (.int v7), d8, .val (.int v9), .val (.int v10)] [(.int v10), (.ref a2)])) rfl rfl (hb hby dRawMessage_mk_167) ?_
          show Steps p.tables e below (T.setTop (mkF m 168 #[.val (.ref a1), .val (.ref a2), .val (.ref b1), .val (.ref b2), .val (.ref b3), .val (.int v5), .val (.int v6), .val (.int v7), d8, .val (.int v9), .val (.int v10)] [(.int (own_rd bs_a2 v10))])) t
          refine XS.bipush X.here hx rfl (hb hby dRawMessage_mk_168) ?_
          exact k
        by_cases hc170 : (own_rd bs_a2 v10) = (32 : Int32)
        · rw [if_pos hc170] at hF
          refine own_Goes.via (B := T.setTop (mkF m 188 #[.val (.ref a1), .val (.ref a2), .val (.ref b1), .val (.ref b2), .val (.ref b3), .val (.int v5), .val (.int v6), .val (.int v7), d8, .val (.int v9), .val (.int v10)] [])) (fun t k => ?_) ?_
          · show Steps p.tables e below (T.setTop (mkF m 170 #[.val (.ref a1), .val (.ref a2), .val (.ref b1), .val (.ref b2), .val (.ref b3), .val (.int v5), .val (.int v6), .val (.int v7), d8, .val (.int v9), .val (.int v10)] [(.int (32 : Int32)), (.int (own_rd bs_a2 v10))])) t
            refine XS.icmpYes X.here hx rfl (pc0 := 170) (pc' := 188) rfl (hb hby dRawMessage_mk_170) rfl (teq hc170).1 (by decide) (by decide) ?_
            exact k
          exact b_RawMessage_mk_188 cx a1 a2 (k34 := k34) (hk34) X eT N K z b1 b2 b3 v5 v6 v7 v9 v10 f_a1_bodyStart f_a1_lines bs_a2 bs_b1 bs_b2 bs_b3 d8 o_d8 E_a1 F_a1_bodyStart F_a1_bytes F_a1_lineEnds F_a1_lineStarts F_a1_lines F_a1_wordLengths g_a1 A_a2 g_a2 A_b1 g_b1 nE_b1 A_b2 g_b2 nE_b2 A_b3 g_b3 nE_b3 ne_a1_a2 ne_a1_b1 ne_a2_b1 ne_a1_b2 ne_a2_b2 ne_b1_b2 ne_a1_b3 ne_a2_b3 ne_b1_b3 ne_b2_b3 _ hF
        · rw [if_neg hc170] at hF
          refine own_Goes.via (B := T.setTop (mkF m 176 #[.val (.ref a1), .val (.ref a2), .val (.ref b1), .val (.ref b2), .val (.ref b3), .val (.int v5), .val (.int v6), .val (.int v7), d8, .val (.int v9), .val (.int v10)] [(.int v10), (.ref a2)])) (fun t k => ?_) ?_
          · show Steps p.tables e below (T.setTop (mkF m 170 #[.val (.ref a1), .val (.ref a2), .val (.ref b1), .val (.ref b2), .val (.ref b3), .val (.int v5), .val (.int v6), .val (.int v7), d8, .val (.int v9), .val (.int v10)] [(.int (32 : Int32)), (.int (own_rd bs_a2 v10))])) t
            refine XS.icmpNo X.here hx rfl (hb hby dRawMessage_mk_170) rfl (feq hc170).1 ?_
            show Steps p.tables e below (T.setTop (mkF m 173 #[.val (.ref a1), .val (.ref a2), .val (.ref b1), .val (.ref b2), .val (.ref b3), .val (.int v5), .val (.int v6), .val (.int v7), d8, .val (.int v9), .val (.int v10)] [])) t
            refine XS.aloadN X.here hx rfl (hb hby dRawMessage_mk_173) rfl rfl ?_
            show Steps p.tables e below (T.setTop (mkF m 174 #[.val (.ref a1), .val (.ref a2), .val (.ref b1), .val (.ref b2), .val (.ref b3), .val (.int v5), .val (.int v6), .val (.int v7), d8, .val (.int v9), .val (.int v10)] [(.ref a2)])) t
            refine XS.iload X.here hx rfl (hb hby dRawMessage_mk_174) rfl ?_
            exact k
          obtain ⟨hi176, hF⟩ := own_ck_e hF
          refine own_Goes.via (B := T.setTop (mkF m 179 #[.val (.ref a1), .val (.ref a2), .val (.ref b1), .val (.ref b2), .val (.ref b3), .val (.int v5), .val (.int v6), .val (.int v7), d8, .val (.int v9), .val (.int v10)] [(.int (9 : Int32)), (.int (own_rd bs_a2 v10))])) (fun t k => ?_) ?_
          · show Steps p.tables e below (T.setTop (mkF m 176 #[.val (.ref a1), .val (.ref a2), .val (.ref b1), .val (.ref b2), .val (.ref b3), .val (.int v5), .val (.int v6), .val (.int v7), d8, .val (.int v9), .val (.int v10)] [(.int v10), (.ref a2)])) t
            refine own_ldB X hx hZ eT A_a2 hi176 rfl (g := (mkF m 176 #[.val (.ref a1), .val (.ref a2), .val (.ref b1), .val (.ref b2), .val (.ref b3), .val (.int v5), .val (.int v6), .val (.int v7), d8, .val (.int v9), .val (.int v10)] [(.int v10), (.ref a2)])) rfl rfl (hb hby dRawMessage_mk_176) ?_
            show Steps p.tables e below (T.setTop (mkF m 177 #[.val (.ref a1), .val (.ref a2), .val (.ref b1), .val (.ref b2), .val (.ref b3), .val (.int v5), .val (.int v6), .val (.int v7), d8, .val (.int v9), .val (.int v10)] [(.int (own_rd bs_a2 v10))])) t
            refine XS.bipush X.here hx rfl (hb hby dRawMessage_mk_177) ?_
            exact k
          by_cases hc179 : (own_rd bs_a2 v10) = (9 : Int32)
          · rw [if_pos hc179] at hF
            refine own_Goes.via (B := T.setTop (mkF m 188 #[.val (.ref a1), .val (.ref a2), .val (.ref b1), .val (.ref b2), .val (.ref b3), .val (.int v5), .val (.int v6), .val (.int v7), d8, .val (.int v9), .val (.int v10)] [])) (fun t k => ?_) ?_
            · show Steps p.tables e below (T.setTop (mkF m 179 #[.val (.ref a1), .val (.ref a2), .val (.ref b1), .val (.ref b2), .val (.ref b3), .val (.int v5), .val (.int v6), .val (.int v7), d8, .val (.int v9), .val (.int v10)] [(.int (9 : Int32)), (.int (own_rd bs_a2 v10))])) t
              refine XS.icmpYes X.here hx rfl (pc0 := 179) (pc' := 188) rfl (hb hby dRawMessage_mk_179) rfl (teq hc179).1 (by decide) (by decide) ?_
              exact k
            exact b_RawMessage_mk_188 cx a1 a2 (k34 := k34) (hk34) X eT N K z b1 b2 b3 v5 v6 v7 v9 v10 f_a1_bodyStart f_a1_lines bs_a2 bs_b1 bs_b2 bs_b3 d8 o_d8 E_a1 F_a1_bodyStart F_a1_bytes F_a1_lineEnds F_a1_lineStarts F_a1_lines F_a1_wordLengths g_a1 A_a2 g_a2 A_b1 g_b1 nE_b1 A_b2 g_b2 nE_b2 A_b3 g_b3 nE_b3 ne_a1_a2 ne_a1_b1 ne_a2_b1 ne_a1_b2 ne_a2_b2 ne_b1_b2 ne_a1_b3 ne_a2_b3 ne_b1_b3 ne_b2_b3 _ hF
          · rw [if_neg hc179] at hF
            refine own_Goes.via (B := T.setTop (mkF m 185 #[.val (.ref a1), .val (.ref a2), .val (.ref b1), .val (.ref b2), .val (.ref b3), .val (.int v5), .val (.int v6), .val (.int v7), d8, .val (.int v9), .val (.int (v10 + (1 : Int32)))] [])) (fun t k => ?_) ?_
            · show Steps p.tables e below (T.setTop (mkF m 179 #[.val (.ref a1), .val (.ref a2), .val (.ref b1), .val (.ref b2), .val (.ref b3), .val (.int v5), .val (.int v6), .val (.int v7), d8, .val (.int v9), .val (.int v10)] [(.int (9 : Int32)), (.int (own_rd bs_a2 v10))])) t
              refine XS.icmpNo X.here hx rfl (hb hby dRawMessage_mk_179) rfl (feq hc179).1 ?_
              show Steps p.tables e below (T.setTop (mkF m 182 #[.val (.ref a1), .val (.ref a2), .val (.ref b1), .val (.ref b2), .val (.ref b3), .val (.int v5), .val (.int v6), .val (.int v7), d8, .val (.int v9), .val (.int v10)] [])) t
              refine XS.iinc X.here hx rfl (hb hby dRawMessage_mk_182) rfl (l' := #[.val (.ref a1), .val (.ref a2), .val (.ref b1), .val (.ref b2), .val (.ref b3), .val (.int v5), .val (.int v6), .val (.int v7), d8, .val (.int v9), .val (.int (v10 + (1 : Int32)))]) rfl ?_
              exact k
            obtain ⟨x120, hx120, hF⟩ := own_lt_e hF
            rw [← hx120]
            refine own_Goes.via (B := T.setTop (mkF m 148 #[.val (.ref a1), .val (.ref a2), .val (.ref b1), .val (.ref b2), .val (.ref b3), .val (.int v5), .val (.int v6), .val (.int v7), d8, .val (.int v9), .val (.int x120)] [])) (fun t k => ?_) ?_
            · show Steps p.tables e below (T.setTop (mkF m 185 #[.val (.ref a1), .val (.ref a2), .val (.ref b1), .val (.ref b2), .val (.ref b3), .val (.int v5), .val (.int v6), .val (.int v7), d8, .val (.int v9), .val (.int x120)] [])) t
              refine XS.goto X.here hx rfl (pc0 := 185) (pc' := 148) rfl (hb hby dRawMessage_mk_185) (by decide) (by decide) ?_
              exact k
            exact ih X eT N K z b1 b2 b3 v5 v6 v7 v9 x120 f_a1_bodyStart f_a1_lines bs_a2 bs_b1 bs_b2 bs_b3 d8 o_d8 E_a1 F_a1_bodyStart F_a1_bytes F_a1_lineEnds F_a1_lineStarts F_a1_lines F_a1_wordLengths g_a1 A_a2 g_a2 A_b1 g_b1 nE_b1 A_b2 g_b2 nE_b2 A_b3 g_b3 nE_b3 ne_a1_a2 ne_a1_b1 ne_a2_b1 ne_a1_b2 ne_a2_b2 ne_b1_b2 ne_a1_b3 ne_a2_b3 ne_b1_b3 ne_b2_b3 _ hF
    · rw [if_neg hc152] at hF
      refine own_Goes.via (B := T.setTop (mkF m 188 #[.val (.ref a1), .val (.ref a2), .val (.ref b1), .val (.ref b2), .val (.ref b3), .val (.int v5), .val (.int v6), .val (.int v7), d8, .val (.int v9), .val (.int v10)] [])) (fun t k => ?_) ?_
      · show Steps p.tables e below (T.setTop (mkF m 152 #[.val (.ref a1), .val (.ref a2), .val (.ref b1), .val (.ref b2), .val (.ref b3), .val (.int v5), .val (.int v6), .val (.int v7), d8, .val (.int v9), .val (.int v10)] [(.int v9), (.int v10)])) t
        refine XS.icmpYes X.here hx rfl (pc0 := 152) (pc' := 188) rfl (hb hby dRawMessage_mk_152) rfl (flt hc152).2.1 (by decide) (by decide) ?_
        exact k
      exact b_RawMessage_mk_188 cx a1 a2 (k34 := k34) (hk34) X eT N K z b1 b2 b3 v5 v6 v7 v9 v10 f_a1_bodyStart f_a1_lines bs_a2 bs_b1 bs_b2 bs_b3 d8 o_d8 E_a1 F_a1_bodyStart F_a1_bytes F_a1_lineEnds F_a1_lineStarts F_a1_lines F_a1_wordLengths g_a1 A_a2 g_a2 A_b1 g_b1 nE_b1 A_b2 g_b2 nE_b2 A_b3 g_b3 nE_b3 ne_a1_a2 ne_a1_b1 ne_a2_b1 ne_a1_b2 ne_a2_b2 ne_b1_b2 ne_a1_b3 ne_a2_b3 ne_b1_b3 ne_b2_b3 _ hF
set_option maxRecDepth 65536 in
set_option maxHeartbeats 4000000 in
theorem b_RawMessage_mk_108 {p : Program} {l : Launch} {e : Env} {s : State} {m : MethodId} {args : Array Value} {below : List Frame} {meth : Method} {c : Code} {Z : State} {a0 : Array Value} {n0 : Nat} {hE : Heap} (cx : Cx_RawMessage_mk p s m meth c Z a0) (a1 : Addr) (a2 : Addr) {k34 : Int32 → Int32 → Int32 → Int32 → Int32 → (List Int32) → (List Int32) → (List Int32) → (List Int32) → Option (Int32 × Int32 × (List Int32) × (List Int32) × (List Int32))} (hk34 : ∀ {T : State} {locs : List Loc} {h : Heap} (X : Stand p l e ({ frames := 1, cells := 3, slots := 48, locals := 15 } : Room) s m args below meth c T locs 3 48) (eT : T.heap = h) (N : Fr n0 locs) (K : Keep hE h [a1]) (z : n0 ≤ h.size) (b1 : Addr) (b2 : Addr) (b3 : Addr) (v5 : Int32) (v6 : Int32) (v7 : Int32) (f_a1_bodyStart : Int32) (f_a1_lines : Int32) (bs_a2 : List Int32) (bs_b1 : List Int32) (bs_b2 : List Int32) (bs_b3 : List Int32) (d8 : Slot) (d9 : Slot) (d10 : Slot) (o_d8 : One d8) (o_d9 : One d9) (o_d10 : One d10) (E_a1 : Exa Z h a1 "com/example/oxpecker/oxpecker/sip/RawMessage") (F_a1_bodyStart : Fld Z h a1 "com/example/oxpecker/oxpecker/sip/RawMessage" "bodyStart" "I" (.int f_a1_bodyStart)) (F_a1_bytes : Fld Z h a1 "com/example/oxpecker/oxpecker/sip/RawMessage" "bytes" "[B" (.ref a2)) (F_a1_lineEnds : Fld Z h a1 "com/example/oxpecker/oxpecker/sip/RawMessage" "lineEnds" "[I" .null) (F_a1_lineStarts : Fld Z h a1 "com/example/oxpecker/oxpecker/sip/RawMessage" "lineStarts" "[I" .null) (F_a1_lines : Fld Z h a1 "com/example/oxpecker/oxpecker/sip/RawMessage" "lines" "I" (.int f_a1_lines)) (F_a1_wordLengths : Fld Z h a1 "com/example/oxpecker/oxpecker/sip/RawMessage" "wordLengths" "[I" .null) (g_a1 : n0 ≤ a1) (A_a2 : own_Ar Z h a2 .byte (bs_a2.map Value.int)) (g_a2 : n0 ≤ a2) (A_b1 : own_Ar Z h b1 .int (bs_b1.map Value.int)) (g_b1 : n0 ≤ b1) (nE_b1 : hE.size ≤ b1) (A_b2 : own_Ar Z h b2 .int (bs_b2.map Value.int)) (g_b2 : n0 ≤ b2) (nE_b2 : hE.size ≤ b2) (A_b3 : own_Ar Z h b3 .int (bs_b3.map Value.int)) (g_b3 : n0 ≤ b3) (nE_b3 : hE.size ≤ b3) (ne_a1_a2 : a1 ≠ a2) (ne_a1_b1 : a1 ≠ b1) (ne_a2_b1 : a2 ≠ b1) (ne_a1_b2 : a1 ≠ b2) (ne_a2_b2 : a2 ≠ b2) (ne_b1_b2 : b1 ≠ b2) (ne_a1_b3 : a1 ≠ b3) (ne_a2_b3 : a2 ≠ b3) (ne_b1_b3 : b1 ≠ b3) (ne_b2_b3 : b2 ≠ b3) (r : Int32 × Int32 × (List Int32) × (List Int32) × (List Int32)), k34 v5 v6 v7 f_a1_bodyStart f_a1_lines bs_a2 bs_b1 bs_b2 bs_b3 = some r → own_Goes p e below s (Q_RawMessage_mk Z hE n0 a1 a2 r) 3 48 (T.setTop (mkF m 34 #[.val (.ref a1), .val (.ref a2), .val (.ref b1), .val (.ref b2), .val (.ref b3), .val (.int v5), .val (.int v6), .val (.int v7), d8, d9, d10] []))) :
    ∀ {T : State} {locs : List Loc} {h : Heap} (X : Stand p l e ({ frames := 1, cells := 3, slots := 48, locals := 15 } : Room) s m args below meth c T locs 3 48) (eT : T.heap = h) (N : Fr n0 locs) (K : Keep hE h [a1]) (z : n0 ≤ h.size) (b1 : Addr) (b2 : Addr) (b3 : Addr) (v5 : Int32) (v6 : Int32) (v7 : Int32) (v9 : Int32) (f_a1_bodyStart : Int32) (f_a1_lines : Int32) (bs_a2 : List Int32) (bs_b1 : List Int32) (bs_b2 : List Int32) (bs_b3 : List Int32) (d8 : Slot) (d10 : Slot) (o_d8 : One d8) (o_d10 : One d10) (E_a1 : Exa Z h a1 "com/example/oxpecker/oxpecker/sip/RawMessage") (F_a1_bodyStart : Fld Z h a1 "com/example/oxpecker/oxpecker/sip/RawMessage" "bodyStart" "I" (.int f_a1_bodyStart)) (F_a1_bytes : Fld Z h a1 "com/example/oxpecker/oxpecker/sip/RawMessage" "bytes" "[B" (.ref a2)) (F_a1_lineEnds : Fld Z h a1 "com/example/oxpecker/oxpecker/sip/RawMessage" "lineEnds" "[I" .null) (F_a1_lineStarts : Fld Z h a1 "com/example/oxpecker/oxpecker/sip/RawMessage" "lineStarts" "[I" .null) (F_a1_lines : Fld Z h a1 "com/example/oxpecker/oxpecker/sip/RawMessage" "lines" "I" (.int f_a1_lines)) (F_a1_wordLengths : Fld Z h a1 "com/example/oxpecker/oxpecker/sip/RawMessage" "wordLengths" "[I" .null) (g_a1 : n0 ≤ a1) (A_a2 : own_Ar Z h a2 .byte (bs_a2.map Value.int)) (g_a2 : n0 ≤ a2) (A_b1 : own_Ar Z h b1 .int (bs_b1.map Value.int)) (g_b1 : n0 ≤ b1) (nE_b1 : hE.size ≤ b1) (A_b2 : own_Ar Z h b2 .int (bs_b2.map Value.int)) (g_b2 : n0 ≤ b2) (nE_b2 : hE.size ≤ b2) (A_b3 : own_Ar Z h b3 .int (bs_b3.map Value.int)) (g_b3 : n0 ≤ b3) (nE_b3 : hE.size ≤ b3) (ne_a1_a2 : a1 ≠ a2) (ne_a1_b1 : a1 ≠ b1) (ne_a2_b1 : a2 ≠ b1) (ne_a1_b2 : a1 ≠ b2) (ne_a2_b2 : a2 ≠ b2) (ne_b1_b2 : b1 ≠ b2) (ne_a1_b3 : a1 ≠ b3) (ne_a2_b3 : a2 ≠ b3) (ne_b1_b3 : b1 ≠ b3) (ne_b2_b3 : b2 ≠ b3) (r : Int32 × Int32 × (List Int32) × (List Int32) × (List Int32)), f_RawMessage_mk_108 k34 v5 v6 v7 v9 f_a1_bodyStart f_a1_lines bs_a2 bs_b1 bs_b2 bs_b3 = some r → own_Goes p e below s (Q_RawMessage_mk Z hE n0 a1 a2 r) 3 48 (T.setTop (mkF m 108 #[.val (.ref a1), .val (.ref a2), .val (.ref b1), .val (.ref b2), .val (.ref b3), .val (.int v5), .val (.int v6), .val (.int v7), d8, .val (.int v9), d10] [])) := by
  have cx' := cx
  obtain ⟨hx, hZ, hw, hby, hml, hown, hret, hlk, hnm⟩ := cx'
  intro T locs h X eT N K z b1 b2 b3 v5 v6 v7 v9 f_a1_bodyStart f_a1_lines bs_a2 bs_b1 bs_b2 bs_b3 d8 d10 o_d8 o_d10 E_a1 F_a1_bodyStart F_a1_bytes F_a1_lineEnds F_a1_lineStarts F_a1_lines F_a1_wordLengths g_a1 A_a2 g_a2 A_b1 g_b1 nE_b1 A_b2 g_b2 nE_b2 A_b3 g_b3 nE_b3 ne_a1_a2 ne_a1_b1 ne_a2_b1 ne_a1_b2 ne_a2_b2 ne_b1_b2 ne_a1_b3 ne_a2_b3 ne_b1_b3 ne_b2_b3 r hF
  unfold f_RawMessage_mk_108 at hF
  refine own_Goes.via (B := T.setTop (mkF m 112 #[.val (.ref a1), .val (.ref a2), .val (.ref b1), .val (.ref b2), .val (.ref b3), .val (.int v5), .val (.int v6), .val (.int v7), d8, .val (.int v9), d10] [(.int (own_sz bs_b1)), (.int v5)])) (fun t k => ?_) ?_
  · show Steps p.tables e below (T.setTop (mkF m 108 #[.val (.ref a1), .val (.ref a2), .val (.ref b1), .val (.ref b2), .val (.ref b3), .val (.int v5), .val (.int v6), .val (.int v7), d8, .val (.int v9), d10] [])) t
    refine XS.iload X.here hx rfl (hb hby dRawMessage_mk_108) rfl ?_
    show Steps p.tables e below (T.setTop (mkF m 110 #[.val (.ref a1), .val (.ref a2), .val (.ref b1), .val (.ref b2), .val (.ref b3), .val (.int v5), .val (.int v6), .val (.int v7), d8, .val (.int v9), d10] [(.int v5)])) t
    refine XS.aloadN X.here hx rfl (hb hby dRawMessage_mk_110) rfl rfl ?_
    show Steps p.tables e below (T.setTop (mkF m 111 #[.val (.ref a1), .val (.ref a2), .val (.ref b1), .val (.ref b2), .val (.ref b3), .val (.int v5), .val (.int v6), .val (.int v7), d8, .val (.int v9), d10] [(.ref b1), (.int v5)])) t
    refine own_len X hx hZ eT A_b1 (g := (mkF m 111 #[.val (.ref a1), .val (.ref a2), .val (.ref b1), .val (.ref b2), .val (.ref b3), .val (.int v5), .val (.int v6), .val (.int v7), d8, .val (.int v9), d10] [(.ref b1), (.int v5)])) rfl rfl (hb hby dRawMessage_mk_111) ?_
    exact k
  by_cases hc112 : v5 = (own_sz bs_b1)
  · rw [if_pos hc112] at hF
    refine own_Goes.via (B := T.setTop (mkF m 120 #[.val (.ref a1), .val (.ref a2), .val (.ref b1), .val (.ref b2), .val (.ref b3), .val (.int v5), .val (.int v6), .val (.int v7), d8, .val (.int v9), d10] [(.int ((2 : Int32) * v5)), (.ref b1)])) (fun t k => ?_) ?_
    · show Steps p.tables e below (T.setTop (mkF m 112 #[.val (.ref a1), .val (.ref a2), .val (.ref b1), .val (.ref b2), .val (.ref b3), .val (.int v5), .val (.int v6), .val (.int v7), d8, .val (.int v9), d10] [(.int (own_sz bs_b1)), (.int v5)])) t
      refine XS.icmpNo X.here hx rfl (hb hby dRawMessage_mk_112) rfl (teq hc112).2 ?_
      show Steps p.tables e below (T.setTop (mkF m 115 #[.val (.ref a1), .val (.ref a2), .val (.ref b1), .val (.ref b2), .val (.ref b3), .val (.int v5), .val (.int v6), .val (.int v7), d8, .val (.int v9), d10] [])) t
      refine XS.aloadN X.here hx rfl (hb hby dRawMessage_mk_115) rfl rfl ?_
      show Steps p.tables e below (T.setTop (mkF m 116 #[.val (.ref a1), .val (.ref a2), .val (.ref b1), .val (.ref b2), .val (.ref b3), .val (.int v5), .val (.int v6), .val (.int v7), d8, .val (.int v9), d10] [(.ref b1)])) t
      refine XS.iconst X.here hx rfl (hb hby dRawMessage_mk_116) ?_
      show Steps p.tables e below (T.setTop (mkF m 117 #[.val (.ref a1), .val (.ref a2), .val (.ref b1), .val (.ref b2), .val (.ref b3), .val (.int v5), .val (.int v6), .val (.int v7), d8, .val (.int v9), d10] [(.int (2 : Int32)), (.ref b1)])) t
      refine XS.iload X.here hx rfl (hb hby dRawMessage_mk_117) rfl ?_
      show Steps p.tables e below (T.setTop (mkF m 119 #[.val (.ref a1), .val (.ref a2), .val (.ref b1), .val (.ref b2), .val (.ref b3), .val (.int v5), .val (.int v6), .val (.int v7), d8, .val (.int v9), d10] [(.int v5), (.int (2 : Int32)), (.ref b1)])) t
      refine XS.imul X.here hx rfl (hb hby dRawMessage_mk_119) rfl ?_
      exact k
    cases hF      -- no link word at 120
  · rw [if_neg hc112] at hF
    refine own_Goes.via (B := T.setTop (mkF m 148 #[.val (.ref a1), .val (.ref a2), .val (.ref b1), .val (.ref b2), .val (.ref b3), .val (.int v5), .val (.int v6), .val (.int v7), d8, .val (.int v9), .val (.int v7)] [])) (fun t k => ?_) ?_
    · show Steps p.tables e below (T.setTop (mkF m 112 #[.val (.ref a1), .val (.ref a2), .val (.ref b1), .val (.ref b2), .val (.ref b3), .val (.int v5), .val (.int v6), .val (.int v7), d8, .val (.int v9), d10] [(.int (own_sz bs_b1)), (.int v5)])) t
      refine XS.icmpYes X.here hx rfl (pc0 := 112) (pc' := 144) rfl (hb hby dRawMessage_mk_112) rfl (feq hc112).2 (by decide) (by decide) ?_
      show Steps p.tables e below (T.setTop (mkF m 144 #[.val (.ref a1), .val (.ref a2), .val (.ref b1), .val (.ref b2), .val (.ref b3), .val (.int v5), .val (.int v6), .val (.int v7), d8, .val (.int v9), d10] [])) t
      refine XS.iload X.here hx rfl (hb hby dRawMessage_mk_144) rfl ?_
      show Steps p.tables e below (T.setTop (mkF m 146 #[.val (.ref a1), .val (.ref a2), .val (.ref b1), .val (.ref b2), .val (.ref b3), .val (.int v5), .val (.int v6), .val (.int v7), d8, .val (.int v9), d10] [(.int v7)])) t
      refine XS.istoreS X.here hx rfl (hb hby dRawMessage_mk_146) rfl rfl o_d10 ?_
      exact k
    exact b_RawMessage_mk_148 cx a1 a2 (k34 := k34) (hk34) _ X eT N K z b1 b2 b3 v5 v6 v7 v9 v7 f_a1_bodyStart f_a1_lines bs_a2 bs_b1 bs_b2 bs_b3 d8 o_d8 E_a1 F_a1_bodyStart F_a1_bytes F_a1_lineEnds F_a1_lineStarts F_a1_lines F_a1_wordLengths g_a1 A_a2 g_a2 A_b1 g_b1 nE_b1 A_b2 g_b2 nE_b2 A_b3 g_b3 nE_b3 ne_a1_a2 ne_a1_b1 ne_a2_b1 ne_a1_b2 ne_a2_b2 ne_b1_b2 ne_a1_b3 ne_a2_b3 ne_b1_b3 ne_b2_b3 _ hF
set_option maxRecDepth 65536 in
set_option maxHeartbeats 4000000 in
theorem b_RawMessage_mk_63 {p : Program} {l : Launch} {e : Env} {s : State} {m : MethodId} {args : Array Value} {below : List Frame} {meth : Method} {c : Code} {Z : State} {a0 : Array Value} {n0 : Nat} {hE : Heap} (cx : Cx_RawMessage_mk p s m meth c Z a0) (a1 : Addr) (a2 : Addr) {k34 : Int32 → Int32 → Int32 → Int32 → Int32 → (List Int32) → (List Int32) → (List Int32) → (List Int32) → Option (Int32 × Int32 × (List Int32) × (List Int32) × (List Int32))} (hk34 : ∀ {T : State} {locs : List Loc} {h : Heap} (X : Stand p l e ({ frames := 1, cells := 3, slots := 48, locals := 15 } : Room) s m args below meth c T locs 3 48) (eT : T.heap = h) (N : Fr n0 locs) (K : Keep hE h [a1]) (z : n0 ≤ h.size) (b1 : Addr) (b2 : Addr) (b3 : Addr) (v5 : Int32) (v6 : Int32) (v7 : Int32) (f_a1_bodyStart : Int32) (f_a1_lines : Int32) (bs_a2 : List Int32) (bs_b1 : List Int32) (bs_b2 : List Int32) (bs_b3 : List Int32) (d8 : Slot) (d9 : Slot) (d10 : Slot) (o_d8 : One d8) (o_d9 : One d9) (o_d10 : One d10) (E_a1 : Exa Z h a1 "com/example/oxpecker/oxpecker/sip/RawMessage") (F_a1_bodyStart : Fld Z h a1 "com/example/oxpecker/oxpecker/sip/RawMessage" "bodyStart" "I" (.int f_a1_bodyStart)) (F_a1_bytes : Fld Z h a1 "com/example/oxpecker/oxpecker/sip/RawMessage" "bytes" "[B" (.ref a2)) (F_a1_lineEnds : Fld Z h a1 "com/example/oxpecker/oxpecker/sip/RawMessage" "lineEnds" "[I" .null) (F_a1_lineStarts : Fld Z h a1 "com/example/oxpecker/oxpecker/sip/RawMessage" "lineStarts" "[I" .null) (F_a1_lines : Fld Z h a1 "com/example/oxpecker/oxpecker/sip/RawMessage" "lines" "I" (.int f_a1_lines)) (F_a1_wordLengths : Fld Z h a1 "com/example/oxpecker/oxpecker/sip/RawMessage" "wordLengths" "[I" .null) (g_a1 : n0 ≤ a1) (A_a2 : own_Ar Z h a2 .byte (bs_a2.map Value.int)) (g_a2 : n0 ≤ a2) (A_b1 : own_Ar Z h b1 .int (bs_b1.map Value.int)) (g_b1 : n0 ≤ b1) (nE_b1 : hE.size ≤ b1) (A_b2 : own_Ar Z h b2 .int (bs_b2.map Value.int)) (g_b2 : n0 ≤ b2) (nE_b2 : hE.size ≤ b2) (A_b3 : own_Ar Z h b3 .int (bs_b3.map Value.int)) (g_b3 : n0 ≤ b3) (nE_b3 : hE.size ≤ b3) (ne_a1_a2 : a1 ≠ a2) (ne_a1_b1 : a1 ≠ b1) (ne_a2_b1 : a2 ≠ b1) (ne_a1_b2 : a1 ≠ b2) (ne_a2_b2 : a2 ≠ b2) (ne_b1_b2 : b1 ≠ b2) (ne_a1_b3 : a1 ≠ b3) (ne_a2_b3 : a2 ≠ b3) (ne_b1_b3 : b1 ≠ b3) (ne_b2_b3 : b2 ≠ b3) (r : Int32 × Int32 × (List Int32) × (List Int32) × (List Int32)), k34 v5 v6 v7 f_a1_bodyStart f_a1_lines bs_a2 bs_b1 bs_b2 bs_b3 = some r → own_Goes p e below s (Q_RawMessage_mk Z hE n0 a1 a2 r) 3 48 (T.setTop (mkF m 34 #[.val (.ref a1), .val (.ref a2), .val (.ref b1), .val (.ref b2), .val (.ref b3), .val (.int v5), .val (.int v6), .val (.int v7), d8, d9, d10] []))) :
    ∀ {T : State} {locs : List Loc} {h : Heap} (X : Stand p l e ({ frames := 1, cells := 3, slots := 48, locals := 15 } : Room) s m args below meth c T locs 3 48) (eT : T.heap = h) (N : Fr n0 locs) (K : Keep hE h [a1]) (z : n0 ≤ h.size) (b1 : Addr) (b2 : Addr) (b3 : Addr) (v5 : Int32) (v6 : Int32) (v7 : Int32) (v8 : Int32) (t0 : Int32) (f_a1_bodyStart : Int32) (f_a1_lines : Int32) (bs_a2 : List Int32) (bs_b1 : List Int32) (bs_b2 : List Int32) (bs_b3 : List Int32) (d9 : Slot) (d10 : Slot) (o_d9 : One d9) (o_d10 : One d10) (E_a1 : Exa Z h a1 "com/example/oxpecker/oxpecker/sip/RawMessage") (F_a1_bodyStart : Fld Z h a1 "com/example/oxpecker/oxpecker/sip/RawMessage" "bodyStart" "I" (.int f_a1_bodyStart)) (F_a1_bytes : Fld Z h a1 "com/example/oxpecker/oxpecker/sip/RawMessage" "bytes" "[B" (.ref a2)) (F_a1_lineEnds : Fld Z h a1 "com/example/oxpecker/oxpecker/sip/RawMessage" "lineEnds" "[I" .null) (F_a1_lineStarts : Fld Z h a1 "com/example/oxpecker/oxpecker/sip/RawMessage" "lineStarts" "[I" .null) (F_a1_lines : Fld Z h a1 "com/example/oxpecker/oxpecker/sip/RawMessage" "lines" "I" (.int f_a1_lines)) (F_a1_wordLengths : Fld Z h a1 "com/example/oxpecker/oxpecker/sip/RawMessage" "wordLengths" "[I" .null) (g_a1 : n0 ≤ a1) (A_a2 : own_Ar Z h a2 .byte (bs_a2.map Value.int)) (g_a2 : n0 ≤ a2) (A_b1 : own_Ar Z h b1 .int (bs_b1.map Value.int)) (g_b1 : n0 ≤ b1) (nE_b1 : hE.size ≤ b1) (A_b2 : own_Ar Z h b2 .int (bs_b2.map Value.int)) (g_b2 : n0 ≤ b2) (nE_b2 : hE.size ≤ b2) (A_b3 : own_Ar Z h b3 .int (bs_b3.map Value.int)) (g_b3 : n0 ≤ b3) (nE_b3 : hE.size ≤ b3) (ne_a1_a2 : a1 ≠ a2) (ne_a1_b1 : a1 ≠ b1) (ne_a2_b1 : a2 ≠ b1) (ne_a1_b2 : a1 ≠ b2) (ne_a2_b2 : a2 ≠ b2) (ne_b1_b2 : b1 ≠ b2) (ne_a1_b3 : a1 ≠ b3) (ne_a2_b3 : a2 ≠ b3) (ne_b1_b3 : b1 ≠ b3) (ne_b2_b3 : b2 ≠ b3) (r : Int32 × Int32 × (List Int32) × (List Int32) × (List Int32)), f_RawMessage_mk_63 k34 v5 v6 v7 v8 t0 f_a1_bodyStart f_a1_lines bs_a2 bs_b1 bs_b2 bs_b3 = some r → own_Goes p e below s (Q_RawMessage_mk Z hE n0 a1 a2 r) 3 48 (T.setTop (mkF m 63 #[.val (.ref a1), .val (.ref a2), .val (.ref b1), .val (.ref b2), .val (.ref b3), .val (.int v5), .val (.int v6), .val (.int v7), .val (.int v8), d9, d10] [(.int t0)])) := by
  have cx' := cx
  obtain ⟨hx, hZ, hw, hby, hml, hown, hret, hlk, hnm⟩ := cx'
  intro T locs h X eT N K z b1 b2 b3 v5 v6 v7 v8 t0 f_a1_bodyStart f_a1_lines bs_a2 bs_b1 bs_b2 bs_b3 d9 d10 o_d9 o_d10 E_a1 F_a1_bodyStart F_a1_bytes F_a1_lineEnds F_a1_lineStarts F_a1_lines F_a1_wordLengths g_a1 A_a2 g_a2 A_b1 g_b1 nE_b1 A_b2 g_b2 nE_b2 A_b3 g_b3 nE_b3 ne_a1_a2 ne_a1_b1 ne_a2_b1 ne_a1_b2 ne_a2_b2 ne_b1_b2 ne_a1_b3 ne_a2_b3 ne_b1_b3 ne_b2_b3 r hF
  unfold f_RawMessage_mk_63 at hF
  refine own_Goes.via (B := T.setTop (mkF m 69 #[.val (.ref a1), .val (.ref a2), .val (.ref b1), .val (.ref b2), .val (.ref b3), .val (.int v5), .val (.int v6), .val (.int v7), .val (.int v8), .val (.int t0), d10] [(.int v7), (.int t0)])) (fun t k => ?_) ?_
  · show Steps p.tables e below (T.setTop (mkF m 63 #[.val (.ref a1), .val (.ref a2), .val (.ref b1), .val (.ref b2), .val (.ref b3), .val (.int v5), .val (.int v6), .val (.int v7), .val (.int v8), d9, d10] [(.int t0)])) t
    refine XS.istoreS X.here hx rfl (hb hby dRawMessage_mk_63) rfl rfl o_d9 ?_
    show Steps p.tables e below (T.setTop (mkF m 65 #[.val (.ref a1), .val (.ref a2), .val (.ref b1), .val (.ref b2), .val (.ref b3), .val (.int v5), .val (.int v6), .val (.int v7), .val (.int v8), .val (.int t0), d10] [])) t
    refine XS.iload X.here hx rfl (hb hby dRawMessage_mk_65) rfl ?_
    show Steps p.tables e below (T.setTop (mkF m 67 #[.val (.ref a1), .val (.ref a2), .val (.ref b1), .val (.ref b2), .val (.ref b3), .val (.int v5), .val (.int v6), .val (.int v7), .val (.int v8), .val (.int t0), d10] [(.int t0)])) t
    refine XS.iload X.here hx rfl (hb hby dRawMessage_mk_67) rfl ?_
    exact k
  by_cases hc69 : t0 = v7
  · rw [if_pos hc69] at hF
    refine own_Goes.via (B := T.setTop (mkF m 92 #[.val (.ref a1), .val (.ref a2), .val (.ref b1), .val (.ref b2), .val (.ref b3), .val (.int v5), .val (.int v6), .val (.int v7), .val (.int v8), .val (.int t0), d10] [(.int v8)])) (fun t k => ?_) ?_
    · show Steps p.tables e below (T.setTop (mkF m 69 #[.val (.ref a1), .val (.ref a2), .val (.ref b1), .val (.ref b2), .val (.ref b3), .val (.int v5), .val (.int v6), .val (.int v7), .val (.int v8), .val (.int t0), d10] [(.int v7), (.int t0)])) t
      refine XS.icmpYes X.here hx rfl (pc0 := 69) (pc' := 90) rfl (hb hby dRawMessage_mk_69) rfl (teq hc69).1 (by decide) (by decide) ?_
      show Steps p.tables e below (T.setTop (mkF m 90 #[.val (.ref a1), .val (.ref a2), .val (.ref b1), .val (.ref b2), .val (.ref b3), .val (.int v5), .val (.int v6), .val (.int v7), .val (.int v8), .val (.int t0), d10] [])) t
      refine XS.iload X.here hx rfl (hb hby dRawMessage_mk_90) rfl ?_
      exact k
    by_cases hc92 : v8 < (0 : Int32)
    · rw [if_pos hc92] at hF
      refine own_Goes.via (B := T.setTop (mkF m 222 #[.val (.ref a1), .val (.ref a2), .val (.ref b1), .val (.ref b2), .val (.ref b3), .val (.int v5), .val (.int (-1 : Int32)), .val (.int v7), .val (.int v8), .val (.int t0), d10] [])) (fun t k => ?_) ?_
      · show Steps p.tables e below (T.setTop (mkF m 92 #[.val (.ref a1), .val (.ref a2), .val (.ref b1), .val (.ref b2), .val (.ref b3), .val (.int v5), .val (.int v6), .val (.int v7), .val (.int v8), .val (.int t0), d10] [(.int v8)])) t
        refine XS.ifNo X.here hx rfl (hb hby dRawMessage_mk_92) rfl ((if0 _ _).trans (tlt hc92).2.1) ?_
        show Steps p.tables e below (T.setTop (mkF m 95 #[.val (.ref a1), .val (.ref a2), .val (.ref b1), .val (.ref b2), .val (.ref b3), .val (.int v5), .val (.int v6), .val (.int v7), .val (.int v8), .val (.int t0), d10] [])) t
        refine XS.iconst X.here hx rfl (hb hby dRawMessage_mk_95) ?_
        show Steps p.tables e below (T.setTop (mkF m 96 #[.val (.ref a1), .val (.ref a2), .val (.ref b1), .val (.ref b2), .val (.ref b3), .val (.int v5), .val (.int v6), .val (.int v7), .val (.int v8), .val (.int t0), d10] [(.int (-1 : Int32))])) t
        refine XS.goto X.here hx rfl (pc0 := 96) (pc' := 103) rfl (hb hby dRawMessage_mk_96) (by decide) (by decide) ?_
        show Steps p.tables e below (T.setTop (mkF m 103 #[.val (.ref a1), .val (.ref a2), .val (.ref b1), .val (.ref b2), .val (.ref b3), .val (.int v5), .val (.int v6), .val (.int v7), .val (.int v8), .val (.int t0), d10] [(.int (-1 : Int32))])) t
        refine XS.istore X.here hx rfl (hb hby dRawMessage_mk_103) rfl (l' := #[.val (.ref a1), .val (.ref a2), .val (.ref b1), .val (.ref b2), .val (.ref b3), .val (.int v5), .val (.int (-1 : Int32)), .val (.int v7), .val (.int v8), .val (.int t0), d10]) rfl ?_
        show Steps p.tables e below (T.setTop (mkF m 105 #[.val (.ref a1), .val (.ref a2), .val (.ref b1), .val (.ref b2), .val (.ref b3), .val (.int v5), .val (.int (-1 : Int32)), .val (.int v7), .val (.int v8), .val (.int t0), d10] [])) t
        refine XS.goto X.here hx rfl (pc0 := 105) (pc' := 222) rfl (hb hby dRawMessage_mk_105) (by decide) (by decide) ?_
        exact k
      exact b_RawMessage_mk_222 cx a1 a2 X eT N K z b1 b2 b3 v5 (-1 : Int32) f_a1_bodyStart f_a1_lines bs_a2 bs_b1 bs_b2 bs_b3 (.val (.ref a2)) (.val (.int v7)) (.val (.int v8)) (.val (.int t0)) d10 (One.val rfl) (One.val rfl) (One.val rfl) (One.val rfl) o_d10 E_a1 F_a1_bodyStart F_a1_bytes F_a1_lineEnds F_a1_lineStarts F_a1_lines F_a1_wordLengths g_a1 A_a2 g_a2 A_b1 g_b1 nE_b1 A_b2 g_b2 nE_b2 A_b3 g_b3 nE_b3 ne_a1_a2 ne_a1_b1 ne_a2_b1 ne_a1_b2 ne_a2_b2 ne_b1_b2 ne_a1_b3 ne_a2_b3 ne_b1_b3 ne_b2_b3 _ hF
    · rw [if_neg hc92] at hF
      refine own_Goes.via (B := T.setTop (mkF m 103 #[.val (.ref a1), .val (.ref a2), .val (.ref b1), .val (.ref b2), .val (.ref b3), .val (.int v5), .val (.int v6), .val (.int v7), .val (.int v8), .val (.int t0), d10] [(.int (v8 + (1 : Int32)))])) (fun t k => ?_) ?_
      · show Steps p.tables e below (T.setTop (mkF m 92 #[.val (.ref a1), .val (.ref a2), .val (.ref b1), .val (.ref b2), .val (.ref b3), .val (.int v5), .val (.int v6), .val (.int v7), .val (.int v8), .val (.int t0), d10] [(.int v8)])) t
        refine XS.ifYes X.here hx rfl (pc0 := 92) (pc' := 99) rfl (hb hby dRawMessage_mk_92) rfl ((if0 _ _).trans (flt hc92).2.1) (by decide) (by decide) ?_
        show Steps p.tables e below (T.setTop (mkF m 99 #[.val (.ref a1), .val (.ref a2), .val (.ref b1), .val (.ref b2), .val (.ref b3), .val (.int v5), .val (.int v6), .val (.int v7), .val (.int v8), .val (.int t0), d10] [])) t
        refine XS.iload X.here hx rfl (hb hby dRawMessage_mk_99) rfl ?_
        show Steps p.tables e below (T.setTop (mkF m 101 #[.val (.ref a1), .val (.ref a2), .val (.ref b1), .val (.ref b2), .val (.ref b3), .val (.int v5), .val (.int v6), .val (.int v7), .val (.int v8), .val (.int t0), d10] [(.int v8)])) t
        refine XS.iconst X.here hx rfl (hb hby dRawMessage_mk_101) ?_
        show Steps p.tables e below (T.setTop (mkF m 102 #[.val (.ref a1), .val (.ref a2), .val (.ref b1), .val (.ref b2), .val (.ref b3), .val (.int v5), .val (.int v6), .val (.int v7), .val (.int v8), .val (.int t0), d10] [(.int (1 : Int32)), (.int v8)])) t
        refine XS.iadd X.here hx rfl (hb hby dRawMessage_mk_102) rfl ?_
        exact k
      obtain ⟨x121, hx121, hF⟩ := own_lt_e hF
      rw [← hx121]
      refine own_Goes.via (B := T.setTop (mkF m 222 #[.val (.ref a1), .val (.ref a2), .val (.ref b1), .val (.ref b2), .val (.ref b3), .val (.int v5), .val (.int x121), .val (.int v7), .val (.int v8), .val (.int t0), d10] [])) (fun t k => ?_) ?_
      · show Steps p.tables e below (T.setTop (mkF m 103 #[.val (.ref a1), .val (.ref a2), .val (.ref b1), .val (.ref b2), .val (.ref b3), .val (.int v5), .val (.int v6), .val (.int v7), .val (.int v8), .val (.int t0), d10] [(.int x121)])) t
        refine XS.istore X.here hx rfl (hb hby dRawMessage_mk_103) rfl (l' := #[.val (.ref a1), .val (.ref a2), .val (.ref b1), .val (.ref b2), .val (.ref b3), .val (.int v5), .val (.int x121), .val (.int v7), .val (.int v8), .val (.int t0), d10]) rfl ?_
        show Steps p.tables e below (T.setTop (mkF m 105 #[.val (.ref a1), .val (.ref a2), .val (.ref b1), .val (.ref b2), .val (.ref b3), .val (.int v5), .val (.int x121), .val (.int v7), .val (.int v8), .val (.int t0), d10] [])) t
        refine XS.goto X.here hx rfl (pc0 := 105) (pc' := 222) rfl (hb hby dRawMessage_mk_105) (by decide) (by decide) ?_
        exact k
      exact b_RawMessage_mk_222 cx a1 a2 X eT N K z b1 b2 b3 v5 x121 f_a1_bodyStart f_a1_lines bs_a2 bs_b1 bs_b2 bs_b3 (.val (.ref a2)) (.val (.int v7)) (.val (.int v8)) (.val (.int t0)) d10 (One.val rfl) (One.val rfl) (One.val rfl) (One.val rfl) o_d10 E_a1 F_a1_bodyStart F_a1_bytes F_a1_lineEnds F_a1_lineStarts F_a1_lines F_a1_wordLengths g_a1 A_a2 g_a2 A_b1 g_b1 nE_b1 A_b2 g_b2 nE_b2 A_b3 g_b3 nE_b3 ne_a1_a2 ne_a1_b1 ne_a2_b1 ne_a1_b2 ne_a2_b2 ne_b1_b2 ne_a1_b3 ne_a2_b3 ne_b1_b3 ne_b2_b3 _ hF
  · rw [if_neg hc69] at hF
    refine own_Goes.via (B := T.setTop (mkF m 78 #[.val (.ref a1), .val (.ref a2), .val (.ref b1), .val (.ref b2), .val (.ref b3), .val (.int v5), .val (.int v6), .val (.int v7), .val (.int v8), .val (.int t0), d10] [(.int (v7 + (1 : Int32))), (.int t0)])) (fun t k => ?_) ?_
    · show Steps p.tables e below (T.setTop (mkF m 69 #[.val (.ref a1), .val (.ref a2), .val (.ref b1), .val (.ref b2), .val (.ref b3), .val (.int v5), .val (.int v6), .val (.int v7), .val (.int v8), .val (.int t0), d10] [(.int v7), (.int t0)])) t
      refine XS.icmpNo X.here hx rfl (hb hby dRawMessage_mk_69) rfl (feq hc69).1 ?_
      show Steps p.tables e below (T.setTop (mkF m 72 #[.val (.ref a1), .val (.ref a2), .val (.ref b1), .val (.ref b2), .val (.ref b3), .val (.int v5), .val (.int v6), .val (.int v7), .val (.int v8), .val (.int t0), d10] [])) t
      refine XS.iload X.here hx rfl (hb hby dRawMessage_mk_72) rfl ?_
      show Steps p.tables e below (T.setTop (mkF m 74 #[.val (.ref a1), .val (.ref a2), .val (.ref b1), .val (.ref b2), .val (.ref b3), .val (.int v5), .val (.int v6), .val (.int v7), .val (.int v8), .val (.int t0), d10] [(.int t0)])) t
      refine XS.iload X.here hx rfl (hb hby dRawMessage_mk_74) rfl ?_
      show Steps p.tables e below (T.setTop (mkF m 76 #[.val (.ref a1), .val (.ref a2), .val (.ref b1), .val (.ref b2), .val (.ref b3), .val (.int v5), .val (.int v6), .val (.int v7), .val (.int v8), .val (.int t0), d10] [(.int v7), (.int t0)])) t
      refine XS.iconst X.here hx rfl (hb hby dRawMessage_mk_76) ?_
      show Steps p.tables e below (T.setTop (mkF m 77 #[.val (.ref a1), .val (.ref a2), .val (.ref b1), .val (.ref b2), .val (.ref b3), .val (.int v5), .val (.int v6), .val (.int v7), .val (.int v8), .val (.int t0), d10] [(.int (1 : Int32)), (.int v7), (.int t0)])) t
      refine XS.iadd X.here hx rfl (hb hby dRawMessage_mk_77) rfl ?_
      exact k
    by_cases hc78 : t0 = (v7 + (1 : Int32))
    · rw [if_pos hc78] at hF
      refine own_Goes.via (B := T.setTop (mkF m 84 #[.val (.ref a1), .val (.ref a2), .val (.ref b1), .val (.ref b2), .val (.ref b3), .val (.int v5), .val (.int v6), .val (.int v7), .val (.int v8), .val (.int t0), d10] [(.int v7), (.ref a2)])) (fun t k => ?_) ?_
      · show Steps p.tables e below (T.setTop (mkF m 78 #[.val (.ref a1), .val (.ref a2), .val (.ref b1), .val (.ref b2), .val (.ref b3), .val (.int v5), .val (.int v6), .val (.int v7), .val (.int v8), .val (.int t0), d10] [(.int (v7 + (1 : Int32))), (.int t0)])) t
        refine XS.icmpNo X.here hx rfl (hb hby dRawMessage_mk_78) rfl (teq hc78).2 ?_
        show Steps p.tables e below (T.setTop (mkF m 81 #[.val (.ref a1), .val (.ref a2), .val (.ref b1), .val (.ref b2), .val (.ref b3), .val (.int v5), .val (.int v6), .val (.int v7), .val (.int v8), .val (.int t0), d10] [])) t
        refine XS.aloadN X.here hx rfl (hb hby dRawMessage_mk_81) rfl rfl ?_
        show Steps p.tables e below (T.setTop (mkF m 82 #[.val (.ref a1), .val (.ref a2), .val (.ref b1), .val (.ref b2), .val (.ref b3), .val (.int v5), .val (.int v6), .val (.int v7), .val (.int v8), .val (.int t0), d10] [(.ref a2)])) t
        refine XS.iload X.here hx rfl (hb hby dRawMessage_mk_82) rfl ?_
        exact k
      obtain ⟨hi84, hF⟩ := own_ck_e hF
      refine own_Goes.via (B := T.setTop (mkF m 87 #[.val (.ref a1), .val (.ref a2), .val (.ref b1), .val (.ref b2), .val (.ref b3), .val (.int v5), .val (.int v6), .val (.int v7), .val (.int v8), .val (.int t0), d10] [(.int (13 : Int32)), (.int (own_rd bs_a2 v7))])) (fun t k => ?_) ?_
      · show Steps p.tables e below (T.setTop (mkF m 84 #[.val (.ref a1), .val (.ref a2), .val (.ref b1), .val (.ref b2), .val (.ref b3), .val (.int v5), .val (.int v6), .val (.int v7), .val (.int v8), .val (.int t0), d10] [(.int v7), (.ref a2)])) t
        refine own_ldB X hx hZ eT A_a2 hi84 rfl (g := (mkF m 84 #[.val (.ref a1), .val (.ref a2), .val (.ref b1), .val (.ref b2), .val (.ref b3), .val (.int v5), .val (.int v6), .val (.int v7), .val (.int v8), .val (.int t0), d10] [(.int v7), (.ref a2)])) rfl rfl (hb hby dRawMessage_mk_84) ?_
        show Steps p.tables e below (T.setTop (mkF m 85 #[.val (.ref a1), .val (.ref a2), .val (.ref b1), .val (.ref b2), .val (.ref b3), .val (.int v5), .val (.int v6), .val (.int v7), .val (.int v8), .val (.int t0), d10] [(.int (own_rd bs_a2 v7))])) t
        refine XS.bipush X.here hx rfl (hb hby dRawMessage_mk_85) ?_
        exact k
      by_cases hc87 : (own_rd bs_a2 v7) = (13 : Int32)
      · rw [if_pos hc87] at hF
        refine own_Goes.via (B := T.setTop (mkF m 92 #[.val (.ref a1), .val (.ref a2), .val (.ref b1), .val (.ref b2), .val (.ref b3), .val (.int v5), .val (.int v6), .val (.int v7), .val (.int v8), .val (.int t0), d10] [(.int v8)])) (fun t k => ?_) ?_
        · show Steps p.tables e below (T.setTop (mkF m 87 #[.val (.ref a1), .val (.ref a2), .val (.ref b1), .val (.ref b2), .val (.ref b3), .val (.int v5), .val (.int v6), .val (.int v7), .val (.int v8), .val (.int t0), d10] [(.int (13 : Int32)), (.int (own_rd bs_a2 v7))])) t
          refine XS.icmpNo X.here hx rfl (hb hby dRawMessage_mk_87) rfl (teq hc87).2 ?_
          show Steps p.tables e below (T.setTop (mkF m 90 #[.val (.ref a1), .val (.ref a2), .val (.ref b1), .val (.ref b2), .val (.ref b3), .val (.int v5), .val (.int v6), .val (.int v7), .val (.int v8), .val (.int t0), d10] [])) t
          refine XS.iload X.here hx rfl (hb hby dRawMessage_mk_90) rfl ?_
          exact k
        by_cases hc92 : v8 < (0 : Int32)
        · rw [if_pos hc92] at hF
          refine own_Goes.via (B := T.setTop (mkF m 222 #[.val (.ref a1), .val (.ref a2), .val (.ref b1), .val (.ref b2), .val (.ref b3), .val (.int v5), .val (.int (-1 : Int32)), .val (.int v7), .val (.int v8), .val (.int t0), d10] [])) (fun t k => ?_) ?_
          · show Steps p.tables e below (T.setTop (mkF m 92 #[.val (.ref a1), .val (.ref a2), .val (.ref b1), .val (.ref b2), .val (.ref b3), .val (.int v5), .val (.int v6), .val (.int v7), .val (.int v8), .val (.int t0), d10] [(.int v8)])) t
            refine XS.ifNo X.here hx rfl (hb hby dRawMessage_mk_92) rfl ((if0 _ _).trans (tlt hc92).2.1) ?_
            show Steps p.tables e below (T.setTop (mkF m 95 #[.val (.ref a1), .val (.ref a2), .val (.ref b1), .val (.ref b2), .val (.ref b3), .val (.int v5), .val (.int v6), .val (.int v7), .val (.int v8), .val (.int t0), d10] [])) t
            refine XS.iconst X.here hx rfl (hb hby dRawMessage_mk_95) ?_
            show Steps p.tables e below (T.setTop (mkF m 96 #[.val (.ref a1), .val (.ref a2), .val (.ref b1), .val (.ref b2), .val (.ref b3), .val (.int v5), .val (.int v6), .val (.int v7), .val (.int v8), .val (.int t0), d10] [(.int (-1 : Int32))])) t
            refine XS.goto X.here hx rfl (pc0 := 96) (pc' := 103) rfl (hb hby dRawMessage_mk_96) (by decide) (by decide) ?_
            show Steps p.tables e below (T.setTop (mkF m 103 #[.val (.ref a1), .val (.ref a2), .val (.ref b1), .val (.ref b2), .val (.ref b3), .val (.int v5), .val (.int v6), .val (.int v7), .val (.int v8), .val (.int t0), d10] [(.int (-1 : Int32))])) t
            refine XS.istore X.here hx rfl (hb hby dRawMessage_mk_103) rfl (l' := #[.val (.ref a1), .val (.ref a2), .val (.ref b1), .val (.ref b2), .val (.ref b3), .val (.int v5), .val (.int (-1 : Int32)), .val (.int v7), .val (.int v8), .val (.int t0), d10]) rfl ?_
            show Steps p.tables e below (T.setTop (mkF m 105 #[.val (.ref a1), .val (.ref a2), .val (.ref b1), .val (.ref b2), .val (.ref b3), .val (.int v5), .val (.int (-1 : Int32)), .val (.int v7), .val (.int v8), .val (.int t0), d10] [])) t
            refine XS.goto X.here hx rfl (pc0 := 105) (pc' := 222) rfl (hb hby dRawMessage_mk_105) (by decide) (by decide) ?_
            exact k
          exact b_RawMessage_mk_222 cx a1 a2 X eT N K z b1 b2 b3 v5 (-1 : Int32) f_a1_bodyStart f_a1_lines bs_a2 bs_b1 bs_b2 bs_b3 (.val (.ref a2)) (.val (.int v7)) (.val (.int v8)) (.val (.int t0)) d10 (One.val rfl) (One.val rfl) (One.val rfl) (One.val rfl) o_d10 E_a1 F_a1_bodyStart F_a1_bytes F_a1_lineEnds F_a1_lineStarts F_a1_lines F_a1_wordLengths g_a1 A_a2 g_a2 A_b1 g_b1 nE_b1 A_b2 g_b2 nE_b2 A_b3 g_b3 nE_b3 ne_a1_a2 ne_a1_b1 ne_a2_b1 ne_a1_b2 ne_a2_b2 ne_b1_b2 ne_a1_b3 ne_a2_b3 ne_b1_b3 ne_b2_b3 _ hF
        · rw [if_neg hc92] at hF
          refine own_Goes.via (B := T.setTop (mkF m 103 #[.val (.ref a1), .val (.ref a2), .val (.ref b1), .val (.ref b2), .val (.ref b3), .val (.int v5), .val (.int v6), .val (.int v7), .val (.int v8), .val (.int t0), d10] [(.int (v8 + (1 : Int32)))])) (fun t k => ?_) ?_
          · show Steps p.tables e below (T.setTop (mkF m 92 #[.val (.ref a1), .val (.ref a2), .val (.ref b1), .val (.ref b2), .val (.ref b3), .val (.int v5), .val (.int v6), .val (.int v7), .val (.int v8), .val (.int t0), d10] [(.int v8)])) t
            refine XS.ifYes X.here hx rfl (pc0 := 92) (pc' := 99) rfl (hb hby dRawMessage_mk_92) rfl ((if0 _ _).trans (flt hc92).2.1) (by decide) (by decide) ?_
            show Steps p.tables e below (T.setTop (mkF m 99 #[.val (.ref a1), .val (.ref a2), .val (.ref b1), .val (.ref b2), .val (.ref b3), .val (.int v5), .val (.int v6), .val (.int v7), .val (.int v8), .val (.int t0), d10] [])) t
            refine XS.iload X.here hx rfl (hb hby dRawMessage_mk_99) rfl ?_
            show Steps p.tables e below (T.setTop (mkF m 101 #[.val (.ref a1), .val (.ref a2), .val (.ref b1), .val (.ref b2), .val (.ref b3), .val (.int v5), .val (.int v6), .val (.int v7), .val (.int v8), .val (.int t0), d10] [(.int v8)])) t
            refine XS.iconst X.here hx rfl (hb hby dRawMessage_mk_101) ?_
            show Steps p.tables e below (T.setTop (mkF m 102 #[.val (.ref a1), .val (.ref a2), .val (.ref b1), .val (.ref b2), .val (.ref b3), .val (.int v5), .val (.int v6), .val (.int v7), .val (.int v8), .val (.int t0), d10] [(.int (1 : Int32)), (.int v8)])) t
            refine XS.iadd X.here hx rfl (hb hby dRawMessage_mk_102) rfl ?_
            exact k
          obtain ⟨x122, hx122, hF⟩ := own_lt_e hF
          rw [← hx122]
          refine own_Goes.via (B := T.setTop (mkF m 222 #[.val (.ref a1), .val (.ref a2), .val (.ref b1), .val (.ref b2), .val (.ref b3), .val (.int v5), .val (.int x122), .val (.int v7), .val (.int v8), .val (.int t0), d10] [])) (fun t k => ?_) ?_
          · show Steps p.tables e below (T.setTop (mkF m 103 #[.val (.ref a1), .val (.ref a2), .val (.ref b1), .val (.ref b2), .val (.ref b3), .val (.int v5), .val (.int v6), .val (.int v7), .val (.int v8), .val (.int t0), d10] [(.int x122)])) t
            refine XS.istore X.here hx rfl (hb hby dRawMessage_mk_103) rfl (l' := #[.val (.ref a1), .val (.ref a2), .val (.ref b1), .val (.ref b2), .val (.ref b3), .val (.int v5), .val (.int x122), .val (.int v7), .val (.int v8), .val (.int t0), d10]) rfl ?_
            show Steps p.tables e below (T.setTop (mkF m 105 #[.val (.ref a1), .val (.ref a2), .val (.ref b1), .val (.ref b2), .val (.ref b3), .val (.int v5), .val (.int x122), .val (.int v7), .val (.int v8), .val (.int t0), d10] [])) t
            refine XS.goto X.here hx rfl (pc0 := 105) (pc' := 222) rfl (hb hby dRawMessage_mk_105) (by decide) (by decide) ?_
            exact k
          exact b_RawMessage_mk_222 cx a1 a2 X eT N K z b1 b2 b3 v5 x122 f_a1_bodyStart f_a1_lines bs_a2 bs_b1 bs_b2 bs_b3 (.val (.ref a2)) (.val (.int v7)) (.val (.int v8)) (.val (.int t0)) d10 (One.val rfl) (One.val rfl) (One.val rfl) (One.val rfl) o_d10 E_a1 F_a1_bodyStart F_a1_bytes F_a1_lineEnds F_a1_lineStarts F_a1_lines F_a1_wordLengths g_a1 A_a2 g_a2 A_b1 g_b1 nE_b1 A_b2 g_b2 nE_b2 A_b3 g_b3 nE_b3 ne_a1_a2 ne_a1_b1 ne_a2_b1 ne_a1_b2 ne_a2_b2 ne_b1_b2 ne_a1_b3 ne_a2_b3 ne_b1_b3 ne_b2_b3 _ hF
      · rw [if_neg hc87] at hF
        refine own_Goes.via (B := T.setTop (mkF m 108 #[.val (.ref a1), .val (.ref a2), .val (.ref b1), .val (.ref b2), .val (.ref b3), .val (.int v5), .val (.int v6), .val (.int v7), .val (.int v8), .val (.int t0), d10] [])) (fun t k => ?_) ?_
        · show Steps p.tables e below (T.setTop (mkF m 87 #[.val (.ref a1), .val (.ref a2), .val (.ref b1), .val (.ref b2), .val (.ref b3), .val (.int v5), .val (.int v6), .val (.int v7), .val (.int v8), .val (.int t0), d10] [(.int (13 : Int32)), (.int (own_rd bs_a2 v7))])) t
          refine XS.icmpYes X.here hx rfl (pc0 := 87) (pc' := 108) rfl (hb hby dRawMessage_mk_87) rfl (feq hc87).2 (by decide) (by decide) ?_
          exact k
        exact b_RawMessage_mk_108 cx a1 a2 (k34 := k34) (hk34) X eT N K z b1 b2 b3 v5 v6 v7 t0 f_a1_bodyStart f_a1_lines bs_a2 bs_b1 bs_b2 bs_b3 (.val (.int v8)) d10 (One.val rfl) o_d10 E_a1 F_a1_bodyStart F_a1_bytes F_a1_lineEnds F_a1_lineStarts F_a1_lines F_a1_wordLengths g_a1 A_a2 g_a2 A_b1 g_b1 nE_b1 A_b2 g_b2 nE_b2 A_b3 g_b3 nE_b3 ne_a1_a2 ne_a1_b1 ne_a2_b1 ne_a1_b2 ne_a2_b2 ne_b1_b2 ne_a1_b3 ne_a2_b3 ne_b1_b3 ne_b2_b3 _ hF
    · rw [if_neg hc78] at hF
      refine own_Goes.via (B := T.setTop (mkF m 108 #[.val (.ref a1), .val (.ref a2), .val (.ref b1), .val (.ref b2), .val (.ref b3), .val (.int v5), .val (.int v6), .val (.int v7), .val (.int v8), .val (.int t0), d10] [])) (fun t k => ?_) ?_
      · show Steps p.tables e below (T.setTop (mkF m 78 #[.val (.ref a1), .val (.ref a2), .val (.ref b1), .val (.ref b2), .val (.ref b3), .val (.int v5), .val (.int v6), .val (.int v7), .val (.int v8), .val (.int t0), d10] [(.int (v7 + (1 : Int32))), (.int t0)])) t
        refine XS.icmpYes X.here hx rfl (pc0 := 78) (pc' := 108) rfl (hb hby dRawMessage_mk_78) rfl (feq hc78).2 (by decide) (by decide) ?_
        exact k
      exact b_RawMessage_mk_108 cx a1 a2 (k34 := k34) (hk34) X eT N K z b1 b2 b3 v5 v6 v7 t0 f_a1_bodyStart f_a1_lines bs_a2 bs_b1 bs_b2 bs_b3 (.val (.int v8)) d10 (One.val rfl) o_d10 E_a1 F_a1_bodyStart F_a1_bytes F_a1_lineEnds F_a1_lineStarts F_a1_lines F_a1_wordLengths g_a1 A_a2 g_a2 A_b1 g_b1 nE_b1 A_b2 g_b2 nE_b2 A_b3 g_b3 nE_b3 ne_a1_a2 ne_a1_b1 ne_a2_b1 ne_a1_b2 ne_a2_b2 ne_b1_b2 ne_a1_b3 ne_a2_b3 ne_b1_b3 ne_b2_b3 _ hF
set_option maxRecDepth 65536 in
set_option maxHeartbeats 4000000 in
theorem b_RawMessage_mk_34 {p : Program} {l : Launch} {e : Env} {s : State} {m : MethodId} {args : Array Value} {below : List Frame} {meth : Method} {c : Code} {Z : State} {a0 : Array Value} {n0 : Nat} {hE : Heap} (cx : Cx_RawMessage_mk p s m meth c Z a0) (a1 : Addr) (a2 : Addr) (n : Nat) :
    ∀ {T : State} {locs : List Loc} {h : Heap} (X : Stand p l e ({ frames := 1, cells := 3, slots := 48, locals := 15 } : Room) s m args below meth c T locs 3 48) (eT : T.heap = h) (N : Fr n0 locs) (K : Keep hE h [a1]) (z : n0 ≤ h.size) (b1 : Addr) (b2 : Addr) (b3 : Addr) (v5 : Int32) (v6 : Int32) (v7 : Int32) (f_a1_bodyStart : Int32) (f_a1_lines : Int32) (bs_a2 : List Int32) (bs_b1 : List Int32) (bs_b2 : List Int32) (bs_b3 : List Int32) (d8 : Slot) (d9 : Slot) (d10 : Slot) (o_d8 : One d8) (o_d9 : One d9) (o_d10 : One d10) (E_a1 : Exa Z h a1 "com/example/oxpecker/oxpecker/sip/RawMessage") (F_a1_bodyStart : Fld Z h a1 "com/example/oxpecker/oxpecker/sip/RawMessage" "bodyStart" "I" (.int f_a1_bodyStart)) (F_a1_bytes : Fld Z h a1 "com/example/oxpecker/oxpecker/sip/RawMessage" "bytes" "[B" (.ref a2)) (F_a1_lineEnds : Fld Z h a1 "com/example/oxpecker/oxpecker/sip/RawMessage" "lineEnds" "[I" .null) (F_a1_lineStarts : Fld Z h a1 "com/example/oxpecker/oxpecker/sip/RawMessage" "lineStarts" "[I" .null) (F_a1_lines : Fld Z h a1 "com/example/oxpecker/oxpecker/sip/RawMessage" "lines" "I" (.int f_a1_lines)) (F_a1_wordLengths : Fld Z h a1 "com/example/oxpecker/oxpecker/sip/RawMessage" "wordLengths" "[I" .null) (g_a1 : n0 ≤ a1) (A_a2 : own_Ar Z h a2 .byte (bs_a2.map Value.int)) (g_a2 : n0 ≤ a2) (A_b1 : own_Ar Z h b1 .int (bs_b1.map Value.int)) (g_b1 : n0 ≤ b1) (nE_b1 : hE.size ≤ b1) (A_b2 : own_Ar Z h b2 .int (bs_b2.map Value.int)) (g_b2 : n0 ≤ b2) (nE_b2 : hE.size ≤ b2) (A_b3 : own_Ar Z h b3 .int (bs_b3.map Value.int)) (g_b3 : n0 ≤ b3) (nE_b3 : hE.size ≤ b3) (ne_a1_a2 : a1 ≠ a2) (ne_a1_b1 : a1 ≠ b1) (ne_a2_b1 : a2 ≠ b1) (ne_a1_b2 : a1 ≠ b2) (ne_a2_b2 : a2 ≠ b2) (ne_b1_b2 : b1 ≠ b2) (ne_a1_b3 : a1 ≠ b3) (ne_a2_b3 : a2 ≠ b3) (ne_b1_b3 : b1 ≠ b3) (ne_b2_b3 : b2 ≠ b3) (r : Int32 × Int32 × (List Int32) × (List Int32) × (List Int32)), f_RawMessage_mk_34 n v5 v6 v7 f_a1_bodyStart f_a1_lines bs_a2 bs_b1 bs_b2 bs_b3 = some r → own_Goes p e below s (Q_RawMessage_mk Z hE n0 a1 a2 r) 3 48 (T.setTop (mkF m 34 #[.val (.ref a1), .val (.ref a2), .val (.ref b1), .val (.ref b2), .val (.ref b3), .val (.int v5), .val (.int v6), .val (.int v7), d8, d9, d10] [])) := by
  have cx' := cx
  obtain ⟨hx, hZ, hw, hby, hml, hown, hret, hlk, hnm⟩ := cx'
  induction n with
  | zero =>
    intro T locs h X eT N K z b1 b2 b3 v5 v6 v7 f_a1_bodyStart f_a1_lines bs_a2 bs_b1 bs_b2 bs_b3 d8 d9 d10 o_d8 o_d9 o_d10 E_a1 F_a1_bodyStart F_a1_bytes F_a1_lineEnds F_a1_lineStarts F_a1_lines F_a1_wordLengths g_a1 A_a2 g_a2 A_b1 g_b1 nE_b1 A_b2 g_b2 nE_b2 A_b3 g_b3 nE_b3 ne_a1_a2 ne_a1_b1 ne_a2_b1 ne_a1_b2 ne_a2_b2 ne_b1_b2 ne_a1_b3 ne_a2_b3 ne_b1_b3 ne_b2_b3 r hF
    cases hF
  | succ n ih =>
    intro T locs h X eT N K z b1 b2 b3 v5 v6 v7 f_a1_bodyStart f_a1_lines bs_a2 bs_b1 bs_b2 bs_b3 d8 d9 d10 o_d8 o_d9 o_d10 E_a1 F_a1_bodyStart F_a1_bytes F_a1_lineEnds F_a1_lineStarts F_a1_lines F_a1_wordLengths g_a1 A_a2 g_a2 A_b1 g_b1 nE_b1 A_b2 g_b2 nE_b2 A_b3 g_b3 nE_b3 ne_a1_a2 ne_a1_b1 ne_a2_b1 ne_a1_b2 ne_a2_b2 ne_b1_b2 ne_a1_b3 ne_a2_b3 ne_b1_b3 ne_b2_b3 r hF
    rw [f_RawMessage_mk_34] at hF
    refine own_Goes.via (B := T.setTop (mkF m 38 #[.val (.ref a1), .val (.ref a2), .val (.ref b1), .val (.ref b2), .val (.ref b3), .val (.int v5), .val (.int v6), .val (.int v7), d8, d9, d10] [(.int (own_sz bs_a2)), (.int v7)])) (fun t k => ?_) ?_
    · show Steps p.tables e below (T.setTop (mkF m 34 #[.val (.ref a1), .val (.ref a2), .val (.ref b1), .val (.ref b2), .val (.ref b3), .val (.int v5), .val (.int v6), .val (.int v7), d8, d9, d10] [])) t
      refine XS.iload X.here hx rfl (hb hby dRawMessage_mk_34) rfl ?_
      show Steps p.tables e below (T.setTop (mkF m 36 #[.val (.ref a1), .val (.ref a2), .val (.ref b1), .val (.ref b2), .val (.ref b3), .val (.int v5), .val (.int v6), .val (.int v7), d8, d9, d10] [(.int v7)])) t
      refine XS.aloadN X.here hx rfl (hb hby dRawMessage_mk_36) rfl rfl ?_
      show Steps p.tables e below (T.setTop (mkF m 37 #[.val (.ref a1), .val (.ref a2), .val (.ref b1), .val (.ref b2), .val (.ref b3), .val (.int v5), .val (.int v6), .val (.int v7), d8, d9, d10] [(.ref a2), (.int v7)])) t
      refine own_len X hx hZ eT A_a2 (g := (mkF m 37 #[.val (.ref a1), .val (.ref a2), .val (.ref b1), .val (.ref b2), .val (.ref b3), .val (.int v5), .val (.int v6), .val (.int v7), d8, d9, d10] [(.ref a2), (.int v7)])) rfl rfl (hb hby dRawMessage_mk_37) ?_
      exact k
    by_cases hc38 : v7 < (own_sz bs_a2)
    · rw [if_pos hc38] at hF
      refine own_Goes.via (B := T.setTop (mkF m 46 #[.val (.ref a1), .val (.ref a2), .val (.ref b1), .val (.ref b2), .val (.ref b3), .val (.int v5), .val (.int v6), .val (.int v7), d8, d9, d10] [(.int v7), (.int (10 : Int32)), (.ref a1)])) (fun t k => ?_) ?_
      · show Steps p.tables e below (T.setTop (mkF m 38 #[.val (.ref a1), .val (.ref a2), .val (.ref b1), .val (.ref b2), .val (.ref b3), .val (.int v5), .val (.int v6), .val (.int v7), d8, d9, d10] [(.int (own_sz bs_a2)), (.int v7)])) t
        refine XS.icmpNo X.here hx rfl (hb hby dRawMessage_mk_38) rfl (tlt hc38).2.1 ?_
        show Steps p.tables e below (T.setTop (mkF m 41 #[.val (.ref a1), .val (.ref a2), .val (.ref b1), .val (.ref b2), .val (.ref b3), .val (.int v5), .val (.int v6), .val (.int v7), d8, d9, d10] [])) t
        refine XS.aloadN X.here hx rfl (hb hby dRawMessage_mk_41) rfl rfl ?_
        show Steps p.tables e below (T.setTop (mkF m 42 #[.val (.ref a1), .val (.ref a2), .val (.ref b1), .val (.ref b2), .val (.ref b3), .val (.int v5), .val (.int v6), .val (.int v7), d8, d9, d10] [(.ref a1)])) t
        refine XS.bipush X.here hx rfl (hb hby dRawMessage_mk_42) ?_
        show Steps p.tables e below (T.setTop (mkF m 44 #[.val (.ref a1), .val (.ref a2), .val (.ref b1), .val (.ref b2), .val (.ref b3), .val (.int v5), .val (.int v6), .val (.int v7), d8, d9, d10] [(.int (10 : Int32)), (.ref a1)])) t
        refine XS.iload X.here hx rfl (hb hby dRawMessage_mk_44) rfl ?_
        exact k
      obtain ⟨r123, hr123, hF⟩ := own_bd_e hF
      obtain ⟨cq123, q123, q123'⟩ := E_a1.cell
      obtain ⟨_, _, ⟨T123, L123, k123, n123⟩, -, X123, ⟨Lc123, hQ123, l123, y123, z123⟩, st123⟩ := X.privateBack hx (y := (⟨"com/example/oxpecker/oxpecker/sip/RawMessage", "indexOf", "(BI)I"⟩ : MethodName)) hown (mvT hZ (w18 hw)) (mvT hZ (w19 hw)) (own_privSel (y := (⟨"com/example/oxpecker/oxpecker/sip/RawMessage", "indexOf", "(BI)I"⟩ : MethodName)) (mvT hZ (w7 hw)) (Cond.privateMethod_at (mvP hZ (w20 hw) (args := #[]))) (mvT hZ (w19 hw)) (by decide)) (Cond.privateMethod_at (mvP hZ (w20 hw) (args := #[]))) (mvT hZ (w21 hw)) (by decide) (backOf (W := 0) (rm_RawMessage_indexOf l Z a0 hw [] h n0 z a1 a2 (10 : Int32) v7 f_a1_bodyStart f_a1_lines bs_a2 E_a1 F_a1_bodyStart F_a1_bytes F_a1_lineEnds F_a1_lineStarts F_a1_lines F_a1_wordLengths g_a1 A_a2 g_a2 ne_a1_a2 r123 hr123) hZ (w21 hw) (w8 hw) (by decide) (by decide)) (g := (mkF m 46 #[.val (.ref a1), .val (.ref a2), .val (.ref b1), .val (.ref b2), .val (.ref b3), .val (.int v5), .val (.int v6), .val (.int v7), d8, d9, d10] [(.int v7), (.int (10 : Int32)), (.ref a1)])) rfl (by rw [hml]; rfl) (Steps.refl _) (a := a1) (by rw [eT]; exact q123) q123' (argsL := [(.int (10 : Int32)), (.int v7)]) (rest := []) (lenOf pd_1 rfl) rfl (by show 2 * 0 + _ ≤ _; exact Nat.le_of_eq rfl) (hb hby dRawMessage_mk_46) (fun _ _ => ⟨rfl, eT, (by decide : 3 + 0 ≤ _), (by decide : 48 + 0 ≤ _)⟩)
      dsimp only [Pt.U, Pt.locs, Pt.cells, Pt.slots] at X123 l123 y123 z123 st123 hQ123
      subst l123 y123 z123
      obtain ⟨rfl, N123q, e123⟩ := hQ123
      have N123 := Fr.app N N123q
      refine own_Goes.tr st123 ?_
      show own_Goes _ _ _ _ _ _ _ (T123.setTop (mkF m 49 #[.val (.ref a1), .val (.ref a2), .val (.ref b1), .val (.ref b2), .val (.ref b3), .val (.int v5), .val (.int v6), .val (.int v7), d8, d9, d10] [(.int r123)]))
      refine own_Goes.via (B := T123.setTop (mkF m 53 #[.val (.ref a1), .val (.ref a2), .val (.ref b1), .val (.ref b2), .val (.ref b3), .val (.int v5), .val (.int v6), .val (.int v7), .val (.int r123), d9, d10] [(.int r123)])) (fun t k => ?_) ?_
      · show Steps p.tables e below (T123.setTop (mkF m 49 #[.val (.ref a1), .val (.ref a2), .val (.ref b1), .val (.ref b2), .val (.ref b3), .val (.int v5), .val (.int v6), .val (.int v7), d8, d9, d10] [(.int r123)])) t
        refine XS.istoreS X123.here hx rfl (hb hby dRawMessage_mk_49) rfl rfl o_d8 ?_
        show Steps p.tables e below (T123.setTop (mkF m 51 #[.val (.ref a1), .val (.ref a2), .val (.ref b1), .val (.ref b2), .val (.ref b3), .val (.int v5), .val (.int v6), .val (.int v7), .val (.int r123), d9, d10] [])) t
        refine XS.iload X123.here hx rfl (hb hby dRawMessage_mk_51) rfl ?_
        exact k
      by_cases hc53 : r123 < (0 : Int32)
      · rw [if_pos hc53] at hF
        refine own_Goes.via (B := T123.setTop (mkF m 63 #[.val (.ref a1), .val (.ref a2), .val (.ref b1), .val (.ref b2), .val (.ref b3), .val (.int v5), .val (.int v6), .val (.int v7), .val (.int r123), d9, d10] [(.int (own_sz bs_a2))])) (fun t k => ?_) ?_
        · show Steps p.tables e below (T123.setTop (mkF m 53 #[.val (.ref a1), .val (.ref a2), .val (.ref b1), .val (.ref b2), .val (.ref b3), .val (.int v5), .val (.int v6), .val (.int v7), .val (.int r123), d9, d10] [(.int r123)])) t
          refine XS.ifNo X123.here hx rfl (hb hby dRawMessage_mk_53) rfl ((if0 _ _).trans (tlt hc53).2.1) ?_
          show Steps p.tables e below (T123.setTop (mkF m 56 #[.val (.ref a1), .val (.ref a2), .val (.ref b1), .val (.ref b2), .val (.ref b3), .val (.int v5), .val (.int v6), .val (.int v7), .val (.int r123), d9, d10] [])) t
          refine XS.aloadN X123.here hx rfl (hb hby dRawMessage_mk_56) rfl rfl ?_
          show Steps p.tables e below (T123.setTop (mkF m 57 #[.val (.ref a1), .val (.ref a2), .val (.ref b1), .val (.ref b2), .val (.ref b3), .val (.int v5), .val (.int v6), .val (.int v7), .val (.int r123), d9, d10] [(.ref a2)])) t
          refine own_len X123 hx hZ e123 A_a2 (g := (mkF m 57 #[.val (.ref a1), .val (.ref a2), .val (.ref b1), .val (.ref b2), .val (.ref b3), .val (.int v5), .val (.int v6), .val (.int v7), .val (.int r123), d9, d10] [(.ref a2)])) rfl rfl (hb hby dRawMessage_mk_57) ?_
          show Steps p.tables e below (T123.setTop (mkF m 58 #[.val (.ref a1), .val (.ref a2), .val (.ref b1), .val (.ref b2), .val (.ref b3), .val (.int v5), .val (.int v6), .val (.int v7), .val (.int r123), d9, d10] [(.int (own_sz bs_a2))])) t
          refine XS.goto X123.here hx rfl (pc0 := 58) (pc' := 63) rfl (hb hby dRawMessage_mk_58) (by decide) (by decide) ?_
          exact k
        exact b_RawMessage_mk_63 cx a1 a2 (k34 := (f_RawMessage_mk_34 n)) (ih) X123 e123 N123 K z b1 b2 b3 v5 v6 v7 r123 (own_sz bs_a2) f_a1_bodyStart f_a1_lines bs_a2 bs_b1 bs_b2 bs_b3 d9 d10 o_d9 o_d10 E_a1 F_a1_bodyStart F_a1_bytes F_a1_lineEnds F_a1_lineStarts F_a1_lines F_a1_wordLengths g_a1 A_a2 g_a2 A_b1 g_b1 nE_b1 A_b2 g_b2 nE_b2 A_b3 g_b3 nE_b3 ne_a1_a2 ne_a1_b1 ne_a2_b1 ne_a1_b2 ne_a2_b2 ne_b1_b2 ne_a1_b3 ne_a2_b3 ne_b1_b3 ne_b2_b3 _ hF
      · rw [if_neg hc53] at hF
        refine own_Goes.via (B := T123.setTop (mkF m 63 #[.val (.ref a1), .val (.ref a2), .val (.ref b1), .val (.ref b2), .val (.ref b3), .val (.int v5), .val (.int v6), .val (.int v7), .val (.int r123), d9, d10] [(.int r123)])) (fun t k => ?_) ?_
        · show Steps p.tables e below (T123.setTop (mkF m 53 #[.val (.ref a1), .val (.ref a2), .val (.ref b1), .val (.ref b2), .val (.ref b3), .val (.int v5), .val (.int v6), .val (.int v7), .val (.int r123), d9, d10] [(.int r123)])) t
          refine XS.ifYes X123.here hx rfl (pc0 := 53) (pc' := 61) rfl (hb hby dRawMessage_mk_53) rfl ((if0 _ _).trans (flt hc53).2.1) (by decide) (by decide) ?_
          show Steps p.tables e below (T123.setTop (mkF m 61 #[.val (.ref a1), .val (.ref a2), .val (.ref b1), .val (.ref b2), .val (.ref b3), .val (.int v5), .val (.int v6), .val (.int v7), .val (.int r123), d9, d10] [])) t
          refine XS.iload X123.here hx rfl (hb hby dRawMessage_mk_61) rfl ?_
          exact k
        exact b_RawMessage_mk_63 cx a1 a2 (k34 := (f_RawMessage_mk_34 n)) (ih) X123 e123 N123 K z b1 b2 b3 v5 v6 v7 r123 r123 f_a1_bodyStart f_a1_lines bs_a2 bs_b1 bs_b2 bs_b3 d9 d10 o_d9 o_d10 E_a1 F_a1_bodyStart F_a1_bytes F_a1_lineEnds F_a1_lineStarts F_a1_lines F_a1_wordLengths g_a1 A_a2 g_a2 A_b1 g_b1 nE_b1 A_b2 g_b2 nE_b2 A_b3 g_b3 nE_b3 ne_a1_a2 ne_a1_b1 ne_a2_b1 ne_a1_b2 ne_a2_b2 ne_b1_b2 ne_a1_b3 ne_a2_b3 ne_b1_b3 ne_b2_b3 _ hF
    · rw [if_neg hc38] at hF
      refine own_Goes.via (B := T.setTop (mkF m 222 #[.val (.ref a1), .val (.ref a2), .val (.ref b1), .val (.ref b2), .val (.ref b3), .val (.int v5), .val (.int v6), .val (.int v7), d8, d9, d10] [])) (fun t k => ?_) ?_
      · show Steps p.tables e below (T.setTop (mkF m 38 #[.val (.ref a1), .val (.ref a2), .val (.ref b1), .val (.ref b2), .val (.ref b3), .val (.int v5), .val (.int v6), .val (.int v7), d8, d9, d10] [(.int (own_sz bs_a2)), (.int v7)])) t
        refine XS.icmpYes X.here hx rfl (pc0 := 38) (pc' := 222) rfl (hb hby dRawMessage_mk_38) rfl (flt hc38).2.1 (by decide) (by decide) ?_
        exact k
      exact b_RawMessage_mk_222 cx a1 a2 X eT N K z b1 b2 b3 v5 v6 f_a1_bodyStart f_a1_lines bs_a2 bs_b1 bs_b2 bs_b3 (.val (.ref a2)) (.val (.int v7)) d8 d9 d10 (One.val rfl) (One.val rfl) o_d8 o_d9 o_d10 E_a1 F_a1_bodyStart F_a1_bytes F_a1_lineEnds F_a1_lineStarts F_a1_lines F_a1_wordLengths g_a1 A_a2 g_a2 A_b1 g_b1 nE_b1 A_b2 g_b2 nE_b2 A_b3 g_b3 nE_b3 ne_a1_a2 ne_a1_b1 ne_a2_b1 ne_a1_b2 ne_a2_b2 ne_b1_b2 ne_a1_b3 ne_a2_b3 ne_b1_b3 ne_b2_b3 _ hF
set_option maxRecDepth 65536 in
set_option maxHeartbeats 4000000 in
theorem b_RawMessage_mk {p : Program} {l : Launch} {e : Env} {s : State} {m : MethodId} {args : Array Value} {below : List Frame} {meth : Method} {c : Code} {Z : State} {a0 : Array Value} {n0 : Nat} {hE : Heap} (cx : Cx_RawMessage_mk p s m meth c Z a0) (a1 : Addr) (a2 : Addr) :
    ∀ {T : State} {locs : List Loc} {h : Heap} (X : Stand p l e ({ frames := 1, cells := 3, slots := 48, locals := 15 } : Room) s m args below meth c T locs 0 0) (eT : T.heap = h) (N : Fr n0 locs) (K : Keep hE h [a1]) (z : n0 ≤ h.size) (f_a1_bodyStart : Int32) (f_a1_lines : Int32) (bs_a2 : List Int32) (E_a1 : Exa Z h a1 "com/example/oxpecker/oxpecker/sip/RawMessage") (F_a1_bodyStart : Fld Z h a1 "com/example/oxpecker/oxpecker/sip/RawMessage" "bodyStart" "I" (.int f_a1_bodyStart)) (F_a1_bytes : Fld Z h a1 "com/example/oxpecker/oxpecker/sip/RawMessage" "bytes" "[B" .null) (F_a1_lineEnds : Fld Z h a1 "com/example/oxpecker/oxpecker/sip/RawMessage" "lineEnds" "[I" .null) (F_a1_lineStarts : Fld Z h a1 "com/example/oxpecker/oxpecker/sip/RawMessage" "lineStarts" "[I" .null) (F_a1_lines : Fld Z h a1 "com/example/oxpecker/oxpecker/sip/RawMessage" "lines" "I" (.int f_a1_lines)) (F_a1_wordLengths : Fld Z h a1 "com/example/oxpecker/oxpecker/sip/RawMessage" "wordLengths" "[I" .null) (g_a1 : n0 ≤ a1) (A_a2 : own_Ar Z h a2 .byte (bs_a2.map Value.int)) (g_a2 : n0 ≤ a2) (ne_a1_a2 : a1 ≠ a2) (r : Int32 × Int32 × (List Int32) × (List Int32) × (List Int32)), f_RawMessage_mk f_a1_bodyStart f_a1_lines bs_a2 = some r → own_Goes p e below s (Q_RawMessage_mk Z hE n0 a1 a2 r) 3 48 (T.setTop (mkF m 0 #[.val (.ref a1), .val (.ref a2), .unset, .unset, .unset, .unset, .unset, .unset, .unset, .unset, .unset] [])) := by
  have cx' := cx
  obtain ⟨hx, hZ, hw, hby, hml, hown, hret, hlk, hnm⟩ := cx'
  intro T locs h X eT N K z f_a1_bodyStart f_a1_lines bs_a2 E_a1 F_a1_bodyStart F_a1_bytes F_a1_lineEnds F_a1_lineStarts F_a1_lines F_a1_wordLengths g_a1 A_a2 g_a2 ne_a1_a2 r hF
  unfold f_RawMessage_mk at hF
  refine own_Goes.via (B := T.setTop (mkF m 1 #[.val (.ref a1), .val (.ref a2), .unset, .unset, .unset, .unset, .unset, .unset, .unset, .unset, .unset] [(.ref a1)])) (fun t k => ?_) ?_
  · show Steps p.tables e below (T.setTop (mkF m 0 #[.val (.ref a1), .val (.ref a2), .unset, .unset, .unset, .unset, .unset, .unset, .unset, .unset, .unset] [])) t
    refine XS.aloadN X.here hx rfl (hb hby dRawMessage_mk_0) rfl rfl ?_
    exact k
  obtain ⟨T124, X124, e124, st124⟩ := initO X hx hZ hown (w12 hw) (w13 hw) (w14 hw) eT (g := (mkF m 1 #[.val (.ref a1), .val (.ref a2), .unset, .unset, .unset, .unset, .unset, .unset, .unset, .unset, .unset] [(.ref a1)])) rfl (by rw [hml]; rfl) rfl (hb hby dRawMessage_mk_1) (by decide) (W := 0) (by show 2 * 0 + _ ≤ _; exact Nat.le_of_eq rfl) (by decide)
  refine own_Goes.via st124 ?_
  show own_Goes _ _ _ _ _ _ _ (T124.setTop (mkF m 4 #[.val (.ref a1), .val (.ref a2), .unset, .unset, .unset, .unset, .unset, .unset, .unset, .unset, .unset] []))
  refine own_Goes.via (B := T124.setTop (mkF m 6 #[.val (.ref a1), .val (.ref a2), .unset, .unset, .unset, .unset, .unset, .unset, .unset, .unset, .unset] [(.ref a2), (.ref a1)])) (fun t k => ?_) ?_
  · show Steps p.tables e below (T124.setTop (mkF m 4 #[.val (.ref a1), .val (.ref a2), .unset, .unset, .unset, .unset, .unset, .unset, .unset, .unset, .unset] [])) t
    refine XS.aloadN X124.here hx rfl (hb hby dRawMessage_mk_4) rfl rfl ?_
    show Steps p.tables e below (T124.setTop (mkF m 5 #[.val (.ref a1), .val (.ref a2), .unset, .unset, .unset, .unset, .unset, .unset, .unset, .unset, .unset] [(.ref a1)])) t
    refine XS.aloadN X124.here hx rfl (hb hby dRawMessage_mk_5) rfl rfl ?_
    exact k
  obtain ⟨T125, h125, X125, e125, W125, st125⟩ := putF X124 hx hZ hown (host := "") (Or.inl (w15 hw)) Via.refl e124 F_a1_bytes E_a1 (Or.inr ⟨(w16 hw), rfl, hnm⟩) (w7 hw) (ty := (.array .byte)) (by decide) rfl rfl (g := (mkF m 6 #[.val (.ref a1), .val (.ref a2), .unset, .unset, .unset, .unset, .unset, .unset, .unset, .unset, .unset] [(.ref a2), (.ref a1)])) rfl rfl (hb hby dRawMessage_mk_6)
  refine own_Goes.via st125 ?_
  have E125_a1 := E_a1.wr W125
  have F125_a1_bodyStart := F_a1_bodyStart.other W125 (Or.inr (slot_ne (Or.inr (w31 hw)) (Or.inr (w16 hw)) (by decide) (t := .int) (t' := (.array .byte)) (by decide) (by decide)))
  have F125_a1_lineEnds := F_a1_lineEnds.other W125 (Or.inr (slot_ne (Or.inr (w25 hw)) (Or.inr (w16 hw)) (by decide) (t := (.array .int)) (t' := (.array .byte)) (by decide) (by decide)))
  have F125_a1_lineStarts := F_a1_lineStarts.other W125 (Or.inr (slot_ne (Or.inr (w23 hw)) (Or.inr (w16 hw)) (by decide) (t := (.array .int)) (t' := (.array .byte)) (by decide) (by decide)))
  have F125_a1_lines := F_a1_lines.other W125 (Or.inr (slot_ne (Or.inr (w29 hw)) (Or.inr (w16 hw)) (by decide) (t := .int) (t' := (.array .byte)) (by decide) (by decide)))
  have F125_a1_wordLengths := F_a1_wordLengths.other W125 (Or.inr (slot_ne (Or.inr (w27 hw)) (Or.inr (w16 hw)) (by decide) (t := (.array .int)) (t' := (.array .byte)) (by decide) (by decide)))
  have A125_a2 := A_a2.other W125 (Ne.symm ne_a1_a2)
  have F125_a1_bytes := F_a1_bytes.same W125
  have z125 := Nat.le_trans z (Keep.of_wr W125).1
  have K125_ := K.wr W125 (Or.inl (List.mem_of_getElem? (i := 0) rfl))
  have N125 := Fr.snoc X125 N g_a1
  show own_Goes _ _ _ _ _ _ _ (T125.setTop (mkF m 9 #[.val (.ref a1), .val (.ref a2), .unset, .unset, .unset, .unset, .unset, .unset, .unset, .unset, .unset] []))
  refine own_Goes.via (B := T125.setTop (mkF m 11 #[.val (.ref a1), .val (.ref a2), .unset, .unset, .unset, .unset, .unset, .unset, .unset, .unset, .unset] [(.int (16 : Int32))])) (fun t k => ?_) ?_
  · show Steps p.tables e below (T125.setTop (mkF m 9 #[.val (.ref a1), .val (.ref a2), .unset, .unset, .unset, .unset, .unset, .unset, .unset, .unset, .unset] [])) t
    refine XS.bipush X125.here hx rfl (hb hby dRawMessage_mk_9) ?_
    exact k
  obtain ⟨T126, h126, k126, X126, e126, E126, A126, st126⟩ := newP X125 hx hZ (aty := .int) (w17 hw) e125 (g := (mkF m 11 #[.val (.ref a1), .val (.ref a2), .unset, .unset, .unset, .unset, .unset, .unset, .unset, .unset, .unset] [(.int (16 : Int32))])) rfl (hb hby dRawMessage_mk_11) rfl (by decide) (cap := 16) (by decide) (by decide) (by decide) (by decide)
  obtain ⟨c126, q126⟩ : ∃ z, z = h125.size := ⟨_, rfl⟩
  rw [← q126] at A126 st126
  have A126_c126 : own_Ar Z h126 c126 .int (([(0 : Int32), (0 : Int32), (0 : Int32), (0 : Int32), (0 : Int32), (0 : Int32), (0 : Int32), (0 : Int32), (0 : Int32), (0 : Int32), (0 : Int32), (0 : Int32), (0 : Int32), (0 : Int32), (0 : Int32), (0 : Int32)] : List Int32).map Value.int) := own_newI A126 (by decide) rfl (kk := 16) (by decide)
  have g126_c126 : n0 ≤ c126 := Nat.le_trans z125 (Nat.le_of_eq q126.symm)
  have nE126_c126 : hE.size ≤ c126 := Nat.le_trans K125_.1 (Nat.le_of_eq q126.symm)
  have ne_a1_c126 : a1 ≠ c126 := Nat.ne_of_lt (Nat.lt_of_lt_of_le E125_a1.lt (Nat.le_of_eq q126.symm))
  have ne_a2_c126 : a2 ≠ c126 := Nat.ne_of_lt (Nat.lt_of_lt_of_le A125_a2.lt (Nat.le_of_eq q126.symm))
  have E126_a1 := E125_a1.ext E126
  have F126_a1_bodyStart := F125_a1_bodyStart.ext E126
  have F126_a1_bytes := F125_a1_bytes.ext E126
  have F126_a1_lineEnds := F125_a1_lineEnds.ext E126
  have F126_a1_lineStarts := F125_a1_lineStarts.ext E126
  have F126_a1_lines := F125_a1_lines.ext E126
  have F126_a1_wordLengths := F125_a1_wordLengths.ext E126
  have A126_a2 := A125_a2.ext E126
  have z126 := Nat.le_trans z125 E126.1
  have K126_ := K125_.ext E126
  refine own_Goes.via st126 ?_
  show own_Goes _ _ _ _ _ _ _ (T126.setTop (mkF m 13 #[.val (.ref a1), .val (.ref a2), .unset, .unset, .unset, .unset, .unset, .unset, .unset, .unset, .unset] [(.ref c126)]))
  refine own_Goes.via (B := T126.setTop (mkF m 16 #[.val (.ref a1), .val (.ref a2), .val (.ref c126), .unset, .unset, .unset, .unset, .unset, .unset, .unset, .unset] [(.int (16 : Int32))])) (fun t k => ?_) ?_
  · show Steps p.tables e below (T126.setTop (mkF m 13 #[.val (.ref a1), .val (.ref a2), .unset, .unset, .unset, .unset, .unset, .unset, .unset, .unset, .unset] [(.ref c126)])) t
    refine XS.astoreN X126.here hx rfl (hb hby dRawMessage_mk_13) rfl rfl (l' := #[.val (.ref a1), .val (.ref a2), .val (.ref c126), .unset, .unset, .unset, .unset, .unset, .unset, .unset, .unset]) rfl ?_
    show Steps p.tables e below (T126.setTop (mkF m 14 #[.val (.ref a1), .val (.ref a2), .val (.ref c126), .unset, .unset, .unset, .unset, .unset, .unset, .unset, .unset] [])) t
    refine XS.bipush X126.here hx rfl (hb hby dRawMessage_mk_14) ?_
    exact k
  obtain ⟨T127, h127, k127, X127, e127, E127, A127, st127⟩ := newP X126 hx hZ (aty := .int) (w17 hw) e126 (g := (mkF m 16 #[.val (.ref a1), .val (.ref a2), .val (.ref c126), .unset, .unset, .unset, .unset, .unset, .unset, .unset, .unset] [(.int (16 : Int32))])) rfl (hb hby dRawMessage_mk_16) rfl (by decide) (cap := 16) (by decide) (by decide) (by decide) (by decide)
  obtain ⟨c127, q127⟩ : ∃ z, z = h126.size := ⟨_, rfl⟩
  rw [← q127] at A127 st127
  have A127_c127 : own_Ar Z h127 c127 .int (([(0 : Int32), (0 : Int32), (0 : Int32), (0 : Int32), (0 : Int32), (0 : Int32), (0 : Int32), (0 : Int32), (0 : Int32), (0 : Int32), (0 : Int32), (0 : Int32), (0 : Int32), (0 : Int32), (0 : Int32), (0 : Int32)] : List Int32).map Value.int) := own_newI A127 (by decide) rfl (kk := 16) (by decide)
  have g127_c127 : n0 ≤ c127 := Nat.le_trans z126 (Nat.le_of_eq q127.symm)
  have nE127_c127 : hE.size ≤ c127 := Nat.le_trans K126_.1 (Nat.le_of_eq q127.symm)
  have ne_a1_c127 : a1 ≠ c127 := Nat.ne_of_lt (Nat.lt_of_lt_of_le E126_a1.lt (Nat.le_of_eq q127.symm))
  have ne_a2_c127 : a2 ≠ c127 := Nat.ne_of_lt (Nat.lt_of_lt_of_le A126_a2.lt (Nat.le_of_eq q127.symm))
  have ne_c126_c127 : c126 ≠ c127 := Nat.ne_of_lt (Nat.lt_of_lt_of_le A126_c126.lt (Nat.le_of_eq q127.symm))
  have E127_a1 := E126_a1.ext E127
  have F127_a1_bodyStart := F126_a1_bodyStart.ext E127
  have F127_a1_bytes := F126_a1_bytes.ext E127
  have F127_a1_lineEnds := F126_a1_lineEnds.ext E127
  have F127_a1_lineStarts := F126_a1_lineStarts.ext E127
  have F127_a1_lines := F126_a1_lines.ext E127
  have F127_a1_wordLengths := F126_a1_wordLengths.ext E127
  have A127_a2 := A126_a2.ext E127
  have A127_c126 := A126_c126.ext E127
  have z127 := Nat.le_trans z126 E127.1
  have K127_ := K126_.ext E127
  refine own_Goes.via st127 ?_
  show own_Goes _ _ _ _ _ _ _ (T127.setTop (mkF m 18 #[.val (.ref a1), .val (.ref a2), .val (.ref c126), .unset, .unset, .unset, .unset, .unset, .unset, .unset, .unset] [(.ref c127)]))
  refine own_Goes.via (B := T127.setTop (mkF m 21 #[.val (.ref a1), .val (.ref a2), .val (.ref c126), .val (.ref c127), .unset, .unset, .unset, .unset, .unset, .unset, .unset] [(.int (16 : Int32))])) (fun t k => ?_) ?_
  · show Steps p.tables e below (T127.setTop (mkF m 18 #[.val (.ref a1), .val (.ref a2), .val (.ref c126), .unset, .unset, .unset, .unset, .unset, .unset, .unset, .unset] [(.ref c127)])) t
    refine XS.astoreN X127.here hx rfl (hb hby dRawMessage_mk_18) rfl rfl (l' := #[.val (.ref a1), .val (.ref a2), .val (.ref c126), .val (.ref c127), .unset, .unset, .unset, .unset, .unset, .unset, .unset]) rfl ?_
    show Steps p.tables e below (T127.setTop (mkF m 19 #[.val (.ref a1), .val (.ref a2), .val (.ref c126), .val (.ref c127), .unset, .unset, .unset, .unset, .unset, .unset, .unset] [])) t
    refine XS.bipush X127.here hx rfl (hb hby dRawMessage_mk_19) ?_
    exact k
  obtain ⟨T128, h128, k128, X128, e128, E128, A128, st128⟩ := newP X127 hx hZ (aty := .int) (w17 hw) e127 (g := (mkF m 21 #[.val (.ref a1), .val (.ref a2), .val (.ref c126), .val (.ref c127), .unset, .unset, .unset, .unset, .unset, .unset, .unset] [(.int (16 : Int32))])) rfl (hb hby dRawMessage_mk_21) rfl (by decide) (cap := 16) (by decide) (by decide) (by decide) (by decide)
  obtain ⟨c128, q128⟩ : ∃ z, z = h127.size := ⟨_, rfl⟩
  rw [← q128] at A128 st128
  have A128_c128 : own_Ar Z h128 c128 .int (([(0 : Int32), (0 : Int32), (0 : Int32), (0 : Int32), (0 : Int32), (0 : Int32), (0 : Int32), (0 : Int32), (0 : Int32), (0 : Int32), (0 : Int32), (0 : Int32), (0 : Int32), (0 : Int32), (0 : Int32), (0 : Int32)] : List Int32).map Value.int) := own_newI A128 (by decide) rfl (kk := 16) (by decide)
  have g128_c128 : n0 ≤ c128 := Nat.le_trans z127 (Nat.le_of_eq q128.symm)
  have nE128_c128 : hE.size ≤ c128 := Nat.le_trans K127_.1 (Nat.le_of_eq q128.symm)
  have ne_a1_c128 : a1 ≠ c128 := Nat.ne_of_lt (Nat.lt_of_lt_of_le E127_a1.lt (Nat.le_of_eq q128.symm))
  have ne_a2_c128 : a2 ≠ c128 := Nat.ne_of_lt (Nat.lt_of_lt_of_le A127_a2.lt (Nat.le_of_eq q128.symm))
  have ne_c126_c128 : c126 ≠ c128 := Nat.ne_of_lt (Nat.lt_of_lt_of_le A127_c126.lt (Nat.le_of_eq q128.symm))
  have ne_c127_c128 : c127 ≠ c128 := Nat.ne_of_lt (Nat.lt_of_lt_of_le A127_c127.lt (Nat.le_of_eq q128.symm))
  have E128_a1 := E127_a1.ext E128
  have F128_a1_bodyStart := F127_a1_bodyStart.ext E128
  have F128_a1_bytes := F127_a1_bytes.ext E128
  have F128_a1_lineEnds := F127_a1_lineEnds.ext E128
  have F128_a1_lineStarts := F127_a1_lineStarts.ext E128
  have F128_a1_lines := F127_a1_lines.ext E128
  have F128_a1_wordLengths := F127_a1_wordLengths.ext E128
  have A128_a2 := A127_a2.ext E128
  have A128_c126 := A127_c126.ext E128
  have A128_c127 := A127_c127.ext E128
  have z128 := Nat.le_trans z127 E128.1
  have K128_ := K127_.ext E128
  refine own_Goes.via st128 ?_
  show own_Goes _ _ _ _ _ _ _ (T128.setTop (mkF m 23 #[.val (.ref a1), .val (.ref a2), .val (.ref c126), .val (.ref c127), .unset, .unset, .unset, .unset, .unset, .unset, .unset] [(.ref c128)]))
  refine own_Goes.via (B := T128.setTop (mkF m 34 #[.val (.ref a1), .val (.ref a2), .val (.ref c126), .val (.ref c127), .val (.ref c128), .val (.int (0 : Int32)), .val (.int (-1 : Int32)), .val (.int (0 : Int32)), .unset, .unset, .unset] [])) (fun t k => ?_) ?_
  · show Steps p.tables e below (T128.setTop (mkF m 23 #[.val (.ref a1), .val (.ref a2), .val (.ref c126), .val (.ref c127), .unset, .unset, .unset, .unset, .unset, .unset, .unset] [(.ref c128)])) t
    refine XS.astore X128.here hx rfl (hb hby dRawMessage_mk_23) rfl rfl (l' := #[.val (.ref a1), .val (.ref a2), .val (.ref c126), .val (.ref c127), .val (.ref c128), .unset, .unset, .unset, .unset, .unset, .unset]) rfl ?_
    show Steps p.tables e below (T128.setTop (mkF m 25 #[.val (.ref a1), .val (.ref a2), .val (.ref c126), .val (.ref c127), .val (.ref c128), .unset, .unset, .unset, .unset, .unset, .unset] [])) t
    refine XS.iconst X128.here hx rfl (hb hby dRawMessage_mk_25) ?_
    show Steps p.tables e below (T128.setTop (mkF m 26 #[.val (.ref a1), .val (.ref a2), .val (.ref c126), .val (.ref c127), .val (.ref c128), .unset, .unset, .unset, .unset, .unset, .unset] [(.int (0 : Int32))])) t
    refine XS.istore X128.here hx rfl (hb hby dRawMessage_mk_26) rfl (l' := #[.val (.ref a1), .val (.ref a2), .val (.ref c126), .val (.ref c127), .val (.ref c128), .val (.int (0 : Int32)), .unset, .unset, .unset, .unset, .unset]) rfl ?_
    show Steps p.tables e below (T128.setTop (mkF m 28 #[.val (.ref a1), .val (.ref a2), .val (.ref c126), .val (.ref c127), .val (.ref c128), .val (.int (0 : Int32)), .unset, .unset, .unset, .unset, .unset] [])) t
    refine XS.iconst X128.here hx rfl (hb hby dRawMessage_mk_28) ?_
    show Steps p.tables e below (T128.setTop (mkF m 29 #[.val (.ref a1), .val (.ref a2), .val (.ref c126), .val (.ref c127), .val (.ref c128), .val (.int (0 : Int32)), .unset, .unset, .unset, .unset, .unset] [(.int (-1 : Int32))])) t
    refine XS.istore X128.here hx rfl (hb hby dRawMessage_mk_29) rfl (l' := #[.val (.ref a1), .val (.ref a2), .val (.ref c126), .val (.ref c127), .val (.ref c128), .val (.int (0 : Int32)), .val (.int (-1 : Int32)), .unset, .unset, .unset, .unset]) rfl ?_
    show Steps p.tables e below (T128.setTop (mkF m 31 #[.val (.ref a1), .val (.ref a2), .val (.ref c126), .val (.ref c127), .val (.ref c128), .val (.int (0 : Int32)), .val (.int (-1 : Int32)), .unset, .unset, .unset, .unset] [])) t
    refine XS.iconst X128.here hx rfl (hb hby dRawMessage_mk_31) ?_
    show Steps p.tables e below (T128.setTop (mkF m 32 #[.val (.ref a1), .val (.ref a2), .val (.ref c126), .val (.ref c127), .val (.ref c128), .val (.int (0 : Int32)), .val (.int (-1 : Int32)), .unset, .unset, .unset, .unset] [(.int (0 : Int32))])) t
    refine XS.istore X128.here hx rfl (hb hby dRawMessage_mk_32) rfl (l' := #[.val (.ref a1), .val (.ref a2), .val (.ref c126), .val (.ref c127), .val (.ref c128), .val (.int (0 : Int32)), .val (.int (-1 : Int32)), .val (.int (0 : Int32)), .unset, .unset, .unset]) rfl ?_
    exact k
  exact b_RawMessage_mk_34 cx a1 a2 _ X128 e128 N125 K128_ z128 c126 c127 c128 (0 : Int32) (-1 : Int32) (0 : Int32) f_a1_bodyStart f_a1_lines bs_a2 ([(0 : Int32), (0 : Int32), (0 : Int32), (0 : Int32), (0 : Int32), (0 : Int32), (0 : Int32), (0 : Int32), (0 : Int32), (0 : Int32), (0 : Int32), (0 : Int32), (0 : Int32), (0 : Int32), (0 : Int32), (0 : Int32)] : List Int32) ([(0 : Int32), (0 : Int32), (0 : Int32), (0 : Int32), (0 : Int32), (0 : Int32), (0 : Int32), (0 : Int32), (0 : Int32), (0 : Int32), (0 : Int32), (0 : Int32), (0 : Int32), (0 : Int32), (0 : Int32), (0 : Int32)] : List Int32) ([(0 : Int32), (0 : Int32), (0 : Int32), (0 : Int32), (0 : Int32), (0 : Int32), (0 : Int32), (0 : Int32), (0 : Int32), (0 : Int32), (0 : Int32), (0 : Int32), (0 : Int32), (0 : Int32), (0 : Int32), (0 : Int32)] : List Int32) (.unset) (.unset) (.unset) One.u One.u One.u E128_a1 F128_a1_bodyStart F128_a1_bytes F128_a1_lineEnds F128_a1_lineStarts F128_a1_lines F128_a1_wordLengths g_a1 A128_a2 g_a2 A128_c126 g126_c126 nE126_c126 A128_c127 g127_c127 nE127_c127 A128_c128 g128_c128 nE128_c128 ne_a1_a2 ne_a1_c126 ne_a2_c126 ne_a1_c127 ne_a2_c127 ne_c126_c127 ne_a1_c128 ne_a2_c128 ne_c126_c128 ne_c127_c128 _ hF
theorem ef_RawMessage_mk (m : MethodId) (x0 : Addr) (x1 : Addr) : entryFrame m #[(.ref x0), (.ref x1)] 11 = mkF m 0 #[.val (.ref x0), .val (.ref x1), .unset, .unset, .unset, .unset, .unset, .unset, .unset, .unset, .unset] [] := by first | (simp [entryFrame, mkF, argsToLocals, Value.category]; done) | rfl
set_option maxRecDepth 65536 in
set_option maxHeartbeats 4000000 in
theorem rm_RawMessage_mk (l : Launch) (Z : State) (a0 : Array Value) (hw : ∀ d ∈ tables_1, d.before a0 Z = true) (ws : List Jvm.Cond) (hE : Heap) (n0 : Nat) (z : n0 ≤ hE.size) (a1 : Addr) (a2 : Addr) (f_a1_bodyStart : Int32) (f_a1_lines : Int32) (bs_a2 : List Int32) (E_a1 : Exa Z hE a1 "com/example/oxpecker/oxpecker/sip/RawMessage") (F_a1_bodyStart : Fld Z hE a1 "com/example/oxpecker/oxpecker/sip/RawMessage" "bodyStart" "I" (.int f_a1_bodyStart)) (F_a1_bytes : Fld Z hE a1 "com/example/oxpecker/oxpecker/sip/RawMessage" "bytes" "[B" .null) (F_a1_lineEnds : Fld Z hE a1 "com/example/oxpecker/oxpecker/sip/RawMessage" "lineEnds" "[I" .null) (F_a1_lineStarts : Fld Z hE a1 "com/example/oxpecker/oxpecker/sip/RawMessage" "lineStarts" "[I" .null) (F_a1_lines : Fld Z hE a1 "com/example/oxpecker/oxpecker/sip/RawMessage" "lines" "I" (.int f_a1_lines)) (F_a1_wordLengths : Fld Z hE a1 "com/example/oxpecker/oxpecker/sip/RawMessage" "wordLengths" "[I" .null) (g_a1 : n0 ≤ a1) (A_a2 : own_Ar Z hE a2 .byte (bs_a2.map Value.int)) (g_a2 : n0 ≤ a2) (ne_a1_a2 : a1 ≠ a2) (r : Int32 × Int32 × (List Int32) × (List Int32) × (List Int32)) (hF : (f_RawMessage_mk f_a1_bodyStart f_a1_lines bs_a2) = some r) :
    MetFree l (⟨"com/example/oxpecker/oxpecker/sip/RawMessage", "<init>", "([B)V"⟩ : MethodName) (head1 (Jvm.Cond.code (⟨"com/example/oxpecker/oxpecker/sip/RawMessage", "<init>", "([B)V"⟩ : MethodName) prog_12_method_1_code 11 none :: ws) ({ frames := 1, cells := 3, slots := 48, locals := 15 } : Room)) (fun a U => a = #[(.ref a1), (.ref a2)] ∧ Z.Warmed39 U.vm ∧ U.heap = hE) (fun _ _ _ _ _ => True) (fun _ U o U' => ∃ v L, o = .returned v ∧ (Q_RawMessage_mk Z hE n0 a1 a2 r) v U'.heap L ∧ FrameEnd U o U' L ({ frames := 1, cells := 3, slots := 48, locals := 15 } : Room).cells ({ frames := 1, cells := 3, slots := 48, locals := 15 } : Room).slots) := by
  refine MetFree.of_bodySF (plainFor_of_name pn_com_example_oxpecker_oxpecker_sip_RawMessage) hisR ?_
  intro p e s m args below meth c s₁ Bd hml0 hP hK
  obtain ⟨rfl, hZ, hh⟩ := hP
  have X0 : Stand p l e ({ frames := 1, cells := 3, slots := 48, locals := 15 } : Room) s m #[(.ref a1), (.ref a2)] below meth c s₁ [] 0 0 := Stand.of_body Bd
  have e0 : s₁.heap = hE := by rw [← hh, Bd.state]; rfl
  have cx : Cx_RawMessage_mk p s m meth c Z a0 := ⟨Bd.exec, hZ, hw, Bd.bytes, hml0, findClass_of_methodNamed Bd.named, Bd.returns, Bd.notSynchronized, (name_of_methodNamed Bd.named Bd.method).1⟩
  show own_Goes p e below s (Q_RawMessage_mk Z hE n0 a1 a2 r) ({ frames := 1, cells := 3, slots := 48, locals := 15 } : Room).cells ({ frames := 1, cells := 3, slots := 48, locals := 15 } : Room).slots (s₁.setTop (entryFrame m #[(.ref a1), (.ref a2)] 11))
  rw [ef_RawMessage_mk]
  exact b_RawMessage_mk cx a1 a2 X0 e0 (Fr.nil n0) (Keep.refl _ _) z f_a1_bodyStart f_a1_lines bs_a2 E_a1 F_a1_bodyStart F_a1_bytes F_a1_lineEnds F_a1_lineStarts F_a1_lines F_a1_wordLengths g_a1 A_a2 g_a2 ne_a1_a2 _ hF
/-! java/lang/Record.<init>:()V -/
def f_Record_mk (f_a1_next : Int32) (f_a1_start : Int32) (f_a1_valueEnd : Int32) (f_a1_valueStart : Int32) : Option (Unit) :=
  some ()
def Q_Record_mk (Z : State) (hE : Heap) (n0 : Nat) (a1 : Addr) (r : Unit) (v : Option Value) (h : Heap) (L : List Loc) : Prop := v = none ∧ Fr n0 L ∧ h = hE
def Cx_Record_mk (p : Program) (s : State) (m : MethodId) (meth : Method) (c : Code) (Z : State) (a0 : Array Value) : Prop := p.tables.exec = Jvm.exec ∧ Z.Warmed39 s.vm ∧ (∀ d ∈ tables_1, d.before a0 Z = true) ∧ c.code = jdk_30_method_1_code ∧ c.maxLocals = 1 ∧ s.vm.findClass "java/lang/Record" = some m.cls ∧ meth.sig.returnType = none ∧ meth.locks = false ∧ meth.name = "<init>"
set_option maxRecDepth 65536 in
set_option maxHeartbeats 4000000 in
theorem b_Record_mk {p : Program} {l : Launch} {e : Env} {s : State} {m : MethodId} {args : Array Value} {below : List Frame} {meth : Method} {c : Code} {Z : State} {a0 : Array Value} {n0 : Nat} {hE : Heap} (cx : Cx_Record_mk p s m meth c Z a0) (a1 : Addr) :
    ∀ {T : State} {locs : List Loc} (X : Stand p l e ({ frames := 1, cells := 0, slots := 0, locals := 12 } : Room) s m args below meth c T locs 0 0) (eT : T.heap = hE) (N : Fr n0 locs) (z : n0 ≤ hE.size) (f_a1_next : Int32) (f_a1_start : Int32) (f_a1_valueEnd : Int32) (f_a1_valueStart : Int32) (E_a1 : Exa Z hE a1 "com/example/oxpecker/oxpecker/sip/RawMessage$Header") (F_a1_next : Fld Z hE a1 "com/example/oxpecker/oxpecker/sip/RawMessage$Header" "next" "I" (.int f_a1_next)) (F_a1_start : Fld Z hE a1 "com/example/oxpecker/oxpecker/sip/RawMessage$Header" "start" "I" (.int f_a1_start)) (F_a1_valueEnd : Fld Z hE a1 "com/example/oxpecker/oxpecker/sip/RawMessage$Header" "valueEnd" "I" (.int f_a1_valueEnd)) (F_a1_valueStart : Fld Z hE a1 "com/example/oxpecker/oxpecker/sip/RawMessage$Header" "valueStart" "I" (.int f_a1_valueStart)) (g_a1 : n0 ≤ a1) (r : Unit), f_Record_mk f_a1_next f_a1_start f_a1_valueEnd f_a1_valueStart = some r → own_Goes p e below s (Q_Record_mk Z hE n0 a1 r) 0 0 (T.setTop (mkF m 0 #[.val (.ref a1)] [])) := by
  have cx' := cx
  obtain ⟨hx, hZ, hw, hby, hml, hown, hret, hlk, hnm⟩ := cx'
  intro T locs X eT N z f_a1_next f_a1_start f_a1_valueEnd f_a1_valueStart E_a1 F_a1_next F_a1_start F_a1_valueEnd F_a1_valueStart g_a1 r hF
  unfold f_Record_mk at hF
  refine own_Goes.via (B := T.setTop (mkF m 1 #[.val (.ref a1)] [(.ref a1)])) (fun t k => ?_) ?_
  · show Steps p.tables e below (T.setTop (mkF m 0 #[.val (.ref a1)] [])) t
    refine XS.aloadN X.here hx rfl (hb hby dRecord_mk_0) rfl rfl ?_
    exact k
  obtain ⟨T134, X134, e134, st134⟩ := initO X hx hZ hown (w43 hw) (w13 hw) (w14 hw) eT (g := (mkF m 1 #[.val (.ref a1)] [(.ref a1)])) rfl (by rw [hml]; rfl) rfl (hb hby dRecord_mk_1) (by decide) (W := 0) (by show 2 * 0 + _ ≤ _; exact Nat.le_of_eq rfl) (by decide)
  refine own_Goes.via st134 ?_
  show own_Goes _ _ _ _ _ _ _ (T134.setTop (mkF m 4 #[.val (.ref a1)] []))
  obtain rfl : () = r := Option.some.inj hF
  exact own_retV X134 hx hret hlk (hb hby dRecord_mk_4) e134 ⟨rfl, N, rfl⟩ (by decide) (by decide)
theorem ef_Record_mk (m : MethodId) (x0 : Addr) : entryFrame m #[(.ref x0)] 1 = mkF m 0 #[.val (.ref x0)] [] := by first | (simp [entryFrame, mkF, argsToLocals, Value.category]; done) | rfl
set_option maxRecDepth 65536 in
set_option maxHeartbeats 4000000 in
theorem rm_Record_mk (l : Launch) (Z : State) (a0 : Array Value) (hw : ∀ d ∈ tables_1, d.before a0 Z = true) (ws : List Jvm.Cond) (hE : Heap) (n0 : Nat) (z : n0 ≤ hE.size) (a1 : Addr) (f_a1_next : Int32) (f_a1_start : Int32) (f_a1_valueEnd : Int32) (f_a1_valueStart : Int32) (E_a1 : Exa Z hE a1 "com/example/oxpecker/oxpecker/sip/RawMessage$Header") (F_a1_next : Fld Z hE a1 "com/example/oxpecker/oxpecker/sip/RawMessage$Header" "next" "I" (.int f_a1_next)) (F_a1_start : Fld Z hE a1 "com/example/oxpecker/oxpecker/sip/RawMessage$Header" "start" "I" (.int f_a1_start)) (F_a1_valueEnd : Fld Z hE a1 "com/example/oxpecker/oxpecker/sip/RawMessage$Header" "valueEnd" "I" (.int f_a1_valueEnd)) (F_a1_valueStart : Fld Z hE a1 "com/example/oxpecker/oxpecker/sip/RawMessage$Header" "valueStart" "I" (.int f_a1_valueStart)) (g_a1 : n0 ≤ a1) (r : Unit) (hF : (f_Record_mk f_a1_next f_a1_start f_a1_valueEnd f_a1_valueStart) = some r) :
    MetFree l (⟨"java/lang/Record", "<init>", "()V"⟩ : MethodName) (head1 (Jvm.Cond.code (⟨"java/lang/Record", "<init>", "()V"⟩ : MethodName) jdk_30_method_1_code 1 none :: ws) ({ frames := 1, cells := 0, slots := 0, locals := 12 } : Room)) (fun a U => a = #[(.ref a1)] ∧ Z.Warmed39 U.vm ∧ U.heap = hE) (fun _ _ _ _ _ => True) (fun _ U o U' => ∃ v L, o = .returned v ∧ (Q_Record_mk Z hE n0 a1 r) v U'.heap L ∧ FrameEnd U o U' L ({ frames := 1, cells := 0, slots := 0, locals := 12 } : Room).cells ({ frames := 1, cells := 0, slots := 0, locals := 12 } : Room).slots) := by
  refine MetFree.of_bodySF (plainFor_of_name pn_java_lang_Record) hisR ?_
  intro p e s m args below meth c s₁ Bd hml0 hP hK
  obtain ⟨rfl, hZ, hh⟩ := hP
  have X0 : Stand p l e ({ frames := 1, cells := 0, slots := 0, locals := 12 } : Room) s m #[(.ref a1)] below meth c s₁ [] 0 0 := Stand.of_body Bd
  have e0 : s₁.heap = hE := by rw [← hh, Bd.state]; rfl
  have cx : Cx_Record_mk p s m meth c Z a0 := ⟨Bd.exec, hZ, hw, Bd.bytes, hml0, findClass_of_methodNamed Bd.named, Bd.returns, Bd.notSynchronized, (name_of_methodNamed Bd.named Bd.method).1⟩
  show own_Goes p e below s (Q_Record_mk Z hE n0 a1 r) ({ frames := 1, cells := 0, slots := 0, locals := 12 } : Room).cells ({ frames := 1, cells := 0, slots := 0, locals := 12 } : Room).slots (s₁.setTop (entryFrame m #[(.ref a1)] 1))
  rw [ef_Record_mk]
  exact b_Record_mk cx a1 X0 e0 (Fr.nil n0) z f_a1_next f_a1_start f_a1_valueEnd f_a1_valueStart E_a1 F_a1_next F_a1_start F_a1_valueEnd F_a1_valueStart g_a1 _ hF
/-! com/example/oxpecker/oxpecker/sip/RawMessage$Header.<init>:(IIII)V -/
def f_Header_mk (v1 : Int32) (v2 : Int32) (v3 : Int32) (v4 : Int32) (f_a1_next : Int32) (f_a1_start : Int32) (f_a1_valueEnd : Int32) (f_a1_valueStart : Int32) : Option (Int32 × Int32 × Int32 × Int32) :=
  own_bd (f_Record_mk f_a1_next f_a1_start f_a1_valueEnd f_a1_valueStart) fun r150 =>
  some (v4, v1, v3, v2)
def Q_Header_mk (Z : State) (hE : Heap) (n0 : Nat) (a1 : Addr) (r : Int32 × Int32 × Int32 × Int32) (v : Option Value) (h : Heap) (L : List Loc) : Prop := v = none ∧ Fr n0 L ∧ Keep hE h [a1] ∧ Exa Z h a1 "com/example/oxpecker/oxpecker/sip/RawMessage$Header" ∧ Fld Z h a1 "com/example/oxpecker/oxpecker/sip/RawMessage$Header" "next" "I" (.int r.1) ∧ Fld Z h a1 "com/example/oxpecker/oxpecker/sip/RawMessage$Header" "start" "I" (.int r.2.1) ∧ Fld Z h a1 "com/example/oxpecker/oxpecker/sip/RawMessage$Header" "valueEnd" "I" (.int r.2.2.1) ∧ Fld Z h a1 "com/example/oxpecker/oxpecker/sip/RawMessage$Header" "valueStart" "I" (.int r.2.2.2)
def Cx_Header_mk (p : Program) (s : State) (m : MethodId) (meth : Method) (c : Code) (Z : State) (a0 : Array Value) : Prop := p.tables.exec = Jvm.exec ∧ Z.Warmed39 s.vm ∧ (∀ d ∈ tables_1, d.before a0 Z = true) ∧ c.code = prog_13_method_1_code ∧ c.maxLocals = 5 ∧ s.vm.findClass "com/example/oxpecker/oxpecker/sip/RawMessage$Header" = some m.cls ∧ meth.sig.returnType = none ∧ meth.locks = false ∧ meth.name = "<init>"
set_option maxRecDepth 65536 in
set_option maxHeartbeats 4000000 in
theorem b_Header_mk {p : Program} {l : Launch} {e : Env} {s : State} {m : MethodId} {args : Array Value} {below : List Frame} {meth : Method} {c : Code} {Z : State} {a0 : Array Value} {n0 : Nat} {hE : Heap} (cx : Cx_Header_mk p s m meth c Z a0) (a1 : Addr) :
    ∀ {T : State} {locs : List Loc} {h : Heap} (X : Stand p l e ({ frames := 2, cells := 0, slots := 0, locals := 24 } : Room) s m args below meth c T locs 0 0) (eT : T.heap = h) (N : Fr n0 locs) (K : Keep hE h [a1]) (z : n0 ≤ h.size) (v1 : Int32) (v2 : Int32) (v3 : Int32) (v4 : Int32) (f_a1_next : Int32) (f_a1_start : Int32) (f_a1_valueEnd : Int32) (f_a1_valueStart : Int32) (E_a1 : Exa Z h a1 "com/example/oxpecker/oxpecker/sip/RawMessage$Header") (F_a1_next : Fld Z h a1 "com/example/oxpecker/oxpecker/sip/RawMessage$Header" "next" "I" (.int f_a1_next)) (F_a1_start : Fld Z h a1 "com/example/oxpecker/oxpecker/sip/RawMessage$Header" "start" "I" (.int f_a1_start)) (F_a1_valueEnd : Fld Z h a1 "com/example/oxpecker/oxpecker/sip/RawMessage$Header" "valueEnd" "I" (.int f_a1_valueEnd)) (F_a1_valueStart : Fld Z h a1 "com/example/oxpecker/oxpecker/sip/RawMessage$Header" "valueStart" "I" (.int f_a1_valueStart)) (g_a1 : n0 ≤ a1) (r : Int32 × Int32 × Int32 × Int32), f_Header_mk v1 v2 v3 v4 f_a1_next f_a1_start f_a1_valueEnd f_a1_valueStart = some r → own_Goes p e below s (Q_Header_mk Z hE n0 a1 r) 0 0 (T.setTop (mkF m 0 #[.val (.ref a1), .val (.int v1), .val (.int v2), .val (.int v3), .val (.int v4)] [])) := by
  have cx' := cx
  obtain ⟨hx, hZ, hw, hby, hml, hown, hret, hlk, hnm⟩ := cx'
  intro T locs h X eT N K z v1 v2 v3 v4 f_a1_next f_a1_start f_a1_valueEnd f_a1_valueStart E_a1 F_a1_next F_a1_start F_a1_valueEnd F_a1_valueStart g_a1 r hF
  unfold f_Header_mk at hF
  refine own_Goes.via (B := T.setTop (mkF m 1 #[.val (.ref a1), .val (.int v1), .val (.int v2), .val (.int v3), .val (.int v4)] [(.ref a1)])) (fun t k => ?_) ?_
  · show Steps p.tables e below (T.setTop (mkF m 0 #[.val (.ref a1), .val (.int v1), .val (.int v2), .val (.int v3), .val (.int v4)] [])) t
    refine XS.aloadN X.here hx rfl (hb hby dHeader_mk_0) rfl rfl ?_
    exact k
  obtain ⟨r150, hr150, hF⟩ := own_bd_e hF
  obtain ⟨_, _, ⟨T150, L150, k150, n150⟩, -, X150, ⟨Lc150, hQ150, l150, y150, z150⟩, st150⟩ := X.specialBack hx (y := (⟨"java/lang/Record", "<init>", "()V"⟩ : MethodName)) rfl hown (mvT hZ (w38 hw)) (mvT hZ (w39 hw)) (mvT hZ (w42 hw)) (by decide) (backOf (W := 0) (rm_Record_mk l Z a0 hw [] h n0 z a1 f_a1_next f_a1_start f_a1_valueEnd f_a1_valueStart E_a1 F_a1_next F_a1_start F_a1_valueEnd F_a1_valueStart g_a1 r150 hr150) hZ (w42 hw) (w41 hw) (by decide) (by decide)) (g := (mkF m 1 #[.val (.ref a1), .val (.int v1), .val (.int v2), .val (.int v3), .val (.int v4)] [(.ref a1)])) rfl (by rw [hml]; rfl) (Steps.refl _) (a := a1) (argsL := []) (rest := []) (lenOf pd_3 rfl) rfl (by show 2 * 0 + _ ≤ _; exact Nat.le_of_eq rfl) (hb hby dHeader_mk_1) (fun _ _ => ⟨rfl, eT, (by decide : 0 + 0 ≤ _), (by decide : 0 + 0 ≤ _)⟩)
  dsimp only [Pt.U, Pt.locs, Pt.cells, Pt.slots] at X150 l150 y150 z150 st150 hQ150
  subst l150 y150 z150
  obtain ⟨rfl, N150q, e150⟩ := hQ150
  have N150 := Fr.app N N150q
  refine own_Goes.tr st150 ?_
  show own_Goes _ _ _ _ _ _ _ (T150.setTop (mkF m 4 #[.val (.ref a1), .val (.int v1), .val (.int v2), .val (.int v3), .val (.int v4)] []))
  refine own_Goes.via (B := T150.setTop (mkF m 6 #[.val (.ref a1), .val (.int v1), .val (.int v2), .val (.int v3), .val (.int v4)] [(.int v1), (.ref a1)])) (fun t k => ?_) ?_
  · show Steps p.tables e below (T150.setTop (mkF m 4 #[.val (.ref a1), .val (.int v1), .val (.int v2), .val (.int v3), .val (.int v4)] [])) t
    refine XS.aloadN X150.here hx rfl (hb hby dHeader_mk_4) rfl rfl ?_
    show Steps p.tables e below (T150.setTop (mkF m 5 #[.val (.ref a1), .val (.int v1), .val (.int v2), .val (.int v3), .val (.int v4)] [(.ref a1)])) t
    refine XS.iloadN X150.here hx rfl (hb hby dHeader_mk_5) rfl ?_
    exact k
  obtain ⟨T151, h151, X151, e151, W151, st151⟩ := putF X150 hx hZ hown (host := "") (Or.inl (w44 hw)) Via.refl e150 F_a1_start E_a1 (Or.inr ⟨(w45 hw), rfl, hnm⟩) (w33 hw) (ty := .int) (by decide) rfl rfl (g := (mkF m 6 #[.val (.ref a1), .val (.int v1), .val (.int v2), .val (.int v3), .val (.int v4)] [(.int v1), (.ref a1)])) rfl rfl (hb hby dHeader_mk_6)
  refine own_Goes.via st151 ?_
  have E151_a1 := E_a1.wr W151
  have F151_a1_next := F_a1_next.other W151 (Or.inr (slot_ne (Or.inr (w51 hw)) (Or.inr (w45 hw)) (by decide) (t := .int) (t' := .int) (by decide) (by decide)))
  have F151_a1_valueEnd := F_a1_valueEnd.other W151 (Or.inr (slot_ne (Or.inr (w49 hw)) (Or.inr (w45 hw)) (by decide) (t := .int) (t' := .int) (by decide) (by decide)))
  have F151_a1_valueStart := F_a1_valueStart.other W151 (Or.inr (slot_ne (Or.inr (w47 hw)) (Or.inr (w45 hw)) (by decide) (t := .int) (t' := .int) (by decide) (by decide)))
  have F151_a1_start := F_a1_start.same W151
  have z151 := Nat.le_trans z (Keep.of_wr W151).1
  have K151_ := K.wr W151 (Or.inl (List.mem_of_getElem? (i := 0) rfl))
  have N151 := Fr.snoc X151 N150 g_a1
  show own_Goes _ _ _ _ _ _ _ (T151.setTop (mkF m 9 #[.val (.ref a1), .val (.int v1), .val (.int v2), .val (.int v3), .val (.int v4)] []))
  refine own_Goes.via (B := T151.setTop (mkF m 11 #[.val (.ref a1), .val (.int v1), .val (.int v2), .val (.int v3), .val (.int v4)] [(.int v2), (.ref a1)])) (fun t k => ?_) ?_
  · show Steps p.tables e below (T151.setTop (mkF m 9 #[.val (.ref a1), .val (.int v1), .val (.int v2), .val (.int v3), .val (.int v4)] [])) t
    refine XS.aloadN X151.here hx rfl (hb hby dHeader_mk_9) rfl rfl ?_
    show Steps p.tables e below (T151.setTop (mkF m 10 #[.val (.ref a1), .val (.int v1), .val (.int v2), .val (.int v3), .val (.int v4)] [(.ref a1)])) t
    refine XS.iloadN X151.here hx rfl (hb hby dHeader_mk_10) rfl ?_
    exact k
  obtain ⟨T152, h152, X152, e152, W152, st152⟩ := putF X151 hx hZ hown (host := "") (Or.inl (w46 hw)) Via.refl e151 F151_a1_valueStart E151_a1 (Or.inr ⟨(w47 hw), rfl, hnm⟩) (w33 hw) (ty := .int) (by decide) rfl rfl (g := (mkF m 11 #[.val (.ref a1), .val (.int v1), .val (.int v2), .val (.int v3), .val (.int v4)] [(.int v2), (.ref a1)])) rfl rfl (hb hby dHeader_mk_11)
  refine own_Goes.via st152 ?_
  have E152_a1 := E151_a1.wr W152
  have F152_a1_next := F151_a1_next.other W152 (Or.inr (slot_ne (Or.inr (w51 hw)) (Or.inr (w47 hw)) (by decide) (t := .int) (t' := .int) (by decide) (by decide)))
  have F152_a1_start := F151_a1_start.other W152 (Or.inr (slot_ne (Or.inr (w45 hw)) (Or.inr (w47 hw)) (by decide) (t := .int) (t' := .int) (by decide) (by decide)))
  have F152_a1_valueEnd := F151_a1_valueEnd.other W152 (Or.inr (slot_ne (Or.inr (w49 hw)) (Or.inr (w47 hw)) (by decide) (t := .int) (t' := .int) (by decide) (by decide)))
  have F152_a1_valueStart := F151_a1_valueStart.same W152
  have z152 := Nat.le_trans z151 (Keep.of_wr W152).1
  have K152_ := K151_.wr W152 (Or.inl (List.mem_of_getElem? (i := 0) rfl))
  have N152 := Fr.snoc X152 N151 g_a1
  show own_Goes _ _ _ _ _ _ _ (T152.setTop (mkF m 14 #[.val (.ref a1), .val (.int v1), .val (.int v2), .val (.int v3), .val (.int v4)] []))
  refine own_Goes.via (B := T152.setTop (mkF m 16 #[.val (.ref a1), .val (.int v1), .val (.int v2), .val (.int v3), .val (.int v4)] [(.int v3), (.ref a1)])) (fun t k => ?_) ?_
  · show Steps p.tables e below (T152.setTop (mkF m 14 #[.val (.ref a1), .val (.int v1), .val (.int v2), .val (.int v3), .val (.int v4)] [])) t
    refine XS.aloadN X152.here hx rfl (hb hby dHeader_mk_14) rfl rfl ?_
    show Steps p.tables e below (T152.setTop (mkF m 15 #[.val (.ref a1), .val (.int v1), .val (.int v2), .val (.int v3), .val (.int v4)] [(.ref a1)])) t
    refine XS.iloadN X152.here hx rfl (hb hby dHeader_mk_15) rfl ?_
    exact k
  obtain ⟨T153, h153, X153, e153, W153, st153⟩ := putF X152 hx hZ hown (host := "") (Or.inl (w48 hw)) Via.refl e152 F152_a1_valueEnd E152_a1 (Or.inr ⟨(w49 hw), rfl, hnm⟩) (w33 hw) (ty := .int) (by decide) rfl rfl (g := (mkF m 16 #[.val (.ref a1), .val (.int v1), .val (.int v2), .val (.int v3), .val (.int v4)] [(.int v3), (.ref a1)])) rfl rfl (hb hby dHeader_mk_16)
  refine own_Goes.via st153 ?_
  have E153_a1 := E152_a1.wr W153
  have F153_a1_next := F152_a1_next.other W153 (Or.inr (slot_ne (Or.inr (w51 hw)) (Or.inr (w49 hw)) (by decide) (t := .int) (t' := .int) (by decide) (by decide)))
  have F153_a1_start := F152_a1_start.other W153 (Or.inr (slot_ne (Or.inr (w45 hw)) (Or.inr (w49 hw)) (by decide) (t := .int) (t' := .int) (by decide) (by decide)))
  have F153_a1_valueStart := F152_a1_valueStart.other W153 (Or.inr (slot_ne (Or.inr (w47 hw)) (Or.inr (w49 hw)) (by decide) (t := .int) (t' := .int) (by decide) (by decide)))
  have F153_a1_valueEnd := F152_a1_valueEnd.same W153
  have z153 := Nat.le_trans z152 (Keep.of_wr W153).1
  have K153_ := K152_.wr W153 (Or.inl (List.mem_of_getElem? (i := 0) rfl))
  have N153 := Fr.snoc X153 N152 g_a1
  show own_Goes _ _ _ _ _ _ _ (T153.setTop (mkF m 19 #[.val (.ref a1), .val (.int v1), .val (.int v2), .val (.int v3), .val (.int v4)] []))
  refine own_Goes.via (B := T153.setTop (mkF m 22 #[.val (.ref a1), .val (.int v1), .val (.int v2), .val (.int v3), .val (.int v4)] [(.int v4), (.ref a1)])) (fun t k => ?_) ?_
  · show Steps p.tables e below (T153.setTop (mkF m 19 #[.val (.ref a1), .val (.int v1), .val (.int v2), .val (.int v3), .val (.int v4)] [])) t
    refine XS.aloadN X153.here hx rfl (hb hby dHeader_mk_19) rfl rfl ?_
    show Steps p.tables e below (T153.setTop (mkF m 20 #[.val (.ref a1), .val (.int v1), .val (.int v2), .val (.int v3), .val (.int v4)] [(.ref a1)])) t
    refine XS.iload X153.here hx rfl (hb hby dHeader_mk_20) rfl ?_
    exact k
  obtain ⟨T154, h154, X154, e154, W154, st154⟩ := putF X153 hx hZ hown (host := "") (Or.inl (w50 hw)) Via.refl e153 F153_a1_next E153_a1 (Or.inr ⟨(w51 hw), rfl, hnm⟩) (w33 hw) (ty := .int) (by decide) rfl rfl (g := (mkF m 22 #[.val (.ref a1), .val (.int v1), .val (.int v2), .val (.int v3), .val (.int v4)] [(.int v4), (.ref a1)])) rfl rfl (hb hby dHeader_mk_22)
  refine own_Goes.via st154 ?_
  have E154_a1 := E153_a1.wr W154
  have F154_a1_start := F153_a1_start.other W154 (Or.inr (slot_ne (Or.inr (w45 hw)) (Or.inr (w51 hw)) (by decide) (t := .int) (t' := .int) (by decide) (by decide)))
  have F154_a1_valueEnd := F153_a1_valueEnd.other W154 (Or.inr (slot_ne (Or.inr (w49 hw)) (Or.inr (w51 hw)) (by decide) (t := .int) (t' := .int) (by decide) (by decide)))
  have F154_a1_valueStart := F153_a1_valueStart.other W154 (Or.inr (slot_ne (Or.inr (w47 hw)) (Or.inr (w51 hw)) (by decide) (t := .int) (t' := .int) (by decide) (by decide)))
  have F154_a1_next := F153_a1_next.same W154
  have z154 := Nat.le_trans z153 (Keep.of_wr W154).1
  have K154_ := K153_.wr W154 (Or.inl (List.mem_of_getElem? (i := 0) rfl))
  have N154 := Fr.snoc X154 N153 g_a1
  show own_Goes _ _ _ _ _ _ _ (T154.setTop (mkF m 25 #[.val (.ref a1), .val (.int v1), .val (.int v2), .val (.int v3), .val (.int v4)] []))
  obtain rfl : (v4, v1, v3, v2) = r := Option.some.inj hF
  exact own_retV X154 hx hret hlk (hb hby dHeader_mk_25) e154 ⟨rfl, N154, K154_, E154_a1, F154_a1_next, F154_a1_start, F154_a1_valueEnd, F154_a1_valueStart⟩ (by decide) (by decide)
theorem ef_Header_mk (m : MethodId) (x0 : Addr) (x1 : Int32) (x2 : Int32) (x3 : Int32) (x4 : Int32) : entryFrame m #[(.ref x0), (.int x1), (.int x2), (.int x3), (.int x4)] 5 = mkF m 0 #[.val (.ref x0), .val (.int x1), .val (.int x2), .val (.int x3), .val (.int x4)] [] := by first | (simp [entryFrame, mkF, argsToLocals, Value.category]; done) | rfl
set_option maxRecDepth 65536 in
set_option maxHeartbeats 4000000 in
theorem rm_Header_mk (l : Launch) (Z : State) (a0 : Array Value) (hw : ∀ d ∈ tables_1, d.before a0 Z = true) (ws : List Jvm.Cond) (hE : Heap) (n0 : Nat) (z : n0 ≤ hE.size) (a1 : Addr) (v1 : Int32) (v2 : Int32) (v3 : Int32) (v4 : Int32) (f_a1_next : Int32) (f_a1_start : Int32) (f_a1_valueEnd : Int32) (f_a1_valueStart : Int32) (E_a1 : Exa Z hE a1 "com/example/oxpecker/oxpecker/sip/RawMessage$Header") (F_a1_next : Fld Z hE a1 "com/example/oxpecker/oxpecker/sip/RawMessage$Header" "next" "I" (.int f_a1_next)) (F_a1_start : Fld Z hE a1 "com/example/oxpecker/oxpecker/sip/RawMessage$Header" "start" "I" (.int f_a1_start)) (F_a1_valueEnd : Fld Z hE a1 "com/example/oxpecker/oxpecker/sip/RawMessage$Header" "valueEnd" "I" (.int f_a1_valueEnd)) (F_a1_valueStart : Fld Z hE a1 "com/example/oxpecker/oxpecker/sip/RawMessage$Header" "valueStart" "I" (.int f_a1_valueStart)) (g_a1 : n0 ≤ a1) (r : Int32 × Int32 × Int32 × Int32) (hF : (f_Header_mk v1 v2 v3 v4 f_a1_next f_a1_start f_a1_valueEnd f_a1_valueStart) = some r) :
    MetFree l (⟨"com/example/oxpecker/oxpecker/sip/RawMessage$Header", "<init>", "(IIII)V"⟩ : MethodName) (head1 (Jvm.Cond.code (⟨"com/example/oxpecker/oxpecker/sip/RawMessage$Header", "<init>", "(IIII)V"⟩ : MethodName) prog_13_method_1_code 5 none :: ws) ({ frames := 2, cells := 0, slots := 0, locals := 24 } : Room)) (fun a U => a = #[(.ref a1), (.int v1), (.int v2), (.int v3), (.int v4)] ∧ Z.Warmed39 U.vm ∧ U.heap = hE) (fun _ _ _ _ _ => True) (fun _ U o U' => ∃ v L, o = .returned v ∧ (Q_Header_mk Z hE n0 a1 r) v U'.heap L ∧ FrameEnd U o U' L ({ frames := 2, cells := 0, slots := 0, locals := 24 } : Room).cells ({ frames := 2, cells := 0, slots := 0, locals := 24 } : Room).slots) := by
  refine MetFree.of_bodySF (plainFor_of_name pn_com_example_oxpecker_oxpecker_sip_RawMessage_Header) hisR ?_
  intro p e s m args below meth c s₁ Bd hml0 hP hK
  obtain ⟨rfl, hZ, hh⟩ := hP
  have X0 : Stand p l e ({ frames := 2, cells := 0, slots := 0, locals := 24 } : Room) s m #[(.ref a1), (.int v1), (.int v2), (.int v3), (.int v4)] below meth c s₁ [] 0 0 := Stand.of_body Bd
  have e0 : s₁.heap = hE := by rw [← hh, Bd.state]; rfl
  have cx : Cx_Header_mk p s m meth c Z a0 := ⟨Bd.exec, hZ, hw, Bd.bytes, hml0, findClass_of_methodNamed Bd.named, Bd.returns, Bd.notSynchronized, (name_of_methodNamed Bd.named Bd.method).1⟩
  show own_Goes p e below s (Q_Header_mk Z hE n0 a1 r) ({ frames := 2, cells := 0, slots := 0, locals := 24 } : Room).cells ({ frames := 2, cells := 0, slots := 0, locals := 24 } : Room).slots (s₁.setTop (entryFrame m #[(.ref a1), (.int v1), (.int v2), (.int v3), (.int v4)] 5))
  rw [ef_Header_mk]
  exact b_Header_mk cx a1 X0 e0 (Fr.nil n0) (Keep.refl _ _) z v1 v2 v3 v4 f_a1_next f_a1_start f_a1_valueEnd f_a1_valueStart E_a1 F_a1_next F_a1_start F_a1_valueEnd F_a1_valueStart g_a1 _ hF
/-! com/example/oxpecker/oxpecker/sip/RawMessage$Header.valueStart:()I -/
def f_Header_valueStart (f_a1_next : Int32) (f_a1_start : Int32) (f_a1_valueEnd : Int32) (f_a1_valueStart : Int32) : Option (Int32) :=
  some f_a1_valueStart
def Q_Header_valueStart (Z : State) (hE : Heap) (n0 : Nat) (a1 : Addr) (r : Int32) (v : Option Value) (h : Heap) (L : List Loc) : Prop := v = some (.int r) ∧ Fr n0 L ∧ h = hE
def Cx_Header_valueStart (p : Program) (s : State) (m : MethodId) (meth : Method) (c : Code) (Z : State) (a0 : Array Value) : Prop := p.tables.exec = Jvm.exec ∧ Z.Warmed39 s.vm ∧ (∀ d ∈ tables_1, d.before a0 Z = true) ∧ c.code = prog_13_method_6_code ∧ c.maxLocals = 1 ∧ s.vm.findClass "com/example/oxpecker/oxpecker/sip/RawMessage$Header" = some m.cls ∧ meth.sig.returnType = some .int ∧ meth.locks = false ∧ meth.name = "valueStart"
set_option maxRecDepth 65536 in
set_option maxHeartbeats 4000000 in
theorem b_Header_valueStart {p : Program} {l : Launch} {e : Env} {s : State} {m : MethodId} {args : Array Value} {below : List Frame} {meth : Method} {c : Code} {Z : State} {a0 : Array Value} {n0 : Nat} {hE : Heap} (cx : Cx_Header_valueStart p s m meth c Z a0) (a1 : Addr) :
    ∀ {T : State} {locs : List Loc} (X : Stand p l e ({ frames := 0, cells := 0, slots := 0, locals := 0 } : Room) s m args below meth c T locs 0 0) (eT : T.heap = hE) (N : Fr n0 locs) (z : n0 ≤ hE.size) (f_a1_next : Int32) (f_a1_start : Int32) (f_a1_valueEnd : Int32) (f_a1_valueStart : Int32) (E_a1 : Exa Z hE a1 "com/example/oxpecker/oxpecker/sip/RawMessage$Header") (F_a1_next : Fld Z hE a1 "com/example/oxpecker/oxpecker/sip/RawMessage$Header" "next" "I" (.int f_a1_next)) (F_a1_start : Fld Z hE a1 "com/example/oxpecker/oxpecker/sip/RawMessage$Header" "start" "I" (.int f_a1_start)) (F_a1_valueEnd : Fld Z hE a1 "com/example/oxpecker/oxpecker/sip/RawMessage$Header" "valueEnd" "I" (.int f_a1_valueEnd)) (F_a1_valueStart : Fld Z hE a1 "com/example/oxpecker/oxpecker/sip/RawMessage$Header" "valueStart" "I" (.int f_a1_valueStart)) (g_a1 : n0 ≤ a1) (r : Int32), f_Header_valueStart f_a1_next f_a1_start f_a1_valueEnd f_a1_valueStart = some r → own_Goes p e below s (Q_Header_valueStart Z hE n0 a1 r) 0 0 (T.setTop (mkF m 0 #[.val (.ref a1)] [])) := by
  have cx' := cx
  obtain ⟨hx, hZ, hw, hby, hml, hown, hret, hlk, hnm⟩ := cx'
  intro T locs X eT N z f_a1_next f_a1_start f_a1_valueEnd f_a1_valueStart E_a1 F_a1_next F_a1_start F_a1_valueEnd F_a1_valueStart g_a1 r hF
  unfold f_Header_valueStart at hF
  refine own_Goes.via (B := T.setTop (mkF m 1 #[.val (.ref a1)] [(.ref a1)])) (fun t k => ?_) ?_
  · show Steps p.tables e below (T.setTop (mkF m 0 #[.val (.ref a1)] [])) t
    refine XS.aloadN X.here hx rfl (hb hby dHeader_valueStart_0) rfl rfl ?_
    exact k
  obtain ⟨T159, X159, e159, st159⟩ := getF X hx hZ hown (host := "") (Or.inl (w46 hw)) Via.refl eT F_a1_valueStart (g := (mkF m 1 #[.val (.ref a1)] [(.ref a1)])) rfl rfl (hb hby dHeader_valueStart_1)
  refine own_Goes.via st159 ?_
  show own_Goes _ _ _ _ _ _ _ (T159.setTop (mkF m 4 #[.val (.ref a1)] [(.int f_a1_valueStart)]))
  obtain rfl : f_a1_valueStart = r := Option.some.inj hF
  exact own_retI X159 hx hret hlk (hb hby dHeader_valueStart_4) e159 ⟨rfl, N, rfl⟩ (by decide) (by decide)
theorem ef_Header_valueStart (m : MethodId) (x0 : Addr) : entryFrame m #[(.ref x0)] 1 = mkF m 0 #[.val (.ref x0)] [] := by first | (simp [entryFrame, mkF, argsToLocals, Value.category]; done) | rfl
set_option maxRecDepth 65536 in
set_option maxHeartbeats 4000000 in
theorem rm_Header_valueStart (l : Launch) (Z : State) (a0 : Array Value) (hw : ∀ d ∈ tables_1, d.before a0 Z = true) (ws : List Jvm.Cond) (hE : Heap) (n0 : Nat) (z : n0 ≤ hE.size) (a1 : Addr) (f_a1_next : Int32) (f_a1_start : Int32) (f_a1_valueEnd : Int32) (f_a1_valueStart : Int32) (E_a1 : Exa Z hE a1 "com/example/oxpecker/oxpecker/sip/RawMessage$Header") (F_a1_next : Fld Z hE a1 "com/example/oxpecker/oxpecker/sip/RawMessage$Header" "next" "I" (.int f_a1_next)) (F_a1_start : Fld Z hE a1 "com/example/oxpecker/oxpecker/sip/RawMessage$Header" "start" "I" (.int f_a1_start)) (F_a1_valueEnd : Fld Z hE a1 "com/example/oxpecker/oxpecker/sip/RawMessage$Header" "valueEnd" "I" (.int f_a1_valueEnd)) (F_a1_valueStart : Fld Z hE a1 "com/example/oxpecker/oxpecker/sip/RawMessage$Header" "valueStart" "I" (.int f_a1_valueStart)) (g_a1 : n0 ≤ a1) (r : Int32) (hF : (f_Header_valueStart f_a1_next f_a1_start f_a1_valueEnd f_a1_valueStart) = some r) :
    MetFree l (⟨"com/example/oxpecker/oxpecker/sip/RawMessage$Header", "valueStart", "()I"⟩ : MethodName) (head1 (Jvm.Cond.code (⟨"com/example/oxpecker/oxpecker/sip/RawMessage$Header", "valueStart", "()I"⟩ : MethodName) prog_13_method_6_code 1 (some .int) :: ws) ({ frames := 0, cells := 0, slots := 0, locals := 0 } : Room)) (fun a U => a = #[(.ref a1)] ∧ Z.Warmed39 U.vm ∧ U.heap = hE) (fun _ _ _ _ _ => True) (fun _ U o U' => ∃ v L, o = .returned v ∧ (Q_Header_valueStart Z hE n0 a1 r) v U'.heap L ∧ FrameEnd U o U' L ({ frames := 0, cells := 0, slots := 0, locals := 0 } : Room).cells ({ frames := 0, cells := 0, slots := 0, locals := 0 } : Room).slots) := by
  refine MetFree.of_bodySF (plainFor_of_name pn_com_example_oxpecker_oxpecker_sip_RawMessage_Header) hisR ?_
  intro p e s m args below meth c s₁ Bd hml0 hP hK
  obtain ⟨rfl, hZ, hh⟩ := hP
  have X0 : Stand p l e ({ frames := 0, cells := 0, slots := 0, locals := 0 } : Room) s m #[(.ref a1)] below meth c s₁ [] 0 0 := Stand.of_body Bd
  have e0 : s₁.heap = hE := by rw [← hh, Bd.state]; rfl
  have cx : Cx_Header_valueStart p s m meth c Z a0 := ⟨Bd.exec, hZ, hw, Bd.bytes, hml0, findClass_of_methodNamed Bd.named, Bd.returns, Bd.notSynchronized, (name_of_methodNamed Bd.named Bd.method).1⟩
  show own_Goes p e below s (Q_Header_valueStart Z hE n0 a1 r) ({ frames := 0, cells := 0, slots := 0, locals := 0 } : Room).cells ({ frames := 0, cells := 0, slots := 0, locals := 0 } : Room).slots (s₁.setTop (entryFrame m #[(.ref a1)] 1))
  rw [ef_Header_valueStart]
  exact b_Header_valueStart cx a1 X0 e0 (Fr.nil n0) z f_a1_next f_a1_start f_a1_valueEnd f_a1_valueStart E_a1 F_a1_next F_a1_start F_a1_valueEnd F_a1_valueStart g_a1 _ hF
/-! com/example/oxpecker/oxpecker/sip/RawMessage.indexOf:(BI)I -/
def f_RawMessage_indexOf_i2_2 : Nat → Int32 → Int32 → Int32 → Int32 → (List Int32) → (List Int32) → (List Int32) → (List Int32) → Option (Int32)
  | 0, _, _, _, _, _, _, _, _ => none
  | n + 1, v1, v3, f_a1_bodyStart, f_a1_lines, bs_a2, bs_a3, bs_a4, bs_a5 =>
    if v3 < (own_sz bs_a2) then
      own_ck (own_inb bs_a2 v3) <|
      if (own_rd bs_a2 v3) = v1 then
        some v3
      else
        own_lt (v3 + (1 : Int32)) fun x172 =>
        (f_RawMessage_indexOf_i2_2 n) v1 x172 f_a1_bodyStart f_a1_lines bs_a2 bs_a3 bs_a4 bs_a5
    else
      some (-1 : Int32)
def f_RawMessage_indexOf_i2 (v1 : Int32) (v2 : Int32) (f_a1_bodyStart : Int32) (f_a1_lines : Int32) (bs_a2 : List Int32) (bs_a3 : List Int32) (bs_a4 : List Int32) (bs_a5 : List Int32) : Option (Int32) :=
  (f_RawMessage_indexOf_i2_2 100 v1 v2 f_a1_bodyStart f_a1_lines bs_a2 bs_a3 bs_a4 bs_a5)
def Q_RawMessage_indexOf_i2 (Z : State) (hE : Heap) (n0 : Nat) (a1 : Addr) (a2 : Addr) (a3 : Addr) (a4 : Addr) (a5 : Addr) (r : Int32) (v : Option Value) (h : Heap) (L : List Loc) : Prop := v = some (.int r) ∧ Fr n0 L ∧ h = hE
def Cx_RawMessage_indexOf_i2 (p : Program) (s : State) (m : MethodId) (meth : Method) (c : Code) (Z : State) (a0 : Array Value) : Prop := p.tables.exec = Jvm.exec ∧ Z.Warmed39 s.vm ∧ (∀ d ∈ tables_1, d.before a0 Z = true) ∧ c.code = prog_12_method_17_code ∧ c.maxLocals = 4 ∧ s.vm.findClass "com/example/oxpecker/oxpecker/sip/RawMessage" = some m.cls ∧ meth.sig.returnType = some .int ∧ meth.locks = false ∧ meth.name = "indexOf"
set_option maxRecDepth 65536 in
set_option maxHeartbeats 4000000 in
theorem b_RawMessage_indexOf_i2_2 {p : Program} {l : Launch} {e : Env} {s : State} {m : MethodId} {args : Array Value} {below : List Frame} {meth : Method} {c : Code} {Z : State} {a0 : Array Value} {n0 : Nat} {hE : Heap} (cx : Cx_RawMessage_indexOf_i2 p s m meth c Z a0) (a1 : Addr) (a2 : Addr) (a3 : Addr) (a4 : Addr) (a5 : Addr) (n : Nat) :
    ∀ {T : State} {locs : List Loc} (X : Stand p l e ({ frames := 0, cells := 0, slots := 0, locals := 0 } : Room) s m args below meth c T locs 0 0) (eT : T.heap = hE) (N : Fr n0 locs) (z : n0 ≤ hE.size) (v1 : Int32) (v3 : Int32) (f_a1_bodyStart : Int32) (f_a1_lines : Int32) (bs_a2 : List Int32) (bs_a3 : List Int32) (bs_a4 : List Int32) (bs_a5 : List Int32) (d2 : Slot) (o_d2 : One d2) (E_a1 : Exa Z hE a1 "com/example/oxpecker/oxpecker/sip/RawMessage") (F_a1_bodyStart : Fld Z hE a1 "com/example/oxpecker/oxpecker/sip/RawMessage" "bodyStart" "I" (.int f_a1_bodyStart)) (F_a1_bytes : Fld Z hE a1 "com/example/oxpecker/oxpecker/sip/RawMessage" "bytes" "[B" (.ref a2)) (F_a1_lineEnds : Fld Z hE a1 "com/example/oxpecker/oxpecker/sip/RawMessage" "lineEnds" "[I" (.ref a3)) (F_a1_lineStarts : Fld Z hE a1 "com/example/oxpecker/oxpecker/sip/RawMessage" "lineStarts" "[I" (.ref a4)) (F_a1_lines : Fld Z hE a1 "com/example/oxpecker/oxpecker/sip/RawMessage" "lines" "I" (.int f_a1_lines)) (F_a1_wordLengths : Fld Z hE a1 "com/example/oxpecker/oxpecker/sip/RawMessage" "wordLengths" "[I" (.ref a5)) (g_a1 : n0 ≤ a1) (A_a2 : own_Ar Z hE a2 .byte (bs_a2.map Value.int)) (g_a2 : n0 ≤ a2) (A_a3 : own_Ar Z hE a3 .int (bs_a3.map Value.int)) (g_a3 : n0 ≤ a3) (A_a4 : own_Ar Z hE a4 .int (bs_a4.map Value.int)) (g_a4 : n0 ≤ a4) (A_a5 : own_Ar Z hE a5 .int (bs_a5.map Value.int)) (g_a5 : n0 ≤ a5) (ne_a1_a2 : a1 ≠ a2) (ne_a1_a3 : a1 ≠ a3) (ne_a2_a3 : a2 ≠ a3) (ne_a1_a4 : a1 ≠ a4) (ne_a2_a4 : a2 ≠ a4) (ne_a3_a4 : a3 ≠ a4) (ne_a1_a5 : a1 ≠ a5) (ne_a2_a5 : a2 ≠ a5) (ne_a3_a5 : a3 ≠ a5) (ne_a4_a5 : a4 ≠ a5) (r : Int32), f_RawMessage_indexOf_i2_2 n v1 v3 f_a1_bodyStart f_a1_lines bs_a2 bs_a3 bs_a4 bs_a5 = some r → own_Goes p e below s (Q_RawMessage_indexOf_i2 Z hE n0 a1 a2 a3 a4 a5 r) 0 0 (T.setTop (mkF m 2 #[.val (.ref a1), .val (.int v1), d2, .val (.int v3)] [])) := by
  have cx' := cx
  obtain ⟨hx, hZ, hw, hby, hml, hown, hret, hlk, hnm⟩ := cx'
  induction n with
  | zero =>
    intro T locs X eT N z v1 v3 f_a1_bodyStart f_a1_lines bs_a2 bs_a3 bs_a4 bs_a5 d2 o_d2 E_a1 F_a1_bodyStart F_a1_bytes F_a1_lineEnds F_a1_lineStarts F_a1_lines F_a1_wordLengths g_a1 A_a2 g_a2 A_a3 g_a3 A_a4 g_a4 A_a5 g_a5 ne_a1_a2 ne_a1_a3 ne_a2_a3 ne_a1_a4 ne_a2_a4 ne_a3_a4 ne_a1_a5 ne_a2_a5 ne_a3_a5 ne_a4_a5 r hF
    cases hF
  | succ n ih =>
    intro T locs X eT N z v1 v3 f_a1_bodyStart f_a1_lines bs_a2 bs_a3 bs_a4 bs_a5 d2 o_d2 E_a1 F_a1_bodyStart F_a1_bytes F_a1_lineEnds F_a1_lineStarts F_a1_lines F_a1_wordLengths g_a1 A_a2 g_a2 A_a3 g_a3 A_a4 g_a4 A_a5 g_a5 ne_a1_a2 ne_a1_a3 ne_a2_a3 ne_a1_a4 ne_a2_a4 ne_a3_a4 ne_a1_a5 ne_a2_a5 ne_a3_a5 ne_a4_a5 r hF
    rw [f_RawMessage_indexOf_i2_2] at hF
    refine own_Goes.via (B := T.setTop (mkF m 4 #[.val (.ref a1), .val (.int v1), d2, .val (.int v3)] [(.ref a1), (.int v3)])) (fun t k => ?_) ?_
    · show Steps p.tables e below (T.setTop (mkF m 2 #[.val (.ref a1), .val (.int v1), d2, .val (.int v3)] [])) t
      refine XS.iloadN X.here hx rfl (hb hby dRawMessage_indexOf_2) rfl ?_
      show Steps p.tables e below (T.setTop (mkF m 3 #[.val (.ref a1), .val (.int v1), d2, .val (.int v3)] [(.int v3)])) t
      refine XS.aloadN X.here hx rfl (hb hby dRawMessage_indexOf_3) rfl rfl ?_
      exact k
    obtain ⟨T170, X170, e170, st170⟩ := getF X hx hZ hown (host := "") (Or.inl (w15 hw)) Via.refl eT F_a1_bytes (g := (mkF m 4 #[.val (.ref a1), .val (.int v1), d2, .val (.int v3)] [(.ref a1), (.int v3)])) rfl rfl (hb hby dRawMessage_indexOf_4)
    refine own_Goes.via st170 ?_
    show own_Goes _ _ _ _ _ _ _ (T170.setTop (mkF m 7 #[.val (.ref a1), .val (.int v1), d2, .val (.int v3)] [(.ref a2), (.int v3)]))
    refine own_Goes.via (B := T170.setTop (mkF m 8 #[.val (.ref a1), .val (.int v1), d2, .val (.int v3)] [(.int (own_sz bs_a2)), (.int v3)])) (fun t k => ?_) ?_
    · show Steps p.tables e below (T170.setTop (mkF m 7 #[.val (.ref a1), .val (.int v1), d2, .val (.int v3)] [(.ref a2), (.int v3)])) t
      refine own_len X170 hx hZ e170 A_a2 (g := (mkF m 7 #[.val (.ref a1), .val (.int v1), d2, .val (.int v3)] [(.ref a2), (.int v3)])) rfl rfl (hb hby dRawMessage_indexOf_7) ?_
      exact k
    by_cases hc8 : v3 < (own_sz bs_a2)
    · rw [if_pos hc8] at hF
      refine own_Goes.via (B := T170.setTop (mkF m 12 #[.val (.ref a1), .val (.int v1), d2, .val (.int v3)] [(.ref a1)])) (fun t k => ?_) ?_
      · show Steps p.tables e below (T170.setTop (mkF m 8 #[.val (.ref a1), .val (.int v1), d2, .val (.int v3)] [(.int (own_sz bs_a2)), (.int v3)])) t
        refine XS.icmpNo X170.here hx rfl (hb hby dRawMessage_indexOf_8) rfl (tlt hc8).2.1 ?_
        show Steps p.tables e below (T170.setTop (mkF m 11 #[.val (.ref a1), .val (.int v1), d2, .val (.int v3)] [])) t
        refine XS.aloadN X170.here hx rfl (hb hby dRawMessage_indexOf_11) rfl rfl ?_
        exact k
      obtain ⟨T171, X171, e171, st171⟩ := getF X170 hx hZ hown (host := "") (Or.inl (w15 hw)) Via.refl e170 F_a1_bytes (g := (mkF m 12 #[.val (.ref a1), .val (.int v1), d2, .val (.int v3)] [(.ref a1)])) rfl rfl (hb hby dRawMessage_indexOf_12)
      refine own_Goes.via st171 ?_
      show own_Goes _ _ _ _ _ _ _ (T171.setTop (mkF m 15 #[.val (.ref a1), .val (.int v1), d2, .val (.int v3)] [(.ref a2)]))
      refine own_Goes.via (B := T171.setTop (mkF m 16 #[.val (.ref a1), .val (.int v1), d2, .val (.int v3)] [(.int v3), (.ref a2)])) (fun t k => ?_) ?_
      · show Steps p.tables e below (T171.setTop (mkF m 15 #[.val (.ref a1), .val (.int v1), d2, .val (.int v3)] [(.ref a2)])) t
        refine XS.iloadN X171.here hx rfl (hb hby dRawMessage_indexOf_15) rfl ?_
        exact k
      obtain ⟨hi16, hF⟩ := own_ck_e hF
      refine own_Goes.via (B := T171.setTop (mkF m 18 #[.val (.ref a1), .val (.int v1), d2, .val (.int v3)] [(.int v1), (.int (own_rd bs_a2 v3))])) (fun t k => ?_) ?_
      · show Steps p.tables e below (T171.setTop (mkF m 16 #[.val (.ref a1), .val (.int v1), d2, .val (.int v3)] [(.int v3), (.ref a2)])) t
        refine own_ldB X171 hx hZ e171 A_a2 hi16 rfl (g := (mkF m 16 #[.val (.ref a1), .val (.int v1), d2, .val (.int v3)] [(.int v3), (.ref a2)])) rfl rfl (hb hby dRawMessage_indexOf_16) ?_
        show Steps p.tables e below (T171.setTop (mkF m 17 #[.val (.ref a1), .val (.int v1), d2, .val (.int v3)] [(.int (own_rd bs_a2 v3))])) t
        refine XS.iloadN X171.here hx rfl (hb hby dRawMessage_indexOf_17) rfl ?_
        exact k
      by_cases hc18 : (own_rd bs_a2 v3) = v1
      · rw [if_pos hc18] at hF
        refine own_Goes.via (B := T171.setTop (mkF m 22 #[.val (.ref a1), .val (.int v1), d2, .val (.int v3)] [(.int v3)])) (fun t k => ?_) ?_
        · show Steps p.tables e below (T171.setTop (mkF m 18 #[.val (.ref a1), .val (.int v1), d2, .val (.int v3)] [(.int v1), (.int (own_rd bs_a2 v3))])) t
          refine XS.icmpNo X171.here hx rfl (hb hby dRawMessage_indexOf_18) rfl (teq hc18).2 ?_
          show Steps p.tables e below (T171.setTop (mkF m 21 #[.val (.ref a1), .val (.int v1), d2, .val (.int v3)] [])) t
          refine XS.iloadN X171.here hx rfl (hb hby dRawMessage_indexOf_21) rfl ?_
          exact k
        obtain rfl : v3 = r := Option.some.inj hF
        exact own_retI X171 hx hret hlk (hb hby dRawMessage_indexOf_22) e171 ⟨rfl, N, rfl⟩ (by decide) (by decide)
      · rw [if_neg hc18] at hF
        refine own_Goes.via (B := T171.setTop (mkF m 26 #[.val (.ref a1), .val (.int v1), d2, .val (.int (v3 + (1 : Int32)))] [])) (fun t k => ?_) ?_
        · show Steps p.tables e below (T171.setTop (mkF m 18 #[.val (.ref a1), .val (.int v1), d2, .val (.int v3)] [(.int v1), (.int (own_rd bs_a2 v3))])) t
          refine XS.icmpYes X171.here hx rfl (pc0 := 18) (pc' := 23) rfl (hb hby dRawMessage_indexOf_18) rfl (feq hc18).2 (by decide) (by decide) ?_
          show Steps p.tables e below (T171.setTop (mkF m 23 #[.val (.ref a1), .val (.int v1), d2, .val (.int v3)] [])) t
          refine XS.iinc X171.here hx rfl (hb hby dRawMessage_indexOf_23) rfl (l' := #[.val (.ref a1), .val (.int v1), d2, .val (.int (v3 + (1 : Int32)))]) rfl ?_
          exact k
        obtain ⟨x172, hx172, hF⟩ := own_lt_e hF
        rw [← hx172]
        refine own_Goes.via (B := T171.setTop (mkF m 2 #[.val (.ref a1), .val (.int v1), d2, .val (.int x172)] [])) (fun t k => ?_) ?_
        · show Steps p.tables e below (T171.setTop (mkF m 26 #[.val (.ref a1), .val (.int v1), d2, .val (.int x172)] [])) t
          refine XS.goto X171.here hx rfl (pc0 := 26) (pc' := 2) rfl (hb hby dRawMessage_indexOf_26) (by decide) (by decide) ?_
          exact k
        exact ih X171 e171 N z v1 x172 f_a1_bodyStart f_a1_lines bs_a2 bs_a3 bs_a4 bs_a5 d2 o_d2 E_a1 F_a1_bodyStart F_a1_bytes F_a1_lineEnds F_a1_lineStarts F_a1_lines F_a1_wordLengths g_a1 A_a2 g_a2 A_a3 g_a3 A_a4 g_a4 A_a5 g_a5 ne_a1_a2 ne_a1_a3 ne_a2_a3 ne_a1_a4 ne_a2_a4 ne_a3_a4 ne_a1_a5 ne_a2_a5 ne_a3_a5 ne_a4_a5 _ hF
    · rw [if_neg hc8] at hF
      refine own_Goes.via (B := T170.setTop (mkF m 30 #[.val (.ref a1), .val (.int v1), d2, .val (.int v3)] [(.int (-1 : Int32))])) (fun t k => ?_) ?_
      · show Steps p.tables e below (T170.setTop (mkF m 8 #[.val (.ref a1), .val (.int v1), d2, .val (.int v3)] [(.int (own_sz bs_a2)), (.int v3)])) t
        refine XS.icmpYes X170.here hx rfl (pc0 := 8) (pc' := 29) rfl (hb hby dRawMessage_indexOf_8) rfl (flt hc8).2.1 (by decide) (by decide) ?_
        show Steps p.tables e below (T170.setTop (mkF m 29 #[.val (.ref a1), .val (.int v1), d2, .val (.int v3)] [])) t
        refine XS.iconst X170.here hx rfl (hb hby dRawMessage_indexOf_29) ?_
        exact k
      obtain rfl : (-1 : Int32) = r := Option.some.inj hF
      exact own_retI X170 hx hret hlk (hb hby dRawMessage_indexOf_30) e170 ⟨rfl, N, rfl⟩ (by decide) (by decide)
set_option maxRecDepth 65536 in
set_option maxHeartbeats 4000000 in
theorem b_RawMessage_indexOf_i2 {p : Program} {l : Launch} {e : Env} {s : State} {m : MethodId} {args : Array Value} {below : List Frame} {meth : Method} {c : Code} {Z : State} {a0 : Array Value} {n0 : Nat} {hE : Heap} (cx : Cx_RawMessage_indexOf_i2 p s m meth c Z a0) (a1 : Addr) (a2 : Addr) (a3 : Addr) (a4 : Addr) (a5 : Addr) :
    ∀ {T : State} {locs : List Loc} (X : Stand p l e ({ frames := 0, cells := 0, slots := 0, locals := 0 } : Room) s m args below meth c T locs 0 0) (eT : T.heap = hE) (N : Fr n0 locs) (z : n0 ≤ hE.size) (v1 : Int32) (v2 : Int32) (f_a1_bodyStart : Int32) (f_a1_lines : Int32) (bs_a2 : List Int32) (bs_a3 : List Int32) (bs_a4 : List Int32) (bs_a5 : List Int32) (E_a1 : Exa Z hE a1 "com/example/oxpecker/oxpecker/sip/RawMessage") (F_a1_bodyStart : Fld Z hE a1 "com/example/oxpecker/oxpecker/sip/RawMessage" "bodyStart" "I" (.int f_a1_bodyStart)) (F_a1_bytes : Fld Z hE a1 "com/example/oxpecker/oxpecker/sip/RawMessage" "bytes" "[B" (.ref a2)) (F_a1_lineEnds : Fld Z hE a1 "com/example/oxpecker/oxpecker/sip/RawMessage" "lineEnds" "[I" (.ref a3)) (F_a1_lineStarts : Fld Z hE a1 "com/example/oxpecker/oxpecker/sip/RawMessage" "lineStarts" "[I" (.ref a4)) (F_a1_lines : Fld Z hE a1 "com/example/oxpecker/oxpecker/sip/RawMessage" "lines" "I" (.int f_a1_lines)) (F_a1_wordLengths : Fld Z hE a1 "com/example/oxpecker/oxpecker/sip/RawMessage" "wordLengths" "[I" (.ref a5)) (g_a1 : n0 ≤ a1) (A_a2 : own_Ar Z hE a2 .byte (bs_a2.map Value.int)) (g_a2 : n0 ≤ a2) (A_a3 : own_Ar Z hE a3 .int (bs_a3.map Value.int)) (g_a3 : n0 ≤ a3) (A_a4 : own_Ar Z hE a4 .int (bs_a4.map Value.int)) (g_a4 : n0 ≤ a4) (A_a5 : own_Ar Z hE a5 .int (bs_a5.map Value.int)) (g_a5 : n0 ≤ a5) (ne_a1_a2 : a1 ≠ a2) (ne_a1_a3 : a1 ≠ a3) (ne_a2_a3 : a2 ≠ a3) (ne_a1_a4 : a1 ≠ a4) (ne_a2_a4 : a2 ≠ a4) (ne_a3_a4 : a3 ≠ a4) (ne_a1_a5 : a1 ≠ a5) (ne_a2_a5 : a2 ≠ a5) (ne_a3_a5 : a3 ≠ a5) (ne_a4_a5 : a4 ≠ a5) (r : Int32), f_RawMessage_indexOf_i2 v1 v2 f_a1_bodyStart f_a1_lines bs_a2 bs_a3 bs_a4 bs_a5 = some r → own_Goes p e below s (Q_RawMessage_indexOf_i2 Z hE n0 a1 a2 a3 a4 a5 r) 0 0 (T.setTop (mkF m 0 #[.val (.ref a1), .val (.int v1), .val (.int v2), .unset] [])) := by
  have cx' := cx
  obtain ⟨hx, hZ, hw, hby, hml, hown, hret, hlk, hnm⟩ := cx'
  intro T locs X eT N z v1 v2 f_a1_bodyStart f_a1_lines bs_a2 bs_a3 bs_a4 bs_a5 E_a1 F_a1_bodyStart F_a1_bytes F_a1_lineEnds F_a1_lineStarts F_a1_lines F_a1_wordLengths g_a1 A_a2 g_a2 A_a3 g_a3 A_a4 g_a4 A_a5 g_a5 ne_a1_a2 ne_a1_a3 ne_a2_a3 ne_a1_a4 ne_a2_a4 ne_a3_a4 ne_a1_a5 ne_a2_a5 ne_a3_a5 ne_a4_a5 r hF
  unfold f_RawMessage_indexOf_i2 at hF
  refine own_Goes.via (B := T.setTop (mkF m 2 #[.val (.ref a1), .val (.int v1), .val (.int v2), .val (.int v2)] [])) (fun t k => ?_) ?_
  · show Steps p.tables e below (T.setTop (mkF m 0 #[.val (.ref a1), .val (.int v1), .val (.int v2), .unset] [])) t
    refine XS.iloadN X.here hx rfl (hb hby dRawMessage_indexOf_0) rfl ?_
    show Steps p.tables e below (T.setTop (mkF m 1 #[.val (.ref a1), .val (.int v1), .val (.int v2), .unset] [(.int v2)])) t
    refine XS.istoreN X.here hx rfl (hb hby dRawMessage_indexOf_1) rfl (l' := #[.val (.ref a1), .val (.int v1), .val (.int v2), .val (.int v2)]) rfl ?_
    exact k
  exact b_RawMessage_indexOf_i2_2 cx a1 a2 a3 a4 a5 _ X eT N z v1 v2 f_a1_bodyStart f_a1_lines bs_a2 bs_a3 bs_a4 bs_a5 (.val (.int v2)) (One.val rfl) E_a1 F_a1_bodyStart F_a1_bytes F_a1_lineEnds F_a1_lineStarts F_a1_lines F_a1_wordLengths g_a1 A_a2 g_a2 A_a3 g_a3 A_a4 g_a4 A_a5 g_a5 ne_a1_a2 ne_a1_a3 ne_a2_a3 ne_a1_a4 ne_a2_a4 ne_a3_a4 ne_a1_a5 ne_a2_a5 ne_a3_a5 ne_a4_a5 _ hF
theorem ef_RawMessage_indexOf_i2 (m : MethodId) (x0 : Addr) (x1 : Int32) (x2 : Int32) : entryFrame m #[(.ref x0), (.int x1), (.int x2)] 4 = mkF m 0 #[.val (.ref x0), .val (.int x1), .val (.int x2), .unset] [] := by first | (simp [entryFrame, mkF, argsToLocals, Value.category]; done) | rfl
set_option maxRecDepth 65536 in
set_option maxHeartbeats 4000000 in
theorem rm_RawMessage_indexOf_i2 (l : Launch) (Z : State) (a0 : Array Value) (hw : ∀ d ∈ tables_1, d.before a0 Z = true) (ws : List Jvm.Cond) (hE : Heap) (n0 : Nat) (z : n0 ≤ hE.size) (a1 : Addr) (a2 : Addr) (a3 : Addr) (a4 : Addr) (a5 : Addr) (v1 : Int32) (v2 : Int32) (f_a1_bodyStart : Int32) (f_a1_lines : Int32) (bs_a2 : List Int32) (bs_a3 : List Int32) (bs_a4 : List Int32) (bs_a5 : List Int32) (E_a1 : Exa Z hE a1 "com/example/oxpecker/oxpecker/sip/RawMessage") (F_a1_bodyStart : Fld Z hE a1 "com/example/oxpecker/oxpecker/sip/RawMessage" "bodyStart" "I" (.int f_a1_bodyStart)) (F_a1_bytes : Fld Z hE a1 "com/example/oxpecker/oxpecker/sip/RawMessage" "bytes" "[B" (.ref a2)) (F_a1_lineEnds : Fld Z hE a1 "com/example/oxpecker/oxpecker/sip/RawMessage" "lineEnds" "[I" (.ref a3)) (F_a1_lineStarts : Fld Z hE a1 "com/example/oxpecker/oxpecker/sip/RawMessage" "lineStarts" "[I" (.ref a4)) (F_a1_lines : Fld Z hE a1 "com/example/oxpecker/oxpecker/sip/RawMessage" "lines" "I" (.int f_a1_lines)) (F_a1_wordLengths : Fld Z hE a1 "com/example/oxpecker/oxpecker/sip/RawMessage" "wordLengths" "[I" (.ref a5)) (g_a1 : n0 ≤ a1) (A_a2 : own_Ar Z hE a2 .byte (bs_a2.map Value.int)) (g_a2 : n0 ≤ a2) (A_a3 : own_Ar Z hE a3 .int (bs_a3.map Value.int)) (g_a3 : n0 ≤ a3) (A_a4 : own_Ar Z hE a4 .int (bs_a4.map Value.int)) (g_a4 : n0 ≤ a4) (A_a5 : own_Ar Z hE a5 .int (bs_a5.map Value.int)) (g_a5 : n0 ≤ a5) (ne_a1_a2 : a1 ≠ a2) (ne_a1_a3 : a1 ≠ a3) (ne_a2_a3 : a2 ≠ a3) (ne_a1_a4 : a1 ≠ a4) (ne_a2_a4 : a2 ≠ a4) (ne_a3_a4 : a3 ≠ a4) (ne_a1_a5 : a1 ≠ a5) (ne_a2_a5 : a2 ≠ a5) (ne_a3_a5 : a3 ≠ a5) (ne_a4_a5 : a4 ≠ a5) (r : Int32) (hF : (f_RawMessage_indexOf_i2 v1 v2 f_a1_bodyStart f_a1_lines bs_a2 bs_a3 bs_a4 bs_a5) = some r) :
    MetFree l (⟨"com/example/oxpecker/oxpecker/sip/RawMessage", "indexOf", "(BI)I"⟩ : MethodName) (head1 (Jvm.Cond.code (⟨"com/example/oxpecker/oxpecker/sip/RawMessage", "indexOf", "(BI)I"⟩ : MethodName) prog_12_method_17_code 4 (some .int) :: ws) ({ frames := 0, cells := 0, slots := 0, locals := 0 } : Room)) (fun a U => a = #[(.ref a1), (.int v1), (.int v2)] ∧ Z.Warmed39 U.vm ∧ U.heap = hE) (fun _ _ _ _ _ => True) (fun _ U o U' => ∃ v L, o = .returned v ∧ (Q_RawMessage_indexOf_i2 Z hE n0 a1 a2 a3 a4 a5 r) v U'.heap L ∧ FrameEnd U o U' L ({ frames := 0, cells := 0, slots := 0, locals := 0 } : Room).cells ({ frames := 0, cells := 0, slots := 0, locals := 0 } : Room).slots) := by
  refine MetFree.of_bodySF (plainFor_of_name pn_com_example_oxpecker_oxpecker_sip_RawMessage) hisR ?_
  intro p e s m args below meth c s₁ Bd hml0 hP hK
  obtain ⟨rfl, hZ, hh⟩ := hP
  have X0 : Stand p l e ({ frames := 0, cells := 0, slots := 0, locals := 0 } : Room) s m #[(.ref a1), (.int v1), (.int v2)] below meth c s₁ [] 0 0 := Stand.of_body Bd
  have e0 : s₁.heap = hE := by rw [← hh, Bd.state]; rfl
  have cx : Cx_RawMessage_indexOf_i2 p s m meth c Z a0 := ⟨Bd.exec, hZ, hw, Bd.bytes, hml0, findClass_of_methodNamed Bd.named, Bd.returns, Bd.notSynchronized, (name_of_methodNamed Bd.named Bd.method).1⟩
  show own_Goes p e below s (Q_RawMessage_indexOf_i2 Z hE n0 a1 a2 a3 a4 a5 r) ({ frames := 0, cells := 0, slots := 0, locals := 0 } : Room).cells ({ frames := 0, cells := 0, slots := 0, locals := 0 } : Room).slots (s₁.setTop (entryFrame m #[(.ref a1), (.int v1), (.int v2)] 4))
  rw [ef_RawMessage_indexOf_i2]
  exact b_RawMessage_indexOf_i2 cx a1 a2 a3 a4 a5 X0 e0 (Fr.nil n0) z v1 v2 f_a1_bodyStart f_a1_lines bs_a2 bs_a3 bs_a4 bs_a5 E_a1 F_a1_bodyStart F_a1_bytes F_a1_lineEnds F_a1_lineStarts F_a1_lines F_a1_wordLengths g_a1 A_a2 g_a2 A_a3 g_a3 A_a4 g_a4 A_a5 g_a5 ne_a1_a2 ne_a1_a3 ne_a2_a3 ne_a1_a4 ne_a2_a4 ne_a3_a4 ne_a1_a5 ne_a2_a5 ne_a3_a5 ne_a4_a5 _ hF
/-! com/example/oxpecker/oxpecker/sip/RawMessage$Header.valueEnd:()I -/
def f_Header_valueEnd (f_a1_next : Int32) (f_a1_start : Int32) (f_a1_valueEnd : Int32) (f_a1_valueStart : Int32) : Option (Int32) :=
  some f_a1_valueEnd
def Q_Header_valueEnd (Z : State) (hE : Heap) (n0 : Nat) (a1 : Addr) (r : Int32) (v : Option Value) (h : Heap) (L : List Loc) : Prop := v = some (.int r) ∧ Fr n0 L ∧ h = hE
def Cx_Header_valueEnd (p : Program) (s : State) (m : MethodId) (meth : Method) (c : Code) (Z : State) (a0 : Array Value) : Prop := p.tables.exec = Jvm.exec ∧ Z.Warmed39 s.vm ∧ (∀ d ∈ tables_1, d.before a0 Z = true) ∧ c.code = prog_13_method_7_code ∧ c.maxLocals = 1 ∧ s.vm.findClass "com/example/oxpecker/oxpecker/sip/RawMessage$Header" = some m.cls ∧ meth.sig.returnType = some .int ∧ meth.locks = false ∧ meth.name = "valueEnd"
set_option maxRecDepth 65536 in
set_option maxHeartbeats 4000000 in
theorem b_Header_valueEnd {p : Program} {l : Launch} {e : Env} {s : State} {m : MethodId} {args : Array Value} {below : List Frame} {meth : Method} {c : Code} {Z : State} {a0 : Array Value} {n0 : Nat} {hE : Heap} (cx : Cx_Header_valueEnd p s m meth c Z a0) (a1 : Addr) :
    ∀ {T : State} {locs : List Loc} (X : Stand p l e ({ frames := 0, cells := 0, slots := 0, locals := 0 } : Room) s m args below meth c T locs 0 0) (eT : T.heap = hE) (N : Fr n0 locs) (z : n0 ≤ hE.size) (f_a1_next : Int32) (f_a1_start : Int32) (f_a1_valueEnd : Int32) (f_a1_valueStart : Int32) (E_a1 : Exa Z hE a1 "com/example/oxpecker/oxpecker/sip/RawMessage$Header") (F_a1_next : Fld Z hE a1 "com/example/oxpecker/oxpecker/sip/RawMessage$Header" "next" "I" (.int f_a1_next)) (F_a1_start : Fld Z hE a1 "com/example/oxpecker/oxpecker/sip/RawMessage$Header" "start" "I" (.int f_a1_start)) (F_a1_valueEnd : Fld Z hE a1 "com/example/oxpecker/oxpecker/sip/RawMessage$Header" "valueEnd" "I" (.int f_a1_valueEnd)) (F_a1_valueStart : Fld Z hE a1 "com/example/oxpecker/oxpecker/sip/RawMessage$Header" "valueStart" "I" (.int f_a1_valueStart)) (g_a1 : n0 ≤ a1) (r : Int32), f_Header_valueEnd f_a1_next f_a1_start f_a1_valueEnd f_a1_valueStart = some r → own_Goes p e below s (Q_Header_valueEnd Z hE n0 a1 r) 0 0 (T.setTop (mkF m 0 #[.val (.ref a1)] [])) := by
  have cx' := cx
  obtain ⟨hx, hZ, hw, hby, hml, hown, hret, hlk, hnm⟩ := cx'
  intro T locs X eT N z f_a1_next f_a1_start f_a1_valueEnd f_a1_valueStart E_a1 F_a1_next F_a1_start F_a1_valueEnd F_a1_valueStart g_a1 r hF
  unfold f_Header_valueEnd at hF
  refine own_Goes.via (B := T.setTop (mkF m 1 #[.val (.ref a1)] [(.ref a1)])) (fun t k => ?_) ?_
  · show Steps p.tables e below (T.setTop (mkF m 0 #[.val (.ref a1)] [])) t
    refine XS.aloadN X.here hx rfl (hb hby dHeader_valueEnd_0) rfl rfl ?_
    exact k
  obtain ⟨T177, X177, e177, st177⟩ := getF X hx hZ hown (host := "") (Or.inl (w48 hw)) Via.refl eT F_a1_valueEnd (g := (mkF m 1 #[.val (.ref a1)] [(.ref a1)])) rfl rfl (hb hby dHeader_valueEnd_1)
  refine own_Goes.via st177 ?_
  show own_Goes _ _ _ _ _ _ _ (T177.setTop (mkF m 4 #[.val (.ref a1)] [(.int f_a1_valueEnd)]))
  obtain rfl : f_a1_valueEnd = r := Option.some.inj hF
  exact own_retI X177 hx hret hlk (hb hby dHeader_valueEnd_4) e177 ⟨rfl, N, rfl⟩ (by decide) (by decide)
theorem ef_Header_valueEnd (m : MethodId) (x0 : Addr) : entryFrame m #[(.ref x0)] 1 = mkF m 0 #[.val (.ref x0)] [] := by first | (simp [entryFrame, mkF, argsToLocals, Value.category]; done) | rfl
set_option maxRecDepth 65536 in
set_option maxHeartbeats 4000000 in
theorem rm_Header_valueEnd (l : Launch) (Z : State) (a0 : Array Value) (hw : ∀ d ∈ tables_1, d.before a0 Z = true) (ws : List Jvm.Cond) (hE : Heap) (n0 : Nat) (z : n0 ≤ hE.size) (a1 : Addr) (f_a1_next : Int32) (f_a1_start : Int32) (f_a1_valueEnd : Int32) (f_a1_valueStart : Int32) (E_a1 : Exa Z hE a1 "com/example/oxpecker/oxpecker/sip/RawMessage$Header") (F_a1_next : Fld Z hE a1 "com/example/oxpecker/oxpecker/sip/RawMessage$Header" "next" "I" (.int f_a1_next)) (F_a1_start : Fld Z hE a1 "com/example/oxpecker/oxpecker/sip/RawMessage$Header" "start" "I" (.int f_a1_start)) (F_a1_valueEnd : Fld Z hE a1 "com/example/oxpecker/oxpecker/sip/RawMessage$Header" "valueEnd" "I" (.int f_a1_valueEnd)) (F_a1_valueStart : Fld Z hE a1 "com/example/oxpecker/oxpecker/sip/RawMessage$Header" "valueStart" "I" (.int f_a1_valueStart)) (g_a1 : n0 ≤ a1) (r : Int32) (hF : (f_Header_valueEnd f_a1_next f_a1_start f_a1_valueEnd f_a1_valueStart) = some r) :
    MetFree l (⟨"com/example/oxpecker/oxpecker/sip/RawMessage$Header", "valueEnd", "()I"⟩ : MethodName) (head1 (Jvm.Cond.code (⟨"com/example/oxpecker/oxpecker/sip/RawMessage$Header", "valueEnd", "()I"⟩ : MethodName) prog_13_method_7_code 1 (some .int) :: ws) ({ frames := 0, cells := 0, slots := 0, locals := 0 } : Room)) (fun a U => a = #[(.ref a1)] ∧ Z.Warmed39 U.vm ∧ U.heap = hE) (fun _ _ _ _ _ => True) (fun _ U o U' => ∃ v L, o = .returned v ∧ (Q_Header_valueEnd Z hE n0 a1 r) v U'.heap L ∧ FrameEnd U o U' L ({ frames := 0, cells := 0, slots := 0, locals := 0 } : Room).cells ({ frames := 0, cells := 0, slots := 0, locals := 0 } : Room).slots) := by
  refine MetFree.of_bodySF (plainFor_of_name pn_com_example_oxpecker_oxpecker_sip_RawMessage_Header) hisR ?_
  intro p e s m args below meth c s₁ Bd hml0 hP hK
  obtain ⟨rfl, hZ, hh⟩ := hP
  have X0 : Stand p l e ({ frames := 0, cells := 0, slots := 0, locals := 0 } : Room) s m #[(.ref a1)] below meth c s₁ [] 0 0 := Stand.of_body Bd
  have e0 : s₁.heap = hE := by rw [← hh, Bd.state]; rfl
  have cx : Cx_Header_valueEnd p s m meth c Z a0 := ⟨Bd.exec, hZ, hw, Bd.bytes, hml0, findClass_of_methodNamed Bd.named, Bd.returns, Bd.notSynchronized, (name_of_methodNamed Bd.named Bd.method).1⟩
  show own_Goes p e below s (Q_Header_valueEnd Z hE n0 a1 r) ({ frames := 0, cells := 0, slots := 0, locals := 0 } : Room).cells ({ frames := 0, cells := 0, slots := 0, locals := 0 } : Room).slots (s₁.setTop (entryFrame m #[(.ref a1)] 1))
  rw [ef_Header_valueEnd]
  exact b_Header_valueEnd cx a1 X0 e0 (Fr.nil n0) z f_a1_next f_a1_start f_a1_valueEnd f_a1_valueStart E_a1 F_a1_next F_a1_start F_a1_valueEnd F_a1_valueStart g_a1 _ hF
/-! com/example/oxpecker/oxpecker/sip/RawMessage.skipBlanks:(I)I -/
def f_RawMessage_skipBlanks_2 : Nat → Int32 → Int32 → Int32 → (List Int32) → (List Int32) → (List Int32) → (List Int32) → Option (Int32)
  | 0, _, _, _, _, _, _, _ => none
  | n + 1, v2, f_a1_bodyStart, f_a1_lines, bs_a2, bs_a3, bs_a4, bs_a5 =>
    if v2 < (own_sz bs_a2) then
      own_ck (own_inb bs_a2 v2) <|
      if (own_rd bs_a2 v2) = (32 : Int32) then
        own_lt (v2 + (1 : Int32)) fun x197 =>
        (f_RawMessage_skipBlanks_2 n) x197 f_a1_bodyStart f_a1_lines bs_a2 bs_a3 bs_a4 bs_a5
      else
        own_ck (own_inb bs_a2 v2) <|
        if (own_rd bs_a2 v2) = (9 : Int32) then
          own_lt (v2 + (1 : Int32)) fun x199 =>
          (f_RawMessage_skipBlanks_2 n) x199 f_a1_bodyStart f_a1_lines bs_a2 bs_a3 bs_a4 bs_a5
        else
          some v2
    else
      some v2
def f_RawMessage_skipBlanks (v1 : Int32) (f_a1_bodyStart : Int32) (f_a1_lines : Int32) (bs_a2 : List Int32) (bs_a3 : List Int32) (bs_a4 : List Int32) (bs_a5 : List Int32) : Option (Int32) :=
  (f_RawMessage_skipBlanks_2 100 v1 f_a1_bodyStart f_a1_lines bs_a2 bs_a3 bs_a4 bs_a5)
def Q_RawMessage_skipBlanks (Z : State) (hE : Heap) (n0 : Nat) (a1 : Addr) (a2 : Addr) (a3 : Addr) (a4 : Addr) (a5 : Addr) (r : Int32) (v : Option Value) (h : Heap) (L : List Loc) : Prop := v = some (.int r) ∧ Fr n0 L ∧ h = hE
def Cx_RawMessage_skipBlanks (p : Program) (s : State) (m : MethodId) (meth : Method) (c : Code) (Z : State) (a0 : Array Value) : Prop := p.tables.exec = Jvm.exec ∧ Z.Warmed39 s.vm ∧ (∀ d ∈ tables_1, d.before a0 Z = true) ∧ c.code = prog_12_method_14_code ∧ c.maxLocals = 3 ∧ s.vm.findClass "com/example/oxpecker/oxpecker/sip/RawMessage" = some m.cls ∧ meth.sig.returnType = some .int ∧ meth.locks = false ∧ meth.name = "skipBlanks"
set_option maxRecDepth 65536 in
set_option maxHeartbeats 4000000 in
theorem b_RawMessage_skipBlanks_2 {p : Program} {l : Launch} {e : Env} {s : State} {m : MethodId} {args : Array Value} {below : List Frame} {meth : Method} {c : Code} {Z : State} {a0 : Array Value} {n0 : Nat} {hE : Heap} (cx : Cx_RawMessage_skipBlanks p s m meth c Z a0) (a1 : Addr) (a2 : Addr) (a3 : Addr) (a4 : Addr) (a5 : Addr) (n : Nat) :
    ∀ {T : State} {locs : List Loc} (X : Stand p l e ({ frames := 0, cells := 0, slots := 0, locals := 0 } : Room) s m args below meth c T locs 0 0) (eT : T.heap = hE) (N : Fr n0 locs) (z : n0 ≤ hE.size) (v2 : Int32) (f_a1_bodyStart : Int32) (f_a1_lines : Int32) (bs_a2 : List Int32) (bs_a3 : List Int32) (bs_a4 : List Int32) (bs_a5 : List Int32) (d1 : Slot) (o_d1 : One d1) (E_a1 : Exa Z hE a1 "com/example/oxpecker/oxpecker/sip/RawMessage") (F_a1_bodyStart : Fld Z hE a1 "com/example/oxpecker/oxpecker/sip/RawMessage" "bodyStart" "I" (.int f_a1_bodyStart)) (F_a1_bytes : Fld Z hE a1 "com/example/oxpecker/oxpecker/sip/RawMessage" "bytes" "[B" (.ref a2)) (F_a1_lineEnds : Fld Z hE a1 "com/example/oxpecker/oxpecker/sip/RawMessage" "lineEnds" "[I" (.ref a3)) (F_a1_lineStarts : Fld Z hE a1 "com/example/oxpecker/oxpecker/sip/RawMessage" "lineStarts" "[I" (.ref a4)) (F_a1_lines : Fld Z hE a1 "com/example/oxpecker/oxpecker/sip/RawMessage" "lines" "I" (.int f_a1_lines)) (F_a1_wordLengths : Fld Z hE a1 "com/example/oxpecker/oxpecker/sip/RawMessage" "wordLengths" "[I" (.ref a5)) (g_a1 : n0 ≤ a1) (A_a2 : own_Ar Z hE a2 .byte (bs_a2.map Value.int)) (g_a2 : n0 ≤ a2) (A_a3 : own_Ar Z hE a3 .int (bs_a3.map Value.int)) (g_a3 : n0 ≤ a3) (A_a4 : own_Ar Z hE a4 .int (bs_a4.map Value.int)) (g_a4 : n0 ≤ a4) (A_a5 : own_Ar Z hE a5 .int (bs_a5.map Value.int)) (g_a5 : n0 ≤ a5) (ne_a1_a2 : a1 ≠ a2) (ne_a1_a3 : a1 ≠ a3) (ne_a2_a3 : a2 ≠ a3) (ne_a1_a4 : a1 ≠ a4) (ne_a2_a4 : a2 ≠ a4) (ne_a3_a4 : a3 ≠ a4) (ne_a1_a5 : a1 ≠ a5) (ne_a2_a5 : a2 ≠ a5) (ne_a3_a5 : a3 ≠ a5) (ne_a4_a5 : a4 ≠ a5) (r : Int32), f_RawMessage_skipBlanks_2 n v2 f_a1_bodyStart f_a1_lines bs_a2 bs_a3 bs_a4 bs_a5 = some r → own_Goes p e below s (Q_RawMessage_skipBlanks Z hE n0 a1 a2 a3 a4 a5 r) 0 0 (T.setTop (mkF m 2 #[.val (.ref a1), d1, .val (.int v2)] [])) := by
  have cx' := cx
  obtain ⟨hx, hZ, hw, hby, hml, hown, hret, hlk, hnm⟩ := cx'
  induction n with
  | zero =>
    intro T locs X eT N z v2 f_a1_bodyStart f_a1_lines bs_a2 bs_a3 bs_a4 bs_a5 d1 o_d1 E_a1 F_a1_bodyStart F_a1_bytes F_a1_lineEnds F_a1_lineStarts F_a1_lines F_a1_wordLengths g_a1 A_a2 g_a2 A_a3 g_a3 A_a4 g_a4 A_a5 g_a5 ne_a1_a2 ne_a1_a3 ne_a2_a3 ne_a1_a4 ne_a2_a4 ne_a3_a4 ne_a1_a5 ne_a2_a5 ne_a3_a5 ne_a4_a5 r hF
    cases hF
  | succ n ih =>
    intro T locs X eT N z v2 f_a1_bodyStart f_a1_lines bs_a2 bs_a3 bs_a4 bs_a5 d1 o_d1 E_a1 F_a1_bodyStart F_a1_bytes F_a1_lineEnds F_a1_lineStarts F_a1_lines F_a1_wordLengths g_a1 A_a2 g_a2 A_a3 g_a3 A_a4 g_a4 A_a5 g_a5 ne_a1_a2 ne_a1_a3 ne_a2_a3 ne_a1_a4 ne_a2_a4 ne_a3_a4 ne_a1_a5 ne_a2_a5 ne_a3_a5 ne_a4_a5 r hF
    rw [f_RawMessage_skipBlanks_2] at hF
    refine own_Goes.via (B := T.setTop (mkF m 4 #[.val (.ref a1), d1, .val (.int v2)] [(.ref a1), (.int v2)])) (fun t k => ?_) ?_
    · show Steps p.tables e below (T.setTop (mkF m 2 #[.val (.ref a1), d1, .val (.int v2)] [])) t
      refine XS.iloadN X.here hx rfl (hb hby dRawMessage_skipBlanks_2) rfl ?_
      show Steps p.tables e below (T.setTop (mkF m 3 #[.val (.ref a1), d1, .val (.int v2)] [(.int v2)])) t
      refine XS.aloadN X.here hx rfl (hb hby dRawMessage_skipBlanks_3) rfl rfl ?_
      exact k
    obtain ⟨T195, X195, e195, st195⟩ := getF X hx hZ hown (host := "") (Or.inl (w15 hw)) Via.refl eT F_a1_bytes (g := (mkF m 4 #[.val (.ref a1), d1, .val (.int v2)] [(.ref a1), (.int v2)])) rfl rfl (hb hby dRawMessage_skipBlanks_4)
    refine own_Goes.via st195 ?_
    show own_Goes _ _ _ _ _ _ _ (T195.setTop (mkF m 7 #[.val (.ref a1), d1, .val (.int v2)] [(.ref a2), (.int v2)]))
    refine own_Goes.via (B := T195.setTop (mkF m 8 #[.val (.ref a1), d1, .val (.int v2)] [(.int (own_sz bs_a2)), (.int v2)])) (fun t k => ?_) ?_
    · show Steps p.tables e below (T195.setTop (mkF m 7 #[.val (.ref a1), d1, .val (.int v2)] [(.ref a2), (.int v2)])) t
      refine own_len X195 hx hZ e195 A_a2 (g := (mkF m 7 #[.val (.ref a1), d1, .val (.int v2)] [(.ref a2), (.int v2)])) rfl rfl (hb hby dRawMessage_skipBlanks_7) ?_
      exact k
    by_cases hc8 : v2 < (own_sz bs_a2)
    · rw [if_pos hc8] at hF
      refine own_Goes.via (B := T195.setTop (mkF m 12 #[.val (.ref a1), d1, .val (.int v2)] [(.ref a1)])) (fun t k => ?_) ?_
      · show Steps p.tables e below (T195.setTop (mkF m 8 #[.val (.ref a1), d1, .val (.int v2)] [(.int (own_sz bs_a2)), (.int v2)])) t
        refine XS.icmpNo X195.here hx rfl (hb hby dRawMessage_skipBlanks_8) rfl (tlt hc8).2.1 ?_
        show Steps p.tables e below (T195.setTop (mkF m 11 #[.val (.ref a1), d1, .val (.int v2)] [])) t
        refine XS.aloadN X195.here hx rfl (hb hby dRawMessage_skipBlanks_11) rfl rfl ?_
        exact k
      obtain ⟨T196, X196, e196, st196⟩ := getF X195 hx hZ hown (host := "") (Or.inl (w15 hw)) Via.refl e195 F_a1_bytes (g := (mkF m 12 #[.val (.ref a1), d1, .val (.int v2)] [(.ref a1)])) rfl rfl (hb hby dRawMessage_skipBlanks_12)
      refine own_Goes.via st196 ?_
      show own_Goes _ _ _ _ _ _ _ (T196.setTop (mkF m 15 #[.val (.ref a1), d1, .val (.int v2)] [(.ref a2)]))
      refine own_Goes.via (B := T196.setTop (mkF m 16 #[.val (.ref a1), d1, .val (.int v2)] [(.int v2), (.ref a2)])) (fun t k => ?_) ?_
      · show Steps p.tables e below (T196.setTop (mkF m 15 #[.val (.ref a1), d1, .val (.int v2)] [(.ref a2)])) t
        refine XS.iloadN X196.here hx rfl (hb hby dRawMessage_skipBlanks_15) rfl ?_
        exact k
      obtain ⟨hi16, hF⟩ := own_ck_e hF
      refine own_Goes.via (B := T196.setTop (mkF m 19 #[.val (.ref a1), d1, .val (.int v2)] [(.int (32 : Int32)), (.int (own_rd bs_a2 v2))])) (fun t k => ?_) ?_
      · show Steps p.tables e below (T196.setTop (mkF m 16 #[.val (.ref a1), d1, .val (.int v2)] [(.int v2), (.ref a2)])) t
        refine own_ldB X196 hx hZ e196 A_a2 hi16 rfl (g := (mkF m 16 #[.val (.ref a1), d1, .val (.int v2)] [(.int v2), (.ref a2)])) rfl rfl (hb hby dRawMessage_skipBlanks_16) ?_
        show Steps p.tables e below (T196.setTop (mkF m 17 #[.val (.ref a1), d1, .val (.int v2)] [(.int (own_rd bs_a2 v2))])) t
        refine XS.bipush X196.here hx rfl (hb hby dRawMessage_skipBlanks_17) ?_
        exact k
      by_cases hc19 : (own_rd bs_a2 v2) = (32 : Int32)
      · rw [if_pos hc19] at hF
        refine own_Goes.via (B := T196.setTop (mkF m 36 #[.val (.ref a1), d1, .val (.int (v2 + (1 : Int32)))] [])) (fun t k => ?_) ?_
        · show Steps p.tables e below (T196.setTop (mkF m 19 #[.val (.ref a1), d1, .val (.int v2)] [(.int (32 : Int32)), (.int (own_rd bs_a2 v2))])) t
          refine XS.icmpYes X196.here hx rfl (pc0 := 19) (pc' := 33) rfl (hb hby dRawMessage_skipBlanks_19) rfl (teq hc19).1 (by decide) (by decide) ?_
          show Steps p.tables e below (T196.setTop (mkF m 33 #[.val (.ref a1), d1, .val (.int v2)] [])) t
          refine XS.iinc X196.here hx rfl (hb hby dRawMessage_skipBlanks_33) rfl (l' := #[.val (.ref a1), d1, .val (.int (v2 + (1 : Int32)))]) rfl ?_
          exact k
        obtain ⟨x197, hx197, hF⟩ := own_lt_e hF
        rw [← hx197]
        refine own_Goes.via (B := T196.setTop (mkF m 2 #[.val (.ref a1), d1, .val (.int x197)] [])) (fun t k => ?_) ?_
        · show Steps p.tables e below (T196.setTop (mkF m 36 #[.val (.ref a1), d1, .val (.int x197)] [])) t
          refine XS.goto X196.here hx rfl (pc0 := 36) (pc' := 2) rfl (hb hby dRawMessage_skipBlanks_36) (by decide) (by decide) ?_
          exact k
        exact ih X196 e196 N z x197 f_a1_bodyStart f_a1_lines bs_a2 bs_a3 bs_a4 bs_a5 d1 o_d1 E_a1 F_a1_bodyStart F_a1_bytes F_a1_lineEnds F_a1_lineStarts F_a1_lines F_a1_wordLengths g_a1 A_a2 g_a2 A_a3 g_a3 A_a4 g_a4 A_a5 g_a5 ne_a1_a2 ne_a1_a3 ne_a2_a3 ne_a1_a4 ne_a2_a4 ne_a3_a4 ne_a1_a5 ne_a2_a5 ne_a3_a5 ne_a4_a5 _ hF
      · rw [if_neg hc19] at hF
        refine own_Goes.via (B := T196.setTop (mkF m 23 #[.val (.ref a1), d1, .val (.int v2)] [(.ref a1)])) (fun t k => ?_) ?_
        · show Steps p.tables e below (T196.setTop (mkF m 19 #[.val (.ref a1), d1, .val (.int v2)] [(.int (32 : Int32)), (.int (own_rd bs_a2 v2))])) t
          refine XS.icmpNo X196.here hx rfl (hb hby dRawMessage_skipBlanks_19) rfl (feq hc19).1 ?_
          show Steps p.tables e below (T196.setTop (mkF m 22 #[.val (.ref a1), d1, .val (.int v2)] [])) t
          refine XS.aloadN X196.here hx rfl (hb hby dRawMessage_skipBlanks_22) rfl rfl ?_
          exact k
        obtain ⟨T198, X198, e198, st198⟩ := getF X196 hx hZ hown (host := "") (Or.inl (w15 hw)) Via.refl e196 F_a1_bytes (g := (mkF m 23 #[.val (.ref a1), d1, .val (.int v2)] [(.ref a1)])) rfl rfl (hb hby dRawMessage_skipBlanks_23)
        refine own_Goes.via st198 ?_
        show own_Goes _ _ _ _ _ _ _ (T198.setTop (mkF m 26 #[.val (.ref a1), d1, .val (.int v2)] [(.ref a2)]))
        refine own_Goes.via (B := T198.setTop (mkF m 27 #[.val (.ref a1), d1, .val (.int v2)] [(.int v2), (.ref a2)])) (fun t k => ?_) ?_
        · show Steps p.tables e below (T198.setTop (mkF m 26 #[.val (.ref a1), d1, .val (.int v2)] [(.ref a2)])) t
          refine XS.iloadN X198.here hx rfl (hb hby dRawMessage_skipBlanks_26) rfl ?_
          exact k
        obtain ⟨hi27, hF⟩ := own_ck_e hF
        refine own_Goes.via (B := T198.setTop (mkF m 30 #[.val (.ref a1), d1, .val (.int v2)] [(.int (9 : Int32)), (.int (own_rd bs_a2 v2))])) (fun t k => ?_) ?_
        · show Steps p.tables e below (T198.setTop (mkF m 27 #[.val (.ref a1), d1, .val (.int v2)] [(.int v2), (.ref a2)])) t
          refine own_ldB X198 hx hZ e198 A_a2 hi27 rfl (g := (mkF m 27 #[.val (.ref a1), d1, .val (.int v2)] [(.int v2), (.ref a2)])) rfl rfl (hb hby dRawMessage_skipBlanks_27) ?_
          show Steps p.tables e below (T198.setTop (mkF m 28 #[.val (.ref a1), d1, .val (.int v2)] [(.int (own_rd bs_a2 v2))])) t
          refine XS.bipush X198.here hx rfl (hb hby dRawMessage_skipBlanks_28) ?_
          exact k
        by_cases hc30 : (own_rd bs_a2 v2) = (9 : Int32)
        · rw [if_pos hc30] at hF
          refine own_Goes.via (B := T198.setTop (mkF m 36 #[.val (.ref a1), d1, .val (.int (v2 + (1 : Int32)))] [])) (fun t k => ?_) ?_
          · show Steps p.tables e below (T198.setTop (mkF m 30 #[.val (.ref a1), d1, .val (.int v2)] [(.int (9 : Int32)), (.int (own_rd bs_a2 v2))])) t
            refine XS.icmpNo X198.here hx rfl (hb hby dRawMessage_skipBlanks_30) rfl (teq hc30).2 ?_
            show Steps p.tables e below (T198.setTop (mkF m 33 #[.val (.ref a1), d1, .val (.int v2)] [])) t
            refine XS.iinc X198.here hx rfl (hb hby dRawMessage_skipBlanks_33) rfl (l' := #[.val (.ref a1), d1, .val (.int (v2 + (1 : Int32)))]) rfl ?_
            exact k
          obtain ⟨x199, hx199, hF⟩ := own_lt_e hF
          rw [← hx199]
          refine own_Goes.via (B := T198.setTop (mkF m 2 #[.val (.ref a1), d1, .val (.int x199)] [])) (fun t k => ?_) ?_
          · show Steps p.tables e below (T198.setTop (mkF m 36 #[.val (.ref a1), d1, .val (.int x199)] [])) t
            refine XS.goto X198.here hx rfl (pc0 := 36) (pc' := 2) rfl (hb hby dRawMessage_skipBlanks_36) (by decide) (by decide) ?_
            exact k
          exact ih X198 e198 N z x199 f_a1_bodyStart f_a1_lines bs_a2 bs_a3 bs_a4 bs_a5 d1 o_d1 E_a1 F_a1_bodyStart F_a1_bytes F_a1_lineEnds F_a1_lineStarts F_a1_lines F_a1_wordLengths g_a1 A_a2 g_a2 A_a3 g_a3 A_a4 g_a4 A_a5 g_a5 ne_a1_a2 ne_a1_a3 ne_a2_a3 ne_a1_a4 ne_a2_a4 ne_a3_a4 ne_a1_a5 ne_a2_a5 ne_a3_a5 ne_a4_a5 _ hF
        · rw [if_neg hc30] at hF
          refine own_Goes.via (B := T198.setTop (mkF m 40 #[.val (.ref a1), d1, .val (.int v2)] [(.int v2)])) (fun t k => ?_) ?_
          · show Steps p.tables e below (T198.setTop (mkF m 30 #[.val (.ref a1), d1, .val (.int v2)] [(.int (9 : Int32)), (.int (own_rd bs_a2 v2))])) t
            refine XS.icmpYes X198.here hx rfl (pc0 := 30) (pc' := 39) rfl (hb hby dRawMessage_skipBlanks_30) rfl (feq hc30).2 (by decide) (by decide) ?_
            show Steps p.tables e below (T198.setTop (mkF m 39 #[.val (.ref a1), d1, .val (.int v2)] [])) t
            refine XS.iloadN X198.here hx rfl (hb hby dRawMessage_skipBlanks_39) rfl ?_
            exact k
          obtain rfl : v2 = r := Option.some.inj hF
          exact own_retI X198 hx hret hlk (hb hby dRawMessage_skipBlanks_40) e198 ⟨rfl, N, rfl⟩ (by decide) (by decide)
    · rw [if_neg hc8] at hF
      refine own_Goes.via (B := T195.setTop (mkF m 40 #[.val (.ref a1), d1, .val (.int v2)] [(.int v2)])) (fun t k => ?_) ?_
      · show Steps p.tables e below (T195.setTop (mkF m 8 #[.val (.ref a1), d1, .val (.int v2)] [(.int (own_sz bs_a2)), (.int v2)])) t
        refine XS.icmpYes X195.here hx rfl (pc0 := 8) (pc' := 39) rfl (hb hby dRawMessage_skipBlanks_8) rfl (flt hc8).2.1 (by decide) (by decide) ?_
        show Steps p.tables e below (T195.setTop (mkF m 39 #[.val (.ref a1), d1, .val (.int v2)] [])) t
        refine XS.iloadN X195.here hx rfl (hb hby dRawMessage_skipBlanks_39) rfl ?_
        exact k
      obtain rfl : v2 = r := Option.some.inj hF
      exact own_retI X195 hx hret hlk (hb hby dRawMessage_skipBlanks_40) e195 ⟨rfl, N, rfl⟩ (by decide) (by decide)
set_option maxRecDepth 65536 in
set_option maxHeartbeats 4000000 in
theorem b_RawMessage_skipBlanks {p : Program} {l : Launch} {e : Env} {s : State} {m : MethodId} {args : Array Value} {below : List Frame} {meth : Method} {c : Code} {Z : State} {a0 : Array Value} {n0 : Nat} {hE : Heap} (cx : Cx_RawMessage_skipBlanks p s m meth c Z a0) (a1 : Addr) (a2 : Addr) (a3 : Addr) (a4 : Addr) (a5 : Addr) :
    ∀ {T : State} {locs : List Loc} (X : Stand p l e ({ frames := 0, cells := 0, slots := 0, locals := 0 } : Room) s m args below meth c T locs 0 0) (eT : T.heap = hE) (N : Fr n0 locs) (z : n0 ≤ hE.size) (v1 : Int32) (f_a1_bodyStart : Int32) (f_a1_lines : Int32) (bs_a2 : List Int32) (bs_a3 : List Int32) (bs_a4 : List Int32) (bs_a5 : List Int32) (E_a1 : Exa Z hE a1 "com/example/oxpecker/oxpecker/sip/RawMessage") (F_a1_bodyStart : Fld Z hE a1 "com/example/oxpecker/oxpecker/sip/RawMessage" "bodyStart" "I" (.int f_a1_bodyStart)) (F_a1_bytes : Fld Z hE a1 "com/example/oxpecker/oxpecker/sip/RawMessage" "bytes" "[B" (.ref a2)) (F_a1_lineEnds : Fld Z hE a1 "com/example/oxpecker/oxpecker/sip/RawMessage" "lineEnds" "[I" (.ref a3)) (F_a1_lineStarts : Fld Z hE a1 "com/example/oxpecker/oxpecker/sip/RawMessage" "lineStarts" "[I" (.ref a4)) (F_a1_lines : Fld Z hE a1 "com/example/oxpecker/oxpecker/sip/RawMessage" "lines" "I" (.int f_a1_lines)) (F_a1_wordLengths : Fld Z hE a1 "com/example/oxpecker/oxpecker/sip/RawMessage" "wordLengths" "[I" (.ref a5)) (g_a1 : n0 ≤ a1) (A_a2 : own_Ar Z hE a2 .byte (bs_a2.map Value.int)) (g_a2 : n0 ≤ a2) (A_a3 : own_Ar Z hE a3 .int (bs_a3.map Value.int)) (g_a3 : n0 ≤ a3) (A_a4 : own_Ar Z hE a4 .int (bs_a4.map Value.int)) (g_a4 : n0 ≤ a4) (A_a5 : own_Ar Z hE a5 .int (bs_a5.map Value.int)) (g_a5 : n0 ≤ a5) (ne_a1_a2 : a1 ≠ a2) (ne_a1_a3 : a1 ≠ a3) (ne_a2_a3 : a2 ≠ a3) (ne_a1_a4 : a1 ≠ a4) (ne_a2_a4 : a2 ≠ a4) (ne_a3_a4 : a3 ≠ a4) (ne_a1_a5 : a1 ≠ a5) (ne_a2_a5 : a2 ≠ a5) (ne_a3_a5 : a3 ≠ a5) (ne_a4_a5 : a4 ≠ a5) (r : Int32), f_RawMessage_skipBlanks v1 f_a1_bodyStart f_a1_lines bs_a2 bs_a3 bs_a4 bs_a5 = some r → own_Goes p e below s (Q_RawMessage_skipBlanks Z hE n0 a1 a2 a3 a4 a5 r) 0 0 (T.setTop (mkF m 0 #[.val (.ref a1), .val (.int v1), .unset] [])) := by
  have cx' := cx
  obtain ⟨hx, hZ, hw, hby, hml, hown, hret, hlk, hnm⟩ := cx'
  intro T locs X eT N z v1 f_a1_bodyStart f_a1_lines bs_a2 bs_a3 bs_a4 bs_a5 E_a1 F_a1_bodyStart F_a1_bytes F_a1_lineEnds F_a1_lineStarts F_a1_lines F_a1_wordLengths g_a1 A_a2 g_a2 A_a3 g_a3 A_a4 g_a4 A_a5 g_a5 ne_a1_a2 ne_a1_a3 ne_a2_a3 ne_a1_a4 ne_a2_a4 ne_a3_a4 ne_a1_a5 ne_a2_a5 ne_a3_a5 ne_a4_a5 r hF
  unfold f_RawMessage_skipBlanks at hF
  refine own_Goes.via (B := T.setTop (mkF m 2 #[.val (.ref a1), .val (.int v1), .val (.int v1)] [])) (fun t k => ?_) ?_
  · show Steps p.tables e below (T.setTop (mkF m 0 #[.val (.ref a1), .val (.int v1), .unset] [])) t
    refine XS.iloadN X.here hx rfl (hb hby dRawMessage_skipBlanks_0) rfl ?_
    show Steps p.tables e below (T.setTop (mkF m 1 #[.val (.ref a1), .val (.int v1), .unset] [(.int v1)])) t
    refine XS.istoreN X.here hx rfl (hb hby dRawMessage_skipBlanks_1) rfl (l' := #[.val (.ref a1), .val (.int v1), .val (.int v1)]) rfl ?_
    exact k
  exact b_RawMessage_skipBlanks_2 cx a1 a2 a3 a4 a5 _ X eT N z v1 f_a1_bodyStart f_a1_lines bs_a2 bs_a3 bs_a4 bs_a5 (.val (.int v1)) (One.val rfl) E_a1 F_a1_bodyStart F_a1_bytes F_a1_lineEnds F_a1_lineStarts F_a1_lines F_a1_wordLengths g_a1 A_a2 g_a2 A_a3 g_a3 A_a4 g_a4 A_a5 g_a5 ne_a1_a2 ne_a1_a3 ne_a2_a3 ne_a1_a4 ne_a2_a4 ne_a3_a4 ne_a1_a5 ne_a2_a5 ne_a3_a5 ne_a4_a5 _ hF
theorem ef_RawMessage_skipBlanks (m : MethodId) (x0 : Addr) (x1 : Int32) : entryFrame m #[(.ref x0), (.int x1)] 3 = mkF m 0 #[.val (.ref x0), .val (.int x1), .unset] [] := by first | (simp [entryFrame, mkF, argsToLocals, Value.category]; done) | rfl
set_option maxRecDepth 65536 in
set_option maxHeartbeats 4000000 in
theorem rm_RawMessage_skipBlanks (l : Launch) (Z : State) (a0 : Array Value) (hw : ∀ d ∈ tables_1, d.before a0 Z = true) (ws : List Jvm.Cond) (hE : Heap) (n0 : Nat) (z : n0 ≤ hE.size) (a1 : Addr) (a2 : Addr) (a3 : Addr) (a4 : Addr) (a5 : Addr) (v1 : Int32) (f_a1_bodyStart : Int32) (f_a1_lines : Int32) (bs_a2 : List Int32) (bs_a3 : List Int32) (bs_a4 : List Int32) (bs_a5 : List Int32) (E_a1 : Exa Z hE a1 "com/example/oxpecker/oxpecker/sip/RawMessage") (F_a1_bodyStart : Fld Z hE a1 "com/example/oxpecker/oxpecker/sip/RawMessage" "bodyStart" "I" (.int f_a1_bodyStart)) (F_a1_bytes : Fld Z hE a1 "com/example/oxpecker/oxpecker/sip/RawMessage" "bytes" "[B" (.ref a2)) (F_a1_lineEnds : Fld Z hE a1 "com/example/oxpecker/oxpecker/sip/RawMessage" "lineEnds" "[I" (.ref a3)) (F_a1_lineStarts : Fld Z hE a1 "com/example/oxpecker/oxpecker/sip/RawMessage" "lineStarts" "[I" (.ref a4)) (F_a1_lines : Fld Z hE a1 "com/example/oxpecker/oxpecker/sip/RawMessage" "lines" "I" (.int f_a1_lines)) (F_a1_wordLengths : Fld Z hE a1 "com/example/oxpecker/oxpecker/sip/RawMessage" "wordLengths" "[I" (.ref a5)) (g_a1 : n0 ≤ a1) (A_a2 : own_Ar Z hE a2 .byte (bs_a2.map Value.int)) (g_a2 : n0 ≤ a2) (A_a3 : own_Ar Z hE a3 .int (bs_a3.map Value.int)) (g_a3 : n0 ≤ a3) (A_a4 : own_Ar Z hE a4 .int (bs_a4.map Value.int)) (g_a4 : n0 ≤ a4) (A_a5 : own_Ar Z hE a5 .int (bs_a5.map Value.int)) (g_a5 : n0 ≤ a5) (ne_a1_a2 : a1 ≠ a2) (ne_a1_a3 : a1 ≠ a3) (ne_a2_a3 : a2 ≠ a3) (ne_a1_a4 : a1 ≠ a4) (ne_a2_a4 : a2 ≠ a4) (ne_a3_a4 : a3 ≠ a4) (ne_a1_a5 : a1 ≠ a5) (ne_a2_a5 : a2 ≠ a5) (ne_a3_a5 : a3 ≠ a5) (ne_a4_a5 : a4 ≠ a5) (r : Int32) (hF : (f_RawMessage_skipBlanks v1 f_a1_bodyStart f_a1_lines bs_a2 bs_a3 bs_a4 bs_a5) = some r) :
    MetFree l (⟨"com/example/oxpecker/oxpecker/sip/RawMessage", "skipBlanks", "(I)I"⟩ : MethodName) (head1 (Jvm.Cond.code (⟨"com/example/oxpecker/oxpecker/sip/RawMessage", "skipBlanks", "(I)I"⟩ : MethodName) prog_12_method_14_code 3 (some .int) :: ws) ({ frames := 0, cells := 0, slots := 0, locals := 0 } : Room)) (fun a U => a = #[(.ref a1), (.int v1)] ∧ Z.Warmed39 U.vm ∧ U.heap = hE) (fun _ _ _ _ _ => True) (fun _ U o U' => ∃ v L, o = .returned v ∧ (Q_RawMessage_skipBlanks Z hE n0 a1 a2 a3 a4 a5 r) v U'.heap L ∧ FrameEnd U o U' L ({ frames := 0, cells := 0, slots := 0, locals := 0 } : Room).cells ({ frames := 0, cells := 0, slots := 0, locals := 0 } : Room).slots) := by
  refine MetFree.of_bodySF (plainFor_of_name pn_com_example_oxpecker_oxpecker_sip_RawMessage) hisR ?_
  intro p e s m args below meth c s₁ Bd hml0 hP hK
  obtain ⟨rfl, hZ, hh⟩ := hP
  have X0 : Stand p l e ({ frames := 0, cells := 0, slots := 0, locals := 0 } : Room) s m #[(.ref a1), (.int v1)] below meth c s₁ [] 0 0 := Stand.of_body Bd
  have e0 : s₁.heap = hE := by rw [← hh, Bd.state]; rfl
  have cx : Cx_RawMessage_skipBlanks p s m meth c Z a0 := ⟨Bd.exec, hZ, hw, Bd.bytes, hml0, findClass_of_methodNamed Bd.named, Bd.returns, Bd.notSynchronized, (name_of_methodNamed Bd.named Bd.method).1⟩
  show own_Goes p e below s (Q_RawMessage_skipBlanks Z hE n0 a1 a2 a3 a4 a5 r) ({ frames := 0, cells := 0, slots := 0, locals := 0 } : Room).cells ({ frames := 0, cells := 0, slots := 0, locals := 0 } : Room).slots (s₁.setTop (entryFrame m #[(.ref a1), (.int v1)] 3))
  rw [ef_RawMessage_skipBlanks]
  exact b_RawMessage_skipBlanks cx a1 a2 a3 a4 a5 X0 e0 (Fr.nil n0) z v1 f_a1_bodyStart f_a1_lines bs_a2 bs_a3 bs_a4 bs_a5 E_a1 F_a1_bodyStart F_a1_bytes F_a1_lineEnds F_a1_lineStarts F_a1_lines F_a1_wordLengths g_a1 A_a2 g_a2 A_a3 g_a3 A_a4 g_a4 A_a5 g_a5 ne_a1_a2 ne_a1_a3 ne_a2_a3 ne_a1_a4 ne_a2_a4 ne_a3_a4 ne_a1_a5 ne_a2_a5 ne_a3_a5 ne_a4_a5 _ hF
/-! com/example/oxpecker/oxpecker/sip/RawMessage.secondValueStart:(Lcom/example/oxpecker/oxpecker/sip/RawMessage$Header;)I -/
def f_RawMessage_secondValueStart (f_a1_bodyStart : Int32) (f_a1_lines : Int32) (bs_a2 : List Int32) (bs_a3 : List Int32) (bs_a4 : List Int32) (bs_a5 : List Int32) (f_a6_next : Int32) (f_a6_start : Int32) (f_a6_valueEnd : Int32) (f_a6_valueStart : Int32) : Option (Int32) :=
  own_bd (f_Header_valueStart f_a6_next f_a6_start f_a6_valueEnd f_a6_valueStart) fun r211 =>
  own_bd (f_RawMessage_indexOf_i2 (44 : Int32) r211 f_a1_bodyStart f_a1_lines bs_a2 bs_a3 bs_a4 bs_a5) fun r212 =>
  if r212 < (0 : Int32) then
    some (-1 : Int32)
  else
    own_bd (f_Header_valueEnd f_a6_next f_a6_start f_a6_valueEnd f_a6_valueStart) fun r213 =>
    if r212 < r213 then
      own_lt (r212 + (1 : Int32)) fun x214 =>
      own_bd (f_RawMessage_skipBlanks x214 f_a1_bodyStart f_a1_lines bs_a2 bs_a3 bs_a4 bs_a5) fun r215 =>
      some r215
    else
      some (-1 : Int32)
def Q_RawMessage_secondValueStart (Z : State) (hE : Heap) (n0 : Nat) (a1 : Addr) (a2 : Addr) (a3 : Addr) (a4 : Addr) (a5 : Addr) (a6 : Addr) (r : Int32) (v : Option Value) (h : Heap) (L : List Loc) : Prop := v = some (.int r) ∧ Fr n0 L ∧ h = hE
def Cx_RawMessage_secondValueStart (p : Program) (s : State) (m : MethodId) (meth : Method) (c : Code) (Z : State) (a0 : Array Value) : Prop := p.tables.exec = Jvm.exec ∧ Z.Warmed39 s.vm ∧ (∀ d ∈ tables_1, d.before a0 Z = true) ∧ c.code = prog_12_method_9_code ∧ c.maxLocals = 3 ∧ s.vm.findClass "com/example/oxpecker/oxpecker/sip/RawMessage" = some m.cls ∧ meth.sig.returnType = some .int ∧ meth.locks = false ∧ meth.name = "secondValueStart"
set_option maxRecDepth 65536 in
set_option maxHeartbeats 4000000 in
theorem b_RawMessage_secondValueStart {p : Program} {l : Launch} {e : Env} {s : State} {m : MethodId} {args : Array Value} {below : List Frame} {meth : Method} {c : Code} {Z : State} {a0 : Array Value} {n0 : Nat} {hE : Heap} (cx : Cx_RawMessage_secondValueStart p s m meth c Z a0) (a1 : Addr) (a2 : Addr) (a3 : Addr) (a4 : Addr) (a5 : Addr) (a6 : Addr) :
    ∀ {T : State} {locs : List Loc} (X : Stand p l e ({ frames := 1, cells := 0, slots := 0, locals := 15 } : Room) s m args below meth c T locs 0 0) (eT : T.heap = hE) (N : Fr n0 locs) (z : n0 ≤ hE.size) (f_a1_bodyStart : Int32) (f_a1_lines : Int32) (bs_a2 : List Int32) (bs_a3 : List Int32) (bs_a4 : List Int32) (bs_a5 : List Int32) (f_a6_next : Int32) (f_a6_start : Int32) (f_a6_valueEnd : Int32) (f_a6_valueStart : Int32) (E_a1 : Exa Z hE a1 "com/example/oxpecker/oxpecker/sip/RawMessage") (F_a1_bodyStart : Fld Z hE a1 "com/example/oxpecker/oxpecker/sip/RawMessage" "bodyStart" "I" (.int f_a1_bodyStart)) (F_a1_bytes : Fld Z hE a1 "com/example/oxpecker/oxpecker/sip/RawMessage" "bytes" "[B" (.ref a2)) (F_a1_lineEnds : Fld Z hE a1 "com/example/oxpecker/oxpecker/sip/RawMessage" "lineEnds" "[I" (.ref a3)) (F_a1_lineStarts : Fld Z hE a1 "com/example/oxpecker/oxpecker/sip/RawMessage" "lineStarts" "[I" (.ref a4)) (F_a1_lines : Fld Z hE a1 "com/example/oxpecker/oxpecker/sip/RawMessage" "lines" "I" (.int f_a1_lines)) (F_a1_wordLengths : Fld Z hE a1 "com/example/oxpecker/oxpecker/sip/RawMessage" "wordLengths" "[I" (.ref a5)) (g_a1 : n0 ≤ a1) (A_a2 : own_Ar Z hE a2 .byte (bs_a2.map Value.int)) (g_a2 : n0 ≤ a2) (A_a3 : own_Ar Z hE a3 .int (bs_a3.map Value.int)) (g_a3 : n0 ≤ a3) (A_a4 : own_Ar Z hE a4 .int (bs_a4.map Value.int)) (g_a4 : n0 ≤ a4) (A_a5 : own_Ar Z hE a5 .int (bs_a5.map Value.int)) (g_a5 : n0 ≤ a5) (E_a6 : Exa Z hE a6 "com/example/oxpecker/oxpecker/sip/RawMessage$Header") (F_a6_next : Fld Z hE a6 "com/example/oxpecker/oxpecker/sip/RawMessage$Header" "next" "I" (.int f_a6_next)) (F_a6_start : Fld Z hE a6 "com/example/oxpecker/oxpecker/sip/RawMessage$Header" "start" "I" (.int f_a6_start)) (F_a6_valueEnd : Fld Z hE a6 "com/example/oxpecker/oxpecker/sip/RawMessage$Header" "valueEnd" "I" (.int f_a6_valueEnd)) (F_a6_valueStart : Fld Z hE a6 "com/example/oxpecker/oxpecker/sip/RawMessage$Header" "valueStart" "I" (.int f_a6_valueStart)) (g_a6 : n0 ≤ a6) (ne_a1_a2 : a1 ≠ a2) (ne_a1_a3 : a1 ≠ a3) (ne_a2_a3 : a2 ≠ a3) (ne_a1_a4 : a1 ≠ a4) (ne_a2_a4 : a2 ≠ a4) (ne_a3_a4 : a3 ≠ a4) (ne_a1_a5 : a1 ≠ a5) (ne_a2_a5 : a2 ≠ a5) (ne_a3_a5 : a3 ≠ a5) (ne_a4_a5 : a4 ≠ a5) (ne_a1_a6 : a1 ≠ a6) (ne_a2_a6 : a2 ≠ a6) (ne_a3_a6 : a3 ≠ a6) (ne_a4_a6 : a4 ≠ a6) (ne_a5_a6 : a5 ≠ a6) (r : Int32), f_RawMessage_secondValueStart f_a1_bodyStart f_a1_lines bs_a2 bs_a3 bs_a4 bs_a5 f_a6_next f_a6_start f_a6_valueEnd f_a6_valueStart = some r → own_Goes p e below s (Q_RawMessage_secondValueStart Z hE n0 a1 a2 a3 a4 a5 a6 r) 0 0 (T.setTop (mkF m 0 #[.val (.ref a1), .val (.ref a6), .unset] [])) := by
  have cx' := cx
  obtain ⟨hx, hZ, hw, hby, hml, hown, hret, hlk, hnm⟩ := cx'
  intro T locs X eT N z f_a1_bodyStart f_a1_lines bs_a2 bs_a3 bs_a4 bs_a5 f_a6_next f_a6_start f_a6_valueEnd f_a6_valueStart E_a1 F_a1_bodyStart F_a1_bytes F_a1_lineEnds F_a1_lineStarts F_a1_lines F_a1_wordLengths g_a1 A_a2 g_a2 A_a3 g_a3 A_a4 g_a4 A_a5 g_a5 E_a6 F_a6_next F_a6_start F_a6_valueEnd F_a6_valueStart g_a6 ne_a1_a2 ne_a1_a3 ne_a2_a3 ne_a1_a4 ne_a2_a4 ne_a3_a4 ne_a1_a5 ne_a2_a5 ne_a3_a5 ne_a4_a5 ne_a1_a6 ne_a2_a6 ne_a3_a6 ne_a4_a6 ne_a5_a6 r hF
  unfold f_RawMessage_secondValueStart at hF
  refine own_Goes.via (B := T.setTop (mkF m 4 #[.val (.ref a1), .val (.ref a6), .unset] [(.ref a6), (.int (44 : Int32)), (.ref a1)])) (fun t k => ?_) ?_
  · show Steps p.tables e below (T.setTop (mkF m 0 #[.val (.ref a1), .val (.ref a6), .unset] [])) t
    refine XS.aloadN X.here hx rfl (hb hby dRawMessage_secondValueStart_0) rfl rfl ?_
    show Steps p.tables e below (T.setTop (mkF m 1 #[.val (.ref a1), .val (.ref a6), .unset] [(.ref a1)])) t
    refine XS.bipush X.here hx rfl (hb hby dRawMessage_secondValueStart_1) ?_
    show Steps p.tables e below (T.setTop (mkF m 3 #[.val (.ref a1), .val (.ref a6), .unset] [(.int (44 : Int32)), (.ref a1)])) t
    refine XS.aloadN X.here hx rfl (hb hby dRawMessage_secondValueStart_3) rfl rfl ?_
    exact k
  obtain ⟨r211, hr211, hF⟩ := own_bd_e hF
  obtain ⟨cq211, kq211, q211a, q211b, q211c⟩ := isOf hZ eT E_a6
  obtain ⟨_, _, ⟨T211, L211, k211, n211⟩, -, X211, ⟨Lc211, hQ211, l211, y211, z211⟩, st211⟩ := X.virtualBack hx (y := (⟨"com/example/oxpecker/oxpecker/sip/RawMessage$Header", "valueStart", "()I"⟩ : MethodName)) (z := (⟨"com/example/oxpecker/oxpecker/sip/RawMessage$Header", "valueStart", "()I"⟩ : MethodName)) hown (mvT hZ (w57 hw)) (mvT hZ (w58 hw)) (notFace_of_selects (args := #[]) (mvT hZ (w60 hw))) (mvT hZ (w60 hw)) (mvT hZ (w59 hw)) (by decide) (backOf (W := 2) (rm_Header_valueStart l Z a0 hw [] hE n0 z a6 f_a6_next f_a6_start f_a6_valueEnd f_a6_valueStart E_a6 F_a6_next F_a6_start F_a6_valueEnd F_a6_valueStart g_a6 r211 hr211) hZ (w61 hw) (w34 hw) (by decide) (by decide)) q211a q211c (g := (mkF m 4 #[.val (.ref a1), .val (.ref a6), .unset] [(.ref a6), (.int (44 : Int32)), (.ref a1)])) rfl (by rw [hml]; rfl) (Steps.refl _) (argsL := []) (rest := [(.int (44 : Int32)), (.ref a1)]) (lenOf pd_5 rfl) rfl (by show 2 * 0 + _ ≤ _; exact Nat.le_of_eq rfl) (hb hby dRawMessage_secondValueStart_4) (fun _ _ => ⟨rfl, eT, (by decide : 0 + 0 ≤ _), (by decide : 0 + 0 ≤ _)⟩)
  dsimp only [Pt.U, Pt.locs, Pt.cells, Pt.slots] at X211 l211 y211 z211 st211 hQ211
  subst l211 y211 z211
  obtain ⟨rfl, N211q, e211⟩ := hQ211
  have N211 := Fr.app N N211q
  refine own_Goes.tr st211 ?_
  show own_Goes _ _ _ _ _ _ _ (T211.setTop (mkF m 7 #[.val (.ref a1), .val (.ref a6), .unset] [(.int r211), (.int (44 : Int32)), (.ref a1)]))
  obtain ⟨r212, hr212, hF⟩ := own_bd_e hF
  obtain ⟨cq212, q212, q212'⟩ := E_a1.cell
  obtain ⟨_, _, ⟨T212, L212, k212, n212⟩, -, X212, ⟨Lc212, hQ212, l212, y212, z212⟩, st212⟩ := X211.privateBack hx (y := (⟨"com/example/oxpecker/oxpecker/sip/RawMessage", "indexOf", "(BI)I"⟩ : MethodName)) hown (mvT hZ (w18 hw)) (mvT hZ (w19 hw)) (own_privSel (y := (⟨"com/example/oxpecker/oxpecker/sip/RawMessage", "indexOf", "(BI)I"⟩ : MethodName)) (mvT hZ (w7 hw)) (Cond.privateMethod_at (mvP hZ (w20 hw) (args := #[]))) (mvT hZ (w19 hw)) (by decide)) (Cond.privateMethod_at (mvP hZ (w20 hw) (args := #[]))) (mvT hZ (w21 hw)) (by decide) (backOf (W := 0) (rm_RawMessage_indexOf_i2 l Z a0 hw [] hE n0 z a1 a2 a3 a4 a5 (44 : Int32) r211 f_a1_bodyStart f_a1_lines bs_a2 bs_a3 bs_a4 bs_a5 E_a1 F_a1_bodyStart F_a1_bytes F_a1_lineEnds F_a1_lineStarts F_a1_lines F_a1_wordLengths g_a1 A_a2 g_a2 A_a3 g_a3 A_a4 g_a4 A_a5 g_a5 ne_a1_a2 ne_a1_a3 ne_a2_a3 ne_a1_a4 ne_a2_a4 ne_a3_a4 ne_a1_a5 ne_a2_a5 ne_a3_a5 ne_a4_a5 r212 hr212) hZ (w21 hw) (w8 hw) (by decide) (by decide)) (g := (mkF m 7 #[.val (.ref a1), .val (.ref a6), .unset] [(.int r211), (.int (44 : Int32)), (.ref a1)])) rfl (by rw [hml]; rfl) (Steps.refl _) (a := a1) (by rw [e211]; exact q212) q212' (argsL := [(.int (44 : Int32)), (.int r211)]) (rest := []) (lenOf pd_1 rfl) rfl (by show 2 * 0 + _ ≤ _; exact Nat.le_of_eq rfl) (hb hby dRawMessage_secondValueStart_7) (fun _ _ => ⟨rfl, e211, (by decide : 0 + 0 ≤ _), (by decide : 0 + 0 ≤ _)⟩)
  dsimp only [Pt.U, Pt.locs, Pt.cells, Pt.slots] at X212 l212 y212 z212 st212 hQ212
  subst l212 y212 z212
  obtain ⟨rfl, N212q, e212⟩ := hQ212
  have N212 := Fr.app N211 N212q
  refine own_Goes.tr st212 ?_
  show own_Goes _ _ _ _ _ _ _ (T212.setTop (mkF m 10 #[.val (.ref a1), .val (.ref a6), .unset] [(.int r212)]))
  refine own_Goes.via (B := T212.setTop (mkF m 12 #[.val (.ref a1), .val (.ref a6), .val (.int r212)] [(.int r212)])) (fun t k => ?_) ?_
  · show Steps p.tables e below (T212.setTop (mkF m 10 #[.val (.ref a1), .val (.ref a6), .unset] [(.int r212)])) t
    refine XS.istoreN X212.here hx rfl (hb hby dRawMessage_secondValueStart_10) rfl (l' := #[.val (.ref a1), .val (.ref a6), .val (.int r212)]) rfl ?_
    show Steps p.tables e below (T212.setTop (mkF m 11 #[.val (.ref a1), .val (.ref a6), .val (.int r212)] [])) t
    refine XS.iloadN X212.here hx rfl (hb hby dRawMessage_secondValueStart_11) rfl ?_
    exact k
  by_cases hc12 : r212 < (0 : Int32)
  · rw [if_pos hc12] at hF
    refine own_Goes.via (B := T212.setTop (mkF m 24 #[.val (.ref a1), .val (.ref a6), .val (.int r212)] [(.int (-1 : Int32))])) (fun t k => ?_) ?_
    · show Steps p.tables e below (T212.setTop (mkF m 12 #[.val (.ref a1), .val (.ref a6), .val (.int r212)] [(.int r212)])) t
      refine XS.ifYes X212.here hx rfl (pc0 := 12) (pc' := 23) rfl (hb hby dRawMessage_secondValueStart_12) rfl ((if0 _ _).trans (tlt hc12).1) (by decide) (by decide) ?_
      show Steps p.tables e below (T212.setTop (mkF m 23 #[.val (.ref a1), .val (.ref a6), .val (.int r212)] [])) t
      refine XS.iconst X212.here hx rfl (hb hby dRawMessage_secondValueStart_23) ?_
      exact k
    obtain rfl : (-1 : Int32) = r := Option.some.inj hF
    exact own_retI X212 hx hret hlk (hb hby dRawMessage_secondValueStart_24) e212 ⟨rfl, N212, rfl⟩ (by decide) (by decide)
  · rw [if_neg hc12] at hF
    refine own_Goes.via (B := T212.setTop (mkF m 17 #[.val (.ref a1), .val (.ref a6), .val (.int r212)] [(.ref a6), (.int r212)])) (fun t k => ?_) ?_
    · show Steps p.tables e below (T212.setTop (mkF m 12 #[.val (.ref a1), .val (.ref a6), .val (.int r212)] [(.int r212)])) t
      refine XS.ifNo X212.here hx rfl (hb hby dRawMessage_secondValueStart_12) rfl ((if0 _ _).trans (flt hc12).1) ?_
      show Steps p.tables e below (T212.setTop (mkF m 15 #[.val (.ref a1), .val (.ref a6), .val (.int r212)] [])) t
      refine XS.iloadN X212.here hx rfl (hb hby dRawMessage_secondValueStart_15) rfl ?_
      show Steps p.tables e below (T212.setTop (mkF m 16 #[.val (.ref a1), .val (.ref a6), .val (.int r212)] [(.int r212)])) t
      refine XS.aloadN X212.here hx rfl (hb hby dRawMessage_secondValueStart_16) rfl rfl ?_
      exact k
    obtain ⟨r213, hr213, hF⟩ := own_bd_e hF
    obtain ⟨cq213, kq213, q213a, q213b, q213c⟩ := isOf hZ e212 E_a6
    obtain ⟨_, _, ⟨T213, L213, k213, n213⟩, -, X213, ⟨Lc213, hQ213, l213, y213, z213⟩, st213⟩ := X212.virtualBack hx (y := (⟨"com/example/oxpecker/oxpecker/sip/RawMessage$Header", "valueEnd", "()I"⟩ : MethodName)) (z := (⟨"com/example/oxpecker/oxpecker/sip/RawMessage$Header", "valueEnd", "()I"⟩ : MethodName)) hown (mvT hZ (w62 hw)) (mvT hZ (w63 hw)) (notFace_of_selects (args := #[]) (mvT hZ (w65 hw))) (mvT hZ (w65 hw)) (mvT hZ (w64 hw)) (by decide) (backOf (W := 1) (rm_Header_valueEnd l Z a0 hw [] hE n0 z a6 f_a6_next f_a6_start f_a6_valueEnd f_a6_valueStart E_a6 F_a6_next F_a6_start F_a6_valueEnd F_a6_valueStart g_a6 r213 hr213) hZ (w66 hw) (w34 hw) (by decide) (by decide)) q213a q213c (g := (mkF m 17 #[.val (.ref a1), .val (.ref a6), .val (.int r212)] [(.ref a6), (.int r212)])) rfl (by rw [hml]; rfl) (Steps.refl _) (argsL := []) (rest := [(.int r212)]) (lenOf pd_5 rfl) rfl (by show 2 * 0 + _ ≤ _; exact Nat.le_of_eq rfl) (hb hby dRawMessage_secondValueStart_17) (fun _ _ => ⟨rfl, e212, (by decide : 0 + 0 ≤ _), (by decide : 0 + 0 ≤ _)⟩)
    dsimp only [Pt.U, Pt.locs, Pt.cells, Pt.slots] at X213 l213 y213 z213 st213 hQ213
    subst l213 y213 z213
    obtain ⟨rfl, N213q, e213⟩ := hQ213
    have N213 := Fr.app N212 N213q
    refine own_Goes.tr st213 ?_
    show own_Goes _ _ _ _ _ _ _ (T213.setTop (mkF m 20 #[.val (.ref a1), .val (.ref a6), .val (.int r212)] [(.int r213), (.int r212)]))
    by_cases hc20 : r212 < r213
    · rw [if_pos hc20] at hF
      refine own_Goes.via (B := T213.setTop (mkF m 29 #[.val (.ref a1), .val (.ref a6), .val (.int r212)] [(.int (r212 + (1 : Int32))), (.ref a1)])) (fun t k => ?_) ?_
      · show Steps p.tables e below (T213.setTop (mkF m 20 #[.val (.ref a1), .val (.ref a6), .val (.int r212)] [(.int r213), (.int r212)])) t
        refine XS.icmpYes X213.here hx rfl (pc0 := 20) (pc' := 25) rfl (hb hby dRawMessage_secondValueStart_20) rfl (tlt hc20).1 (by decide) (by decide) ?_
        show Steps p.tables e below (T213.setTop (mkF m 25 #[.val (.ref a1), .val (.ref a6), .val (.int r212)] [])) t
        refine XS.aloadN X213.here hx rfl (hb hby dRawMessage_secondValueStart_25) rfl rfl ?_
        show Steps p.tables e below (T213.setTop (mkF m 26 #[.val (.ref a1), .val (.ref a6), .val (.int r212)] [(.ref a1)])) t
        refine XS.iloadN X213.here hx rfl (hb hby dRawMessage_secondValueStart_26) rfl ?_
        show Steps p.tables e below (T213.setTop (mkF m 27 #[.val (.ref a1), .val (.ref a6), .val (.int r212)] [(.int r212), (.ref a1)])) t
        refine XS.iconst X213.here hx rfl (hb hby dRawMessage_secondValueStart_27) ?_
        show Steps p.tables e below (T213.setTop (mkF m 28 #[.val (.ref a1), .val (.ref a6), .val (.int r212)] [(.int (1 : Int32)), (.int r212), (.ref a1)])) t
        refine XS.iadd X213.here hx rfl (hb hby dRawMessage_secondValueStart_28) rfl ?_
        exact k
      obtain ⟨x214, hx214, hF⟩ := own_lt_e hF
      rw [← hx214]
      obtain ⟨r215, hr215, hF⟩ := own_bd_e hF
      obtain ⟨cq215, q215, q215'⟩ := E_a1.cell
      obtain ⟨_, _, ⟨T215, L215, k215, n215⟩, -, X215, ⟨Lc215, hQ215, l215, y215, z215⟩, st215⟩ := X213.privateBack hx (y := (⟨"com/example/oxpecker/oxpecker/sip/RawMessage", "skipBlanks", "(I)I"⟩ : MethodName)) hown (mvT hZ (w73 hw)) (mvT hZ (w74 hw)) (own_privSel (y := (⟨"com/example/oxpecker/oxpecker/sip/RawMessage", "skipBlanks", "(I)I"⟩ : MethodName)) (mvT hZ (w7 hw)) (Cond.privateMethod_at (mvP hZ (w75 hw) (args := #[]))) (mvT hZ (w74 hw)) (by decide)) (Cond.privateMethod_at (mvP hZ (w75 hw) (args := #[]))) (mvT hZ (w76 hw)) (by decide) (backOf (W := 0) (rm_RawMessage_skipBlanks l Z a0 hw [] hE n0 z a1 a2 a3 a4 a5 x214 f_a1_bodyStart f_a1_lines bs_a2 bs_a3 bs_a4 bs_a5 E_a1 F_a1_bodyStart F_a1_bytes F_a1_lineEnds F_a1_lineStarts F_a1_lines F_a1_wordLengths g_a1 A_a2 g_a2 A_a3 g_a3 A_a4 g_a4 A_a5 g_a5 ne_a1_a2 ne_a1_a3 ne_a2_a3 ne_a1_a4 ne_a2_a4 ne_a3_a4 ne_a1_a5 ne_a2_a5 ne_a3_a5 ne_a4_a5 r215 hr215) hZ (w76 hw) (w8 hw) (by decide) (by decide)) (g := (mkF m 29 #[.val (.ref a1), .val (.ref a6), .val (.int r212)] [(.int x214), (.ref a1)])) rfl (by rw [hml]; rfl) (Steps.refl _) (a := a1) (by rw [e213]; exact q215) q215' (argsL := [(.int x214)]) (rest := []) (lenOf pd_6 rfl) rfl (by show 2 * 0 + _ ≤ _; exact Nat.le_of_eq rfl) (hb hby dRawMessage_secondValueStart_29) (fun _ _ => ⟨rfl, e213, (by decide : 0 + 0 ≤ _), (by decide : 0 + 0 ≤ _)⟩)
      dsimp only [Pt.U, Pt.locs, Pt.cells, Pt.slots] at X215 l215 y215 z215 st215 hQ215
      subst l215 y215 z215
      obtain ⟨rfl, N215q, e215⟩ := hQ215
      have N215 := Fr.app N213 N215q
      refine own_Goes.tr st215 ?_
      show own_Goes _ _ _ _ _ _ _ (T215.setTop (mkF m 32 #[.val (.ref a1), .val (.ref a6), .val (.int r212)] [(.int r215)]))
      obtain rfl : r215 = r := Option.some.inj hF
      exact own_retI X215 hx hret hlk (hb hby dRawMessage_secondValueStart_32) e215 ⟨rfl, N215, rfl⟩ (by decide) (by decide)
    · rw [if_neg hc20] at hF
      refine own_Goes.via (B := T213.setTop (mkF m 24 #[.val (.ref a1), .val (.ref a6), .val (.int r212)] [(.int (-1 : Int32))])) (fun t k => ?_) ?_
      · show Steps p.tables e below (T213.setTop (mkF m 20 #[.val (.ref a1), .val (.ref a6), .val (.int r212)] [(.int r213), (.int r212)])) t
        refine XS.icmpNo X213.here hx rfl (hb hby dRawMessage_secondValueStart_20) rfl (flt hc20).1 ?_
        show Steps p.tables e below (T213.setTop (mkF m 23 #[.val (.ref a1), .val (.ref a6), .val (.int r212)] [])) t
        refine XS.iconst X213.here hx rfl (hb hby dRawMessage_secondValueStart_23) ?_
        exact k
      obtain rfl : (-1 : Int32) = r := Option.some.inj hF
      exact own_retI X213 hx hret hlk (hb hby dRawMessage_secondValueStart_24) e213 ⟨rfl, N213, rfl⟩ (by decide) (by decide)
theorem ef_RawMessage_secondValueStart (m : MethodId) (x0 : Addr) (x1 : Addr) : entryFrame m #[(.ref x0), (.ref x1)] 3 = mkF m 0 #[.val (.ref x0), .val (.ref x1), .unset] [] := by first | (simp [entryFrame, mkF, argsToLocals, Value.category]; done) | rfl
set_option maxRecDepth 65536 in
set_option maxHeartbeats 4000000 in
theorem rm_RawMessage_secondValueStart (l : Launch) (Z : State) (a0 : Array Value) (hw : ∀ d ∈ tables_1, d.before a0 Z = true) (ws : List Jvm.Cond) (hE : Heap) (n0 : Nat) (z : n0 ≤ hE.size) (a1 : Addr) (a2 : Addr) (a3 : Addr) (a4 : Addr) (a5 : Addr) (a6 : Addr) (f_a1_bodyStart : Int32) (f_a1_lines : Int32) (bs_a2 : List Int32) (bs_a3 : List Int32) (bs_a4 : List Int32) (bs_a5 : List Int32) (f_a6_next : Int32) (f_a6_start : Int32) (f_a6_valueEnd : Int32) (f_a6_valueStart : Int32) (E_a1 : Exa Z hE a1 "com/example/oxpecker/oxpecker/sip/RawMessage") (F_a1_bodyStart : Fld Z hE a1 "com/example/oxpecker/oxpecker/sip/RawMessage" "bodyStart" "I" (.int f_a1_bodyStart)) (F_a1_bytes : Fld Z hE a1 "com/example/oxpecker/oxpecker/sip/RawMessage" "bytes" "[B" (.ref a2)) (F_a1_lineEnds : Fld Z hE a1 "com/example/oxpecker/oxpecker/sip/RawMessage" "lineEnds" "[I" (.ref a3)) (F_a1_lineStarts : Fld Z hE a1 "com/example/oxpecker/oxpecker/sip/RawMessage" "lineStarts" "[I" (.ref a4)) (F_a1_lines : Fld Z hE a1 "com/example/oxpecker/oxpecker/sip/RawMessage" "lines" "I" (.int f_a1_lines)) (F_a1_wordLengths : Fld Z hE a1 "com/example/oxpecker/oxpecker/sip/RawMessage" "wordLengths" "[I" (.ref a5)) (g_a1 : n0 ≤ a1) (A_a2 : own_Ar Z hE a2 .byte (bs_a2.map Value.int)) (g_a2 : n0 ≤ a2) (A_a3 : own_Ar Z hE a3 .int (bs_a3.map Value.int)) (g_a3 : n0 ≤ a3) (A_a4 : own_Ar Z hE a4 .int (bs_a4.map Value.int)) (g_a4 : n0 ≤ a4) (A_a5 : own_Ar Z hE a5 .int (bs_a5.map Value.int)) (g_a5 : n0 ≤ a5) (E_a6 : Exa Z hE a6 "com/example/oxpecker/oxpecker/sip/RawMessage$Header") (F_a6_next : Fld Z hE a6 "com/example/oxpecker/oxpecker/sip/RawMessage$Header" "next" "I" (.int f_a6_next)) (F_a6_start : Fld Z hE a6 "com/example/oxpecker/oxpecker/sip/RawMessage$Header" "start" "I" (.int f_a6_start)) (F_a6_valueEnd : Fld Z hE a6 "com/example/oxpecker/oxpecker/sip/RawMessage$Header" "valueEnd" "I" (.int f_a6_valueEnd)) (F_a6_valueStart : Fld Z hE a6 "com/example/oxpecker/oxpecker/sip/RawMessage$Header" "valueStart" "I" (.int f_a6_valueStart)) (g_a6 : n0 ≤ a6) (ne_a1_a2 : a1 ≠ a2) (ne_a1_a3 : a1 ≠ a3) (ne_a2_a3 : a2 ≠ a3) (ne_a1_a4 : a1 ≠ a4) (ne_a2_a4 : a2 ≠ a4) (ne_a3_a4 : a3 ≠ a4) (ne_a1_a5 : a1 ≠ a5) (ne_a2_a5 : a2 ≠ a5) (ne_a3_a5 : a3 ≠ a5) (ne_a4_a5 : a4 ≠ a5) (ne_a1_a6 : a1 ≠ a6) (ne_a2_a6 : a2 ≠ a6) (ne_a3_a6 : a3 ≠ a6) (ne_a4_a6 : a4 ≠ a6) (ne_a5_a6 : a5 ≠ a6) (r : Int32) (hF : (f_RawMessage_secondValueStart f_a1_bodyStart f_a1_lines bs_a2 bs_a3 bs_a4 bs_a5 f_a6_next f_a6_start f_a6_valueEnd f_a6_valueStart) = some r) :
    MetFree l (⟨"com/example/oxpecker/oxpecker/sip/RawMessage", "secondValueStart", "(Lcom/example/oxpecker/oxpecker/sip/RawMessage$Header;)I"⟩ : MethodName) (head1 (Jvm.Cond.code (⟨"com/example/oxpecker/oxpecker/sip/RawMessage", "secondValueStart", "(Lcom/example/oxpecker/oxpecker/sip/RawMessage$Header;)I"⟩ : MethodName) prog_12_method_9_code 3 (some .int) :: ws) ({ frames := 1, cells := 0, slots := 0, locals := 15 } : Room)) (fun a U => a = #[(.ref a1), (.ref a6)] ∧ Z.Warmed39 U.vm ∧ U.heap = hE) (fun _ _ _ _ _ => True) (fun _ U o U' => ∃ v L, o = .returned v ∧ (Q_RawMessage_secondValueStart Z hE n0 a1 a2 a3 a4 a5 a6 r) v U'.heap L ∧ FrameEnd U o U' L ({ frames := 1, cells := 0, slots := 0, locals := 15 } : Room).cells ({ frames := 1, cells := 0, slots := 0, locals := 15 } : Room).slots) := by
  refine MetFree.of_bodySF (plainFor_of_name pn_com_example_oxpecker_oxpecker_sip_RawMessage) hisR ?_
  intro p e s m args below meth c s₁ Bd hml0 hP hK
  obtain ⟨rfl, hZ, hh⟩ := hP
  have X0 : Stand p l e ({ frames := 1, cells := 0, slots := 0, locals := 15 } : Room) s m #[(.ref a1), (.ref a6)] below meth c s₁ [] 0 0 := Stand.of_body Bd
  have e0 : s₁.heap = hE := by rw [← hh, Bd.state]; rfl
  have cx : Cx_RawMessage_secondValueStart p s m meth c Z a0 := ⟨Bd.exec, hZ, hw, Bd.bytes, hml0, findClass_of_methodNamed Bd.named, Bd.returns, Bd.notSynchronized, (name_of_methodNamed Bd.named Bd.method).1⟩
  show own_Goes p e below s (Q_RawMessage_secondValueStart Z hE n0 a1 a2 a3 a4 a5 a6 r) ({ frames := 1, cells := 0, slots := 0, locals := 15 } : Room).cells ({ frames := 1, cells := 0, slots := 0, locals := 15 } : Room).slots (s₁.setTop (entryFrame m #[(.ref a1), (.ref a6)] 3))
  rw [ef_RawMessage_secondValueStart]
  exact b_RawMessage_secondValueStart cx a1 a2 a3 a4 a5 a6 X0 e0 (Fr.nil n0) z f_a1_bodyStart f_a1_lines bs_a2 bs_a3 bs_a4 bs_a5 f_a6_next f_a6_start f_a6_valueEnd f_a6_valueStart E_a1 F_a1_bodyStart F_a1_bytes F_a1_lineEnds F_a1_lineStarts F_a1_lines F_a1_wordLengths g_a1 A_a2 g_a2 A_a3 g_a3 A_a4 g_a4 A_a5 g_a5 E_a6 F_a6_next F_a6_start F_a6_valueEnd F_a6_valueStart g_a6 ne_a1_a2 ne_a1_a3 ne_a2_a3 ne_a1_a4 ne_a2_a4 ne_a3_a4 ne_a1_a5 ne_a2_a5 ne_a3_a5 ne_a4_a5 ne_a1_a6 ne_a2_a6 ne_a3_a6 ne_a4_a6 ne_a5_a6 _ hF
/-! com/example/oxpecker/oxpecker/sip/RawMessageSecondValueStartPinLaw.isC:([BI)Z -/
def f_RawMessageSecondValueStartPinLaw_isC (v1 : Int32) (bs_a1 : List Int32) : Option (Int32) :=
  if v1 < (0 : Int32) then
    some (0 : Int32)
  else
    if v1 < (own_sz bs_a1) then
      own_ck (own_inb bs_a1 v1) <|
      if (own_rd bs_a1 v1) = (44 : Int32) then
        some (1 : Int32)
      else
        some (0 : Int32)
    else
      some (0 : Int32)
def Q_RawMessageSecondValueStartPinLaw_isC (Z : State) (hE : Heap) (n0 : Nat) (a1 : Addr) (r : Int32) (v : Option Value) (h : Heap) (L : List Loc) : Prop := v = some (.int r) ∧ Fr n0 L ∧ h = hE
def Cx_RawMessageSecondValueStartPinLaw_isC (p : Program) (s : State) (m : MethodId) (meth : Method) (c : Code) (Z : State) (a0 : Array Value) : Prop := p.tables.exec = Jvm.exec ∧ Z.Warmed39 s.vm ∧ (∀ d ∈ tables_1, d.before a0 Z = true) ∧ c.code = method_3_code ∧ c.maxLocals = 2 ∧ s.vm.findClass "com/example/oxpecker/oxpecker/sip/RawMessageSecondValueStartPinLaw" = some m.cls ∧ meth.sig.returnType = some .boolean ∧ meth.locks = false ∧ meth.name = "isC"
set_option maxRecDepth 65536 in
set_option maxHeartbeats 4000000 in
theorem b_RawMessageSecondValueStartPinLaw_isC {p : Program} {l : Launch} {e : Env} {s : State} {m : MethodId} {args : Array Value} {below : List Frame} {meth : Method} {c : Code} {Z : State} {a0 : Array Value} {n0 : Nat} {hE : Heap} (cx : Cx_RawMessageSecondValueStartPinLaw_isC p s m meth c Z a0) (a1 : Addr) :
    ∀ {T : State} {locs : List Loc} (X : Stand p l e ({ frames := 0, cells := 0, slots := 0, locals := 0 } : Room) s m args below meth c T locs 0 0) (eT : T.heap = hE) (N : Fr n0 locs) (z : n0 ≤ hE.size) (v1 : Int32) (bs_a1 : List Int32) (A_a1 : own_Ar Z hE a1 .byte (bs_a1.map Value.int)) (g_a1 : n0 ≤ a1) (r : Int32), f_RawMessageSecondValueStartPinLaw_isC v1 bs_a1 = some r → own_Goes p e below s (Q_RawMessageSecondValueStartPinLaw_isC Z hE n0 a1 r) 0 0 (T.setTop (mkF m 0 #[.val (.ref a1), .val (.int v1)] [])) := by
  have cx' := cx
  obtain ⟨hx, hZ, hw, hby, hml, hown, hret, hlk, hnm⟩ := cx'
  intro T locs X eT N z v1 bs_a1 A_a1 g_a1 r hF
  unfold f_RawMessageSecondValueStartPinLaw_isC at hF
  refine own_Goes.via (B := T.setTop (mkF m 1 #[.val (.ref a1), .val (.int v1)] [(.int v1)])) (fun t k => ?_) ?_
  · show Steps p.tables e below (T.setTop (mkF m 0 #[.val (.ref a1), .val (.int v1)] [])) t
    refine XS.iloadN X.here hx rfl (hb hby dRawMessageSecondValueStartPinLaw_isC_0) rfl ?_
    exact k
  by_cases hc1 : v1 < (0 : Int32)
  · rw [if_pos hc1] at hF
    refine own_Goes.via (B := T.setTop (mkF m 23 #[.val (.ref a1), .val (.int v1)] [(.int (0 : Int32))])) (fun t k => ?_) ?_
    · show Steps p.tables e below (T.setTop (mkF m 1 #[.val (.ref a1), .val (.int v1)] [(.int v1)])) t
      refine XS.ifYes X.here hx rfl (pc0 := 1) (pc' := 22) rfl (hb hby dRawMessageSecondValueStartPinLaw_isC_1) rfl ((if0 _ _).trans (tlt hc1).1) (by decide) (by decide) ?_
      show Steps p.tables e below (T.setTop (mkF m 22 #[.val (.ref a1), .val (.int v1)] [])) t
      refine XS.iconst X.here hx rfl (hb hby dRawMessageSecondValueStartPinLaw_isC_22) ?_
      exact k
    obtain rfl : (0 : Int32) = r := Option.some.inj hF
    exact own_retN X hx (t := .boolean) hret hlk (by simp) (hb hby dRawMessageSecondValueStartPinLaw_isC_23) eT (v := (0 : Int32)) (by decide) ⟨rfl, N, rfl⟩ (by decide) (by decide)
  · rw [if_neg hc1] at hF
    refine own_Goes.via (B := T.setTop (mkF m 7 #[.val (.ref a1), .val (.int v1)] [(.int (own_sz bs_a1)), (.int v1)])) (fun t k => ?_) ?_
    · show Steps p.tables e below (T.setTop (mkF m 1 #[.val (.ref a1), .val (.int v1)] [(.int v1)])) t
      refine XS.ifNo X.here hx rfl (hb hby dRawMessageSecondValueStartPinLaw_isC_1) rfl ((if0 _ _).trans (flt hc1).1) ?_
      show Steps p.tables e below (T.setTop (mkF m 4 #[.val (.ref a1), .val (.int v1)] [])) t
      refine XS.iloadN X.here hx rfl (hb hby dRawMessageSecondValueStartPinLaw_isC_4) rfl ?_
      show Steps p.tables e below (T.setTop (mkF m 5 #[.val (.ref a1), .val (.int v1)] [(.int v1)])) t
      refine XS.aloadN X.here hx rfl (hb hby dRawMessageSecondValueStartPinLaw_isC_5) rfl rfl ?_
      show Steps p.tables e below (T.setTop (mkF m 6 #[.val (.ref a1), .val (.int v1)] [(.ref a1), (.int v1)])) t
      refine own_len X hx hZ eT A_a1 (g := (mkF m 6 #[.val (.ref a1), .val (.int v1)] [(.ref a1), (.int v1)])) rfl rfl (hb hby dRawMessageSecondValueStartPinLaw_isC_6) ?_
      exact k
    by_cases hc7 : v1 < (own_sz bs_a1)
    · rw [if_pos hc7] at hF
      refine own_Goes.via (B := T.setTop (mkF m 12 #[.val (.ref a1), .val (.int v1)] [(.int v1), (.ref a1)])) (fun t k => ?_) ?_
      · show Steps p.tables e below (T.setTop (mkF m 7 #[.val (.ref a1), .val (.int v1)] [(.int (own_sz bs_a1)), (.int v1)])) t
        refine XS.icmpNo X.here hx rfl (hb hby dRawMessageSecondValueStartPinLaw_isC_7) rfl (tlt hc7).2.1 ?_
        show Steps p.tables e below (T.setTop (mkF m 10 #[.val (.ref a1), .val (.int v1)] [])) t
        refine XS.aloadN X.here hx rfl (hb hby dRawMessageSecondValueStartPinLaw_isC_10) rfl rfl ?_
        show Steps p.tables e below (T.setTop (mkF m 11 #[.val (.ref a1), .val (.int v1)] [(.ref a1)])) t
        refine XS.iloadN X.here hx rfl (hb hby dRawMessageSecondValueStartPinLaw_isC_11) rfl ?_
        exact k
      obtain ⟨hi12, hF⟩ := own_ck_e hF
      refine own_Goes.via (B := T.setTop (mkF m 15 #[.val (.ref a1), .val (.int v1)] [(.int (44 : Int32)), (.int (own_rd bs_a1 v1))])) (fun t k => ?_) ?_
      · show Steps p.tables e below (T.setTop (mkF m 12 #[.val (.ref a1), .val (.int v1)] [(.int v1), (.ref a1)])) t
        refine own_ldB X hx hZ eT A_a1 hi12 rfl (g := (mkF m 12 #[.val (.ref a1), .val (.int v1)] [(.int v1), (.ref a1)])) rfl rfl (hb hby dRawMessageSecondValueStartPinLaw_isC_12) ?_
        show Steps p.tables e below (T.setTop (mkF m 13 #[.val (.ref a1), .val (.int v1)] [(.int (own_rd bs_a1 v1))])) t
        refine XS.bipush X.here hx rfl (hb hby dRawMessageSecondValueStartPinLaw_isC_13) ?_
        exact k
      by_cases hc15 : (own_rd bs_a1 v1) = (44 : Int32)
      · rw [if_pos hc15] at hF
        refine own_Goes.via (B := T.setTop (mkF m 23 #[.val (.ref a1), .val (.int v1)] [(.int (1 : Int32))])) (fun t k => ?_) ?_
        · show Steps p.tables e below (T.setTop (mkF m 15 #[.val (.ref a1), .val (.int v1)] [(.int (44 : Int32)), (.int (own_rd bs_a1 v1))])) t
          refine XS.icmpNo X.here hx rfl (hb hby dRawMessageSecondValueStartPinLaw_isC_15) rfl (teq hc15).2 ?_
          show Steps p.tables e below (T.setTop (mkF m 18 #[.val (.ref a1), .val (.int v1)] [])) t
          refine XS.iconst X.here hx rfl (hb hby dRawMessageSecondValueStartPinLaw_isC_18) ?_
          show Steps p.tables e below (T.setTop (mkF m 19 #[.val (.ref a1), .val (.int v1)] [(.int (1 : Int32))])) t
          refine XS.goto X.here hx rfl (pc0 := 19) (pc' := 23) rfl (hb hby dRawMessageSecondValueStartPinLaw_isC_19) (by decide) (by decide) ?_
          exact k
        obtain rfl : (1 : Int32) = r := Option.some.inj hF
        exact own_retN X hx (t := .boolean) hret hlk (by simp) (hb hby dRawMessageSecondValueStartPinLaw_isC_23) eT (v := (1 : Int32)) (by decide) ⟨rfl, N, rfl⟩ (by decide) (by decide)
      · rw [if_neg hc15] at hF
        refine own_Goes.via (B := T.setTop (mkF m 23 #[.val (.ref a1), .val (.int v1)] [(.int (0 : Int32))])) (fun t k => ?_) ?_
        · show Steps p.tables e below (T.setTop (mkF m 15 #[.val (.ref a1), .val (.int v1)] [(.int (44 : Int32)), (.int (own_rd bs_a1 v1))])) t
          refine XS.icmpYes X.here hx rfl (pc0 := 15) (pc' := 22) rfl (hb hby dRawMessageSecondValueStartPinLaw_isC_15) rfl (feq hc15).2 (by decide) (by decide) ?_
          show Steps p.tables e below (T.setTop (mkF m 22 #[.val (.ref a1), .val (.int v1)] [])) t
          refine XS.iconst X.here hx rfl (hb hby dRawMessageSecondValueStartPinLaw_isC_22) ?_
          exact k
        obtain rfl : (0 : Int32) = r := Option.some.inj hF
        exact own_retN X hx (t := .boolean) hret hlk (by simp) (hb hby dRawMessageSecondValueStartPinLaw_isC_23) eT (v := (0 : Int32)) (by decide) ⟨rfl, N, rfl⟩ (by decide) (by decide)
    · rw [if_neg hc7] at hF
      refine own_Goes.via (B := T.setTop (mkF m 23 #[.val (.ref a1), .val (.int v1)] [(.int (0 : Int32))])) (fun t k => ?_) ?_
      · show Steps p.tables e below (T.setTop (mkF m 7 #[.val (.ref a1), .val (.int v1)] [(.int (own_sz bs_a1)), (.int v1)])) t
        refine XS.icmpYes X.here hx rfl (pc0 := 7) (pc' := 22) rfl (hb hby dRawMessageSecondValueStartPinLaw_isC_7) rfl (flt hc7).2.1 (by decide) (by decide) ?_
        show Steps p.tables e below (T.setTop (mkF m 22 #[.val (.ref a1), .val (.int v1)] [])) t
        refine XS.iconst X.here hx rfl (hb hby dRawMessageSecondValueStartPinLaw_isC_22) ?_
        exact k
      obtain rfl : (0 : Int32) = r := Option.some.inj hF
      exact own_retN X hx (t := .boolean) hret hlk (by simp) (hb hby dRawMessageSecondValueStartPinLaw_isC_23) eT (v := (0 : Int32)) (by decide) ⟨rfl, N, rfl⟩ (by decide) (by decide)
theorem ef_RawMessageSecondValueStartPinLaw_isC (m : MethodId) (x0 : Addr) (x1 : Int32) : entryFrame m #[(.ref x0), (.int x1)] 2 = mkF m 0 #[.val (.ref x0), .val (.int x1)] [] := by first | (simp [entryFrame, mkF, argsToLocals, Value.category]; done) | rfl
set_option maxRecDepth 65536 in
set_option maxHeartbeats 4000000 in
theorem rm_RawMessageSecondValueStartPinLaw_isC (l : Launch) (Z : State) (a0 : Array Value) (hw : ∀ d ∈ tables_1, d.before a0 Z = true) (ws : List Jvm.Cond) (hE : Heap) (n0 : Nat) (z : n0 ≤ hE.size) (a1 : Addr) (v1 : Int32) (bs_a1 : List Int32) (A_a1 : own_Ar Z hE a1 .byte (bs_a1.map Value.int)) (g_a1 : n0 ≤ a1) (r : Int32) (hF : (f_RawMessageSecondValueStartPinLaw_isC v1 bs_a1) = some r) :
    MetFree l (⟨"com/example/oxpecker/oxpecker/sip/RawMessageSecondValueStartPinLaw", "isC", "([BI)Z"⟩ : MethodName) (head1 (Jvm.Cond.code (⟨"com/example/oxpecker/oxpecker/sip/RawMessageSecondValueStartPinLaw", "isC", "([BI)Z"⟩ : MethodName) method_3_code 2 (some .boolean) :: ws) ({ frames := 0, cells := 0, slots := 0, locals := 0 } : Room)) (fun a U => a = #[(.ref a1), (.int v1)] ∧ Z.Warmed39 U.vm ∧ U.heap = hE) (fun _ _ _ _ _ => True) (fun _ U o U' => ∃ v L, o = .returned v ∧ (Q_RawMessageSecondValueStartPinLaw_isC Z hE n0 a1 r) v U'.heap L ∧ FrameEnd U o U' L ({ frames := 0, cells := 0, slots := 0, locals := 0 } : Room).cells ({ frames := 0, cells := 0, slots := 0, locals := 0 } : Room).slots) := by
  refine MetFree.of_bodySF (plainFor_of_name pn_com_example_oxpecker_oxpecker_sip_RawMessageSecondValueStartPinLaw) hisR ?_
  intro p e s m args below meth c s₁ Bd hml0 hP hK
  obtain ⟨rfl, hZ, hh⟩ := hP
  have X0 : Stand p l e ({ frames := 0, cells := 0, slots := 0, locals := 0 } : Room) s m #[(.ref a1), (.int v1)] below meth c s₁ [] 0 0 := Stand.of_body Bd
  have e0 : s₁.heap = hE := by rw [← hh, Bd.state]; rfl
  have cx : Cx_RawMessageSecondValueStartPinLaw_isC p s m meth c Z a0 := ⟨Bd.exec, hZ, hw, Bd.bytes, hml0, findClass_of_methodNamed Bd.named, Bd.returns, Bd.notSynchronized, (name_of_methodNamed Bd.named Bd.method).1⟩
  show own_Goes p e below s (Q_RawMessageSecondValueStartPinLaw_isC Z hE n0 a1 r) ({ frames := 0, cells := 0, slots := 0, locals := 0 } : Room).cells ({ frames := 0, cells := 0, slots := 0, locals := 0 } : Room).slots (s₁.setTop (entryFrame m #[(.ref a1), (.int v1)] 2))
  rw [ef_RawMessageSecondValueStartPinLaw_isC]
  exact b_RawMessageSecondValueStartPinLaw_isC cx a1 X0 e0 (Fr.nil n0) z v1 bs_a1 A_a1 g_a1 _ hF
/-! com/example/oxpecker/oxpecker/sip/RawMessageSecondValueStartPinLaw.free:([BIII)Z -/
def f_RawMessageSecondValueStartPinLaw_free (v1 : Int32) (v2 : Int32) (v3 : Int32) (bs_a1 : List Int32) : Option (Int32) :=
  if v1 < v2 then
    some (1 : Int32)
  else
    if v1 < v3 then
      own_bd (f_RawMessageSecondValueStartPinLaw_isC v1 bs_a1) fun r220 =>
      if r220 = (0 : Int32) then
        some (1 : Int32)
      else
        some (0 : Int32)
    else
      some (1 : Int32)
def Q_RawMessageSecondValueStartPinLaw_free (Z : State) (hE : Heap) (n0 : Nat) (a1 : Addr) (r : Int32) (v : Option Value) (h : Heap) (L : List Loc) : Prop := v = some (.int r) ∧ Fr n0 L ∧ h = hE
def Cx_RawMessageSecondValueStartPinLaw_free (p : Program) (s : State) (m : MethodId) (meth : Method) (c : Code) (Z : State) (a0 : Array Value) : Prop := p.tables.exec = Jvm.exec ∧ Z.Warmed39 s.vm ∧ (∀ d ∈ tables_1, d.before a0 Z = true) ∧ c.code = method_5_code ∧ c.maxLocals = 4 ∧ s.vm.findClass "com/example/oxpecker/oxpecker/sip/RawMessageSecondValueStartPinLaw" = some m.cls ∧ meth.sig.returnType = some .boolean ∧ meth.locks = false ∧ meth.name = "free"
set_option maxRecDepth 65536 in
set_option maxHeartbeats 4000000 in
theorem b_RawMessageSecondValueStartPinLaw_free {p : Program} {l : Launch} {e : Env} {s : State} {m : MethodId} {args : Array Value} {below : List Frame} {meth : Method} {c : Code} {Z : State} {a0 : Array Value} {n0 : Nat} {hE : Heap} (cx : Cx_RawMessageSecondValueStartPinLaw_free p s m meth c Z a0) (a1 : Addr) :
    ∀ {T : State} {locs : List Loc} (X : Stand p l e ({ frames := 1, cells := 0, slots := 0, locals := 13 } : Room) s m args below meth c T locs 0 0) (eT : T.heap = hE) (N : Fr n0 locs) (z : n0 ≤ hE.size) (v1 : Int32) (v2 : Int32) (v3 : Int32) (bs_a1 : List Int32) (A_a1 : own_Ar Z hE a1 .byte (bs_a1.map Value.int)) (g_a1 : n0 ≤ a1) (r : Int32), f_RawMessageSecondValueStartPinLaw_free v1 v2 v3 bs_a1 = some r → own_Goes p e below s (Q_RawMessageSecondValueStartPinLaw_free Z hE n0 a1 r) 0 0 (T.setTop (mkF m 0 #[.val (.ref a1), .val (.int v1), .val (.int v2), .val (.int v3)] [])) := by
  have cx' := cx
  obtain ⟨hx, hZ, hw, hby, hml, hown, hret, hlk, hnm⟩ := cx'
  intro T locs X eT N z v1 v2 v3 bs_a1 A_a1 g_a1 r hF
  unfold f_RawMessageSecondValueStartPinLaw_free at hF
  refine own_Goes.via (B := T.setTop (mkF m 2 #[.val (.ref a1), .val (.int v1), .val (.int v2), .val (.int v3)] [(.int v2), (.int v1)])) (fun t k => ?_) ?_
  · show Steps p.tables e below (T.setTop (mkF m 0 #[.val (.ref a1), .val (.int v1), .val (.int v2), .val (.int v3)] [])) t
    refine XS.iloadN X.here hx rfl (hb hby dRawMessageSecondValueStartPinLaw_free_0) rfl ?_
    show Steps p.tables e below (T.setTop (mkF m 1 #[.val (.ref a1), .val (.int v1), .val (.int v2), .val (.int v3)] [(.int v1)])) t
    refine XS.iloadN X.here hx rfl (hb hby dRawMessageSecondValueStartPinLaw_free_1) rfl ?_
    exact k
  by_cases hc2 : v1 < v2
  · rw [if_pos hc2] at hF
    refine own_Goes.via (B := T.setTop (mkF m 23 #[.val (.ref a1), .val (.int v1), .val (.int v2), .val (.int v3)] [(.int (1 : Int32))])) (fun t k => ?_) ?_
    · show Steps p.tables e below (T.setTop (mkF m 2 #[.val (.ref a1), .val (.int v1), .val (.int v2), .val (.int v3)] [(.int v2), (.int v1)])) t
      refine XS.icmpYes X.here hx rfl (pc0 := 2) (pc' := 18) rfl (hb hby dRawMessageSecondValueStartPinLaw_free_2) rfl (tlt hc2).1 (by decide) (by decide) ?_
      show Steps p.tables e below (T.setTop (mkF m 18 #[.val (.ref a1), .val (.int v1), .val (.int v2), .val (.int v3)] [])) t
      refine XS.iconst X.here hx rfl (hb hby dRawMessageSecondValueStartPinLaw_free_18) ?_
      show Steps p.tables e below (T.setTop (mkF m 19 #[.val (.ref a1), .val (.int v1), .val (.int v2), .val (.int v3)] [(.int (1 : Int32))])) t
      refine XS.goto X.here hx rfl (pc0 := 19) (pc' := 23) rfl (hb hby dRawMessageSecondValueStartPinLaw_free_19) (by decide) (by decide) ?_
      exact k
    obtain rfl : (1 : Int32) = r := Option.some.inj hF
    exact own_retN X hx (t := .boolean) hret hlk (by simp) (hb hby dRawMessageSecondValueStartPinLaw_free_23) eT (v := (1 : Int32)) (by decide) ⟨rfl, N, rfl⟩ (by decide) (by decide)
  · rw [if_neg hc2] at hF
    refine own_Goes.via (B := T.setTop (mkF m 7 #[.val (.ref a1), .val (.int v1), .val (.int v2), .val (.int v3)] [(.int v3), (.int v1)])) (fun t k => ?_) ?_
    · show Steps p.tables e below (T.setTop (mkF m 2 #[.val (.ref a1), .val (.int v1), .val (.int v2), .val (.int v3)] [(.int v2), (.int v1)])) t
      refine XS.icmpNo X.here hx rfl (hb hby dRawMessageSecondValueStartPinLaw_free_2) rfl (flt hc2).1 ?_
      show Steps p.tables e below (T.setTop (mkF m 5 #[.val (.ref a1), .val (.int v1), .val (.int v2), .val (.int v3)] [])) t
      refine XS.iloadN X.here hx rfl (hb hby dRawMessageSecondValueStartPinLaw_free_5) rfl ?_
      show Steps p.tables e below (T.setTop (mkF m 6 #[.val (.ref a1), .val (.int v1), .val (.int v2), .val (.int v3)] [(.int v1)])) t
      refine XS.iloadN X.here hx rfl (hb hby dRawMessageSecondValueStartPinLaw_free_6) rfl ?_
      exact k
    by_cases hc7 : v1 < v3
    · rw [if_pos hc7] at hF
      refine own_Goes.via (B := T.setTop (mkF m 12 #[.val (.ref a1), .val (.int v1), .val (.int v2), .val (.int v3)] [(.int v1), (.ref a1)])) (fun t k => ?_) ?_
      · show Steps p.tables e below (T.setTop (mkF m 7 #[.val (.ref a1), .val (.int v1), .val (.int v2), .val (.int v3)] [(.int v3), (.int v1)])) t
        refine XS.icmpNo X.here hx rfl (hb hby dRawMessageSecondValueStartPinLaw_free_7) rfl (tlt hc7).2.1 ?_
        show Steps p.tables e below (T.setTop (mkF m 10 #[.val (.ref a1), .val (.int v1), .val (.int v2), .val (.int v3)] [])) t
        refine XS.aloadN X.here hx rfl (hb hby dRawMessageSecondValueStartPinLaw_free_10) rfl rfl ?_
        show Steps p.tables e below (T.setTop (mkF m 11 #[.val (.ref a1), .val (.int v1), .val (.int v2), .val (.int v3)] [(.ref a1)])) t
        refine XS.iloadN X.here hx rfl (hb hby dRawMessageSecondValueStartPinLaw_free_11) rfl ?_
        exact k
      obtain ⟨r220, hr220, hF⟩ := own_bd_e hF
      obtain ⟨_, _, ⟨T220, L220, k220, n220⟩, -, X220, ⟨Lc220, hQ220, l220, y220, z220⟩, st220⟩ := Jvm.LawKit.callS X hx (y := (⟨"com/example/oxpecker/oxpecker/sip/RawMessageSecondValueStartPinLaw", "isC", "([BI)Z"⟩ : MethodName)) hown (mvT hZ (w80 hw)) (mvT hZ (w81 hw)) (mvT hZ (w3 hw)) (mvT hZ (w82 hw)) (by decide) (backOf (W := 0) (rm_RawMessageSecondValueStartPinLaw_isC l Z a0 hw [] hE n0 z a1 v1 bs_a1 A_a1 g_a1 r220 hr220) hZ (w82 hw) (w3 hw) (by decide) (by decide)) (g := (mkF m 12 #[.val (.ref a1), .val (.int v1), .val (.int v2), .val (.int v3)] [(.int v1), (.ref a1)])) rfl (by rw [hml]; rfl) (argsL := [(.ref a1), (.int v1)]) (rest := []) (lenOf pd_8 rfl) rfl (by show 2 * 0 + _ ≤ _; exact Nat.le_of_eq rfl) (hb hby dRawMessageSecondValueStartPinLaw_free_12) (fun _ _ => ⟨rfl, eT, (by decide : 0 + 0 ≤ _), (by decide : 0 + 0 ≤ _)⟩)
      dsimp only [Pt.U, Pt.locs, Pt.cells, Pt.slots] at X220 l220 y220 z220 st220 hQ220
      subst l220 y220 z220
      obtain ⟨rfl, N220q, e220⟩ := hQ220
      have N220 := Fr.app N N220q
      refine own_Goes.via st220 ?_
      show own_Goes _ _ _ _ _ _ _ (T220.setTop (mkF m 15 #[.val (.ref a1), .val (.int v1), .val (.int v2), .val (.int v3)] [(.int r220)]))
      by_cases hc15 : r220 = (0 : Int32)
      · rw [if_pos hc15] at hF
        refine own_Goes.via (B := T220.setTop (mkF m 23 #[.val (.ref a1), .val (.int v1), .val (.int v2), .val (.int v3)] [(.int (1 : Int32))])) (fun t k => ?_) ?_
        · show Steps p.tables e below (T220.setTop (mkF m 15 #[.val (.ref a1), .val (.int v1), .val (.int v2), .val (.int v3)] [(.int r220)])) t
          refine XS.ifNo X220.here hx rfl (hb hby dRawMessageSecondValueStartPinLaw_free_15) rfl ((if0 _ _).trans (teq hc15).2) ?_
          show Steps p.tables e below (T220.setTop (mkF m 18 #[.val (.ref a1), .val (.int v1), .val (.int v2), .val (.int v3)] [])) t
          refine XS.iconst X220.here hx rfl (hb hby dRawMessageSecondValueStartPinLaw_free_18) ?_
          show Steps p.tables e below (T220.setTop (mkF m 19 #[.val (.ref a1), .val (.int v1), .val (.int v2), .val (.int v3)] [(.int (1 : Int32))])) t
          refine XS.goto X220.here hx rfl (pc0 := 19) (pc' := 23) rfl (hb hby dRawMessageSecondValueStartPinLaw_free_19) (by decide) (by decide) ?_
          exact k
        obtain rfl : (1 : Int32) = r := Option.some.inj hF
        exact own_retN X220 hx (t := .boolean) hret hlk (by simp) (hb hby dRawMessageSecondValueStartPinLaw_free_23) e220 (v := (1 : Int32)) (by decide) ⟨rfl, N220, rfl⟩ (by decide) (by decide)
      · rw [if_neg hc15] at hF
        refine own_Goes.via (B := T220.setTop (mkF m 23 #[.val (.ref a1), .val (.int v1), .val (.int v2), .val (.int v3)] [(.int (0 : Int32))])) (fun t k => ?_) ?_
        · show Steps p.tables e below (T220.setTop (mkF m 15 #[.val (.ref a1), .val (.int v1), .val (.int v2), .val (.int v3)] [(.int r220)])) t
          refine XS.ifYes X220.here hx rfl (pc0 := 15) (pc' := 22) rfl (hb hby dRawMessageSecondValueStartPinLaw_free_15) rfl ((if0 _ _).trans (feq hc15).2) (by decide) (by decide) ?_
          show Steps p.tables e below (T220.setTop (mkF m 22 #[.val (.ref a1), .val (.int v1), .val (.int v2), .val (.int v3)] [])) t
          refine XS.iconst X220.here hx rfl (hb hby dRawMessageSecondValueStartPinLaw_free_22) ?_
          exact k
        obtain rfl : (0 : Int32) = r := Option.some.inj hF
        exact own_retN X220 hx (t := .boolean) hret hlk (by simp) (hb hby dRawMessageSecondValueStartPinLaw_free_23) e220 (v := (0 : Int32)) (by decide) ⟨rfl, N220, rfl⟩ (by decide) (by decide)
    · rw [if_neg hc7] at hF
      refine own_Goes.via (B := T.setTop (mkF m 23 #[.val (.ref a1), .val (.int v1), .val (.int v2), .val (.int v3)] [(.int (1 : Int32))])) (fun t k => ?_) ?_
      · show Steps p.tables e below (T.setTop (mkF m 7 #[.val (.ref a1), .val (.int v1), .val (.int v2), .val (.int v3)] [(.int v3), (.int v1)])) t
        refine XS.icmpYes X.here hx rfl (pc0 := 7) (pc' := 18) rfl (hb hby dRawMessageSecondValueStartPinLaw_free_7) rfl (flt hc7).2.1 (by decide) (by decide) ?_
        show Steps p.tables e below (T.setTop (mkF m 18 #[.val (.ref a1), .val (.int v1), .val (.int v2), .val (.int v3)] [])) t
        refine XS.iconst X.here hx rfl (hb hby dRawMessageSecondValueStartPinLaw_free_18) ?_
        show Steps p.tables e below (T.setTop (mkF m 19 #[.val (.ref a1), .val (.int v1), .val (.int v2), .val (.int v3)] [(.int (1 : Int32))])) t
        refine XS.goto X.here hx rfl (pc0 := 19) (pc' := 23) rfl (hb hby dRawMessageSecondValueStartPinLaw_free_19) (by decide) (by decide) ?_
        exact k
      obtain rfl : (1 : Int32) = r := Option.some.inj hF
      exact own_retN X hx (t := .boolean) hret hlk (by simp) (hb hby dRawMessageSecondValueStartPinLaw_free_23) eT (v := (1 : Int32)) (by decide) ⟨rfl, N, rfl⟩ (by decide) (by decide)
theorem ef_RawMessageSecondValueStartPinLaw_free (m : MethodId) (x0 : Addr) (x1 : Int32) (x2 : Int32) (x3 : Int32) : entryFrame m #[(.ref x0), (.int x1), (.int x2), (.int x3)] 4 = mkF m 0 #[.val (.ref x0), .val (.int x1), .val (.int x2), .val (.int x3)] [] := by first | (simp [entryFrame, mkF, argsToLocals, Value.category]; done) | rfl
set_option maxRecDepth 65536 in
set_option maxHeartbeats 4000000 in
theorem rm_RawMessageSecondValueStartPinLaw_free (l : Launch) (Z : State) (a0 : Array Value) (hw : ∀ d ∈ tables_1, d.before a0 Z = true) (ws : List Jvm.Cond) (hE : Heap) (n0 : Nat) (z : n0 ≤ hE.size) (a1 : Addr) (v1 : Int32) (v2 : Int32) (v3 : Int32) (bs_a1 : List Int32) (A_a1 : own_Ar Z hE a1 .byte (bs_a1.map Value.int)) (g_a1 : n0 ≤ a1) (r : Int32) (hF : (f_RawMessageSecondValueStartPinLaw_free v1 v2 v3 bs_a1) = some r) :
    MetFree l (⟨"com/example/oxpecker/oxpecker/sip/RawMessageSecondValueStartPinLaw", "free", "([BIII)Z"⟩ : MethodName) (head1 (Jvm.Cond.code (⟨"com/example/oxpecker/oxpecker/sip/RawMessageSecondValueStartPinLaw", "free", "([BIII)Z"⟩ : MethodName) method_5_code 4 (some .boolean) :: ws) ({ frames := 1, cells := 0, slots := 0, locals := 13 } : Room)) (fun a U => a = #[(.ref a1), (.int v1), (.int v2), (.int v3)] ∧ Z.Warmed39 U.vm ∧ U.heap = hE) (fun _ _ _ _ _ => True) (fun _ U o U' => ∃ v L, o = .returned v ∧ (Q_RawMessageSecondValueStartPinLaw_free Z hE n0 a1 r) v U'.heap L ∧ FrameEnd U o U' L ({ frames := 1, cells := 0, slots := 0, locals := 13 } : Room).cells ({ frames := 1, cells := 0, slots := 0, locals := 13 } : Room).slots) := by
  refine MetFree.of_bodySF (plainFor_of_name pn_com_example_oxpecker_oxpecker_sip_RawMessageSecondValueStartPinLaw) hisR ?_
  intro p e s m args below meth c s₁ Bd hml0 hP hK
  obtain ⟨rfl, hZ, hh⟩ := hP
  have X0 : Stand p l e ({ frames := 1, cells := 0, slots := 0, locals := 13 } : Room) s m #[(.ref a1), (.int v1), (.int v2), (.int v3)] below meth c s₁ [] 0 0 := Stand.of_body Bd
  have e0 : s₁.heap = hE := by rw [← hh, Bd.state]; rfl
  have cx : Cx_RawMessageSecondValueStartPinLaw_free p s m meth c Z a0 := ⟨Bd.exec, hZ, hw, Bd.bytes, hml0, findClass_of_methodNamed Bd.named, Bd.returns, Bd.notSynchronized, (name_of_methodNamed Bd.named Bd.method).1⟩
  show own_Goes p e below s (Q_RawMessageSecondValueStartPinLaw_free Z hE n0 a1 r) ({ frames := 1, cells := 0, slots := 0, locals := 13 } : Room).cells ({ frames := 1, cells := 0, slots := 0, locals := 13 } : Room).slots (s₁.setTop (entryFrame m #[(.ref a1), (.int v1), (.int v2), (.int v3)] 4))
  rw [ef_RawMessageSecondValueStartPinLaw_free]
  exact b_RawMessageSecondValueStartPinLaw_free cx a1 X0 e0 (Fr.nil n0) z v1 v2 v3 bs_a1 A_a1 g_a1 _ hF
/-! com/example/oxpecker/oxpecker/sip/RawMessageSecondValueStartPinLaw.noComma:([BII)Z -/
def f_RawMessageSecondValueStartPinLaw_noComma (v1 : Int32) (v2 : Int32) (bs_a1 : List Int32) : Option (Int32) :=
  own_bd (f_RawMessageSecondValueStartPinLaw_free (0 : Int32) v1 v2 bs_a1) fun r239 =>
  if r239 = (0 : Int32) then
    some (0 : Int32)
  else
    own_bd (f_RawMessageSecondValueStartPinLaw_free (1 : Int32) v1 v2 bs_a1) fun r240 =>
    if r240 = (0 : Int32) then
      some (0 : Int32)
    else
      own_bd (f_RawMessageSecondValueStartPinLaw_free (2 : Int32) v1 v2 bs_a1) fun r241 =>
      if r241 = (0 : Int32) then
        some (0 : Int32)
      else
        own_bd (f_RawMessageSecondValueStartPinLaw_free (3 : Int32) v1 v2 bs_a1) fun r242 =>
        if r242 = (0 : Int32) then
          some (0 : Int32)
        else
          own_bd (f_RawMessageSecondValueStartPinLaw_free (4 : Int32) v1 v2 bs_a1) fun r243 =>
          if r243 = (0 : Int32) then
            some (0 : Int32)
          else
            own_bd (f_RawMessageSecondValueStartPinLaw_free (5 : Int32) v1 v2 bs_a1) fun r244 =>
            if r244 = (0 : Int32) then
              some (0 : Int32)
            else
              some (1 : Int32)
def Q_RawMessageSecondValueStartPinLaw_noComma (Z : State) (hE : Heap) (n0 : Nat) (a1 : Addr) (r : Int32) (v : Option Value) (h : Heap) (L : List Loc) : Prop := v = some (.int r) ∧ Fr n0 L ∧ h = hE
def Cx_RawMessageSecondValueStartPinLaw_noComma (p : Program) (s : State) (m : MethodId) (meth : Method) (c : Code) (Z : State) (a0 : Array Value) : Prop := p.tables.exec = Jvm.exec ∧ Z.Warmed39 s.vm ∧ (∀ d ∈ tables_1, d.before a0 Z = true) ∧ c.code = method_6_code ∧ c.maxLocals = 3 ∧ s.vm.findClass "com/example/oxpecker/oxpecker/sip/RawMessageSecondValueStartPinLaw" = some m.cls ∧ meth.sig.returnType = some .boolean ∧ meth.locks = false ∧ meth.name = "noComma"
set_option maxRecDepth 65536 in
set_option maxHeartbeats 4000000 in
theorem b_RawMessageSecondValueStartPinLaw_noComma {p : Program} {l : Launch} {e : Env} {s : State} {m : MethodId} {args : Array Value} {below : List Frame} {meth : Method} {c : Code} {Z : State} {a0 : Array Value} {n0 : Nat} {hE : Heap} (cx : Cx_RawMessageSecondValueStartPinLaw_noComma p s m meth c Z a0) (a1 : Addr) :
    ∀ {T : State} {locs : List Loc} (X : Stand p l e ({ frames := 2, cells := 0, slots := 0, locals := 28 } : Room) s m args below meth c T locs 0 0) (eT : T.heap = hE) (N : Fr n0 locs) (z : n0 ≤ hE.size) (v1 : Int32) (v2 : Int32) (bs_a1 : List Int32) (A_a1 : own_Ar Z hE a1 .byte (bs_a1.map Value.int)) (g_a1 : n0 ≤ a1) (r : Int32), f_RawMessageSecondValueStartPinLaw_noComma v1 v2 bs_a1 = some r → own_Goes p e below s (Q_RawMessageSecondValueStartPinLaw_noComma Z hE n0 a1 r) 0 0 (T.setTop (mkF m 0 #[.val (.ref a1), .val (.int v1), .val (.int v2)] [])) := by
  have cx' := cx
  obtain ⟨hx, hZ, hw, hby, hml, hown, hret, hlk, hnm⟩ := cx'
  intro T locs X eT N z v1 v2 bs_a1 A_a1 g_a1 r hF
  unfold f_RawMessageSecondValueStartPinLaw_noComma at hF
  refine own_Goes.via (B := T.setTop (mkF m 4 #[.val (.ref a1), .val (.int v1), .val (.int v2)] [(.int v2), (.int v1), (.int (0 : Int32)), (.ref a1)])) (fun t k => ?_) ?_
  · show Steps p.tables e below (T.setTop (mkF m 0 #[.val (.ref a1), .val (.int v1), .val (.int v2)] [])) t
    refine XS.aloadN X.here hx rfl (hb hby dRawMessageSecondValueStartPinLaw_noComma_0) rfl rfl ?_
    show Steps p.tables e below (T.setTop (mkF m 1 #[.val (.ref a1), .val (.int v1), .val (.int v2)] [(.ref a1)])) t
    refine XS.iconst X.here hx rfl (hb hby dRawMessageSecondValueStartPinLaw_noComma_1) ?_
    show Steps p.tables e below (T.setTop (mkF m 2 #[.val (.ref a1), .val (.int v1), .val (.int v2)] [(.int (0 : Int32)), (.ref a1)])) t
    refine XS.iloadN X.here hx rfl (hb hby dRawMessageSecondValueStartPinLaw_noComma_2) rfl ?_
    show Steps p.tables e below (T.setTop (mkF m 3 #[.val (.ref a1), .val (.int v1), .val (.int v2)] [(.int v1), (.int (0 : Int32)), (.ref a1)])) t
    refine XS.iloadN X.here hx rfl (hb hby dRawMessageSecondValueStartPinLaw_noComma_3) rfl ?_
    exact k
  obtain ⟨r239, hr239, hF⟩ := own_bd_e hF
  obtain ⟨_, _, ⟨T239, L239, k239, n239⟩, -, X239, ⟨Lc239, hQ239, l239, y239, z239⟩, st239⟩ := Jvm.LawKit.callS X hx (y := (⟨"com/example/oxpecker/oxpecker/sip/RawMessageSecondValueStartPinLaw", "free", "([BIII)Z"⟩ : MethodName)) hown (mvT hZ (w70 hw)) (mvT hZ (w71 hw)) (mvT hZ (w3 hw)) (mvT hZ (w72 hw)) (by decide) (backOf (W := 0) (rm_RawMessageSecondValueStartPinLaw_free l Z a0 hw [] hE n0 z a1 (0 : Int32) v1 v2 bs_a1 A_a1 g_a1 r239 hr239) hZ (w72 hw) (w3 hw) (by decide) (by decide)) (g := (mkF m 4 #[.val (.ref a1), .val (.int v1), .val (.int v2)] [(.int v2), (.int v1), (.int (0 : Int32)), (.ref a1)])) rfl (by rw [hml]; rfl) (argsL := [(.ref a1), (.int (0 : Int32)), (.int v1), (.int v2)]) (rest := []) (lenOf pd_9 rfl) rfl (by show 2 * 0 + _ ≤ _; exact Nat.le_of_eq rfl) (hb hby dRawMessageSecondValueStartPinLaw_noComma_4) (fun _ _ => ⟨rfl, eT, (by decide : 0 + 0 ≤ _), (by decide : 0 + 0 ≤ _)⟩)
  dsimp only [Pt.U, Pt.locs, Pt.cells, Pt.slots] at X239 l239 y239 z239 st239 hQ239
  subst l239 y239 z239
  obtain ⟨rfl, N239q, e239⟩ := hQ239
  have N239 := Fr.app N N239q
  refine own_Goes.via st239 ?_
  show own_Goes _ _ _ _ _ _ _ (T239.setTop (mkF m 7 #[.val (.ref a1), .val (.int v1), .val (.int v2)] [(.int r239)]))
  by_cases hc7 : r239 = (0 : Int32)
  · rw [if_pos hc7] at hF
    refine own_Goes.via (B := T239.setTop (mkF m 65 #[.val (.ref a1), .val (.int v1), .val (.int v2)] [(.int (0 : Int32))])) (fun t k => ?_) ?_
    · show Steps p.tables e below (T239.setTop (mkF m 7 #[.val (.ref a1), .val (.int v1), .val (.int v2)] [(.int r239)])) t
      refine XS.ifYes X239.here hx rfl (pc0 := 7) (pc' := 64) rfl (hb hby dRawMessageSecondValueStartPinLaw_noComma_7) rfl ((if0 _ _).trans (teq hc7).1) (by decide) (by decide) ?_
      show Steps p.tables e below (T239.setTop (mkF m 64 #[.val (.ref a1), .val (.int v1), .val (.int v2)] [])) t
      refine XS.iconst X239.here hx rfl (hb hby dRawMessageSecondValueStartPinLaw_noComma_64) ?_
      exact k
    obtain rfl : (0 : Int32) = r := Option.some.inj hF
    exact own_retN X239 hx (t := .boolean) hret hlk (by simp) (hb hby dRawMessageSecondValueStartPinLaw_noComma_65) e239 (v := (0 : Int32)) (by decide) ⟨rfl, N239, rfl⟩ (by decide) (by decide)
  · rw [if_neg hc7] at hF
    refine own_Goes.via (B := T239.setTop (mkF m 14 #[.val (.ref a1), .val (.int v1), .val (.int v2)] [(.int v2), (.int v1), (.int (1 : Int32)), (.ref a1)])) (fun t k => ?_) ?_
    · show Steps p.tables e below (T239.setTop (mkF m 7 #[.val (.ref a1), .val (.int v1), .val (.int v2)] [(.int r239)])) t
      refine XS.ifNo X239.here hx rfl (hb hby dRawMessageSecondValueStartPinLaw_noComma_7) rfl ((if0 _ _).trans (feq hc7).1) ?_
      show Steps p.tables e below (T239.setTop (mkF m 10 #[.val (.ref a1), .val (.int v1), .val (.int v2)] [])) t
      refine XS.aloadN X239.here hx rfl (hb hby dRawMessageSecondValueStartPinLaw_noComma_10) rfl rfl ?_
      show Steps p.tables e below (T239.setTop (mkF m 11 #[.val (.ref a1), .val (.int v1), .val (.int v2)] [(.ref a1)])) t
      refine XS.iconst X239.here hx rfl (hb hby dRawMessageSecondValueStartPinLaw_noComma_11) ?_
      show Steps p.tables e below (T239.setTop (mkF m 12 #[.val (.ref a1), .val (.int v1), .val (.int v2)] [(.int (1 : Int32)), (.ref a1)])) t
      refine XS.iloadN X239.here hx rfl (hb hby dRawMessageSecondValueStartPinLaw_noComma_12) rfl ?_
      show Steps p.tables e below (T239.setTop (mkF m 13 #[.val (.ref a1), .val (.int v1), .val (.int v2)] [(.int v1), (.int (1 : Int32)), (.ref a1)])) t
      refine XS.iloadN X239.here hx rfl (hb hby dRawMessageSecondValueStartPinLaw_noComma_13) rfl ?_
      exact k
    obtain ⟨r240, hr240, hF⟩ := own_bd_e hF
    obtain ⟨_, _, ⟨T240, L240, k240, n240⟩, -, X240, ⟨Lc240, hQ240, l240, y240, z240⟩, st240⟩ := Jvm.LawKit.callS X239 hx (y := (⟨"com/example/oxpecker/oxpecker/sip/RawMessageSecondValueStartPinLaw", "free", "([BIII)Z"⟩ : MethodName)) hown (mvT hZ (w70 hw)) (mvT hZ (w71 hw)) (mvT hZ (w3 hw)) (mvT hZ (w72 hw)) (by decide) (backOf (W := 0) (rm_RawMessageSecondValueStartPinLaw_free l Z a0 hw [] hE n0 z a1 (1 : Int32) v1 v2 bs_a1 A_a1 g_a1 r240 hr240) hZ (w72 hw) (w3 hw) (by decide) (by decide)) (g := (mkF m 14 #[.val (.ref a1), .val (.int v1), .val (.int v2)] [(.int v2), (.int v1), (.int (1 : Int32)), (.ref a1)])) rfl (by rw [hml]; rfl) (argsL := [(.ref a1), (.int (1 : Int32)), (.int v1), (.int v2)]) (rest := []) (lenOf pd_9 rfl) rfl (by show 2 * 0 + _ ≤ _; exact Nat.le_of_eq rfl) (hb hby dRawMessageSecondValueStartPinLaw_noComma_14) (fun _ _ => ⟨rfl, e239, (by decide : 0 + 0 ≤ _), (by decide : 0 + 0 ≤ _)⟩)
    dsimp only [Pt.U, Pt.locs, Pt.cells, Pt.slots] at X240 l240 y240 z240 st240 hQ240
    subst l240 y240 z240
    obtain ⟨rfl, N240q, e240⟩ := hQ240
    have N240 := Fr.app N239 N240q
    refine own_Goes.via st240 ?_
    show own_Goes _ _ _ _ _ _ _ (T240.setTop (mkF m 17 #[.val (.ref a1), .val (.int v1), .val (.int v2)] [(.int r240)]))
    by_cases hc17 : r240 = (0 : Int32)
    · rw [if_pos hc17] at hF
      refine own_Goes.via (B := T240.setTop (mkF m 65 #[.val (.ref a1), .val (.int v1), .val (.int v2)] [(.int (0 : Int32))])) (fun t k => ?_) ?_
      · show Steps p.tables e below (T240.setTop (mkF m 17 #[.val (.ref a1), .val (.int v1), .val (.int v2)] [(.int r240)])) t
        refine XS.ifYes X240.here hx rfl (pc0 := 17) (pc' := 64) rfl (hb hby dRawMessageSecondValueStartPinLaw_noComma_17) rfl ((if0 _ _).trans (teq hc17).1) (by decide) (by decide) ?_
        show Steps p.tables e below (T240.setTop (mkF m 64 #[.val (.ref a1), .val (.int v1), .val (.int v2)] [])) t
        refine XS.iconst X240.here hx rfl (hb hby dRawMessageSecondValueStartPinLaw_noComma_64) ?_
        exact k
      obtain rfl : (0 : Int32) = r := Option.some.inj hF
      exact own_retN X240 hx (t := .boolean) hret hlk (by simp) (hb hby dRawMessageSecondValueStartPinLaw_noComma_65) e240 (v := (0 : Int32)) (by decide) ⟨rfl, N240, rfl⟩ (by decide) (by decide)
    · rw [if_neg hc17] at hF
      refine own_Goes.via (B := T240.setTop (mkF m 24 #[.val (.ref a1), .val (.int v1), .val (.int v2)] [(.int v2), (.int v1), (.int (2 : Int32)), (.ref a1)])) (fun t k => ?_) ?_
      · show Steps p.tables e below (T240.setTop (mkF m 17 #[.val (.ref a1), .val (.int v1), .val (.int v2)] [(.int r240)])) t
        refine XS.ifNo X240.here hx rfl (hb hby dRawMessageSecondValueStartPinLaw_noComma_17) rfl ((if0 _ _).trans (feq hc17).1) ?_
        show Steps p.tables e below (T240.setTop (mkF m 20 #[.val (.ref a1), .val (.int v1), .val (.int v2)] [])) t
        refine XS.aloadN X240.here hx rfl (hb hby dRawMessageSecondValueStartPinLaw_noComma_20) rfl rfl ?_
        show Steps p.tables e below (T240.setTop (mkF m 21 #[.val (.ref a1), .val (.int v1), .val (.int v2)] [(.ref a1)])) t
        refine XS.iconst X240.here hx rfl (hb hby dRawMessageSecondValueStartPinLaw_noComma_21) ?_
        show Steps p.tables e below (T240.setTop (mkF m 22 #[.val (.ref a1), .val (.int v1), .val (.int v2)] [(.int (2 : Int32)), (.ref a1)])) t
        refine XS.iloadN X240.here hx rfl (hb hby dRawMessageSecondValueStartPinLaw_noComma_22) rfl ?_
        show Steps p.tables e below (T240.setTop (mkF m 23 #[.val (.ref a1), .val (.int v1), .val (.int v2)] [(.int v1), (.int (2 : Int32)), (.ref a1)])) t
        refine XS.iloadN X240.here hx rfl (hb hby dRawMessageSecondValueStartPinLaw_noComma_23) rfl ?_
        exact k
      obtain ⟨r241, hr241, hF⟩ := own_bd_e hF
      obtain ⟨_, _, ⟨T241, L241, k241, n241⟩, -, X241, ⟨Lc241, hQ241, l241, y241, z241⟩, st241⟩ := Jvm.LawKit.callS X240 hx (y := (⟨"com/example/oxpecker/oxpecker/sip/RawMessageSecondValueStartPinLaw", "free", "([BIII)Z"⟩ : MethodName)) hown (mvT hZ (w70 hw)) (mvT hZ (w71 hw)) (mvT hZ (w3 hw)) (mvT hZ (w72 hw)) (by decide) (backOf (W := 0) (rm_RawMessageSecondValueStartPinLaw_free l Z a0 hw [] hE n0 z a1 (2 : Int32) v1 v2 bs_a1 A_a1 g_a1 r241 hr241) hZ (w72 hw) (w3 hw) (by decide) (by decide)) (g := (mkF m 24 #[.val (.ref a1), .val (.int v1), .val (.int v2)] [(.int v2), (.int v1), (.int (2 : Int32)), (.ref a1)])) rfl (by rw [hml]; rfl) (argsL := [(.ref a1), (.int (2 : Int32)), (.int v1), (.int v2)]) (rest := []) (lenOf pd_9 rfl) rfl (by show 2 * 0 + _ ≤ _; exact Nat.le_of_eq rfl) (hb hby dRawMessageSecondValueStartPinLaw_noComma_24) (fun _ _ => ⟨rfl, e240, (by decide : 0 + 0 ≤ _), (by decide : 0 + 0 ≤ _)⟩)
      dsimp only [Pt.U, Pt.locs, Pt.cells, Pt.slots] at X241 l241 y241 z241 st241 hQ241
      subst l241 y241 z241
      obtain ⟨rfl, N241q, e241⟩ := hQ241
      have N241 := Fr.app N240 N241q
      refine own_Goes.via st241 ?_
      show own_Goes _ _ _ _ _ _ _ (T241.setTop (mkF m 27 #[.val (.ref a1), .val (.int v1), .val (.int v2)] [(.int r241)]))
      by_cases hc27 : r241 = (0 : Int32)
      · rw [if_pos hc27] at hF
        refine own_Goes.via (B := T241.setTop (mkF m 65 #[.val (.ref a1), .val (.int v1), .val (.int v2)] [(.int (0 : Int32))])) (fun t k => ?_) ?_
        · show Steps p.tables e below (T241.setTop (mkF m 27 #[.val (.ref a1), .val (.int v1), .val (.int v2)] [(.int r241)])) t
          refine XS.ifYes X241.here hx rfl (pc0 := 27) (pc' := 64) rfl (hb hby dRawMessageSecondValueStartPinLaw_noComma_27) rfl ((if0 _ _).trans (teq hc27).1) (by decide) (by decide) ?_
          show Steps p.tables e below (T241.setTop (mkF m 64 #[.val (.ref a1), .val (.int v1), .val (.int v2)] [])) t
          refine XS.iconst X241.here hx rfl (hb hby dRawMessageSecondValueStartPinLaw_noComma_64) ?_
          exact k
        obtain rfl : (0 : Int32) = r := Option.some.inj hF
        exact own_retN X241 hx (t := .boolean) hret hlk (by simp) (hb hby dRawMessageSecondValueStartPinLaw_noComma_65) e241 (v := (0 : Int32)) (by decide) ⟨rfl, N241, rfl⟩ (by decide) (by decide)
      · rw [if_neg hc27] at hF
        refine own_Goes.via (B := T241.setTop (mkF m 34 #[.val (.ref a1), .val (.int v1), .val (.int v2)] [(.int v2), (.int v1), (.int (3 : Int32)), (.ref a1)])) (fun t k => ?_) ?_
        · show Steps p.tables e below (T241.setTop (mkF m 27 #[.val (.ref a1), .val (.int v1), .val (.int v2)] [(.int r241)])) t
          refine XS.ifNo X241.here hx rfl (hb hby dRawMessageSecondValueStartPinLaw_noComma_27) rfl ((if0 _ _).trans (feq hc27).1) ?_
          show Steps p.tables e below (T241.setTop (mkF m 30 #[.val (.ref a1), .val (.int v1), .val (.int v2)] [])) t
          refine XS.aloadN X241.here hx rfl (hb hby dRawMessageSecondValueStartPinLaw_noComma_30) rfl rfl ?_
          show Steps p.tables e below (T241.setTop (mkF m 31 #[.val (.ref a1), .val (.int v1), .val (.int v2)] [(.ref a1)])) t
          refine XS.iconst X241.here hx rfl (hb hby dRawMessageSecondValueStartPinLaw_noComma_31) ?_
          show Steps p.tables e below (T241.setTop (mkF m 32 #[.val (.ref a1), .val (.int v1), .val (.int v2)] [(.int (3 : Int32)), (.ref a1)])) t
          refine XS.iloadN X241.here hx rfl (hb hby dRawMessageSecondValueStartPinLaw_noComma_32) rfl ?_
          show Steps p.tables e below (T241.setTop (mkF m 33 #[.val (.ref a1), .val (.int v1), .val (.int v2)] [(.int v1), (.int (3 : Int32)), (.ref a1)])) t
          refine XS.iloadN X241.here hx rfl (hb hby dRawMessageSecondValueStartPinLaw_noComma_33) rfl ?_
          exact k
        obtain ⟨r242, hr242, hF⟩ := own_bd_e hF
        obtain ⟨_, _, ⟨T242, L242, k242, n242⟩, -, X242, ⟨Lc242, hQ242, l242, y242, z242⟩, st242⟩ := Jvm.LawKit.callS X241 hx (y := (⟨"com/example/oxpecker/oxpecker/sip/RawMessageSecondValueStartPinLaw", "free", "([BIII)Z"⟩ : MethodName)) hown (mvT hZ (w70 hw)) (mvT hZ (w71 hw)) (mvT hZ (w3 hw)) (mvT hZ (w72 hw)) (by decide) (backOf (W := 0) (rm_RawMessageSecondValueStartPinLaw_free l Z a0 hw [] hE n0 z a1 (3 : Int32) v1 v2 bs_a1 A_a1 g_a1 r242 hr242) hZ (w72 hw) (w3 hw) (by decide) (by decide)) (g := (mkF m 34 #[.val (.ref a1), .val (.int v1), .val (.int v2)] [(.int v2), (.int v1), (.int (3 : Int32)), (.ref a1)])) rfl (by rw [hml]; rfl) (argsL := [(.ref a1), (.int (3 : Int32)), (.int v1), (.int v2)]) (rest := []) (lenOf pd_9 rfl) rfl (by show 2 * 0 + _ ≤ _; exact Nat.le_of_eq rfl) (hb hby dRawMessageSecondValueStartPinLaw_noComma_34) (fun _ _ => ⟨rfl, e241, (by decide : 0 + 0 ≤ _), (by decide : 0 + 0 ≤ _)⟩)
        dsimp only [Pt.U, Pt.locs, Pt.cells, Pt.slots] at X242 l242 y242 z242 st242 hQ242
        subst l242 y242 z242
        obtain ⟨rfl, N242q, e242⟩ := hQ242
        have N242 := Fr.app N241 N242q
        refine own_Goes.via st242 ?_
        show own_Goes _ _ _ _ _ _ _ (T242.setTop (mkF m 37 #[.val (.ref a1), .val (.int v1), .val (.int v2)] [(.int r242)]))
        by_cases hc37 : r242 = (0 : Int32)
        · rw [if_pos hc37] at hF
          refine own_Goes.via (B := T242.setTop (mkF m 65 #[.val (.ref a1), .val (.int v1), .val (.int v2)] [(.int (0 : Int32))])) (fun t k => ?_) ?_
          · show Steps p.tables e below (T242.setTop (mkF m 37 #[.val (.ref a1), .val (.int v1), .val (.int v2)] [(.int r242)])) t
            refine XS.ifYes X242.here hx rfl (pc0 := 37) (pc' := 64) rfl (hb hby dRawMessageSecondValueStartPinLaw_noComma_37) rfl ((if0 _ _).trans (teq hc37).1) (by decide) (by decide) ?_
            show Steps p.tables e below (T242.setTop (mkF m 64 #[.val (.ref a1), .val (.int v1), .val (.int v2)] [])) t
            refine XS.iconst X242.here hx rfl (hb hby dRawMessageSecondValueStartPinLaw_noComma_64) ?_
            exact k
          obtain rfl : (0 : Int32) = r := Option.some.inj hF
          exact own_retN X242 hx (t := .boolean) hret hlk (by simp) (hb hby dRawMessageSecondValueStartPinLaw_noComma_65) e242 (v := (0 : Int32)) (by decide) ⟨rfl, N242, rfl⟩ (by decide) (by decide)
        · rw [if_neg hc37] at hF
          refine own_Goes.via (B := T242.setTop (mkF m 44 #[.val (.ref a1), .val (.int v1), .val (.int v2)] [(.int v2), (.int v1), (.int (4 : Int32)), (.ref a1)])) (fun t k => ?_) ?_
          · show Steps p.tables e below (T242.setTop (mkF m 37 #[.val (.ref a1), .val (.int v1), .val (.int v2)] [(.int r242)])) t
            refine XS.ifNo X242.here hx rfl (hb hby dRawMessageSecondValueStartPinLaw_noComma_37) rfl ((if0 _ _).trans (feq hc37).1) ?_
            show Steps p.tables e below (T242.setTop (mkF m 40 #[.val (.ref a1), .val (.int v1), .val (.int v2)] [])) t
            refine XS.aloadN X242.here hx rfl (hb hby dRawMessageSecondValueStartPinLaw_noComma_40) rfl rfl ?_
            show Steps p.tables e below (T242.setTop (mkF m 41 #[.val (.ref a1), .val (.int v1), .val (.int v2)] [(.ref a1)])) t
            refine XS.iconst X242.here hx rfl (hb hby dRawMessageSecondValueStartPinLaw_noComma_41) ?_
            show Steps p.tables e below (T242.setTop (mkF m 42 #[.val (.ref a1), .val (.int v1), .val (.int v2)] [(.int (4 : Int32)), (.ref a1)])) t
            refine XS.iloadN X242.here hx rfl (hb hby dRawMessageSecondValueStartPinLaw_noComma_42) rfl ?_
            show Steps p.tables e below (T242.setTop (mkF m 43 #[.val (.ref a1), .val (.int v1), .val (.int v2)] [(.int v1), (.int (4 : Int32)), (.ref a1)])) t
            refine XS.iloadN X242.here hx rfl (hb hby dRawMessageSecondValueStartPinLaw_noComma_43) rfl ?_
            exact k
          obtain ⟨r243, hr243, hF⟩ := own_bd_e hF
          obtain ⟨_, _, ⟨T243, L243, k243, n243⟩, -, X243, ⟨Lc243, hQ243, l243, y243, z243⟩, st243⟩ := Jvm.LawKit.callS X242 hx (y := (⟨"com/example/oxpecker/oxpecker/sip/RawMessageSecondValueStartPinLaw", "free", "([BIII)Z"⟩ : MethodName)) hown (mvT hZ (w70 hw)) (mvT hZ (w71 hw)) (mvT hZ (w3 hw)) (mvT hZ (w72 hw)) (by decide) (backOf (W := 0) (rm_RawMessageSecondValueStartPinLaw_free l Z a0 hw [] hE n0 z a1 (4 : Int32) v1 v2 bs_a1 A_a1 g_a1 r243 hr243) hZ (w72 hw) (w3 hw) (by decide) (by decide)) (g := (mkF m 44 #[.val (.ref a1), .val (.int v1), .val (.int v2)] [(.int v2), (.int v1), (.int (4 : Int32)), (.ref a1)])) rfl (by rw [hml]; rfl) (argsL := [(.ref a1), (.int (4 : Int32)), (.int v1), (.int v2)]) (rest := []) (lenOf pd_9 rfl) rfl (by show 2 * 0 + _ ≤ _; exact Nat.le_of_eq rfl) (hb hby dRawMessageSecondValueStartPinLaw_noComma_44) (fun _ _ => ⟨rfl, e242, (by decide : 0 + 0 ≤ _), (by decide : 0 + 0 ≤ _)⟩)
          dsimp only [Pt.U, Pt.locs, Pt.cells, Pt.slots] at X243 l243 y243 z243 st243 hQ243
          subst l243 y243 z243
          obtain ⟨rfl, N243q, e243⟩ := hQ243
          have N243 := Fr.app N242 N243q
          refine own_Goes.via st243 ?_
          show own_Goes _ _ _ _ _ _ _ (T243.setTop (mkF m 47 #[.val (.ref a1), .val (.int v1), .val (.int v2)] [(.int r243)]))
          by_cases hc47 : r243 = (0 : Int32)
          · rw [if_pos hc47] at hF
            refine own_Goes.via (B := T243.setTop (mkF m 65 #[.val (.ref a1), .val (.int v1), .val (.int v2)] [(.int (0 : Int32))])) (fun t k => ?_) ?_
            · show Steps p.tables e below (T243.setTop (mkF m 47 #[.val (.ref a1), .val (.int v1), .val (.int v2)] [(.int r243)])) t
              refine XS.ifYes X243.here hx rfl (pc0 := 47) (pc' := 64) rfl (hb hby dRawMessageSecondValueStartPinLaw_noComma_47) rfl ((if0 _ _).trans (teq hc47).1) (by decide) (by decide) ?_
              show Steps p.tables e below (T243.setTop (mkF m 64 #[.val (.ref a1), .val (.int v1), .val (.int v2)] [])) t
              refine XS.iconst X243.here hx rfl (hb hby dRawMessageSecondValueStartPinLaw_noComma_64) ?_
              exact k
            obtain rfl : (0 : Int32) = r := Option.some.inj hF
            exact own_retN X243 hx (t := .boolean) hret hlk (by simp) (hb hby dRawMessageSecondValueStartPinLaw_noComma_65) e243 (v := (0 : Int32)) (by decide) ⟨rfl, N243, rfl⟩ (by decide) (by decide)
          · rw [if_neg hc47] at hF
            refine own_Goes.via (B := T243.setTop (mkF m 54 #[.val (.ref a1), .val (.int v1), .val (.int v2)] [(.int v2), (.int v1), (.int (5 : Int32)), (.ref a1)])) (fun t k => ?_) ?_
            · show Steps p.tables e below (T243.setTop (mkF m 47 #[.val (.ref a1), .val (.int v1), .val (.int v2)] [(.int r243)])) t
              refine XS.ifNo X243.here hx rfl (hb hby dRawMessageSecondValueStartPinLaw_noComma_47) rfl ((if0 _ _).trans (feq hc47).1) ?_
              show Steps p.tables e below (T243.setTop (mkF m 50 #[.val (.ref a1), .val (.int v1), .val (.int v2)] [])) t
              refine XS.aloadN X243.here hx rfl (hb hby dRawMessageSecondValueStartPinLaw_noComma_50) rfl rfl ?_
              show Steps p.tables e below (T243.setTop (mkF m 51 #[.val (.ref a1), .val (.int v1), .val (.int v2)] [(.ref a1)])) t
              refine XS.iconst X243.here hx rfl (hb hby dRawMessageSecondValueStartPinLaw_noComma_51) ?_
              show Steps p.tables e below (T243.setTop (mkF m 52 #[.val (.ref a1), .val (.int v1), .val (.int v2)] [(.int (5 : Int32)), (.ref a1)])) t
              refine XS.iloadN X243.here hx rfl (hb hby dRawMessageSecondValueStartPinLaw_noComma_52) rfl ?_
              show Steps p.tables e below (T243.setTop (mkF m 53 #[.val (.ref a1), .val (.int v1), .val (.int v2)] [(.int v1), (.int (5 : Int32)), (.ref a1)])) t
              refine XS.iloadN X243.here hx rfl (hb hby dRawMessageSecondValueStartPinLaw_noComma_53) rfl ?_
              exact k
            obtain ⟨r244, hr244, hF⟩ := own_bd_e hF
            obtain ⟨_, _, ⟨T244, L244, k244, n244⟩, -, X244, ⟨Lc244, hQ244, l244, y244, z244⟩, st244⟩ := Jvm.LawKit.callS X243 hx (y := (⟨"com/example/oxpecker/oxpecker/sip/RawMessageSecondValueStartPinLaw", "free", "([BIII)Z"⟩ : MethodName)) hown (mvT hZ (w70 hw)) (mvT hZ (w71 hw)) (mvT hZ (w3 hw)) (mvT hZ (w72 hw)) (by decide) (backOf (W := 0) (rm_RawMessageSecondValueStartPinLaw_free l Z a0 hw [] hE n0 z a1 (5 : Int32) v1 v2 bs_a1 A_a1 g_a1 r244 hr244) hZ (w72 hw) (w3 hw) (by decide) (by decide)) (g := (mkF m 54 #[.val (.ref a1), .val (.int v1), .val (.int v2)] [(.int v2), (.int v1), (.int (5 : Int32)), (.ref a1)])) rfl (by rw [hml]; rfl) (argsL := [(.ref a1), (.int (5 : Int32)), (.int v1), (.int v2)]) (rest := []) (lenOf pd_9 rfl) rfl (by show 2 * 0 + _ ≤ _; exact Nat.le_of_eq rfl) (hb hby dRawMessageSecondValueStartPinLaw_noComma_54) (fun _ _ => ⟨rfl, e243, (by decide : 0 + 0 ≤ _), (by decide : 0 + 0 ≤ _)⟩)
            dsimp only [Pt.U, Pt.locs, Pt.cells, Pt.slots] at X244 l244 y244 z244 st244 hQ244
            subst l244 y244 z244
            obtain ⟨rfl, N244q, e244⟩ := hQ244
            have N244 := Fr.app N243 N244q
            refine own_Goes.via st244 ?_
            show own_Goes _ _ _ _ _ _ _ (T244.setTop (mkF m 57 #[.val (.ref a1), .val (.int v1), .val (.int v2)] [(.int r244)]))
            by_cases hc57 : r244 = (0 : Int32)
            · rw [if_pos hc57] at hF
              refine own_Goes.via (B := T244.setTop (mkF m 65 #[.val (.ref a1), .val (.int v1), .val (.int v2)] [(.int (0 : Int32))])) (fun t k => ?_) ?_
              · show Steps p.tables e below (T244.setTop (mkF m 57 #[.val (.ref a1), .val (.int v1), .val (.int v2)] [(.int r244)])) t
                refine XS.ifYes X244.here hx rfl (pc0 := 57) (pc' := 64) rfl (hb hby dRawMessageSecondValueStartPinLaw_noComma_57) rfl ((if0 _ _).trans (teq hc57).1) (by decide) (by decide) ?_
                show Steps p.tables e below (T244.setTop (mkF m 64 #[.val (.ref a1), .val (.int v1), .val (.int v2)] [])) t
                refine XS.iconst X244.here hx rfl (hb hby dRawMessageSecondValueStartPinLaw_noComma_64) ?_
                exact k
              obtain rfl : (0 : Int32) = r := Option.some.inj hF
              exact own_retN X244 hx (t := .boolean) hret hlk (by simp) (hb hby dRawMessageSecondValueStartPinLaw_noComma_65) e244 (v := (0 : Int32)) (by decide) ⟨rfl, N244, rfl⟩ (by decide) (by decide)
            · rw [if_neg hc57] at hF
              refine own_Goes.via (B := T244.setTop (mkF m 65 #[.val (.ref a1), .val (.int v1), .val (.int v2)] [(.int (1 : Int32))])) (fun t k => ?_) ?_
              · show Steps p.tables e below (T244.setTop (mkF m 57 #[.val (.ref a1), .val (.int v1), .val (.int v2)] [(.int r244)])) t
                refine XS.ifNo X244.here hx rfl (hb hby dRawMessageSecondValueStartPinLaw_noComma_57) rfl ((if0 _ _).trans (feq hc57).1) ?_
                show Steps p.tables e below (T244.setTop (mkF m 60 #[.val (.ref a1), .val (.int v1), .val (.int v2)] [])) t
                refine XS.iconst X244.here hx rfl (hb hby dRawMessageSecondValueStartPinLaw_noComma_60) ?_
                show Steps p.tables e below (T244.setTop (mkF m 61 #[.val (.ref a1), .val (.int v1), .val (.int v2)] [(.int (1 : Int32))])) t
                refine XS.goto X244.here hx rfl (pc0 := 61) (pc' := 65) rfl (hb hby dRawMessageSecondValueStartPinLaw_noComma_61) (by decide) (by decide) ?_
                exact k
              obtain rfl : (1 : Int32) = r := Option.some.inj hF
              exact own_retN X244 hx (t := .boolean) hret hlk (by simp) (hb hby dRawMessageSecondValueStartPinLaw_noComma_65) e244 (v := (1 : Int32)) (by decide) ⟨rfl, N244, rfl⟩ (by decide) (by decide)
theorem ef_RawMessageSecondValueStartPinLaw_noComma (m : MethodId) (x0 : Addr) (x1 : Int32) (x2 : Int32) : entryFrame m #[(.ref x0), (.int x1), (.int x2)] 3 = mkF m 0 #[.val (.ref x0), .val (.int x1), .val (.int x2)] [] := by first | (simp [entryFrame, mkF, argsToLocals, Value.category]; done) | rfl
set_option maxRecDepth 65536 in
set_option maxHeartbeats 4000000 in
theorem rm_RawMessageSecondValueStartPinLaw_noComma (l : Launch) (Z : State) (a0 : Array Value) (hw : ∀ d ∈ tables_1, d.before a0 Z = true) (ws : List Jvm.Cond) (hE : Heap) (n0 : Nat) (z : n0 ≤ hE.size) (a1 : Addr) (v1 : Int32) (v2 : Int32) (bs_a1 : List Int32) (A_a1 : own_Ar Z hE a1 .byte (bs_a1.map Value.int)) (g_a1 : n0 ≤ a1) (r : Int32) (hF : (f_RawMessageSecondValueStartPinLaw_noComma v1 v2 bs_a1) = some r) :
    MetFree l (⟨"com/example/oxpecker/oxpecker/sip/RawMessageSecondValueStartPinLaw", "noComma", "([BII)Z"⟩ : MethodName) (head1 (Jvm.Cond.code (⟨"com/example/oxpecker/oxpecker/sip/RawMessageSecondValueStartPinLaw", "noComma", "([BII)Z"⟩ : MethodName) method_6_code 3 (some .boolean) :: ws) ({ frames := 2, cells := 0, slots := 0, locals := 28 } : Room)) (fun a U => a = #[(.ref a1), (.int v1), (.int v2)] ∧ Z.Warmed39 U.vm ∧ U.heap = hE) (fun _ _ _ _ _ => True) (fun _ U o U' => ∃ v L, o = .returned v ∧ (Q_RawMessageSecondValueStartPinLaw_noComma Z hE n0 a1 r) v U'.heap L ∧ FrameEnd U o U' L ({ frames := 2, cells := 0, slots := 0, locals := 28 } : Room).cells ({ frames := 2, cells := 0, slots := 0, locals := 28 } : Room).slots) := by
  refine MetFree.of_bodySF (plainFor_of_name pn_com_example_oxpecker_oxpecker_sip_RawMessageSecondValueStartPinLaw) hisR ?_
  intro p e s m args below meth c s₁ Bd hml0 hP hK
  obtain ⟨rfl, hZ, hh⟩ := hP
  have X0 : Stand p l e ({ frames := 2, cells := 0, slots := 0, locals := 28 } : Room) s m #[(.ref a1), (.int v1), (.int v2)] below meth c s₁ [] 0 0 := Stand.of_body Bd
  have e0 : s₁.heap = hE := by rw [← hh, Bd.state]; rfl
  have cx : Cx_RawMessageSecondValueStartPinLaw_noComma p s m meth c Z a0 := ⟨Bd.exec, hZ, hw, Bd.bytes, hml0, findClass_of_methodNamed Bd.named, Bd.returns, Bd.notSynchronized, (name_of_methodNamed Bd.named Bd.method).1⟩
  show own_Goes p e below s (Q_RawMessageSecondValueStartPinLaw_noComma Z hE n0 a1 r) ({ frames := 2, cells := 0, slots := 0, locals := 28 } : Room).cells ({ frames := 2, cells := 0, slots := 0, locals := 28 } : Room).slots (s₁.setTop (entryFrame m #[(.ref a1), (.int v1), (.int v2)] 3))
  rw [ef_RawMessageSecondValueStartPinLaw_noComma]
  exact b_RawMessageSecondValueStartPinLaw_noComma cx a1 X0 e0 (Fr.nil n0) z v1 v2 bs_a1 A_a1 g_a1 _ hF
/-! com/example/oxpecker/oxpecker/sip/RawMessageSecondValueStartPinLaw.isBl:([BI)Z -/
def f_RawMessageSecondValueStartPinLaw_isBl (v1 : Int32) (bs_a1 : List Int32) : Option (Int32) :=
  if v1 < (0 : Int32) then
    some (0 : Int32)
  else
    if v1 < (own_sz bs_a1) then
      own_ck (own_inb bs_a1 v1) <|
      if (own_rd bs_a1 v1) = (32 : Int32) then
        some (1 : Int32)
      else
        own_ck (own_inb bs_a1 v1) <|
        if (own_rd bs_a1 v1) = (9 : Int32) then
          some (1 : Int32)
        else
          some (0 : Int32)
    else
      some (0 : Int32)
def Q_RawMessageSecondValueStartPinLaw_isBl (Z : State) (hE : Heap) (n0 : Nat) (a1 : Addr) (r : Int32) (v : Option Value) (h : Heap) (L : List Loc) : Prop := v = some (.int r) ∧ Fr n0 L ∧ h = hE
def Cx_RawMessageSecondValueStartPinLaw_isBl (p : Program) (s : State) (m : MethodId) (meth : Method) (c : Code) (Z : State) (a0 : Array Value) : Prop := p.tables.exec = Jvm.exec ∧ Z.Warmed39 s.vm ∧ (∀ d ∈ tables_1, d.before a0 Z = true) ∧ c.code = method_4_code ∧ c.maxLocals = 2 ∧ s.vm.findClass "com/example/oxpecker/oxpecker/sip/RawMessageSecondValueStartPinLaw" = some m.cls ∧ meth.sig.returnType = some .boolean ∧ meth.locks = false ∧ meth.name = "isBl"
set_option maxRecDepth 65536 in
set_option maxHeartbeats 4000000 in
theorem b_RawMessageSecondValueStartPinLaw_isBl {p : Program} {l : Launch} {e : Env} {s : State} {m : MethodId} {args : Array Value} {below : List Frame} {meth : Method} {c : Code} {Z : State} {a0 : Array Value} {n0 : Nat} {hE : Heap} (cx : Cx_RawMessageSecondValueStartPinLaw_isBl p s m meth c Z a0) (a1 : Addr) :
    ∀ {T : State} {locs : List Loc} (X : Stand p l e ({ frames := 0, cells := 0, slots := 0, locals := 0 } : Room) s m args below meth c T locs 0 0) (eT : T.heap = hE) (N : Fr n0 locs) (z : n0 ≤ hE.size) (v1 : Int32) (bs_a1 : List Int32) (A_a1 : own_Ar Z hE a1 .byte (bs_a1.map Value.int)) (g_a1 : n0 ≤ a1) (r : Int32), f_RawMessageSecondValueStartPinLaw_isBl v1 bs_a1 = some r → own_Goes p e below s (Q_RawMessageSecondValueStartPinLaw_isBl Z hE n0 a1 r) 0 0 (T.setTop (mkF m 0 #[.val (.ref a1), .val (.int v1)] [])) := by
  have cx' := cx
  obtain ⟨hx, hZ, hw, hby, hml, hown, hret, hlk, hnm⟩ := cx'
  intro T locs X eT N z v1 bs_a1 A_a1 g_a1 r hF
  unfold f_RawMessageSecondValueStartPinLaw_isBl at hF
  refine own_Goes.via (B := T.setTop (mkF m 1 #[.val (.ref a1), .val (.int v1)] [(.int v1)])) (fun t k => ?_) ?_
  · show Steps p.tables e below (T.setTop (mkF m 0 #[.val (.ref a1), .val (.int v1)] [])) t
    refine XS.iloadN X.here hx rfl (hb hby dRawMessageSecondValueStartPinLaw_isBl_0) rfl ?_
    exact k
  by_cases hc1 : v1 < (0 : Int32)
  · rw [if_pos hc1] at hF
    refine own_Goes.via (B := T.setTop (mkF m 31 #[.val (.ref a1), .val (.int v1)] [(.int (0 : Int32))])) (fun t k => ?_) ?_
    · show Steps p.tables e below (T.setTop (mkF m 1 #[.val (.ref a1), .val (.int v1)] [(.int v1)])) t
      refine XS.ifYes X.here hx rfl (pc0 := 1) (pc' := 30) rfl (hb hby dRawMessageSecondValueStartPinLaw_isBl_1) rfl ((if0 _ _).trans (tlt hc1).1) (by decide) (by decide) ?_
      show Steps p.tables e below (T.setTop (mkF m 30 #[.val (.ref a1), .val (.int v1)] [])) t
      refine XS.iconst X.here hx rfl (hb hby dRawMessageSecondValueStartPinLaw_isBl_30) ?_
      exact k
    obtain rfl : (0 : Int32) = r := Option.some.inj hF
    exact own_retN X hx (t := .boolean) hret hlk (by simp) (hb hby dRawMessageSecondValueStartPinLaw_isBl_31) eT (v := (0 : Int32)) (by decide) ⟨rfl, N, rfl⟩ (by decide) (by decide)
  · rw [if_neg hc1] at hF
    refine own_Goes.via (B := T.setTop (mkF m 7 #[.val (.ref a1), .val (.int v1)] [(.int (own_sz bs_a1)), (.int v1)])) (fun t k => ?_) ?_
    · show Steps p.tables e below (T.setTop (mkF m 1 #[.val (.ref a1), .val (.int v1)] [(.int v1)])) t
      refine XS.ifNo X.here hx rfl (hb hby dRawMessageSecondValueStartPinLaw_isBl_1) rfl ((if0 _ _).trans (flt hc1).1) ?_
      show Steps p.tables e below (T.setTop (mkF m 4 #[.val (.ref a1), .val (.int v1)] [])) t
      refine XS.iloadN X.here hx rfl (hb hby dRawMessageSecondValueStartPinLaw_isBl_4) rfl ?_
      show Steps p.tables e below (T.setTop (mkF m 5 #[.val (.ref a1), .val (.int v1)] [(.int v1)])) t
      refine XS.aloadN X.here hx rfl (hb hby dRawMessageSecondValueStartPinLaw_isBl_5) rfl rfl ?_
      show Steps p.tables e below (T.setTop (mkF m 6 #[.val (.ref a1), .val (.int v1)] [(.ref a1), (.int v1)])) t
      refine own_len X hx hZ eT A_a1 (g := (mkF m 6 #[.val (.ref a1), .val (.int v1)] [(.ref a1), (.int v1)])) rfl rfl (hb hby dRawMessageSecondValueStartPinLaw_isBl_6) ?_
      exact k
    by_cases hc7 : v1 < (own_sz bs_a1)
    · rw [if_pos hc7] at hF
      refine own_Goes.via (B := T.setTop (mkF m 12 #[.val (.ref a1), .val (.int v1)] [(.int v1), (.ref a1)])) (fun t k => ?_) ?_
      · show Steps p.tables e below (T.setTop (mkF m 7 #[.val (.ref a1), .val (.int v1)] [(.int (own_sz bs_a1)), (.int v1)])) t
        refine XS.icmpNo X.here hx rfl (hb hby dRawMessageSecondValueStartPinLaw_isBl_7) rfl (tlt hc7).2.1 ?_
        show Steps p.tables e below (T.setTop (mkF m 10 #[.val (.ref a1), .val (.int v1)] [])) t
        refine XS.aloadN X.here hx rfl (hb hby dRawMessageSecondValueStartPinLaw_isBl_10) rfl rfl ?_
        show Steps p.tables e below (T.setTop (mkF m 11 #[.val (.ref a1), .val (.int v1)] [(.ref a1)])) t
        refine XS.iloadN X.here hx rfl (hb hby dRawMessageSecondValueStartPinLaw_isBl_11) rfl ?_
        exact k
      obtain ⟨hi12, hF⟩ := own_ck_e hF
      refine own_Goes.via (B := T.setTop (mkF m 15 #[.val (.ref a1), .val (.int v1)] [(.int (32 : Int32)), (.int (own_rd bs_a1 v1))])) (fun t k => ?_) ?_
      · show Steps p.tables e below (T.setTop (mkF m 12 #[.val (.ref a1), .val (.int v1)] [(.int v1), (.ref a1)])) t
        refine own_ldB X hx hZ eT A_a1 hi12 rfl (g := (mkF m 12 #[.val (.ref a1), .val (.int v1)] [(.int v1), (.ref a1)])) rfl rfl (hb hby dRawMessageSecondValueStartPinLaw_isBl_12) ?_
        show Steps p.tables e below (T.setTop (mkF m 13 #[.val (.ref a1), .val (.int v1)] [(.int (own_rd bs_a1 v1))])) t
        refine XS.bipush X.here hx rfl (hb hby dRawMessageSecondValueStartPinLaw_isBl_13) ?_
        exact k
      by_cases hc15 : (own_rd bs_a1 v1) = (32 : Int32)
      · rw [if_pos hc15] at hF
        refine own_Goes.via (B := T.setTop (mkF m 31 #[.val (.ref a1), .val (.int v1)] [(.int (1 : Int32))])) (fun t k => ?_) ?_
        · show Steps p.tables e below (T.setTop (mkF m 15 #[.val (.ref a1), .val (.int v1)] [(.int (32 : Int32)), (.int (own_rd bs_a1 v1))])) t
          refine XS.icmpYes X.here hx rfl (pc0 := 15) (pc' := 26) rfl (hb hby dRawMessageSecondValueStartPinLaw_isBl_15) rfl (teq hc15).1 (by decide) (by decide) ?_
          show Steps p.tables e below (T.setTop (mkF m 26 #[.val (.ref a1), .val (.int v1)] [])) t
          refine XS.iconst X.here hx rfl (hb hby dRawMessageSecondValueStartPinLaw_isBl_26) ?_
          show Steps p.tables e below (T.setTop (mkF m 27 #[.val (.ref a1), .val (.int v1)] [(.int (1 : Int32))])) t
          refine XS.goto X.here hx rfl (pc0 := 27) (pc' := 31) rfl (hb hby dRawMessageSecondValueStartPinLaw_isBl_27) (by decide) (by decide) ?_
          exact k
        obtain rfl : (1 : Int32) = r := Option.some.inj hF
        exact own_retN X hx (t := .boolean) hret hlk (by simp) (hb hby dRawMessageSecondValueStartPinLaw_isBl_31) eT (v := (1 : Int32)) (by decide) ⟨rfl, N, rfl⟩ (by decide) (by decide)
      · rw [if_neg hc15] at hF
        refine own_Goes.via (B := T.setTop (mkF m 20 #[.val (.ref a1), .val (.int v1)] [(.int v1), (.ref a1)])) (fun t k => ?_) ?_
        · show Steps p.tables e below (T.setTop (mkF m 15 #[.val (.ref a1), .val (.int v1)] [(.int (32 : Int32)), (.int (own_rd bs_a1 v1))])) t
          refine XS.icmpNo X.here hx rfl (hb hby dRawMessageSecondValueStartPinLaw_isBl_15) rfl (feq hc15).1 ?_
          show Steps p.tables e below (T.setTop (mkF m 18 #[.val (.ref a1), .val (.int v1)] [])) t
          refine XS.aloadN X.here hx rfl (hb hby dRawMessageSecondValueStartPinLaw_isBl_18) rfl rfl ?_
          show Steps p.tables e below (T.setTop (mkF m 19 #[.val (.ref a1), .val (.int v1)] [(.ref a1)])) t
          refine XS.iloadN X.here hx rfl (hb hby dRawMessageSecondValueStartPinLaw_isBl_19) rfl ?_
          exact k
        obtain ⟨hi20, hF⟩ := own_ck_e hF
        refine own_Goes.via (B := T.setTop (mkF m 23 #[.val (.ref a1), .val (.int v1)] [(.int (9 : Int32)), (.int (own_rd bs_a1 v1))])) (fun t k => ?_) ?_
        · show Steps p.tables e below (T.setTop (mkF m 20 #[.val (.ref a1), .val (.int v1)] [(.int v1), (.ref a1)])) t
          refine own_ldB X hx hZ eT A_a1 hi20 rfl (g := (mkF m 20 #[.val (.ref a1), .val (.int v1)] [(.int v1), (.ref a1)])) rfl rfl (hb hby dRawMessageSecondValueStartPinLaw_isBl_20) ?_
          show Steps p.tables e below (T.setTop (mkF m 21 #[.val (.ref a1), .val (.int v1)] [(.int (own_rd bs_a1 v1))])) t
          refine XS.bipush X.here hx rfl (hb hby dRawMessageSecondValueStartPinLaw_isBl_21) ?_
          exact k
        by_cases hc23 : (own_rd bs_a1 v1) = (9 : Int32)
        · rw [if_pos hc23] at hF
          refine own_Goes.via (B := T.setTop (mkF m 31 #[.val (.ref a1), .val (.int v1)] [(.int (1 : Int32))])) (fun t k => ?_) ?_
          · show Steps p.tables e below (T.setTop (mkF m 23 #[.val (.ref a1), .val (.int v1)] [(.int (9 : Int32)), (.int (own_rd bs_a1 v1))])) t
            refine XS.icmpNo X.here hx rfl (hb hby dRawMessageSecondValueStartPinLaw_isBl_23) rfl (teq hc23).2 ?_
            show Steps p.tables e below (T.setTop (mkF m 26 #[.val (.ref a1), .val (.int v1)] [])) t
            refine XS.iconst X.here hx rfl (hb hby dRawMessageSecondValueStartPinLaw_isBl_26) ?_
            show Steps p.tables e below (T.setTop (mkF m 27 #[.val (.ref a1), .val (.int v1)] [(.int (1 : Int32))])) t
            refine XS.goto X.here hx rfl (pc0 := 27) (pc' := 31) rfl (hb hby dRawMessageSecondValueStartPinLaw_isBl_27) (by decide) (by decide) ?_
            exact k
          obtain rfl : (1 : Int32) = r := Option.some.inj hF
          exact own_retN X hx (t := .boolean) hret hlk (by simp) (hb hby dRawMessageSecondValueStartPinLaw_isBl_31) eT (v := (1 : Int32)) (by decide) ⟨rfl, N, rfl⟩ (by decide) (by decide)
        · rw [if_neg hc23] at hF
          refine own_Goes.via (B := T.setTop (mkF m 31 #[.val (.ref a1), .val (.int v1)] [(.int (0 : Int32))])) (fun t k => ?_) ?_
          · show Steps p.tables e below (T.setTop (mkF m 23 #[.val (.ref a1), .val (.int v1)] [(.int (9 : Int32)), (.int (own_rd bs_a1 v1))])) t
            refine XS.icmpYes X.here hx rfl (pc0 := 23) (pc' := 30) rfl (hb hby dRawMessageSecondValueStartPinLaw_isBl_23) rfl (feq hc23).2 (by decide) (by decide) ?_
            show Steps p.tables e below (T.setTop (mkF m 30 #[.val (.ref a1), .val (.int v1)] [])) t
            refine XS.iconst X.here hx rfl (hb hby dRawMessageSecondValueStartPinLaw_isBl_30) ?_
            exact k
          obtain rfl : (0 : Int32) = r := Option.some.inj hF
          exact own_retN X hx (t := .boolean) hret hlk (by simp) (hb hby dRawMessageSecondValueStartPinLaw_isBl_31) eT (v := (0 : Int32)) (by decide) ⟨rfl, N, rfl⟩ (by decide) (by decide)
    · rw [if_neg hc7] at hF
      refine own_Goes.via (B := T.setTop (mkF m 31 #[.val (.ref a1), .val (.int v1)] [(.int (0 : Int32))])) (fun t k => ?_) ?_
      · show Steps p.tables e below (T.setTop (mkF m 7 #[.val (.ref a1), .val (.int v1)] [(.int (own_sz bs_a1)), (.int v1)])) t
        refine XS.icmpYes X.here hx rfl (pc0 := 7) (pc' := 30) rfl (hb hby dRawMessageSecondValueStartPinLaw_isBl_7) rfl (flt hc7).2.1 (by decide) (by decide) ?_
        show Steps p.tables e below (T.setTop (mkF m 30 #[.val (.ref a1), .val (.int v1)] [])) t
        refine XS.iconst X.here hx rfl (hb hby dRawMessageSecondValueStartPinLaw_isBl_30) ?_
        exact k
      obtain rfl : (0 : Int32) = r := Option.some.inj hF
      exact own_retN X hx (t := .boolean) hret hlk (by simp) (hb hby dRawMessageSecondValueStartPinLaw_isBl_31) eT (v := (0 : Int32)) (by decide) ⟨rfl, N, rfl⟩ (by decide) (by decide)
theorem ef_RawMessageSecondValueStartPinLaw_isBl (m : MethodId) (x0 : Addr) (x1 : Int32) : entryFrame m #[(.ref x0), (.int x1)] 2 = mkF m 0 #[.val (.ref x0), .val (.int x1)] [] := by first | (simp [entryFrame, mkF, argsToLocals, Value.category]; done) | rfl
set_option maxRecDepth 65536 in
set_option maxHeartbeats 4000000 in
theorem rm_RawMessageSecondValueStartPinLaw_isBl (l : Launch) (Z : State) (a0 : Array Value) (hw : ∀ d ∈ tables_1, d.before a0 Z = true) (ws : List Jvm.Cond) (hE : Heap) (n0 : Nat) (z : n0 ≤ hE.size) (a1 : Addr) (v1 : Int32) (bs_a1 : List Int32) (A_a1 : own_Ar Z hE a1 .byte (bs_a1.map Value.int)) (g_a1 : n0 ≤ a1) (r : Int32) (hF : (f_RawMessageSecondValueStartPinLaw_isBl v1 bs_a1) = some r) :
    MetFree l (⟨"com/example/oxpecker/oxpecker/sip/RawMessageSecondValueStartPinLaw", "isBl", "([BI)Z"⟩ : MethodName) (head1 (Jvm.Cond.code (⟨"com/example/oxpecker/oxpecker/sip/RawMessageSecondValueStartPinLaw", "isBl", "([BI)Z"⟩ : MethodName) method_4_code 2 (some .boolean) :: ws) ({ frames := 0, cells := 0, slots := 0, locals := 0 } : Room)) (fun a U => a = #[(.ref a1), (.int v1)] ∧ Z.Warmed39 U.vm ∧ U.heap = hE) (fun _ _ _ _ _ => True) (fun _ U o U' => ∃ v L, o = .returned v ∧ (Q_RawMessageSecondValueStartPinLaw_isBl Z hE n0 a1 r) v U'.heap L ∧ FrameEnd U o U' L ({ frames := 0, cells := 0, slots := 0, locals := 0 } : Room).cells ({ frames := 0, cells := 0, slots := 0, locals := 0 } : Room).slots) := by
  refine MetFree.of_bodySF (plainFor_of_name pn_com_example_oxpecker_oxpecker_sip_RawMessageSecondValueStartPinLaw) hisR ?_
  intro p e s m args below meth c s₁ Bd hml0 hP hK
  obtain ⟨rfl, hZ, hh⟩ := hP
  have X0 : Stand p l e ({ frames := 0, cells := 0, slots := 0, locals := 0 } : Room) s m #[(.ref a1), (.int v1)] below meth c s₁ [] 0 0 := Stand.of_body Bd
  have e0 : s₁.heap = hE := by rw [← hh, Bd.state]; rfl
  have cx : Cx_RawMessageSecondValueStartPinLaw_isBl p s m meth c Z a0 := ⟨Bd.exec, hZ, hw, Bd.bytes, hml0, findClass_of_methodNamed Bd.named, Bd.returns, Bd.notSynchronized, (name_of_methodNamed Bd.named Bd.method).1⟩
  show own_Goes p e below s (Q_RawMessageSecondValueStartPinLaw_isBl Z hE n0 a1 r) ({ frames := 0, cells := 0, slots := 0, locals := 0 } : Room).cells ({ frames := 0, cells := 0, slots := 0, locals := 0 } : Room).slots (s₁.setTop (entryFrame m #[(.ref a1), (.int v1)] 2))
  rw [ef_RawMessageSecondValueStartPinLaw_isBl]
  exact b_RawMessageSecondValueStartPinLaw_isBl cx a1 X0 e0 (Fr.nil n0) z v1 bs_a1 A_a1 g_a1 _ hF
/-! com/example/oxpecker/oxpecker/sip/RawMessageSecondValueStartPinLaw.blankOrOut:([BIII)Z -/
def f_RawMessageSecondValueStartPinLaw_blankOrOut (v1 : Int32) (v2 : Int32) (v3 : Int32) (bs_a1 : List Int32) : Option (Int32) :=
  if v1 < v2 then
    some (1 : Int32)
  else
    if v1 < v3 then
      own_bd (f_RawMessageSecondValueStartPinLaw_isBl v1 bs_a1) fun r252 =>
      if r252 = (0 : Int32) then
        some (0 : Int32)
      else
        some (1 : Int32)
    else
      some (1 : Int32)
def Q_RawMessageSecondValueStartPinLaw_blankOrOut (Z : State) (hE : Heap) (n0 : Nat) (a1 : Addr) (r : Int32) (v : Option Value) (h : Heap) (L : List Loc) : Prop := v = some (.int r) ∧ Fr n0 L ∧ h = hE
def Cx_RawMessageSecondValueStartPinLaw_blankOrOut (p : Program) (s : State) (m : MethodId) (meth : Method) (c : Code) (Z : State) (a0 : Array Value) : Prop := p.tables.exec = Jvm.exec ∧ Z.Warmed39 s.vm ∧ (∀ d ∈ tables_1, d.before a0 Z = true) ∧ c.code = method_7_code ∧ c.maxLocals = 4 ∧ s.vm.findClass "com/example/oxpecker/oxpecker/sip/RawMessageSecondValueStartPinLaw" = some m.cls ∧ meth.sig.returnType = some .boolean ∧ meth.locks = false ∧ meth.name = "blankOrOut"
set_option maxRecDepth 65536 in
set_option maxHeartbeats 4000000 in
theorem b_RawMessageSecondValueStartPinLaw_blankOrOut {p : Program} {l : Launch} {e : Env} {s : State} {m : MethodId} {args : Array Value} {below : List Frame} {meth : Method} {c : Code} {Z : State} {a0 : Array Value} {n0 : Nat} {hE : Heap} (cx : Cx_RawMessageSecondValueStartPinLaw_blankOrOut p s m meth c Z a0) (a1 : Addr) :
    ∀ {T : State} {locs : List Loc} (X : Stand p l e ({ frames := 1, cells := 0, slots := 0, locals := 13 } : Room) s m args below meth c T locs 0 0) (eT : T.heap = hE) (N : Fr n0 locs) (z : n0 ≤ hE.size) (v1 : Int32) (v2 : Int32) (v3 : Int32) (bs_a1 : List Int32) (A_a1 : own_Ar Z hE a1 .byte (bs_a1.map Value.int)) (g_a1 : n0 ≤ a1) (r : Int32), f_RawMessageSecondValueStartPinLaw_blankOrOut v1 v2 v3 bs_a1 = some r → own_Goes p e below s (Q_RawMessageSecondValueStartPinLaw_blankOrOut Z hE n0 a1 r) 0 0 (T.setTop (mkF m 0 #[.val (.ref a1), .val (.int v1), .val (.int v2), .val (.int v3)] [])) := by
  have cx' := cx
  obtain ⟨hx, hZ, hw, hby, hml, hown, hret, hlk, hnm⟩ := cx'
  intro T locs X eT N z v1 v2 v3 bs_a1 A_a1 g_a1 r hF
  unfold f_RawMessageSecondValueStartPinLaw_blankOrOut at hF
  refine own_Goes.via (B := T.setTop (mkF m 2 #[.val (.ref a1), .val (.int v1), .val (.int v2), .val (.int v3)] [(.int v2), (.int v1)])) (fun t k => ?_) ?_
  · show Steps p.tables e below (T.setTop (mkF m 0 #[.val (.ref a1), .val (.int v1), .val (.int v2), .val (.int v3)] [])) t
    refine XS.iloadN X.here hx rfl (hb hby dRawMessageSecondValueStartPinLaw_blankOrOut_0) rfl ?_
    show Steps p.tables e below (T.setTop (mkF m 1 #[.val (.ref a1), .val (.int v1), .val (.int v2), .val (.int v3)] [(.int v1)])) t
    refine XS.iloadN X.here hx rfl (hb hby dRawMessageSecondValueStartPinLaw_blankOrOut_1) rfl ?_
    exact k
  by_cases hc2 : v1 < v2
  · rw [if_pos hc2] at hF
    refine own_Goes.via (B := T.setTop (mkF m 23 #[.val (.ref a1), .val (.int v1), .val (.int v2), .val (.int v3)] [(.int (1 : Int32))])) (fun t k => ?_) ?_
    · show Steps p.tables e below (T.setTop (mkF m 2 #[.val (.ref a1), .val (.int v1), .val (.int v2), .val (.int v3)] [(.int v2), (.int v1)])) t
      refine XS.icmpYes X.here hx rfl (pc0 := 2) (pc' := 18) rfl (hb hby dRawMessageSecondValueStartPinLaw_blankOrOut_2) rfl (tlt hc2).1 (by decide) (by decide) ?_
      show Steps p.tables e below (T.setTop (mkF m 18 #[.val (.ref a1), .val (.int v1), .val (.int v2), .val (.int v3)] [])) t
      refine XS.iconst X.here hx rfl (hb hby dRawMessageSecondValueStartPinLaw_blankOrOut_18) ?_
      show Steps p.tables e below (T.setTop (mkF m 19 #[.val (.ref a1), .val (.int v1), .val (.int v2), .val (.int v3)] [(.int (1 : Int32))])) t
      refine XS.goto X.here hx rfl (pc0 := 19) (pc' := 23) rfl (hb hby dRawMessageSecondValueStartPinLaw_blankOrOut_19) (by decide) (by decide) ?_
      exact k
    obtain rfl : (1 : Int32) = r := Option.some.inj hF
    exact own_retN X hx (t := .boolean) hret hlk (by simp) (hb hby dRawMessageSecondValueStartPinLaw_blankOrOut_23) eT (v := (1 : Int32)) (by decide) ⟨rfl, N, rfl⟩ (by decide) (by decide)
  · rw [if_neg hc2] at hF
    refine own_Goes.via (B := T.setTop (mkF m 7 #[.val (.ref a1), .val (.int v1), .val (.int v2), .val (.int v3)] [(.int v3), (.int v1)])) (fun t k => ?_) ?_
    · show Steps p.tables e below (T.setTop (mkF m 2 #[.val (.ref a1), .val (.int v1), .val (.int v2), .val (.int v3)] [(.int v2), (.int v1)])) t
      refine XS.icmpNo X.here hx rfl (hb hby dRawMessageSecondValueStartPinLaw_blankOrOut_2) rfl (flt hc2).1 ?_
      show Steps p.tables e below (T.setTop (mkF m 5 #[.val (.ref a1), .val (.int v1), .val (.int v2), .val (.int v3)] [])) t
      refine XS.iloadN X.here hx rfl (hb hby dRawMessageSecondValueStartPinLaw_blankOrOut_5) rfl ?_
      show Steps p.tables e below (T.setTop (mkF m 6 #[.val (.ref a1), .val (.int v1), .val (.int v2), .val (.int v3)] [(.int v1)])) t
      refine XS.iloadN X.here hx rfl (hb hby dRawMessageSecondValueStartPinLaw_blankOrOut_6) rfl ?_
      exact k
    by_cases hc7 : v1 < v3
    · rw [if_pos hc7] at hF
      refine own_Goes.via (B := T.setTop (mkF m 12 #[.val (.ref a1), .val (.int v1), .val (.int v2), .val (.int v3)] [(.int v1), (.ref a1)])) (fun t k => ?_) ?_
      · show Steps p.tables e below (T.setTop (mkF m 7 #[.val (.ref a1), .val (.int v1), .val (.int v2), .val (.int v3)] [(.int v3), (.int v1)])) t
        refine XS.icmpNo X.here hx rfl (hb hby dRawMessageSecondValueStartPinLaw_blankOrOut_7) rfl (tlt hc7).2.1 ?_
        show Steps p.tables e below (T.setTop (mkF m 10 #[.val (.ref a1), .val (.int v1), .val (.int v2), .val (.int v3)] [])) t
        refine XS.aloadN X.here hx rfl (hb hby dRawMessageSecondValueStartPinLaw_blankOrOut_10) rfl rfl ?_
        show Steps p.tables e below (T.setTop (mkF m 11 #[.val (.ref a1), .val (.int v1), .val (.int v2), .val (.int v3)] [(.ref a1)])) t
        refine XS.iloadN X.here hx rfl (hb hby dRawMessageSecondValueStartPinLaw_blankOrOut_11) rfl ?_
        exact k
      obtain ⟨r252, hr252, hF⟩ := own_bd_e hF
      obtain ⟨_, _, ⟨T252, L252, k252, n252⟩, -, X252, ⟨Lc252, hQ252, l252, y252, z252⟩, st252⟩ := Jvm.LawKit.callS X hx (y := (⟨"com/example/oxpecker/oxpecker/sip/RawMessageSecondValueStartPinLaw", "isBl", "([BI)Z"⟩ : MethodName)) hown (mvT hZ (w89 hw)) (mvT hZ (w90 hw)) (mvT hZ (w3 hw)) (mvT hZ (w91 hw)) (by decide) (backOf (W := 0) (rm_RawMessageSecondValueStartPinLaw_isBl l Z a0 hw [] hE n0 z a1 v1 bs_a1 A_a1 g_a1 r252 hr252) hZ (w91 hw) (w3 hw) (by decide) (by decide)) (g := (mkF m 12 #[.val (.ref a1), .val (.int v1), .val (.int v2), .val (.int v3)] [(.int v1), (.ref a1)])) rfl (by rw [hml]; rfl) (argsL := [(.ref a1), (.int v1)]) (rest := []) (lenOf pd_8 rfl) rfl (by show 2 * 0 + _ ≤ _; exact Nat.le_of_eq rfl) (hb hby dRawMessageSecondValueStartPinLaw_blankOrOut_12) (fun _ _ => ⟨rfl, eT, (by decide : 0 + 0 ≤ _), (by decide : 0 + 0 ≤ _)⟩)
      dsimp only [Pt.U, Pt.locs, Pt.cells, Pt.slots] at X252 l252 y252 z252 st252 hQ252
      subst l252 y252 z252
      obtain ⟨rfl, N252q, e252⟩ := hQ252
      have N252 := Fr.app N N252q
      refine own_Goes.via st252 ?_
      show own_Goes _ _ _ _ _ _ _ (T252.setTop (mkF m 15 #[.val (.ref a1), .val (.int v1), .val (.int v2), .val (.int v3)] [(.int r252)]))
      by_cases hc15 : r252 = (0 : Int32)
      · rw [if_pos hc15] at hF
        refine own_Goes.via (B := T252.setTop (mkF m 23 #[.val (.ref a1), .val (.int v1), .val (.int v2), .val (.int v3)] [(.int (0 : Int32))])) (fun t k => ?_) ?_
        · show Steps p.tables e below (T252.setTop (mkF m 15 #[.val (.ref a1), .val (.int v1), .val (.int v2), .val (.int v3)] [(.int r252)])) t
          refine XS.ifYes X252.here hx rfl (pc0 := 15) (pc' := 22) rfl (hb hby dRawMessageSecondValueStartPinLaw_blankOrOut_15) rfl ((if0 _ _).trans (teq hc15).1) (by decide) (by decide) ?_
          show Steps p.tables e below (T252.setTop (mkF m 22 #[.val (.ref a1), .val (.int v1), .val (.int v2), .val (.int v3)] [])) t
          refine XS.iconst X252.here hx rfl (hb hby dRawMessageSecondValueStartPinLaw_blankOrOut_22) ?_
          exact k
        obtain rfl : (0 : Int32) = r := Option.some.inj hF
        exact own_retN X252 hx (t := .boolean) hret hlk (by simp) (hb hby dRawMessageSecondValueStartPinLaw_blankOrOut_23) e252 (v := (0 : Int32)) (by decide) ⟨rfl, N252, rfl⟩ (by decide) (by decide)
      · rw [if_neg hc15] at hF
        refine own_Goes.via (B := T252.setTop (mkF m 23 #[.val (.ref a1), .val (.int v1), .val (.int v2), .val (.int v3)] [(.int (1 : Int32))])) (fun t k => ?_) ?_
        · show Steps p.tables e below (T252.setTop (mkF m 15 #[.val (.ref a1), .val (.int v1), .val (.int v2), .val (.int v3)] [(.int r252)])) t
          refine XS.ifNo X252.here hx rfl (hb hby dRawMessageSecondValueStartPinLaw_blankOrOut_15) rfl ((if0 _ _).trans (feq hc15).1) ?_
          show Steps p.tables e below (T252.setTop (mkF m 18 #[.val (.ref a1), .val (.int v1), .val (.int v2), .val (.int v3)] [])) t
          refine XS.iconst X252.here hx rfl (hb hby dRawMessageSecondValueStartPinLaw_blankOrOut_18) ?_
          show Steps p.tables e below (T252.setTop (mkF m 19 #[.val (.ref a1), .val (.int v1), .val (.int v2), .val (.int v3)] [(.int (1 : Int32))])) t
          refine XS.goto X252.here hx rfl (pc0 := 19) (pc' := 23) rfl (hb hby dRawMessageSecondValueStartPinLaw_blankOrOut_19) (by decide) (by decide) ?_
          exact k
        obtain rfl : (1 : Int32) = r := Option.some.inj hF
        exact own_retN X252 hx (t := .boolean) hret hlk (by simp) (hb hby dRawMessageSecondValueStartPinLaw_blankOrOut_23) e252 (v := (1 : Int32)) (by decide) ⟨rfl, N252, rfl⟩ (by decide) (by decide)
    · rw [if_neg hc7] at hF
      refine own_Goes.via (B := T.setTop (mkF m 23 #[.val (.ref a1), .val (.int v1), .val (.int v2), .val (.int v3)] [(.int (1 : Int32))])) (fun t k => ?_) ?_
      · show Steps p.tables e below (T.setTop (mkF m 7 #[.val (.ref a1), .val (.int v1), .val (.int v2), .val (.int v3)] [(.int v3), (.int v1)])) t
        refine XS.icmpYes X.here hx rfl (pc0 := 7) (pc' := 18) rfl (hb hby dRawMessageSecondValueStartPinLaw_blankOrOut_7) rfl (flt hc7).2.1 (by decide) (by decide) ?_
        show Steps p.tables e below (T.setTop (mkF m 18 #[.val (.ref a1), .val (.int v1), .val (.int v2), .val (.int v3)] [])) t
        refine XS.iconst X.here hx rfl (hb hby dRawMessageSecondValueStartPinLaw_blankOrOut_18) ?_
        show Steps p.tables e below (T.setTop (mkF m 19 #[.val (.ref a1), .val (.int v1), .val (.int v2), .val (.int v3)] [(.int (1 : Int32))])) t
        refine XS.goto X.here hx rfl (pc0 := 19) (pc' := 23) rfl (hb hby dRawMessageSecondValueStartPinLaw_blankOrOut_19) (by decide) (by decide) ?_
        exact k
      obtain rfl : (1 : Int32) = r := Option.some.inj hF
      exact own_retN X hx (t := .boolean) hret hlk (by simp) (hb hby dRawMessageSecondValueStartPinLaw_blankOrOut_23) eT (v := (1 : Int32)) (by decide) ⟨rfl, N, rfl⟩ (by decide) (by decide)
theorem ef_RawMessageSecondValueStartPinLaw_blankOrOut (m : MethodId) (x0 : Addr) (x1 : Int32) (x2 : Int32) (x3 : Int32) : entryFrame m #[(.ref x0), (.int x1), (.int x2), (.int x3)] 4 = mkF m 0 #[.val (.ref x0), .val (.int x1), .val (.int x2), .val (.int x3)] [] := by first | (simp [entryFrame, mkF, argsToLocals, Value.category]; done) | rfl
set_option maxRecDepth 65536 in
set_option maxHeartbeats 4000000 in
theorem rm_RawMessageSecondValueStartPinLaw_blankOrOut (l : Launch) (Z : State) (a0 : Array Value) (hw : ∀ d ∈ tables_1, d.before a0 Z = true) (ws : List Jvm.Cond) (hE : Heap) (n0 : Nat) (z : n0 ≤ hE.size) (a1 : Addr) (v1 : Int32) (v2 : Int32) (v3 : Int32) (bs_a1 : List Int32) (A_a1 : own_Ar Z hE a1 .byte (bs_a1.map Value.int)) (g_a1 : n0 ≤ a1) (r : Int32) (hF : (f_RawMessageSecondValueStartPinLaw_blankOrOut v1 v2 v3 bs_a1) = some r) :
    MetFree l (⟨"com/example/oxpecker/oxpecker/sip/RawMessageSecondValueStartPinLaw", "blankOrOut", "([BIII)Z"⟩ : MethodName) (head1 (Jvm.Cond.code (⟨"com/example/oxpecker/oxpecker/sip/RawMessageSecondValueStartPinLaw", "blankOrOut", "([BIII)Z"⟩ : MethodName) method_7_code 4 (some .boolean) :: ws) ({ frames := 1, cells := 0, slots := 0, locals := 13 } : Room)) (fun a U => a = #[(.ref a1), (.int v1), (.int v2), (.int v3)] ∧ Z.Warmed39 U.vm ∧ U.heap = hE) (fun _ _ _ _ _ => True) (fun _ U o U' => ∃ v L, o = .returned v ∧ (Q_RawMessageSecondValueStartPinLaw_blankOrOut Z hE n0 a1 r) v U'.heap L ∧ FrameEnd U o U' L ({ frames := 1, cells := 0, slots := 0, locals := 13 } : Room).cells ({ frames := 1, cells := 0, slots := 0, locals := 13 } : Room).slots) := by
  refine MetFree.of_bodySF (plainFor_of_name pn_com_example_oxpecker_oxpecker_sip_RawMessageSecondValueStartPinLaw) hisR ?_
  intro p e s m args below meth c s₁ Bd hml0 hP hK
  obtain ⟨rfl, hZ, hh⟩ := hP
  have X0 : Stand p l e ({ frames := 1, cells := 0, slots := 0, locals := 13 } : Room) s m #[(.ref a1), (.int v1), (.int v2), (.int v3)] below meth c s₁ [] 0 0 := Stand.of_body Bd
  have e0 : s₁.heap = hE := by rw [← hh, Bd.state]; rfl
  have cx : Cx_RawMessageSecondValueStartPinLaw_blankOrOut p s m meth c Z a0 := ⟨Bd.exec, hZ, hw, Bd.bytes, hml0, findClass_of_methodNamed Bd.named, Bd.returns, Bd.notSynchronized, (name_of_methodNamed Bd.named Bd.method).1⟩
  show own_Goes p e below s (Q_RawMessageSecondValueStartPinLaw_blankOrOut Z hE n0 a1 r) ({ frames := 1, cells := 0, slots := 0, locals := 13 } : Room).cells ({ frames := 1, cells := 0, slots := 0, locals := 13 } : Room).slots (s₁.setTop (entryFrame m #[(.ref a1), (.int v1), (.int v2), (.int v3)] 4))
  rw [ef_RawMessageSecondValueStartPinLaw_blankOrOut]
  exact b_RawMessageSecondValueStartPinLaw_blankOrOut cx a1 X0 e0 (Fr.nil n0) z v1 v2 v3 bs_a1 A_a1 g_a1 _ hF
/-! com/example/oxpecker/oxpecker/sip/RawMessageSecondValueStartPinLaw.allBlank:([BII)Z -/
def f_RawMessageSecondValueStartPinLaw_allBlank (v1 : Int32) (v2 : Int32) (bs_a1 : List Int32) : Option (Int32) :=
  own_bd (f_RawMessageSecondValueStartPinLaw_blankOrOut (0 : Int32) v1 v2 bs_a1) fun r271 =>
  if r271 = (0 : Int32) then
    some (0 : Int32)
  else
    own_bd (f_RawMessageSecondValueStartPinLaw_blankOrOut (1 : Int32) v1 v2 bs_a1) fun r272 =>
    if r272 = (0 : Int32) then
      some (0 : Int32)
    else
      own_bd (f_RawMessageSecondValueStartPinLaw_blankOrOut (2 : Int32) v1 v2 bs_a1) fun r273 =>
      if r273 = (0 : Int32) then
        some (0 : Int32)
      else
        own_bd (f_RawMessageSecondValueStartPinLaw_blankOrOut (3 : Int32) v1 v2 bs_a1) fun r274 =>
        if r274 = (0 : Int32) then
          some (0 : Int32)
        else
          own_bd (f_RawMessageSecondValueStartPinLaw_blankOrOut (4 : Int32) v1 v2 bs_a1) fun r275 =>
          if r275 = (0 : Int32) then
            some (0 : Int32)
          else
            own_bd (f_RawMessageSecondValueStartPinLaw_blankOrOut (5 : Int32) v1 v2 bs_a1) fun r276 =>
            if r276 = (0 : Int32) then
              some (0 : Int32)
            else
              some (1 : Int32)
def Q_RawMessageSecondValueStartPinLaw_allBlank (Z : State) (hE : Heap) (n0 : Nat) (a1 : Addr) (r : Int32) (v : Option Value) (h : Heap) (L : List Loc) : Prop := v = some (.int r) ∧ Fr n0 L ∧ h = hE
def Cx_RawMessageSecondValueStartPinLaw_allBlank (p : Program) (s : State) (m : MethodId) (meth : Method) (c : Code) (Z : State) (a0 : Array Value) : Prop := p.tables.exec = Jvm.exec ∧ Z.Warmed39 s.vm ∧ (∀ d ∈ tables_1, d.before a0 Z = true) ∧ c.code = method_8_code ∧ c.maxLocals = 3 ∧ s.vm.findClass "com/example/oxpecker/oxpecker/sip/RawMessageSecondValueStartPinLaw" = some m.cls ∧ meth.sig.returnType = some .boolean ∧ meth.locks = false ∧ meth.name = "allBlank"
set_option maxRecDepth 65536 in
set_option maxHeartbeats 4000000 in
theorem b_RawMessageSecondValueStartPinLaw_allBlank {p : Program} {l : Launch} {e : Env} {s : State} {m : MethodId} {args : Array Value} {below : List Frame} {meth : Method} {c : Code} {Z : State} {a0 : Array Value} {n0 : Nat} {hE : Heap} (cx : Cx_RawMessageSecondValueStartPinLaw_allBlank p s m meth c Z a0) (a1 : Addr) :
    ∀ {T : State} {locs : List Loc} (X : Stand p l e ({ frames := 2, cells := 0, slots := 0, locals := 28 } : Room) s m args below meth c T locs 0 0) (eT : T.heap = hE) (N : Fr n0 locs) (z : n0 ≤ hE.size) (v1 : Int32) (v2 : Int32) (bs_a1 : List Int32) (A_a1 : own_Ar Z hE a1 .byte (bs_a1.map Value.int)) (g_a1 : n0 ≤ a1) (r : Int32), f_RawMessageSecondValueStartPinLaw_allBlank v1 v2 bs_a1 = some r → own_Goes p e below s (Q_RawMessageSecondValueStartPinLaw_allBlank Z hE n0 a1 r) 0 0 (T.setTop (mkF m 0 #[.val (.ref a1), .val (.int v1), .val (.int v2)] [])) := by
  have cx' := cx
  obtain ⟨hx, hZ, hw, hby, hml, hown, hret, hlk, hnm⟩ := cx'
  intro T locs X eT N z v1 v2 bs_a1 A_a1 g_a1 r hF
  unfold f_RawMessageSecondValueStartPinLaw_allBlank at hF
  refine own_Goes.via (B := T.setTop (mkF m 4 #[.val (.ref a1), .val (.int v1), .val (.int v2)] [(.int v2), (.int v1), (.int (0 : Int32)), (.ref a1)])) (fun t k => ?_) ?_
  · show Steps p.tables e below (T.setTop (mkF m 0 #[.val (.ref a1), .val (.int v1), .val (.int v2)] [])) t
    refine XS.aloadN X.here hx rfl (hb hby dRawMessageSecondValueStartPinLaw_allBlank_0) rfl rfl ?_
    show Steps p.tables e below (T.setTop (mkF m 1 #[.val (.ref a1), .val (.int v1), .val (.int v2)] [(.ref a1)])) t
    refine XS.iconst X.here hx rfl (hb hby dRawMessageSecondValueStartPinLaw_allBlank_1) ?_
    show Steps p.tables e below (T.setTop (mkF m 2 #[.val (.ref a1), .val (.int v1), .val (.int v2)] [(.int (0 : Int32)), (.ref a1)])) t
    refine XS.iloadN X.here hx rfl (hb hby dRawMessageSecondValueStartPinLaw_allBlank_2) rfl ?_
    show Steps p.tables e below (T.setTop (mkF m 3 #[.val (.ref a1), .val (.int v1), .val (.int v2)] [(.int v1), (.int (0 : Int32)), (.ref a1)])) t
    refine XS.iloadN X.here hx rfl (hb hby dRawMessageSecondValueStartPinLaw_allBlank_3) rfl ?_
    exact k
  obtain ⟨r271, hr271, hF⟩ := own_bd_e hF
  obtain ⟨_, _, ⟨T271, L271, k271, n271⟩, -, X271, ⟨Lc271, hQ271, l271, y271, z271⟩, st271⟩ := Jvm.LawKit.callS X hx (y := (⟨"com/example/oxpecker/oxpecker/sip/RawMessageSecondValueStartPinLaw", "blankOrOut", "([BIII)Z"⟩ : MethodName)) hown (mvT hZ (w86 hw)) (mvT hZ (w87 hw)) (mvT hZ (w3 hw)) (mvT hZ (w88 hw)) (by decide) (backOf (W := 0) (rm_RawMessageSecondValueStartPinLaw_blankOrOut l Z a0 hw [] hE n0 z a1 (0 : Int32) v1 v2 bs_a1 A_a1 g_a1 r271 hr271) hZ (w88 hw) (w3 hw) (by decide) (by decide)) (g := (mkF m 4 #[.val (.ref a1), .val (.int v1), .val (.int v2)] [(.int v2), (.int v1), (.int (0 : Int32)), (.ref a1)])) rfl (by rw [hml]; rfl) (argsL := [(.ref a1), (.int (0 : Int32)), (.int v1), (.int v2)]) (rest := []) (lenOf pd_9 rfl) rfl (by show 2 * 0 + _ ≤ _; exact Nat.le_of_eq rfl) (hb hby dRawMessageSecondValueStartPinLaw_allBlank_4) (fun _ _ => ⟨rfl, eT, (by decide : 0 + 0 ≤ _), (by decide : 0 + 0 ≤ _)⟩)
  dsimp only [Pt.U, Pt.locs, Pt.cells, Pt.slots] at X271 l271 y271 z271 st271 hQ271
  subst l271 y271 z271
  obtain ⟨rfl, N271q, e271⟩ := hQ271
  have N271 := Fr.app N N271q
  refine own_Goes.via st271 ?_
  show own_Goes _ _ _ _ _ _ _ (T271.setTop (mkF m 7 #[.val (.ref a1), .val (.int v1), .val (.int v2)] [(.int r271)]))
  by_cases hc7 : r271 = (0 : Int32)
  · rw [if_pos hc7] at hF
    refine own_Goes.via (B := T271.setTop (mkF m 65 #[.val (.ref a1), .val (.int v1), .val (.int v2)] [(.int (0 : Int32))])) (fun t k => ?_) ?_
    · show Steps p.tables e below (T271.setTop (mkF m 7 #[.val (.ref a1), .val (.int v1), .val (.int v2)] [(.int r271)])) t
      refine XS.ifYes X271.here hx rfl (pc0 := 7) (pc' := 64) rfl (hb hby dRawMessageSecondValueStartPinLaw_allBlank_7) rfl ((if0 _ _).trans (teq hc7).1) (by decide) (by decide) ?_
      show Steps p.tables e below (T271.setTop (mkF m 64 #[.val (.ref a1), .val (.int v1), .val (.int v2)] [])) t
      refine XS.iconst X271.here hx rfl (hb hby dRawMessageSecondValueStartPinLaw_allBlank_64) ?_
      exact k
    obtain rfl : (0 : Int32) = r := Option.some.inj hF
    exact own_retN X271 hx (t := .boolean) hret hlk (by simp) (hb hby dRawMessageSecondValueStartPinLaw_allBlank_65) e271 (v := (0 : Int32)) (by decide) ⟨rfl, N271, rfl⟩ (by decide) (by decide)
  · rw [if_neg hc7] at hF
    refine own_Goes.via (B := T271.setTop (mkF m 14 #[.val (.ref a1), .val (.int v1), .val (.int v2)] [(.int v2), (.int v1), (.int (1 : Int32)), (.ref a1)])) (fun t k => ?_) ?_
    · show Steps p.tables e below (T271.setTop (mkF m 7 #[.val (.ref a1), .val (.int v1), .val (.int v2)] [(.int r271)])) t
      refine XS.ifNo X271.here hx rfl (hb hby dRawMessageSecondValueStartPinLaw_allBlank_7) rfl ((if0 _ _).trans (feq hc7).1) ?_
      show Steps p.tables e below (T271.setTop (mkF m 10 #[.val (.ref a1), .val (.int v1), .val (.int v2)] [])) t
      refine XS.aloadN X271.here hx rfl (hb hby dRawMessageSecondValueStartPinLaw_allBlank_10) rfl rfl ?_
      show Steps p.tables e below (T271.setTop (mkF m 11 #[.val (.ref a1), .val (.int v1), .val (.int v2)] [(.ref a1)])) t
      refine XS.iconst X271.here hx rfl (hb hby dRawMessageSecondValueStartPinLaw_allBlank_11) ?_
      show Steps p.tables e below (T271.setTop (mkF m 12 #[.val (.ref a1), .val (.int v1), .val (.int v2)] [(.int (1 : Int32)), (.ref a1)])) t
      refine XS.iloadN X271.here hx rfl (hb hby dRawMessageSecondValueStartPinLaw_allBlank_12) rfl ?_
      show Steps p.tables e below (T271.setTop (mkF m 13 #[.val (.ref a1), .val (.int v1), .val (.int v2)] [(.int v1), (.int (1 : Int32)), (.ref a1)])) t
      refine XS.iloadN X271.here hx rfl (hb hby dRawMessageSecondValueStartPinLaw_allBlank_13) rfl ?_
      exact k
    obtain ⟨r272, hr272, hF⟩ := own_bd_e hF
    obtain ⟨_, _, ⟨T272, L272, k272, n272⟩, -, X272, ⟨Lc272, hQ272, l272, y272, z272⟩, st272⟩ := Jvm.LawKit.callS X271 hx (y := (⟨"com/example/oxpecker/oxpecker/sip/RawMessageSecondValueStartPinLaw", "blankOrOut", "([BIII)Z"⟩ : MethodName)) hown (mvT hZ (w86 hw)) (mvT hZ (w87 hw)) (mvT hZ (w3 hw)) (mvT hZ (w88 hw)) (by decide) (backOf (W := 0) (rm_RawMessageSecondValueStartPinLaw_blankOrOut l Z a0 hw [] hE n0 z a1 (1 : Int32) v1 v2 bs_a1 A_a1 g_a1 r272 hr272) hZ (w88 hw) (w3 hw) (by decide) (by decide)) (g := (mkF m 14 #[.val (.ref a1), .val (.int v1), .val (.int v2)] [(.int v2), (.int v1), (.int (1 : Int32)), (.ref a1)])) rfl (by rw [hml]; rfl) (argsL := [(.ref a1), (.int (1 : Int32)), (.int v1), (.int v2)]) (rest := []) (lenOf pd_9 rfl) rfl (by show 2 * 0 + _ ≤ _; exact Nat.le_of_eq rfl) (hb hby dRawMessageSecondValueStartPinLaw_allBlank_14) (fun _ _ => ⟨rfl, e271, (by decide : 0 + 0 ≤ _), (by decide : 0 + 0 ≤ _)⟩)
    dsimp only [Pt.U, Pt.locs, Pt.cells, Pt.slots] at X272 l272 y272 z272 st272 hQ272
    subst l272 y272 z272
    obtain ⟨rfl, N272q, e272⟩ := hQ272
    have N272 := Fr.app N271 N272q
    refine own_Goes.via st272 ?_
    show own_Goes _ _ _ _ _ _ _ (T272.setTop (mkF m 17 #[.val (.ref a1), .val (.int v1), .val (.int v2)] [(.int r272)]))
    by_cases hc17 : r272 = (0 : Int32)
    · rw [if_pos hc17] at hF
      refine own_Goes.via (B := T272.setTop (mkF m 65 #[.val (.ref a1), .val (.int v1), .val (.int v2)] [(.int (0 : Int32))])) (fun t k => ?_) ?_
      · show Steps p.tables e below (T272.setTop (mkF m 17 #[.val (.ref a1), .val (.int v1), .val (.int v2)] [(.int r272)])) t
        refine XS.ifYes X272.here hx rfl (pc0 := 17) (pc' := 64) rfl (hb hby dRawMessageSecondValueStartPinLaw_allBlank_17) rfl ((if0 _ _).trans (teq hc17).1) (by decide) (by decide) ?_
        show Steps p.tables e below (T272.setTop (mkF m 64 #[.val (.ref a1), .val (.int v1), .val (.int v2)] [])) t
        refine XS.iconst X272.here hx rfl (hb hby dRawMessageSecondValueStartPinLaw_allBlank_64) ?_
        exact k
      obtain rfl : (0 : Int32) = r := Option.some.inj hF
      exact own_retN X272 hx (t := .boolean) hret hlk (by simp) (hb hby dRawMessageSecondValueStartPinLaw_allBlank_65) e272 (v := (0 : Int32)) (by decide) ⟨rfl, N272, rfl⟩ (by decide) (by decide)
    · rw [if_neg hc17] at hF
      refine own_Goes.via (B := T272.setTop (mkF m 24 #[.val (.ref a1), .val (.int v1), .val (.int v2)] [(.int v2), (.int v1), (.int (2 : Int32)), (.ref a1)])) (fun t k => ?_) ?_
      · show Steps p.tables e below (T272.setTop (mkF m 17 #[.val (.ref a1), .val (.int v1), .val (.int v2)] [(.int r272)])) t
        refine XS.ifNo X272.here hx rfl (hb hby dRawMessageSecondValueStartPinLaw_allBlank_17) rfl ((if0 _ _).trans (feq hc17).1) ?_
        show Steps p.tables e below (T272.setTop (mkF m 20 #[.val (.ref a1), .val (.int v1), .val (.int v2)] [])) t
        refine XS.aloadN X272.here hx rfl (hb hby dRawMessageSecondValueStartPinLaw_allBlank_20) rfl rfl ?_
        show Steps p.tables e below (T272.setTop (mkF m 21 #[.val (.ref a1), .val (.int v1), .val (.int v2)] [(.ref a1)])) t
        refine XS.iconst X272.here hx rfl (hb hby dRawMessageSecondValueStartPinLaw_allBlank_21) ?_
        show Steps p.tables e below (T272.setTop (mkF m 22 #[.val (.ref a1), .val (.int v1), .val (.int v2)] [(.int (2 : Int32)), (.ref a1)])) t
        refine XS.iloadN X272.here hx rfl (hb hby dRawMessageSecondValueStartPinLaw_allBlank_22) rfl ?_
        show Steps p.tables e below (T272.setTop (mkF m 23 #[.val (.ref a1), .val (.int v1), .val (.int v2)] [(.int v1), (.int (2 : Int32)), (.ref a1)])) t
        refine XS.iloadN X272.here hx rfl (hb hby dRawMessageSecondValueStartPinLaw_allBlank_23) rfl ?_
        exact k
      obtain ⟨r273, hr273, hF⟩ := own_bd_e hF
      obtain ⟨_, _, ⟨T273, L273, k273, n273⟩, -, X273, ⟨Lc273, hQ273, l273, y273, z273⟩, st273⟩ := Jvm.LawKit.callS X272 hx (y := (⟨"com/example/oxpecker/oxpecker/sip/RawMessageSecondValueStartPinLaw", "blankOrOut", "([BIII)Z"⟩ : MethodName)) hown (mvT hZ (w86 hw)) (mvT hZ (w87 hw)) (mvT hZ (w3 hw)) (mvT hZ (w88 hw)) (by decide) (backOf (W := 0) (rm_RawMessageSecondValueStartPinLaw_blankOrOut l Z a0 hw [] hE n0 z a1 (2 : Int32) v1 v2 bs_a1 A_a1 g_a1 r273 hr273) hZ (w88 hw) (w3 hw) (by decide) (by decide)) (g := (mkF m 24 #[.val (.ref a1), .val (.int v1), .val (.int v2)] [(.int v2), (.int v1), (.int (2 : Int32)), (.ref a1)])) rfl (by rw [hml]; rfl) (argsL := [(.ref a1), (.int (2 : Int32)), (.int v1), (.int v2)]) (rest := []) (lenOf pd_9 rfl) rfl (by show 2 * 0 + _ ≤ _; exact Nat.le_of_eq rfl) (hb hby dRawMessageSecondValueStartPinLaw_allBlank_24) (fun _ _ => ⟨rfl, e272, (by decide : 0 + 0 ≤ _), (by decide : 0 + 0 ≤ _)⟩)
      dsimp only [Pt.U, Pt.locs, Pt.cells, Pt.slots] at X273 l273 y273 z273 st273 hQ273
      subst l273 y273 z273
      obtain ⟨rfl, N273q, e273⟩ := hQ273
      have N273 := Fr.app N272 N273q
      refine own_Goes.via st273 ?_
      show own_Goes _ _ _ _ _ _ _ (T273.setTop (mkF m 27 #[.val (.ref a1), .val (.int v1), .val (.int v2)] [(.int r273)]))
      by_cases hc27 : r273 = (0 : Int32)
      · rw [if_pos hc27] at hF
        refine own_Goes.via (B := T273.setTop (mkF m 65 #[.val (.ref a1), .val (.int v1), .val (.int v2)] [(.int (0 : Int32))])) (fun t k => ?_) ?_
        · show Steps p.tables e below (T273.setTop (mkF m 27 #[.val (.ref a1), .val (.int v1), .val (.int v2)] [(.int r273)])) t
          refine XS.ifYes X273.here hx rfl (pc0 := 27) (pc' := 64) rfl (hb hby dRawMessageSecondValueStartPinLaw_allBlank_27) rfl ((if0 _ _).trans (teq hc27).1) (by decide) (by decide) ?_
          show Steps p.tables e below (T273.setTop (mkF m 64 #[.val (.ref a1), .val (.int v1), .val (.int v2)] [])) t
          refine XS.iconst X273.here hx rfl (hb hby dRawMessageSecondValueStartPinLaw_allBlank_64) ?_
          exact k
        obtain rfl : (0 : Int32) = r := Option.some.inj hF
        exact own_retN X273 hx (t := .boolean) hret hlk (by simp) (hb hby dRawMessageSecondValueStartPinLaw_allBlank_65) e273 (v := (0 : Int32)) (by decide) ⟨rfl, N273, rfl⟩ (by decide) (by decide)
      · rw [if_neg hc27] at hF
        refine own_Goes.via (B := T273.setTop (mkF m 34 #[.val (.ref a1), .val (.int v1), .val (.int v2)] [(.int v2), (.int v1), (.int (3 : Int32)), (.ref a1)])) (fun t k => ?_) ?_
        · show Steps p.tables e below (T273.setTop (mkF m 27 #[.val (.ref a1), .val (.int v1), .val (.int v2)] [(.int r273)])) t
          refine XS.ifNo X273.here hx rfl (hb hby dRawMessageSecondValueStartPinLaw_allBlank_27) rfl ((if0 _ _).trans (feq hc27).1) ?_
          show Steps p.tables e below (T273.setTop (mkF m 30 #[.val (.ref a1), .val (.int v1), .val (.int v2)] [])) t
          refine XS.aloadN X273.here hx rfl (hb hby dRawMessageSecondValueStartPinLaw_allBlank_30) rfl rfl ?_
          show Steps p.tables e below (T273.setTop (mkF m 31 #[.val (.ref a1), .val (.int v1), .val (.int v2)] [(.ref a1)])) t
          refine XS.iconst X273.here hx rfl (hb hby dRawMessageSecondValueStartPinLaw_allBlank_31) ?_
          show Steps p.tables e below (T273.setTop (mkF m 32 #[.val (.ref a1), .val (.int v1), .val (.int v2)] [(.int (3 : Int32)), (.ref a1)])) t
          refine XS.iloadN X273.here hx rfl (hb hby dRawMessageSecondValueStartPinLaw_allBlank_32) rfl ?_
          show Steps p.tables e below (T273.setTop (mkF m 33 #[.val (.ref a1), .val (.int v1), .val (.int v2)] [(.int v1), (.int (3 : Int32)), (.ref a1)])) t
          refine XS.iloadN X273.here hx rfl (hb hby dRawMessageSecondValueStartPinLaw_allBlank_33) rfl ?_
          exact k
        obtain ⟨r274, hr274, hF⟩ := own_bd_e hF
        obtain ⟨_, _, ⟨T274, L274, k274, n274⟩, -, X274, ⟨Lc274, hQ274, l274, y274, z274⟩, st274⟩ := Jvm.LawKit.callS X273 hx (y := (⟨"com/example/oxpecker/oxpecker/sip/RawMessageSecondValueStartPinLaw", "blankOrOut", "([BIII)Z"⟩ : MethodName)) hown (mvT hZ (w86 hw)) (mvT hZ (w87 hw)) (mvT hZ (w3 hw)) (mvT hZ (w88 hw)) (by decide) (backOf (W := 0) (rm_RawMessageSecondValueStartPinLaw_blankOrOut l Z a0 hw [] hE n0 z a1 (3 : Int32) v1 v2 bs_a1 A_a1 g_a1 r274 hr274) hZ (w88 hw) (w3 hw) (by decide) (by decide)) (g := (mkF m 34 #[.val (.ref a1), .val (.int v1), .val (.int v2)] [(.int v2), (.int v1), (.int (3 : Int32)), (.ref a1)])) rfl (by rw [hml]; rfl) (argsL := [(.ref a1), (.int (3 : Int32)), (.int v1), (.int v2)]) (rest := []) (lenOf pd_9 rfl) rfl (by show 2 * 0 + _ ≤ _; exact Nat.le_of_eq rfl) (hb hby dRawMessageSecondValueStartPinLaw_allBlank_34) (fun _ _ => ⟨rfl, e273, (by decide : 0 + 0 ≤ _), (by decide : 0 + 0 ≤ _)⟩)
        dsimp only [Pt.U, Pt.locs, Pt.cells, Pt.slots] at X274 l274 y274 z274 st274 hQ274
        subst l274 y274 z274
        obtain ⟨rfl, N274q, e274⟩ := hQ274
        have N274 := Fr.app N273 N274q
        refine own_Goes.via st274 ?_
        show own_Goes _ _ _ _ _ _ _ (T274.setTop (mkF m 37 #[.val (.ref a1), .val (.int v1), .val (.int v2)] [(.int r274)]))
        by_cases hc37 : r274 = (0 : Int32)
        · rw [if_pos hc37] at hF
          refine own_Goes.via (B := T274.setTop (mkF m 65 #[.val (.ref a1), .val (.int v1), .val (.int v2)] [(.int (0 : Int32))])) (fun t k => ?_) ?_
          · show Steps p.tables e below (T274.setTop (mkF m 37 #[.val (.ref a1), .val (.int v1), .val (.int v2)] [(.int r274)])) t
            refine XS.ifYes X274.here hx rfl (pc0 := 37) (pc' := 64) rfl (hb hby dRawMessageSecondValueStartPinLaw_allBlank_37) rfl ((if0 _ _).trans (teq hc37).1) (by decide) (by decide) ?_
            show Steps p.tables e below (T274.setTop (mkF m 64 #[.val (.ref a1), .val (.int v1), .val (.int v2)] [])) t
            refine XS.iconst X274.here hx rfl (hb hby dRawMessageSecondValueStartPinLaw_allBlank_64) ?_
            exact k
          obtain rfl : (0 : Int32) = r := Option.some.inj hF
          exact own_retN X274 hx (t := .boolean) hret hlk (by simp) (hb hby dRawMessageSecondValueStartPinLaw_allBlank_65) e274 (v := (0 : Int32)) (by decide) ⟨rfl, N274, rfl⟩ (by decide) (by decide)
        · rw [if_neg hc37] at hF
          refine own_Goes.via (B := T274.setTop (mkF m 44 #[.val (.ref a1), .val (.int v1), .val (.int v2)] [(.int v2), (.int v1), (.int (4 : Int32)), (.ref a1)])) (fun t k => ?_) ?_
          · show Steps p.tables e below (T274.setTop (mkF m 37 #[.val (.ref a1), .val (.int v1), .val (.int v2)] [(.int r274)])) t
            refine XS.ifNo X274.here hx rfl (hb hby dRawMessageSecondValueStartPinLaw_allBlank_37) rfl ((if0 _ _).trans (feq hc37).1) ?_
            show Steps p.tables e below (T274.setTop (mkF m 40 #[.val (.ref a1), .val (.int v1), .val (.int v2)] [])) t
            refine XS.aloadN X274.here hx rfl (hb hby dRawMessageSecondValueStartPinLaw_allBlank_40) rfl rfl ?_
            show Steps p.tables e below (T274.setTop (mkF m 41 #[.val (.ref a1), .val (.int v1), .val (.int v2)] [(.ref a1)])) t
            refine XS.iconst X274.here hx rfl (hb hby dRawMessageSecondValueStartPinLaw_allBlank_41) ?_
            show Steps p.tables e below (T274.setTop (mkF m 42 #[.val (.ref a1), .val (.int v1), .val (.int v2)] [(.int (4 : Int32)), (.ref a1)])) t
            refine XS.iloadN X274.here hx rfl (hb hby dRawMessageSecondValueStartPinLaw_allBlank_42) rfl ?_
            show Steps p.tables e below (T274.setTop (mkF m 43 #[.val (.ref a1), .val (.int v1), .val (.int v2)] [(.int v1), (.int (4 : Int32)), (.ref a1)])) t
            refine XS.iloadN X274.here hx rfl (hb hby dRawMessageSecondValueStartPinLaw_allBlank_43) rfl ?_
            exact k
          obtain ⟨r275, hr275, hF⟩ := own_bd_e hF
          obtain ⟨_, _, ⟨T275, L275, k275, n275⟩, -, X275, ⟨Lc275, hQ275, l275, y275, z275⟩, st275⟩ := Jvm.LawKit.callS X274 hx (y := (⟨"com/example/oxpecker/oxpecker/sip/RawMessageSecondValueStartPinLaw", "blankOrOut", "([BIII)Z"⟩ : MethodName)) hown (mvT hZ (w86 hw)) (mvT hZ (w87 hw)) (mvT hZ (w3 hw)) (mvT hZ (w88 hw)) (by decide) (backOf (W := 0) (rm_RawMessageSecondValueStartPinLaw_blankOrOut l Z a0 hw [] hE n0 z a1 (4 : Int32) v1 v2 bs_a1 A_a1 g_a1 r275 hr275) hZ (w88 hw) (w3 hw) (by decide) (by decide)) (g := (mkF m 44 #[.val (.ref a1), .val (.int v1), .val (.int v2)] [(.int v2), (.int v1), (.int (4 : Int32)), (.ref a1)])) rfl (by rw [hml]; rfl) (argsL := [(.ref a1), (.int (4 : Int32)), (.int v1), (.int v2)]) (rest := []) (lenOf pd_9 rfl) rfl (by show 2 * 0 + _ ≤ _; exact Nat.le_of_eq rfl) (hb hby dRawMessageSecondValueStartPinLaw_allBlank_44) (fun _ _ => ⟨rfl, e274, (by decide : 0 + 0 ≤ _), (by decide : 0 + 0 ≤ _)⟩)
          dsimp only [Pt.U, Pt.locs, Pt.cells, Pt.slots] at X275 l275 y275 z275 st275 hQ275
          subst l275 y275 z275
          obtain ⟨rfl, N275q, e275⟩ := hQ275
          have N275 := Fr.app N274 N275q
          refine own_Goes.via st275 ?_
          show own_Goes _ _ _ _ _ _ _ (T275.setTop (mkF m 47 #[.val (.ref a1), .val (.int v1), .val (.int v2)] [(.int r275)]))
          by_cases hc47 : r275 = (0 : Int32)
          · rw [if_pos hc47] at hF
            refine own_Goes.via (B := T275.setTop (mkF m 65 #[.val (.ref a1), .val (.int v1), .val (.int v2)] [(.int (0 : Int32))])) (fun t k => ?_) ?_
            · show Steps p.tables e below (T275.setTop (mkF m 47 #[.val (.ref a1), .val (.int v1), .val (.int v2)] [(.int r275)])) t
              refine XS.ifYes X275.here hx rfl (pc0 := 47) (pc' := 64) rfl (hb hby dRawMessageSecondValueStartPinLaw_allBlank_47) rfl ((if0 _ _).trans (teq hc47).1) (by decide) (by decide) ?_
              show Steps p.tables e below (T275.setTop (mkF m 64 #[.val (.ref a1), .val (.int v1), .val (.int v2)] [])) t
              refine XS.iconst X275.here hx rfl (hb hby dRawMessageSecondValueStartPinLaw_allBlank_64) ?_
              exact k
            obtain rfl : (0 : Int32) = r := Option.some.inj hF
            exact own_retN X275 hx (t := .boolean) hret hlk (by simp) (hb hby dRawMessageSecondValueStartPinLaw_allBlank_65) e275 (v := (0 : Int32)) (by decide) ⟨rfl, N275, rfl⟩ (by decide) (by decide)
          · rw [if_neg hc47] at hF
            refine own_Goes.via (B := T275.setTop (mkF m 54 #[.val (.ref a1), .val (.int v1), .val (.int v2)] [(.int v2), (.int v1), (.int (5 : Int32)), (.ref a1)])) (fun t k => ?_) ?_
            · show Steps p.tables e below (T275.setTop (mkF m 47 #[.val (.ref a1), .val (.int v1), .val (.int v2)] [(.int r275)])) t
              refine XS.ifNo X275.here hx rfl (hb hby dRawMessageSecondValueStartPinLaw_allBlank_47) rfl ((if0 _ _).trans (feq hc47).1) ?_
              show Steps p.tables e below (T275.setTop (mkF m 50 #[.val (.ref a1), .val (.int v1), .val (.int v2)] [])) t
              refine XS.aloadN X275.here hx rfl (hb hby dRawMessageSecondValueStartPinLaw_allBlank_50) rfl rfl ?_
              show Steps p.tables e below (T275.setTop (mkF m 51 #[.val (.ref a1), .val (.int v1), .val (.int v2)] [(.ref a1)])) t
              refine XS.iconst X275.here hx rfl (hb hby dRawMessageSecondValueStartPinLaw_allBlank_51) ?_
              show Steps p.tables e below (T275.setTop (mkF m 52 #[.val (.ref a1), .val (.int v1), .val (.int v2)] [(.int (5 : Int32)), (.ref a1)])) t
              refine XS.iloadN X275.here hx rfl (hb hby dRawMessageSecondValueStartPinLaw_allBlank_52) rfl ?_
              show Steps p.tables e below (T275.setTop (mkF m 53 #[.val (.ref a1), .val (.int v1), .val (.int v2)] [(.int v1), (.int (5 : Int32)), (.ref a1)])) t
              refine XS.iloadN X275.here hx rfl (hb hby dRawMessageSecondValueStartPinLaw_allBlank_53) rfl ?_
              exact k
            obtain ⟨r276, hr276, hF⟩ := own_bd_e hF
            obtain ⟨_, _, ⟨T276, L276, k276, n276⟩, -, X276, ⟨Lc276, hQ276, l276, y276, z276⟩, st276⟩ := Jvm.LawKit.callS X275 hx (y := (⟨"com/example/oxpecker/oxpecker/sip/RawMessageSecondValueStartPinLaw", "blankOrOut", "([BIII)Z"⟩ : MethodName)) hown (mvT hZ (w86 hw)) (mvT hZ (w87 hw)) (mvT hZ (w3 hw)) (mvT hZ (w88 hw)) (by decide) (backOf (W := 0) (rm_RawMessageSecondValueStartPinLaw_blankOrOut l Z a0 hw [] hE n0 z a1 (5 : Int32) v1 v2 bs_a1 A_a1 g_a1 r276 hr276) hZ (w88 hw) (w3 hw) (by decide) (by decide)) (g := (mkF m 54 #[.val (.ref a1), .val (.int v1), .val (.int v2)] [(.int v2), (.int v1), (.int (5 : Int32)), (.ref a1)])) rfl (by rw [hml]; rfl) (argsL := [(.ref a1), (.int (5 : Int32)), (.int v1), (.int v2)]) (rest := []) (lenOf pd_9 rfl) rfl (by show 2 * 0 + _ ≤ _; exact Nat.le_of_eq rfl) (hb hby dRawMessageSecondValueStartPinLaw_allBlank_54) (fun _ _ => ⟨rfl, e275, (by decide : 0 + 0 ≤ _), (by decide : 0 + 0 ≤ _)⟩)
            dsimp only [Pt.U, Pt.locs, Pt.cells, Pt.slots] at X276 l276 y276 z276 st276 hQ276
            subst l276 y276 z276
            obtain ⟨rfl, N276q, e276⟩ := hQ276
            have N276 := Fr.app N275 N276q
            refine own_Goes.via st276 ?_
            show own_Goes _ _ _ _ _ _ _ (T276.setTop (mkF m 57 #[.val (.ref a1), .val (.int v1), .val (.int v2)] [(.int r276)]))
            by_cases hc57 : r276 = (0 : Int32)
            · rw [if_pos hc57] at hF
              refine own_Goes.via (B := T276.setTop (mkF m 65 #[.val (.ref a1), .val (.int v1), .val (.int v2)] [(.int (0 : Int32))])) (fun t k => ?_) ?_
              · show Steps p.tables e below (T276.setTop (mkF m 57 #[.val (.ref a1), .val (.int v1), .val (.int v2)] [(.int r276)])) t
                refine XS.ifYes X276.here hx rfl (pc0 := 57) (pc' := 64) rfl (hb hby dRawMessageSecondValueStartPinLaw_allBlank_57) rfl ((if0 _ _).trans (teq hc57).1) (by decide) (by decide) ?_
                show Steps p.tables e below (T276.setTop (mkF m 64 #[.val (.ref a1), .val (.int v1), .val (.int v2)] [])) t
                refine XS.iconst X276.here hx rfl (hb hby dRawMessageSecondValueStartPinLaw_allBlank_64) ?_
                exact k
              obtain rfl : (0 : Int32) = r := Option.some.inj hF
              exact own_retN X276 hx (t := .boolean) hret hlk (by simp) (hb hby dRawMessageSecondValueStartPinLaw_allBlank_65) e276 (v := (0 : Int32)) (by decide) ⟨rfl, N276, rfl⟩ (by decide) (by decide)
            · rw [if_neg hc57] at hF
              refine own_Goes.via (B := T276.setTop (mkF m 65 #[.val (.ref a1), .val (.int v1), .val (.int v2)] [(.int (1 : Int32))])) (fun t k => ?_) ?_
              · show Steps p.tables e below (T276.setTop (mkF m 57 #[.val (.ref a1), .val (.int v1), .val (.int v2)] [(.int r276)])) t
                refine XS.ifNo X276.here hx rfl (hb hby dRawMessageSecondValueStartPinLaw_allBlank_57) rfl ((if0 _ _).trans (feq hc57).1) ?_
                show Steps p.tables e below (T276.setTop (mkF m 60 #[.val (.ref a1), .val (.int v1), .val (.int v2)] [])) t
                refine XS.iconst X276.here hx rfl (hb hby dRawMessageSecondValueStartPinLaw_allBlank_60) ?_
                show Steps p.tables e below (T276.setTop (mkF m 61 #[.val (.ref a1), .val (.int v1), .val (.int v2)] [(.int (1 : Int32))])) t
                refine XS.goto X276.here hx rfl (pc0 := 61) (pc' := 65) rfl (hb hby dRawMessageSecondValueStartPinLaw_allBlank_61) (by decide) (by decide) ?_
                exact k
              obtain rfl : (1 : Int32) = r := Option.some.inj hF
              exact own_retN X276 hx (t := .boolean) hret hlk (by simp) (hb hby dRawMessageSecondValueStartPinLaw_allBlank_65) e276 (v := (1 : Int32)) (by decide) ⟨rfl, N276, rfl⟩ (by decide) (by decide)
theorem ef_RawMessageSecondValueStartPinLaw_allBlank (m : MethodId) (x0 : Addr) (x1 : Int32) (x2 : Int32) : entryFrame m #[(.ref x0), (.int x1), (.int x2)] 3 = mkF m 0 #[.val (.ref x0), .val (.int x1), .val (.int x2)] [] := by first | (simp [entryFrame, mkF, argsToLocals, Value.category]; done) | rfl
set_option maxRecDepth 65536 in
set_option maxHeartbeats 4000000 in
theorem rm_RawMessageSecondValueStartPinLaw_allBlank (l : Launch) (Z : State) (a0 : Array Value) (hw : ∀ d ∈ tables_1, d.before a0 Z = true) (ws : List Jvm.Cond) (hE : Heap) (n0 : Nat) (z : n0 ≤ hE.size) (a1 : Addr) (v1 : Int32) (v2 : Int32) (bs_a1 : List Int32) (A_a1 : own_Ar Z hE a1 .byte (bs_a1.map Value.int)) (g_a1 : n0 ≤ a1) (r : Int32) (hF : (f_RawMessageSecondValueStartPinLaw_allBlank v1 v2 bs_a1) = some r) :
    MetFree l (⟨"com/example/oxpecker/oxpecker/sip/RawMessageSecondValueStartPinLaw", "allBlank", "([BII)Z"⟩ : MethodName) (head1 (Jvm.Cond.code (⟨"com/example/oxpecker/oxpecker/sip/RawMessageSecondValueStartPinLaw", "allBlank", "([BII)Z"⟩ : MethodName) method_8_code 3 (some .boolean) :: ws) ({ frames := 2, cells := 0, slots := 0, locals := 28 } : Room)) (fun a U => a = #[(.ref a1), (.int v1), (.int v2)] ∧ Z.Warmed39 U.vm ∧ U.heap = hE) (fun _ _ _ _ _ => True) (fun _ U o U' => ∃ v L, o = .returned v ∧ (Q_RawMessageSecondValueStartPinLaw_allBlank Z hE n0 a1 r) v U'.heap L ∧ FrameEnd U o U' L ({ frames := 2, cells := 0, slots := 0, locals := 28 } : Room).cells ({ frames := 2, cells := 0, slots := 0, locals := 28 } : Room).slots) := by
  refine MetFree.of_bodySF (plainFor_of_name pn_com_example_oxpecker_oxpecker_sip_RawMessageSecondValueStartPinLaw) hisR ?_
  intro p e s m args below meth c s₁ Bd hml0 hP hK
  obtain ⟨rfl, hZ, hh⟩ := hP
  have X0 : Stand p l e ({ frames := 2, cells := 0, slots := 0, locals := 28 } : Room) s m #[(.ref a1), (.int v1), (.int v2)] below meth c s₁ [] 0 0 := Stand.of_body Bd
  have e0 : s₁.heap = hE := by rw [← hh, Bd.state]; rfl
  have cx : Cx_RawMessageSecondValueStartPinLaw_allBlank p s m meth c Z a0 := ⟨Bd.exec, hZ, hw, Bd.bytes, hml0, findClass_of_methodNamed Bd.named, Bd.returns, Bd.notSynchronized, (name_of_methodNamed Bd.named Bd.method).1⟩
  show own_Goes p e below s (Q_RawMessageSecondValueStartPinLaw_allBlank Z hE n0 a1 r) ({ frames := 2, cells := 0, slots := 0, locals := 28 } : Room).cells ({ frames := 2, cells := 0, slots := 0, locals := 28 } : Room).slots (s₁.setTop (entryFrame m #[(.ref a1), (.int v1), (.int v2)] 3))
  rw [ef_RawMessageSecondValueStartPinLaw_allBlank]
  exact b_RawMessageSecondValueStartPinLaw_allBlank cx a1 X0 e0 (Fr.nil n0) z v1 v2 bs_a1 A_a1 g_a1 _ hF
/-! com/example/oxpecker/oxpecker/sip/RawMessageSecondValueStartPinLaw.commaAt:([BIIII)Z -/
def f_RawMessageSecondValueStartPinLaw_commaAt (v1 : Int32) (v2 : Int32) (v3 : Int32) (v4 : Int32) (bs_a1 : List Int32) : Option (Int32) :=
  own_bd (f_RawMessageSecondValueStartPinLaw_isC v1 bs_a1) fun r289 =>
  if r289 = (0 : Int32) then
    some (0 : Int32)
  else
    if v1 < v2 then
      some (0 : Int32)
    else
      if v1 < v3 then
        own_bd (f_RawMessageSecondValueStartPinLaw_noComma v2 v1 bs_a1) fun r290 =>
        if r290 = (0 : Int32) then
          some (0 : Int32)
        else
          if v1 < v4 then
            own_lt (v1 + (1 : Int32)) fun x291 =>
            own_bd (f_RawMessageSecondValueStartPinLaw_allBlank x291 v4 bs_a1) fun r292 =>
            if r292 = (0 : Int32) then
              some (0 : Int32)
            else
              if v4 = (own_sz bs_a1) then
                some (1 : Int32)
              else
                if v4 < (own_sz bs_a1) then
                  own_bd (f_RawMessageSecondValueStartPinLaw_isBl v4 bs_a1) fun r293 =>
                  if r293 = (0 : Int32) then
                    some (1 : Int32)
                  else
                    some (0 : Int32)
                else
                  some (0 : Int32)
          else
            some (0 : Int32)
      else
        some (0 : Int32)
def Q_RawMessageSecondValueStartPinLaw_commaAt (Z : State) (hE : Heap) (n0 : Nat) (a1 : Addr) (r : Int32) (v : Option Value) (h : Heap) (L : List Loc) : Prop := v = some (.int r) ∧ Fr n0 L ∧ h = hE
def Cx_RawMessageSecondValueStartPinLaw_commaAt (p : Program) (s : State) (m : MethodId) (meth : Method) (c : Code) (Z : State) (a0 : Array Value) : Prop := p.tables.exec = Jvm.exec ∧ Z.Warmed39 s.vm ∧ (∀ d ∈ tables_1, d.before a0 Z = true) ∧ c.code = method_9_code ∧ c.maxLocals = 5 ∧ s.vm.findClass "com/example/oxpecker/oxpecker/sip/RawMessageSecondValueStartPinLaw" = some m.cls ∧ meth.sig.returnType = some .boolean ∧ meth.locks = false ∧ meth.name = "commaAt"
set_option maxRecDepth 65536 in
set_option maxHeartbeats 4000000 in
theorem b_RawMessageSecondValueStartPinLaw_commaAt {p : Program} {l : Launch} {e : Env} {s : State} {m : MethodId} {args : Array Value} {below : List Frame} {meth : Method} {c : Code} {Z : State} {a0 : Array Value} {n0 : Nat} {hE : Heap} (cx : Cx_RawMessageSecondValueStartPinLaw_commaAt p s m meth c Z a0) (a1 : Addr) :
    ∀ {T : State} {locs : List Loc} (X : Stand p l e ({ frames := 3, cells := 0, slots := 0, locals := 42 } : Room) s m args below meth c T locs 0 0) (eT : T.heap = hE) (N : Fr n0 locs) (z : n0 ≤ hE.size) (v1 : Int32) (v2 : Int32) (v3 : Int32) (v4 : Int32) (bs_a1 : List Int32) (A_a1 : own_Ar Z hE a1 .byte (bs_a1.map Value.int)) (g_a1 : n0 ≤ a1) (r : Int32), f_RawMessageSecondValueStartPinLaw_commaAt v1 v2 v3 v4 bs_a1 = some r → own_Goes p e below s (Q_RawMessageSecondValueStartPinLaw_commaAt Z hE n0 a1 r) 0 0 (T.setTop (mkF m 0 #[.val (.ref a1), .val (.int v1), .val (.int v2), .val (.int v3), .val (.int v4)] [])) := by
  have cx' := cx
  obtain ⟨hx, hZ, hw, hby, hml, hown, hret, hlk, hnm⟩ := cx'
  intro T locs X eT N z v1 v2 v3 v4 bs_a1 A_a1 g_a1 r hF
  unfold f_RawMessageSecondValueStartPinLaw_commaAt at hF
  refine own_Goes.via (B := T.setTop (mkF m 2 #[.val (.ref a1), .val (.int v1), .val (.int v2), .val (.int v3), .val (.int v4)] [(.int v1), (.ref a1)])) (fun t k => ?_) ?_
  · show Steps p.tables e below (T.setTop (mkF m 0 #[.val (.ref a1), .val (.int v1), .val (.int v2), .val (.int v3), .val (.int v4)] [])) t
    refine XS.aloadN X.here hx rfl (hb hby dRawMessageSecondValueStartPinLaw_commaAt_0) rfl rfl ?_
    show Steps p.tables e below (T.setTop (mkF m 1 #[.val (.ref a1), .val (.int v1), .val (.int v2), .val (.int v3), .val (.int v4)] [(.ref a1)])) t
    refine XS.iloadN X.here hx rfl (hb hby dRawMessageSecondValueStartPinLaw_commaAt_1) rfl ?_
    exact k
  obtain ⟨r289, hr289, hF⟩ := own_bd_e hF
  obtain ⟨_, _, ⟨T289, L289, k289, n289⟩, -, X289, ⟨Lc289, hQ289, l289, y289, z289⟩, st289⟩ := Jvm.LawKit.callS X hx (y := (⟨"com/example/oxpecker/oxpecker/sip/RawMessageSecondValueStartPinLaw", "isC", "([BI)Z"⟩ : MethodName)) hown (mvT hZ (w80 hw)) (mvT hZ (w81 hw)) (mvT hZ (w3 hw)) (mvT hZ (w82 hw)) (by decide) (backOf (W := 0) (rm_RawMessageSecondValueStartPinLaw_isC l Z a0 hw [] hE n0 z a1 v1 bs_a1 A_a1 g_a1 r289 hr289) hZ (w82 hw) (w3 hw) (by decide) (by decide)) (g := (mkF m 2 #[.val (.ref a1), .val (.int v1), .val (.int v2), .val (.int v3), .val (.int v4)] [(.int v1), (.ref a1)])) rfl (by rw [hml]; rfl) (argsL := [(.ref a1), (.int v1)]) (rest := []) (lenOf pd_8 rfl) rfl (by show 2 * 0 + _ ≤ _; exact Nat.le_of_eq rfl) (hb hby dRawMessageSecondValueStartPinLaw_commaAt_2) (fun _ _ => ⟨rfl, eT, (by decide : 0 + 0 ≤ _), (by decide : 0 + 0 ≤ _)⟩)
  dsimp only [Pt.U, Pt.locs, Pt.cells, Pt.slots] at X289 l289 y289 z289 st289 hQ289
  subst l289 y289 z289
  obtain ⟨rfl, N289q, e289⟩ := hQ289
  have N289 := Fr.app N N289q
  refine own_Goes.via st289 ?_
  show own_Goes _ _ _ _ _ _ _ (T289.setTop (mkF m 5 #[.val (.ref a1), .val (.int v1), .val (.int v2), .val (.int v3), .val (.int v4)] [(.int r289)]))
  by_cases hc5 : r289 = (0 : Int32)
  · rw [if_pos hc5] at hF
    refine own_Goes.via (B := T289.setTop (mkF m 73 #[.val (.ref a1), .val (.int v1), .val (.int v2), .val (.int v3), .val (.int v4)] [(.int (0 : Int32))])) (fun t k => ?_) ?_
    · show Steps p.tables e below (T289.setTop (mkF m 5 #[.val (.ref a1), .val (.int v1), .val (.int v2), .val (.int v3), .val (.int v4)] [(.int r289)])) t
      refine XS.ifYes X289.here hx rfl (pc0 := 5) (pc' := 72) rfl (hb hby dRawMessageSecondValueStartPinLaw_commaAt_5) rfl ((if0 _ _).trans (teq hc5).1) (by decide) (by decide) ?_
      show Steps p.tables e below (T289.setTop (mkF m 72 #[.val (.ref a1), .val (.int v1), .val (.int v2), .val (.int v3), .val (.int v4)] [])) t
      refine XS.iconst X289.here hx rfl (hb hby dRawMessageSecondValueStartPinLaw_commaAt_72) ?_
      exact k
    obtain rfl : (0 : Int32) = r := Option.some.inj hF
    exact own_retN X289 hx (t := .boolean) hret hlk (by simp) (hb hby dRawMessageSecondValueStartPinLaw_commaAt_73) e289 (v := (0 : Int32)) (by decide) ⟨rfl, N289, rfl⟩ (by decide) (by decide)
  · rw [if_neg hc5] at hF
    refine own_Goes.via (B := T289.setTop (mkF m 10 #[.val (.ref a1), .val (.int v1), .val (.int v2), .val (.int v3), .val (.int v4)] [(.int v1), (.int v2)])) (fun t k => ?_) ?_
    · show Steps p.tables e below (T289.setTop (mkF m 5 #[.val (.ref a1), .val (.int v1), .val (.int v2), .val (.int v3), .val (.int v4)] [(.int r289)])) t
      refine XS.ifNo X289.here hx rfl (hb hby dRawMessageSecondValueStartPinLaw_commaAt_5) rfl ((if0 _ _).trans (feq hc5).1) ?_
      show Steps p.tables e below (T289.setTop (mkF m 8 #[.val (.ref a1), .val (.int v1), .val (.int v2), .val (.int v3), .val (.int v4)] [])) t
      refine XS.iloadN X289.here hx rfl (hb hby dRawMessageSecondValueStartPinLaw_commaAt_8) rfl ?_
      show Steps p.tables e below (T289.setTop (mkF m 9 #[.val (.ref a1), .val (.int v1), .val (.int v2), .val (.int v3), .val (.int v4)] [(.int v2)])) t
      refine XS.iloadN X289.here hx rfl (hb hby dRawMessageSecondValueStartPinLaw_commaAt_9) rfl ?_
      exact k
    by_cases hc10 : v1 < v2
    · rw [if_pos hc10] at hF
      refine own_Goes.via (B := T289.setTop (mkF m 73 #[.val (.ref a1), .val (.int v1), .val (.int v2), .val (.int v3), .val (.int v4)] [(.int (0 : Int32))])) (fun t k => ?_) ?_
      · show Steps p.tables e below (T289.setTop (mkF m 10 #[.val (.ref a1), .val (.int v1), .val (.int v2), .val (.int v3), .val (.int v4)] [(.int v1), (.int v2)])) t
        refine XS.icmpYes X289.here hx rfl (pc0 := 10) (pc' := 72) rfl (hb hby dRawMessageSecondValueStartPinLaw_commaAt_10) rfl (tlt hc10).2.2.1 (by decide) (by decide) ?_
        show Steps p.tables e below (T289.setTop (mkF m 72 #[.val (.ref a1), .val (.int v1), .val (.int v2), .val (.int v3), .val (.int v4)] [])) t
        refine XS.iconst X289.here hx rfl (hb hby dRawMessageSecondValueStartPinLaw_commaAt_72) ?_
        exact k
      obtain rfl : (0 : Int32) = r := Option.some.inj hF
      exact own_retN X289 hx (t := .boolean) hret hlk (by simp) (hb hby dRawMessageSecondValueStartPinLaw_commaAt_73) e289 (v := (0 : Int32)) (by decide) ⟨rfl, N289, rfl⟩ (by decide) (by decide)
    · rw [if_neg hc10] at hF
      refine own_Goes.via (B := T289.setTop (mkF m 15 #[.val (.ref a1), .val (.int v1), .val (.int v2), .val (.int v3), .val (.int v4)] [(.int v3), (.int v1)])) (fun t k => ?_) ?_
      · show Steps p.tables e below (T289.setTop (mkF m 10 #[.val (.ref a1), .val (.int v1), .val (.int v2), .val (.int v3), .val (.int v4)] [(.int v1), (.int v2)])) t
        refine XS.icmpNo X289.here hx rfl (hb hby dRawMessageSecondValueStartPinLaw_commaAt_10) rfl (flt hc10).2.2.1 ?_
        show Steps p.tables e below (T289.setTop (mkF m 13 #[.val (.ref a1), .val (.int v1), .val (.int v2), .val (.int v3), .val (.int v4)] [])) t
        refine XS.iloadN X289.here hx rfl (hb hby dRawMessageSecondValueStartPinLaw_commaAt_13) rfl ?_
        show Steps p.tables e below (T289.setTop (mkF m 14 #[.val (.ref a1), .val (.int v1), .val (.int v2), .val (.int v3), .val (.int v4)] [(.int v1)])) t
        refine XS.iloadN X289.here hx rfl (hb hby dRawMessageSecondValueStartPinLaw_commaAt_14) rfl ?_
        exact k
      by_cases hc15 : v1 < v3
      · rw [if_pos hc15] at hF
        refine own_Goes.via (B := T289.setTop (mkF m 21 #[.val (.ref a1), .val (.int v1), .val (.int v2), .val (.int v3), .val (.int v4)] [(.int v1), (.int v2), (.ref a1)])) (fun t k => ?_) ?_
        · show Steps p.tables e below (T289.setTop (mkF m 15 #[.val (.ref a1), .val (.int v1), .val (.int v2), .val (.int v3), .val (.int v4)] [(.int v3), (.int v1)])) t
          refine XS.icmpNo X289.here hx rfl (hb hby dRawMessageSecondValueStartPinLaw_commaAt_15) rfl (tlt hc15).2.1 ?_
          show Steps p.tables e below (T289.setTop (mkF m 18 #[.val (.ref a1), .val (.int v1), .val (.int v2), .val (.int v3), .val (.int v4)] [])) t
          refine XS.aloadN X289.here hx rfl (hb hby dRawMessageSecondValueStartPinLaw_commaAt_18) rfl rfl ?_
          show Steps p.tables e below (T289.setTop (mkF m 19 #[.val (.ref a1), .val (.int v1), .val (.int v2), .val (.int v3), .val (.int v4)] [(.ref a1)])) t
          refine XS.iloadN X289.here hx rfl (hb hby dRawMessageSecondValueStartPinLaw_commaAt_19) rfl ?_
          show Steps p.tables e below (T289.setTop (mkF m 20 #[.val (.ref a1), .val (.int v1), .val (.int v2), .val (.int v3), .val (.int v4)] [(.int v2), (.ref a1)])) t
          refine XS.iloadN X289.here hx rfl (hb hby dRawMessageSecondValueStartPinLaw_commaAt_20) rfl ?_
          exact k
        obtain ⟨r290, hr290, hF⟩ := own_bd_e hF
        obtain ⟨_, _, ⟨T290, L290, k290, n290⟩, -, X290, ⟨Lc290, hQ290, l290, y290, z290⟩, st290⟩ := Jvm.LawKit.callS X289 hx (y := (⟨"com/example/oxpecker/oxpecker/sip/RawMessageSecondValueStartPinLaw", "noComma", "([BII)Z"⟩ : MethodName)) hown (mvT hZ (w67 hw)) (mvT hZ (w68 hw)) (mvT hZ (w3 hw)) (mvT hZ (w69 hw)) (by decide) (backOf (W := 0) (rm_RawMessageSecondValueStartPinLaw_noComma l Z a0 hw [] hE n0 z a1 v2 v1 bs_a1 A_a1 g_a1 r290 hr290) hZ (w69 hw) (w3 hw) (by decide) (by decide)) (g := (mkF m 21 #[.val (.ref a1), .val (.int v1), .val (.int v2), .val (.int v3), .val (.int v4)] [(.int v1), (.int v2), (.ref a1)])) rfl (by rw [hml]; rfl) (argsL := [(.ref a1), (.int v2), (.int v1)]) (rest := []) (lenOf pd_10 rfl) rfl (by show 2 * 0 + _ ≤ _; exact Nat.le_of_eq rfl) (hb hby dRawMessageSecondValueStartPinLaw_commaAt_21) (fun _ _ => ⟨rfl, e289, (by decide : 0 + 0 ≤ _), (by decide : 0 + 0 ≤ _)⟩)
        dsimp only [Pt.U, Pt.locs, Pt.cells, Pt.slots] at X290 l290 y290 z290 st290 hQ290
        subst l290 y290 z290
        obtain ⟨rfl, N290q, e290⟩ := hQ290
        have N290 := Fr.app N289 N290q
        refine own_Goes.via st290 ?_
        show own_Goes _ _ _ _ _ _ _ (T290.setTop (mkF m 24 #[.val (.ref a1), .val (.int v1), .val (.int v2), .val (.int v3), .val (.int v4)] [(.int r290)]))
        by_cases hc24 : r290 = (0 : Int32)
        · rw [if_pos hc24] at hF
          refine own_Goes.via (B := T290.setTop (mkF m 73 #[.val (.ref a1), .val (.int v1), .val (.int v2), .val (.int v3), .val (.int v4)] [(.int (0 : Int32))])) (fun t k => ?_) ?_
          · show Steps p.tables e below (T290.setTop (mkF m 24 #[.val (.ref a1), .val (.int v1), .val (.int v2), .val (.int v3), .val (.int v4)] [(.int r290)])) t
            refine XS.ifYes X290.here hx rfl (pc0 := 24) (pc' := 72) rfl (hb hby dRawMessageSecondValueStartPinLaw_commaAt_24) rfl ((if0 _ _).trans (teq hc24).1) (by decide) (by decide) ?_
            show Steps p.tables e below (T290.setTop (mkF m 72 #[.val (.ref a1), .val (.int v1), .val (.int v2), .val (.int v3), .val (.int v4)] [])) t
            refine XS.iconst X290.here hx rfl (hb hby dRawMessageSecondValueStartPinLaw_commaAt_72) ?_
            exact k
          obtain rfl : (0 : Int32) = r := Option.some.inj hF
          exact own_retN X290 hx (t := .boolean) hret hlk (by simp) (hb hby dRawMessageSecondValueStartPinLaw_commaAt_73) e290 (v := (0 : Int32)) (by decide) ⟨rfl, N290, rfl⟩ (by decide) (by decide)
        · rw [if_neg hc24] at hF
          refine own_Goes.via (B := T290.setTop (mkF m 30 #[.val (.ref a1), .val (.int v1), .val (.int v2), .val (.int v3), .val (.int v4)] [(.int v1), (.int v4)])) (fun t k => ?_) ?_
          · show Steps p.tables e below (T290.setTop (mkF m 24 #[.val (.ref a1), .val (.int v1), .val (.int v2), .val (.int v3), .val (.int v4)] [(.int r290)])) t
            refine XS.ifNo X290.here hx rfl (hb hby dRawMessageSecondValueStartPinLaw_commaAt_24) rfl ((if0 _ _).trans (feq hc24).1) ?_
            show Steps p.tables e below (T290.setTop (mkF m 27 #[.val (.ref a1), .val (.int v1), .val (.int v2), .val (.int v3), .val (.int v4)] [])) t
            refine XS.iload X290.here hx rfl (hb hby dRawMessageSecondValueStartPinLaw_commaAt_27) rfl ?_
            show Steps p.tables e below (T290.setTop (mkF m 29 #[.val (.ref a1), .val (.int v1), .val (.int v2), .val (.int v3), .val (.int v4)] [(.int v4)])) t
            refine XS.iloadN X290.here hx rfl (hb hby dRawMessageSecondValueStartPinLaw_commaAt_29) rfl ?_
            exact k
          by_cases hc30 : v1 < v4
          · rw [if_pos hc30] at hF
            refine own_Goes.via (B := T290.setTop (mkF m 39 #[.val (.ref a1), .val (.int v1), .val (.int v2), .val (.int v3), .val (.int v4)] [(.int v4), (.int (v1 + (1 : Int32))), (.ref a1)])) (fun t k => ?_) ?_
            · show Steps p.tables e below (T290.setTop (mkF m 30 #[.val (.ref a1), .val (.int v1), .val (.int v2), .val (.int v3), .val (.int v4)] [(.int v1), (.int v4)])) t
              refine XS.icmpNo X290.here hx rfl (hb hby dRawMessageSecondValueStartPinLaw_commaAt_30) rfl (tlt hc30).2.2.2 ?_
              show Steps p.tables e below (T290.setTop (mkF m 33 #[.val (.ref a1), .val (.int v1), .val (.int v2), .val (.int v3), .val (.int v4)] [])) t
              refine XS.aloadN X290.here hx rfl (hb hby dRawMessageSecondValueStartPinLaw_commaAt_33) rfl rfl ?_
              show Steps p.tables e below (T290.setTop (mkF m 34 #[.val (.ref a1), .val (.int v1), .val (.int v2), .val (.int v3), .val (.int v4)] [(.ref a1)])) t
              refine XS.iloadN X290.here hx rfl (hb hby dRawMessageSecondValueStartPinLaw_commaAt_34) rfl ?_
              show Steps p.tables e below (T290.setTop (mkF m 35 #[.val (.ref a1), .val (.int v1), .val (.int v2), .val (.int v3), .val (.int v4)] [(.int v1), (.ref a1)])) t
              refine XS.iconst X290.here hx rfl (hb hby dRawMessageSecondValueStartPinLaw_commaAt_35) ?_
              show Steps p.tables e below (T290.setTop (mkF m 36 #[.val (.ref a1), .val (.int v1), .val (.int v2), .val (.int v3), .val (.int v4)] [(.int (1 : Int32)), (.int v1), (.ref a1)])) t
              refine XS.iadd X290.here hx rfl (hb hby dRawMessageSecondValueStartPinLaw_commaAt_36) rfl ?_
              show Steps p.tables e below (T290.setTop (mkF m 37 #[.val (.ref a1), .val (.int v1), .val (.int v2), .val (.int v3), .val (.int v4)] [(.int (v1 + (1 : Int32))), (.ref a1)])) t
              refine XS.iload X290.here hx rfl (hb hby dRawMessageSecondValueStartPinLaw_commaAt_37) rfl ?_
              exact k
            obtain ⟨x291, hx291, hF⟩ := own_lt_e hF
            rw [← hx291]
            obtain ⟨r292, hr292, hF⟩ := own_bd_e hF
            obtain ⟨_, _, ⟨T292, L292, k292, n292⟩, -, X292, ⟨Lc292, hQ292, l292, y292, z292⟩, st292⟩ := Jvm.LawKit.callS X290 hx (y := (⟨"com/example/oxpecker/oxpecker/sip/RawMessageSecondValueStartPinLaw", "allBlank", "([BII)Z"⟩ : MethodName)) hown (mvT hZ (w83 hw)) (mvT hZ (w84 hw)) (mvT hZ (w3 hw)) (mvT hZ (w85 hw)) (by decide) (backOf (W := 0) (rm_RawMessageSecondValueStartPinLaw_allBlank l Z a0 hw [] hE n0 z a1 x291 v4 bs_a1 A_a1 g_a1 r292 hr292) hZ (w85 hw) (w3 hw) (by decide) (by decide)) (g := (mkF m 39 #[.val (.ref a1), .val (.int v1), .val (.int v2), .val (.int v3), .val (.int v4)] [(.int v4), (.int x291), (.ref a1)])) rfl (by rw [hml]; rfl) (argsL := [(.ref a1), (.int x291), (.int v4)]) (rest := []) (lenOf pd_10 rfl) rfl (by show 2 * 0 + _ ≤ _; exact Nat.le_of_eq rfl) (hb hby dRawMessageSecondValueStartPinLaw_commaAt_39) (fun _ _ => ⟨rfl, e290, (by decide : 0 + 0 ≤ _), (by decide : 0 + 0 ≤ _)⟩)
            dsimp only [Pt.U, Pt.locs, Pt.cells, Pt.slots] at X292 l292 y292 z292 st292 hQ292
            subst l292 y292 z292
            obtain ⟨rfl, N292q, e292⟩ := hQ292
            have N292 := Fr.app N290 N292q
            refine own_Goes.via st292 ?_
            show own_Goes _ _ _ _ _ _ _ (T292.setTop (mkF m 42 #[.val (.ref a1), .val (.int v1), .val (.int v2), .val (.int v3), .val (.int v4)] [(.int r292)]))
            by_cases hc42 : r292 = (0 : Int32)
            · rw [if_pos hc42] at hF
              refine own_Goes.via (B := T292.setTop (mkF m 73 #[.val (.ref a1), .val (.int v1), .val (.int v2), .val (.int v3), .val (.int v4)] [(.int (0 : Int32))])) (fun t k => ?_) ?_
              · show Steps p.tables e below (T292.setTop (mkF m 42 #[.val (.ref a1), .val (.int v1), .val (.int v2), .val (.int v3), .val (.int v4)] [(.int r292)])) t
                refine XS.ifYes X292.here hx rfl (pc0 := 42) (pc' := 72) rfl (hb hby dRawMessageSecondValueStartPinLaw_commaAt_42) rfl ((if0 _ _).trans (teq hc42).1) (by decide) (by decide) ?_
                show Steps p.tables e below (T292.setTop (mkF m 72 #[.val (.ref a1), .val (.int v1), .val (.int v2), .val (.int v3), .val (.int v4)] [])) t
                refine XS.iconst X292.here hx rfl (hb hby dRawMessageSecondValueStartPinLaw_commaAt_72) ?_
                exact k
              obtain rfl : (0 : Int32) = r := Option.some.inj hF
              exact own_retN X292 hx (t := .boolean) hret hlk (by simp) (hb hby dRawMessageSecondValueStartPinLaw_commaAt_73) e292 (v := (0 : Int32)) (by decide) ⟨rfl, N292, rfl⟩ (by decide) (by decide)
            · rw [if_neg hc42] at hF
              refine own_Goes.via (B := T292.setTop (mkF m 49 #[.val (.ref a1), .val (.int v1), .val (.int v2), .val (.int v3), .val (.int v4)] [(.int (own_sz bs_a1)), (.int v4)])) (fun t k => ?_) ?_
              · show Steps p.tables e below (T292.setTop (mkF m 42 #[.val (.ref a1), .val (.int v1), .val (.int v2), .val (.int v3), .val (.int v4)] [(.int r292)])) t
                refine XS.ifNo X292.here hx rfl (hb hby dRawMessageSecondValueStartPinLaw_commaAt_42) rfl ((if0 _ _).trans (feq hc42).1) ?_
                show Steps p.tables e below (T292.setTop (mkF m 45 #[.val (.ref a1), .val (.int v1), .val (.int v2), .val (.int v3), .val (.int v4)] [])) t
                refine XS.iload X292.here hx rfl (hb hby dRawMessageSecondValueStartPinLaw_commaAt_45) rfl ?_
                show Steps p.tables e below (T292.setTop (mkF m 47 #[.val (.ref a1), .val (.int v1), .val (.int v2), .val (.int v3), .val (.int v4)] [(.int v4)])) t
                refine XS.aloadN X292.here hx rfl (hb hby dRawMessageSecondValueStartPinLaw_commaAt_47) rfl rfl ?_
                show Steps p.tables e below (T292.setTop (mkF m 48 #[.val (.ref a1), .val (.int v1), .val (.int v2), .val (.int v3), .val (.int v4)] [(.ref a1), (.int v4)])) t
                refine own_len X292 hx hZ e292 A_a1 (g := (mkF m 48 #[.val (.ref a1), .val (.int v1), .val (.int v2), .val (.int v3), .val (.int v4)] [(.ref a1), (.int v4)])) rfl rfl (hb hby dRawMessageSecondValueStartPinLaw_commaAt_48) ?_
                exact k
              by_cases hc49 : v4 = (own_sz bs_a1)
              · rw [if_pos hc49] at hF
                refine own_Goes.via (B := T292.setTop (mkF m 73 #[.val (.ref a1), .val (.int v1), .val (.int v2), .val (.int v3), .val (.int v4)] [(.int (1 : Int32))])) (fun t k => ?_) ?_
                · show Steps p.tables e below (T292.setTop (mkF m 49 #[.val (.ref a1), .val (.int v1), .val (.int v2), .val (.int v3), .val (.int v4)] [(.int (own_sz bs_a1)), (.int v4)])) t
                  refine XS.icmpYes X292.here hx rfl (pc0 := 49) (pc' := 68) rfl (hb hby dRawMessageSecondValueStartPinLaw_commaAt_49) rfl (teq hc49).1 (by decide) (by decide) ?_
                  show Steps p.tables e below (T292.setTop (mkF m 68 #[.val (.ref a1), .val (.int v1), .val (.int v2), .val (.int v3), .val (.int v4)] [])) t
                  refine XS.iconst X292.here hx rfl (hb hby dRawMessageSecondValueStartPinLaw_commaAt_68) ?_
                  show Steps p.tables e below (T292.setTop (mkF m 69 #[.val (.ref a1), .val (.int v1), .val (.int v2), .val (.int v3), .val (.int v4)] [(.int (1 : Int32))])) t
                  refine XS.goto X292.here hx rfl (pc0 := 69) (pc' := 73) rfl (hb hby dRawMessageSecondValueStartPinLaw_commaAt_69) (by decide) (by decide) ?_
                  exact k
                obtain rfl : (1 : Int32) = r := Option.some.inj hF
                exact own_retN X292 hx (t := .boolean) hret hlk (by simp) (hb hby dRawMessageSecondValueStartPinLaw_commaAt_73) e292 (v := (1 : Int32)) (by decide) ⟨rfl, N292, rfl⟩ (by decide) (by decide)
              · rw [if_neg hc49] at hF
                refine own_Goes.via (B := T292.setTop (mkF m 56 #[.val (.ref a1), .val (.int v1), .val (.int v2), .val (.int v3), .val (.int v4)] [(.int (own_sz bs_a1)), (.int v4)])) (fun t k => ?_) ?_
                · show Steps p.tables e below (T292.setTop (mkF m 49 #[.val (.ref a1), .val (.int v1), .val (.int v2), .val (.int v3), .val (.int v4)] [(.int (own_sz bs_a1)), (.int v4)])) t
                  refine XS.icmpNo X292.here hx rfl (hb hby dRawMessageSecondValueStartPinLaw_commaAt_49) rfl (feq hc49).1 ?_
                  show Steps p.tables e below (T292.setTop (mkF m 52 #[.val (.ref a1), .val (.int v1), .val (.int v2), .val (.int v3), .val (.int v4)] [])) t
                  refine XS.iload X292.here hx rfl (hb hby dRawMessageSecondValueStartPinLaw_commaAt_52) rfl ?_
                  show Steps p.tables e below (T292.setTop (mkF m 54 #[.val (.ref a1), .val (.int v1), .val (.int v2), .val (.int v3), .val (.int v4)] [(.int v4)])) t
                  refine XS.aloadN X292.here hx rfl (hb hby dRawMessageSecondValueStartPinLaw_commaAt_54) rfl rfl ?_
                  show Steps p.tables e below (T292.setTop (mkF m 55 #[.val (.ref a1), .val (.int v1), .val (.int v2), .val (.int v3), .val (.int v4)] [(.ref a1), (.int v4)])) t
                  refine own_len X292 hx hZ e292 A_a1 (g := (mkF m 55 #[.val (.ref a1), .val (.int v1), .val (.int v2), .val (.int v3), .val (.int v4)] [(.ref a1), (.int v4)])) rfl rfl (hb hby dRawMessageSecondValueStartPinLaw_commaAt_55) ?_
                  exact k
                by_cases hc56 : v4 < (own_sz bs_a1)
                · rw [if_pos hc56] at hF
                  refine own_Goes.via (B := T292.setTop (mkF m 62 #[.val (.ref a1), .val (.int v1), .val (.int v2), .val (.int v3), .val (.int v4)] [(.int v4), (.ref a1)])) (fun t k => ?_) ?_
                  · show Steps p.tables e below (T292.setTop (mkF m 56 #[.val (.ref a1), .val (.int v1), .val (.int v2), .val (.int v3), .val (.int v4)] [(.int (own_sz bs_a1)), (.int v4)])) t
                    refine XS.icmpNo X292.here hx rfl (hb hby dRawMessageSecondValueStartPinLaw_commaAt_56) rfl (tlt hc56).2.1 ?_
                    show Steps p.tables e below (T292.setTop (mkF m 59 #[.val (.ref a1), .val (.int v1), .val (.int v2), .val (.int v3), .val (.int v4)] [])) t
                    refine XS.aloadN X292.here hx rfl (hb hby dRawMessageSecondValueStartPinLaw_commaAt_59) rfl rfl ?_
                    show Steps p.tables e below (T292.setTop (mkF m 60 #[.val (.ref a1), .val (.int v1), .val (.int v2), .val (.int v3), .val (.int v4)] [(.ref a1)])) t
                    refine XS.iload X292.here hx rfl (hb hby dRawMessageSecondValueStartPinLaw_commaAt_60) rfl ?_
                    exact k
                  obtain ⟨r293, hr293, hF⟩ := own_bd_e hF
                  obtain ⟨_, _, ⟨T293, L293, k293, n293⟩, -, X293, ⟨Lc293, hQ293, l293, y293, z293⟩, st293⟩ := Jvm.LawKit.callS X292 hx (y := (⟨"com/example/oxpecker/oxpecker/sip/RawMessageSecondValueStartPinLaw", "isBl", "([BI)Z"⟩ : MethodName)) hown (mvT hZ (w89 hw)) (mvT hZ (w90 hw)) (mvT hZ (w3 hw)) (mvT hZ (w91 hw)) (by decide) (backOf (W := 0) (rm_RawMessageSecondValueStartPinLaw_isBl l Z a0 hw [] hE n0 z a1 v4 bs_a1 A_a1 g_a1 r293 hr293) hZ (w91 hw) (w3 hw) (by decide) (by decide)) (g := (mkF m 62 #[.val (.ref a1), .val (.int v1), .val (.int v2), .val (.int v3), .val (.int v4)] [(.int v4), (.ref a1)])) rfl (by rw [hml]; rfl) (argsL := [(.ref a1), (.int v4)]) (rest := []) (lenOf pd_8 rfl) rfl (by show 2 * 0 + _ ≤ _; exact Nat.le_of_eq rfl) (hb hby dRawMessageSecondValueStartPinLaw_commaAt_62) (fun _ _ => ⟨rfl, e292, (by decide : 0 + 0 ≤ _), (by decide : 0 + 0 ≤ _)⟩)
                  dsimp only [Pt.U, Pt.locs, Pt.cells, Pt.slots] at X293 l293 y293 z293 st293 hQ293
                  subst l293 y293 z293
                  obtain ⟨rfl, N293q, e293⟩ := hQ293
                  have N293 := Fr.app N292 N293q
                  refine own_Goes.via st293 ?_
                  show own_Goes _ _ _ _ _ _ _ (T293.setTop (mkF m 65 #[.val (.ref a1), .val (.int v1), .val (.int v2), .val (.int v3), .val (.int v4)] [(.int r293)]))
                  by_cases hc65 : r293 = (0 : Int32)
                  · rw [if_pos hc65] at hF
                    refine own_Goes.via (B := T293.setTop (mkF m 73 #[.val (.ref a1), .val (.int v1), .val (.int v2), .val (.int v3), .val (.int v4)] [(.int (1 : Int32))])) (fun t k => ?_) ?_
                    · show Steps p.tables e below (T293.setTop (mkF m 65 #[.val (.ref a1), .val (.int v1), .val (.int v2), .val (.int v3), .val (.int v4)] [(.int r293)])) t
                      refine XS.ifNo X293.here hx rfl (hb hby dRawMessageSecondValueStartPinLaw_commaAt_65) rfl ((if0 _ _).trans (teq hc65).2) ?_
                      show Steps p.tables e below (T293.setTop (mkF m 68 #[.val (.ref a1), .val (.int v1), .val (.int v2), .val (.int v3), .val (.int v4)] [])) t
                      refine XS.iconst X293.here hx rfl (hb hby dRawMessageSecondValueStartPinLaw_commaAt_68) ?_
                      show Steps p.tables e below (T293.setTop (mkF m 69 #[.val (.ref a1), .val (.int v1), .val (.int v2), .val (.int v3), .val (.int v4)] [(.int (1 : Int32))])) t
                      refine XS.goto X293.here hx rfl (pc0 := 69) (pc' := 73) rfl (hb hby dRawMessageSecondValueStartPinLaw_commaAt_69) (by decide) (by decide) ?_
                      exact k
                    obtain rfl : (1 : Int32) = r := Option.some.inj hF
                    exact own_retN X293 hx (t := .boolean) hret hlk (by simp) (hb hby dRawMessageSecondValueStartPinLaw_commaAt_73) e293 (v := (1 : Int32)) (by decide) ⟨rfl, N293, rfl⟩ (by decide) (by decide)
                  · rw [if_neg hc65] at hF
                    refine own_Goes.via (B := T293.setTop (mkF m 73 #[.val (.ref a1), .val (.int v1), .val (.int v2), .val (.int v3), .val (.int v4)] [(.int (0 : Int32))])) (fun t k => ?_) ?_
                    · show Steps p.tables e below (T293.setTop (mkF m 65 #[.val (.ref a1), .val (.int v1), .val (.int v2), .val (.int v3), .val (.int v4)] [(.int r293)])) t
                      refine XS.ifYes X293.here hx rfl (pc0 := 65) (pc' := 72) rfl (hb hby dRawMessageSecondValueStartPinLaw_commaAt_65) rfl ((if0 _ _).trans (feq hc65).2) (by decide) (by decide) ?_
                      show Steps p.tables e below (T293.setTop (mkF m 72 #[.val (.ref a1), .val (.int v1), .val (.int v2), .val (.int v3), .val (.int v4)] [])) t
                      refine XS.iconst X293.here hx rfl (hb hby dRawMessageSecondValueStartPinLaw_commaAt_72) ?_
                      exact k
                    obtain rfl : (0 : Int32) = r := Option.some.inj hF
                    exact own_retN X293 hx (t := .boolean) hret hlk (by simp) (hb hby dRawMessageSecondValueStartPinLaw_commaAt_73) e293 (v := (0 : Int32)) (by decide) ⟨rfl, N293, rfl⟩ (by decide) (by decide)
                · rw [if_neg hc56] at hF
                  refine own_Goes.via (B := T292.setTop (mkF m 73 #[.val (.ref a1), .val (.int v1), .val (.int v2), .val (.int v3), .val (.int v4)] [(.int (0 : Int32))])) (fun t k => ?_) ?_
                  · show Steps p.tables e below (T292.setTop (mkF m 56 #[.val (.ref a1), .val (.int v1), .val (.int v2), .val (.int v3), .val (.int v4)] [(.int (own_sz bs_a1)), (.int v4)])) t
                    refine XS.icmpYes X292.here hx rfl (pc0 := 56) (pc' := 72) rfl (hb hby dRawMessageSecondValueStartPinLaw_commaAt_56) rfl (flt hc56).2.1 (by decide) (by decide) ?_
                    show Steps p.tables e below (T292.setTop (mkF m 72 #[.val (.ref a1), .val (.int v1), .val (.int v2), .val (.int v3), .val (.int v4)] [])) t
                    refine XS.iconst X292.here hx rfl (hb hby dRawMessageSecondValueStartPinLaw_commaAt_72) ?_
                    exact k
                  obtain rfl : (0 : Int32) = r := Option.some.inj hF
                  exact own_retN X292 hx (t := .boolean) hret hlk (by simp) (hb hby dRawMessageSecondValueStartPinLaw_commaAt_73) e292 (v := (0 : Int32)) (by decide) ⟨rfl, N292, rfl⟩ (by decide) (by decide)
          · rw [if_neg hc30] at hF
            refine own_Goes.via (B := T290.setTop (mkF m 73 #[.val (.ref a1), .val (.int v1), .val (.int v2), .val (.int v3), .val (.int v4)] [(.int (0 : Int32))])) (fun t k => ?_) ?_
            · show Steps p.tables e below (T290.setTop (mkF m 30 #[.val (.ref a1), .val (.int v1), .val (.int v2), .val (.int v3), .val (.int v4)] [(.int v1), (.int v4)])) t
              refine XS.icmpYes X290.here hx rfl (pc0 := 30) (pc' := 72) rfl (hb hby dRawMessageSecondValueStartPinLaw_commaAt_30) rfl (flt hc30).2.2.2 (by decide) (by decide) ?_
              show Steps p.tables e below (T290.setTop (mkF m 72 #[.val (.ref a1), .val (.int v1), .val (.int v2), .val (.int v3), .val (.int v4)] [])) t
              refine XS.iconst X290.here hx rfl (hb hby dRawMessageSecondValueStartPinLaw_commaAt_72) ?_
              exact k
            obtain rfl : (0 : Int32) = r := Option.some.inj hF
            exact own_retN X290 hx (t := .boolean) hret hlk (by simp) (hb hby dRawMessageSecondValueStartPinLaw_commaAt_73) e290 (v := (0 : Int32)) (by decide) ⟨rfl, N290, rfl⟩ (by decide) (by decide)
      · rw [if_neg hc15] at hF
        refine own_Goes.via (B := T289.setTop (mkF m 73 #[.val (.ref a1), .val (.int v1), .val (.int v2), .val (.int v3), .val (.int v4)] [(.int (0 : Int32))])) (fun t k => ?_) ?_
        · show Steps p.tables e below (T289.setTop (mkF m 15 #[.val (.ref a1), .val (.int v1), .val (.int v2), .val (.int v3), .val (.int v4)] [(.int v3), (.int v1)])) t
          refine XS.icmpYes X289.here hx rfl (pc0 := 15) (pc' := 72) rfl (hb hby dRawMessageSecondValueStartPinLaw_commaAt_15) rfl (flt hc15).2.1 (by decide) (by decide) ?_
          show Steps p.tables e below (T289.setTop (mkF m 72 #[.val (.ref a1), .val (.int v1), .val (.int v2), .val (.int v3), .val (.int v4)] [])) t
          refine XS.iconst X289.here hx rfl (hb hby dRawMessageSecondValueStartPinLaw_commaAt_72) ?_
          exact k
        obtain rfl : (0 : Int32) = r := Option.some.inj hF
        exact own_retN X289 hx (t := .boolean) hret hlk (by simp) (hb hby dRawMessageSecondValueStartPinLaw_commaAt_73) e289 (v := (0 : Int32)) (by decide) ⟨rfl, N289, rfl⟩ (by decide) (by decide)
theorem ef_RawMessageSecondValueStartPinLaw_commaAt (m : MethodId) (x0 : Addr) (x1 : Int32) (x2 : Int32) (x3 : Int32) (x4 : Int32) : entryFrame m #[(.ref x0), (.int x1), (.int x2), (.int x3), (.int x4)] 5 = mkF m 0 #[.val (.ref x0), .val (.int x1), .val (.int x2), .val (.int x3), .val (.int x4)] [] := by first | (simp [entryFrame, mkF, argsToLocals, Value.category]; done) | rfl
set_option maxRecDepth 65536 in
set_option maxHeartbeats 4000000 in
theorem rm_RawMessageSecondValueStartPinLaw_commaAt (l : Launch) (Z : State) (a0 : Array Value) (hw : ∀ d ∈ tables_1, d.before a0 Z = true) (ws : List Jvm.Cond) (hE : Heap) (n0 : Nat) (z : n0 ≤ hE.size) (a1 : Addr) (v1 : Int32) (v2 : Int32) (v3 : Int32) (v4 : Int32) (bs_a1 : List Int32) (A_a1 : own_Ar Z hE a1 .byte (bs_a1.map Value.int)) (g_a1 : n0 ≤ a1) (r : Int32) (hF : (f_RawMessageSecondValueStartPinLaw_commaAt v1 v2 v3 v4 bs_a1) = some r) :
    MetFree l (⟨"com/example/oxpecker/oxpecker/sip/RawMessageSecondValueStartPinLaw", "commaAt", "([BIIII)Z"⟩ : MethodName) (head1 (Jvm.Cond.code (⟨"com/example/oxpecker/oxpecker/sip/RawMessageSecondValueStartPinLaw", "commaAt", "([BIIII)Z"⟩ : MethodName) method_9_code 5 (some .boolean) :: ws) ({ frames := 3, cells := 0, slots := 0, locals := 42 } : Room)) (fun a U => a = #[(.ref a1), (.int v1), (.int v2), (.int v3), (.int v4)] ∧ Z.Warmed39 U.vm ∧ U.heap = hE) (fun _ _ _ _ _ => True) (fun _ U o U' => ∃ v L, o = .returned v ∧ (Q_RawMessageSecondValueStartPinLaw_commaAt Z hE n0 a1 r) v U'.heap L ∧ FrameEnd U o U' L ({ frames := 3, cells := 0, slots := 0, locals := 42 } : Room).cells ({ frames := 3, cells := 0, slots := 0, locals := 42 } : Room).slots) := by
  refine MetFree.of_bodySF (plainFor_of_name pn_com_example_oxpecker_oxpecker_sip_RawMessageSecondValueStartPinLaw) hisR ?_
  intro p e s m args below meth c s₁ Bd hml0 hP hK
  obtain ⟨rfl, hZ, hh⟩ := hP
  have X0 : Stand p l e ({ frames := 3, cells := 0, slots := 0, locals := 42 } : Room) s m #[(.ref a1), (.int v1), (.int v2), (.int v3), (.int v4)] below meth c s₁ [] 0 0 := Stand.of_body Bd
  have e0 : s₁.heap = hE := by rw [← hh, Bd.state]; rfl
  have cx : Cx_RawMessageSecondValueStartPinLaw_commaAt p s m meth c Z a0 := ⟨Bd.exec, hZ, hw, Bd.bytes, hml0, findClass_of_methodNamed Bd.named, Bd.returns, Bd.notSynchronized, (name_of_methodNamed Bd.named Bd.method).1⟩
  show own_Goes p e below s (Q_RawMessageSecondValueStartPinLaw_commaAt Z hE n0 a1 r) ({ frames := 3, cells := 0, slots := 0, locals := 42 } : Room).cells ({ frames := 3, cells := 0, slots := 0, locals := 42 } : Room).slots (s₁.setTop (entryFrame m #[(.ref a1), (.int v1), (.int v2), (.int v3), (.int v4)] 5))
  rw [ef_RawMessageSecondValueStartPinLaw_commaAt]
  exact b_RawMessageSecondValueStartPinLaw_commaAt cx a1 X0 e0 (Fr.nil n0) z v1 v2 v3 v4 bs_a1 A_a1 g_a1 _ hF
/-! com/example/oxpecker/oxpecker/sip/RawMessageSecondValueStartPinLaw.law:(IIIII)Z -/
def f_law (v0 : Int32) (v1 : Int32) (v2 : Int32) (v3 : Int32) (v4 : Int32) : Option (Int32) :=
  own_bd (f_RawMessageSecondValueStartPinLaw_kind v0) fun r363 =>
  own_lt ((v0.toUInt32 >>> ((3 : Int32) &&& 31).toUInt32).toInt32) fun x365 =>
  own_bd (f_RawMessageSecondValueStartPinLaw_kind x365) fun r366 =>
  own_lt ((v0.toUInt32 >>> ((6 : Int32) &&& 31).toUInt32).toInt32) fun x368 =>
  own_bd (f_RawMessageSecondValueStartPinLaw_kind x368) fun r369 =>
  own_lt ((v0.toUInt32 >>> ((9 : Int32) &&& 31).toUInt32).toInt32) fun x371 =>
  own_bd (f_RawMessageSecondValueStartPinLaw_kind x371) fun r372 =>
  own_lt ((v0.toUInt32 >>> ((12 : Int32) &&& 31).toUInt32).toInt32) fun x374 =>
  own_bd (f_RawMessageSecondValueStartPinLaw_kind x374) fun r375 =>
  own_lt ((v0.toUInt32 >>> ((15 : Int32) &&& 31).toUInt32).toInt32) fun x377 =>
  own_bd (f_RawMessageSecondValueStartPinLaw_kind x377) fun r378 =>
  own_lt ((v1 &&& (2147483647 : Int32)) % (8 : Int32)) fun x380 =>
  own_bd (f_RawMessage_mk (0 : Int32) (0 : Int32) ([(r363.toInt8.toInt32), (r366.toInt8.toInt32), (r369.toInt8.toInt32), (r372.toInt8.toInt32), (r375.toInt8.toInt32), (r378.toInt8.toInt32)] : List Int32)) fun r382 =>
  own_bd (f_Header_mk v3 x380 v2 v4 (0 : Int32) (0 : Int32) (0 : Int32) (0 : Int32)) fun r384 =>
  own_bd (f_RawMessage_secondValueStart r382.1 r382.2.1 ([(r363.toInt8.toInt32), (r366.toInt8.toInt32), (r369.toInt8.toInt32), (r372.toInt8.toInt32), (r375.toInt8.toInt32), (r378.toInt8.toInt32)] : List Int32) r382.2.2.1 r382.2.2.2.1 r382.2.2.2.2 r384.1 r384.2.1 r384.2.2.1 r384.2.2.2) fun r385 =>
  if r385 = (-1 : Int32) then
    own_bd (f_RawMessageSecondValueStartPinLaw_noComma x380 v2 ([(r363.toInt8.toInt32), (r366.toInt8.toInt32), (r369.toInt8.toInt32), (r372.toInt8.toInt32), (r375.toInt8.toInt32), (r378.toInt8.toInt32)] : List Int32)) fun r386 =>
    some (r386 &&& 1)
  else
    own_bd (f_RawMessageSecondValueStartPinLaw_commaAt (0 : Int32) x380 v2 r385 ([(r363.toInt8.toInt32), (r366.toInt8.toInt32), (r369.toInt8.toInt32), (r372.toInt8.toInt32), (r375.toInt8.toInt32), (r378.toInt8.toInt32)] : List Int32)) fun r387 =>
    if r387 = (0 : Int32) then
      own_bd (f_RawMessageSecondValueStartPinLaw_commaAt (1 : Int32) x380 v2 r385 ([(r363.toInt8.toInt32), (r366.toInt8.toInt32), (r369.toInt8.toInt32), (r372.toInt8.toInt32), (r375.toInt8.toInt32), (r378.toInt8.toInt32)] : List Int32)) fun r388 =>
      if r388 = (0 : Int32) then
        own_bd (f_RawMessageSecondValueStartPinLaw_commaAt (2 : Int32) x380 v2 r385 ([(r363.toInt8.toInt32), (r366.toInt8.toInt32), (r369.toInt8.toInt32), (r372.toInt8.toInt32), (r375.toInt8.toInt32), (r378.toInt8.toInt32)] : List Int32)) fun r389 =>
        if r389 = (0 : Int32) then
          own_bd (f_RawMessageSecondValueStartPinLaw_commaAt (3 : Int32) x380 v2 r385 ([(r363.toInt8.toInt32), (r366.toInt8.toInt32), (r369.toInt8.toInt32), (r372.toInt8.toInt32), (r375.toInt8.toInt32), (r378.toInt8.toInt32)] : List Int32)) fun r390 =>
          if r390 = (0 : Int32) then
            own_bd (f_RawMessageSecondValueStartPinLaw_commaAt (4 : Int32) x380 v2 r385 ([(r363.toInt8.toInt32), (r366.toInt8.toInt32), (r369.toInt8.toInt32), (r372.toInt8.toInt32), (r375.toInt8.toInt32), (r378.toInt8.toInt32)] : List Int32)) fun r391 =>
            if r391 = (0 : Int32) then
              own_bd (f_RawMessageSecondValueStartPinLaw_commaAt (5 : Int32) x380 v2 r385 ([(r363.toInt8.toInt32), (r366.toInt8.toInt32), (r369.toInt8.toInt32), (r372.toInt8.toInt32), (r375.toInt8.toInt32), (r378.toInt8.toInt32)] : List Int32)) fun r392 =>
              if r392 = (0 : Int32) then
                some (0 : Int32)
              else
                some (1 : Int32)
            else
              some (1 : Int32)
          else
            some (1 : Int32)
        else
          some (1 : Int32)
      else
        some (1 : Int32)
    else
      some (1 : Int32)
def Q_law (Z : State) (hE : Heap) (n0 : Nat)  (r : Int32) (v : Option Value) (h : Heap) (L : List Loc) : Prop := v = some (.int r) ∧ Fr n0 L ∧ Keep hE h []
def Cx_law (p : Program) (s : State) (m : MethodId) (meth : Method) (c : Code) (Z : State) (a0 : Array Value) : Prop := p.tables.exec = Jvm.exec ∧ Z.Warmed39 s.vm ∧ (∀ d ∈ tables_1, d.before a0 Z = true) ∧ c.code = code ∧ c.maxLocals = 9 ∧ s.vm.findClass "com/example/oxpecker/oxpecker/sip/RawMessageSecondValueStartPinLaw" = some m.cls ∧ meth.sig.returnType = some .boolean ∧ meth.locks = false ∧ meth.name = "law"
set_option maxRecDepth 65536 in
set_option maxHeartbeats 4000000 in
theorem b_law {p : Program} {l : Launch} {e : Env} {s : State} {m : MethodId} {args : Array Value} {below : List Frame} {meth : Method} {c : Code} {Z : State} {a0 : Array Value} {n0 : Nat} {hE : Heap} (cx : Cx_law p s m meth c Z a0) :
    ∀ {T : State} {locs : List Loc} {h : Heap} (X : Stand p l e room_1 s m args below meth c T locs 0 0) (eT : T.heap = h) (N : Fr n0 locs) (K : Keep hE h []) (z : n0 ≤ h.size) (v0 : Int32) (v1 : Int32) (v2 : Int32) (v3 : Int32) (v4 : Int32) (r : Int32), f_law v0 v1 v2 v3 v4 = some r → own_Goes p e below s (Q_law Z hE n0 r) 6 64 (T.setTop (mkF m 0 #[.val (.int v0), .val (.int v1), .val (.int v2), .val (.int v3), .val (.int v4), .unset, .unset, .unset, .unset] [])) := by
  have cx' := cx
  obtain ⟨hx, hZ, hw, hby, hml, hown, hret, hlk, hnm⟩ := cx'
  intro T locs h X eT N K z v0 v1 v2 v3 v4 r hF
  unfold f_law at hF
  refine own_Goes.via (B := T.setTop (mkF m 2 #[.val (.int v0), .val (.int v1), .val (.int v2), .val (.int v3), .val (.int v4), .unset, .unset, .unset, .unset] [(.int (6 : Int32))])) (fun t k => ?_) ?_
  · show Steps p.tables e below (T.setTop (mkF m 0 #[.val (.int v0), .val (.int v1), .val (.int v2), .val (.int v3), .val (.int v4), .unset, .unset, .unset, .unset] [])) t
    refine XS.bipush X.here hx rfl (hb hby at_0) ?_
    exact k
  obtain ⟨T362, h362, k362, X362, e362, E362, A362, st362⟩ := newP X hx hZ (aty := .byte) (w0 hw) eT (g := (mkF m 2 #[.val (.int v0), .val (.int v1), .val (.int v2), .val (.int v3), .val (.int v4), .unset, .unset, .unset, .unset] [(.int (6 : Int32))])) rfl (hb hby at_2) rfl (by decide) (cap := 6) (by decide) (by decide) (by decide) (by decide)
  obtain ⟨c362, q362⟩ : ∃ z, z = h.size := ⟨_, rfl⟩
  rw [← q362] at A362 st362
  have A362_c362 : own_Ar Z h362 c362 .byte (([(0 : Int32), (0 : Int32), (0 : Int32), (0 : Int32), (0 : Int32), (0 : Int32)] : List Int32).map Value.int) := own_newI A362 (by decide) rfl (kk := 6) (by decide)
  have g362_c362 : n0 ≤ c362 := Nat.le_trans z (Nat.le_of_eq q362.symm)
  have nE362_c362 : hE.size ≤ c362 := Nat.le_trans K.1 (Nat.le_of_eq q362.symm)
  have z362 := Nat.le_trans z E362.1
  have K362_ := K.ext E362
  refine own_Goes.via st362 ?_
  show own_Goes _ _ _ _ _ _ _ (T362.setTop (mkF m 4 #[.val (.int v0), .val (.int v1), .val (.int v2), .val (.int v3), .val (.int v4), .unset, .unset, .unset, .unset] [(.ref c362)]))
  refine own_Goes.via (B := T362.setTop (mkF m 10 #[.val (.int v0), .val (.int v1), .val (.int v2), .val (.int v3), .val (.int v4), .val (.ref c362), .unset, .unset, .unset] [(.int v0), (.int (0 : Int32)), (.ref c362)])) (fun t k => ?_) ?_
  · show Steps p.tables e below (T362.setTop (mkF m 4 #[.val (.int v0), .val (.int v1), .val (.int v2), .val (.int v3), .val (.int v4), .unset, .unset, .unset, .unset] [(.ref c362)])) t
    refine XS.astore X362.here hx rfl (hb hby at_4) rfl rfl (l' := #[.val (.int v0), .val (.int v1), .val (.int v2), .val (.int v3), .val (.int v4), .val (.ref c362), .unset, .unset, .unset]) rfl ?_
    show Steps p.tables e below (T362.setTop (mkF m 6 #[.val (.int v0), .val (.int v1), .val (.int v2), .val (.int v3), .val (.int v4), .val (.ref c362), .unset, .unset, .unset] [])) t
    refine XS.aload X362.here hx rfl (hb hby at_6) rfl rfl ?_
    show Steps p.tables e below (T362.setTop (mkF m 8 #[.val (.int v0), .val (.int v1), .val (.int v2), .val (.int v3), .val (.int v4), .val (.ref c362), .unset, .unset, .unset] [(.ref c362)])) t
    refine XS.iconst X362.here hx rfl (hb hby at_8) ?_
    show Steps p.tables e below (T362.setTop (mkF m 9 #[.val (.int v0), .val (.int v1), .val (.int v2), .val (.int v3), .val (.int v4), .val (.ref c362), .unset, .unset, .unset] [(.int (0 : Int32)), (.ref c362)])) t
    refine XS.iloadN X362.here hx rfl (hb hby at_9) rfl ?_
    exact k
  obtain ⟨r363, hr363, hF⟩ := own_bd_e hF
  obtain ⟨_, _, ⟨T363, L363, k363, n363⟩, -, X363, ⟨Lc363, hQ363, l363, y363, z363⟩, st363⟩ := Jvm.LawKit.callS X362 hx (y := (⟨"com/example/oxpecker/oxpecker/sip/RawMessageSecondValueStartPinLaw", "kind", "(I)B"⟩ : MethodName)) hown (mvT hZ (w1 hw)) (mvT hZ (w2 hw)) (mvT hZ (w3 hw)) (mvT hZ (w4 hw)) (by decide) (backOf (W := 2) (rm_RawMessageSecondValueStartPinLaw_kind l Z a0 hw [] h362 n0 z362 v0 r363 hr363) hZ (w4 hw) (w3 hw) (by decide) (by decide)) (g := (mkF m 10 #[.val (.int v0), .val (.int v1), .val (.int v2), .val (.int v3), .val (.int v4), .val (.ref c362), .unset, .unset, .unset] [(.int v0), (.int (0 : Int32)), (.ref c362)])) rfl (by rw [hml]; rfl) (argsL := [(.int v0)]) (rest := [(.int (0 : Int32)), (.ref c362)]) (lenOf pd_0 rfl) rfl (by show 2 * 0 + _ ≤ _; exact Nat.le_of_eq rfl) (hb hby at_10) (fun _ _ => ⟨rfl, e362, (by decide : 1 + 0 ≤ _), (by decide : 6 + 0 ≤ _)⟩)
  dsimp only [Pt.U, Pt.locs, Pt.cells, Pt.slots] at X363 l363 y363 z363 st363 hQ363
  subst l363 y363 z363
  obtain ⟨rfl, N363q, e363⟩ := hQ363
  have N363 := Fr.app N N363q
  refine own_Goes.via st363 ?_
  show own_Goes _ _ _ _ _ _ _ (T363.setTop (mkF m 13 #[.val (.int v0), .val (.int v1), .val (.int v2), .val (.int v3), .val (.int v4), .val (.ref c362), .unset, .unset, .unset] [(.int r363), (.int (0 : Int32)), (.ref c362)]))
  obtain ⟨T364, h364, X364, e364, W364, A364_c362, st364⟩ := own_stB X363 hx hZ e363 A362_c362 (own_inbk 0 6 (by decide) (by decide) rfl (by decide)) (g := (mkF m 13 #[.val (.int v0), .val (.int v1), .val (.int v2), .val (.int v3), .val (.int v4), .val (.ref c362), .unset, .unset, .unset] [(.int r363), (.int (0 : Int32)), (.ref c362)])) rfl rfl (hb hby at_13)
  refine own_Goes.via st364 ?_
  have z364 := Nat.le_trans z362 (Keep.of_wr W364).1
  have K364_ := K362_.wr W364 (Or.inr nE362_c362)
  have N364 := Fr.snoc X364 N363 g362_c362
  rw [own_wrk 0 (by decide)] at A364_c362
  have A364_c362 : own_Ar Z h364 c362 .byte (([(r363.toInt8.toInt32), (0 : Int32), (0 : Int32), (0 : Int32), (0 : Int32), (0 : Int32)] : List Int32).map Value.int) := A364_c362
  show own_Goes _ _ _ _ _ _ _ (T364.setTop (mkF m 14 #[.val (.int v0), .val (.int v1), .val (.int v2), .val (.int v3), .val (.int v4), .val (.ref c362), .unset, .unset, .unset] []))
  refine own_Goes.via (B := T364.setTop (mkF m 20 #[.val (.int v0), .val (.int v1), .val (.int v2), .val (.int v3), .val (.int v4), .val (.ref c362), .unset, .unset, .unset] [(.int ((v0.toUInt32 >>> ((3 : Int32) &&& 31).toUInt32).toInt32)), (.int (1 : Int32)), (.ref c362)])) (fun t k => ?_) ?_
  · show Steps p.tables e below (T364.setTop (mkF m 14 #[.val (.int v0), .val (.int v1), .val (.int v2), .val (.int v3), .val (.int v4), .val (.ref c362), .unset, .unset, .unset] [])) t
    refine XS.aload X364.here hx rfl (hb hby at_14) rfl rfl ?_
    show Steps p.tables e below (T364.setTop (mkF m 16 #[.val (.int v0), .val (.int v1), .val (.int v2), .val (.int v3), .val (.int v4), .val (.ref c362), .unset, .unset, .unset] [(.ref c362)])) t
    refine XS.iconst X364.here hx rfl (hb hby at_16) ?_
    show Steps p.tables e below (T364.setTop (mkF m 17 #[.val (.int v0), .val (.int v1), .val (.int v2), .val (.int v3), .val (.int v4), .val (.ref c362), .unset, .unset, .unset] [(.int (1 : Int32)), (.ref c362)])) t
    refine XS.iloadN X364.here hx rfl (hb hby at_17) rfl ?_
    show Steps p.tables e below (T364.setTop (mkF m 18 #[.val (.int v0), .val (.int v1), .val (.int v2), .val (.int v3), .val (.int v4), .val (.ref c362), .unset, .unset, .unset] [(.int v0), (.int (1 : Int32)), (.ref c362)])) t
    refine XS.iconst X364.here hx rfl (hb hby at_18) ?_
    show Steps p.tables e below (T364.setTop (mkF m 19 #[.val (.int v0), .val (.int v1), .val (.int v2), .val (.int v3), .val (.int v4), .val (.ref c362), .unset, .unset, .unset] [(.int (3 : Int32)), (.int v0), (.int (1 : Int32)), (.ref c362)])) t
    refine XS.iushr X364.here hx rfl (hb hby at_19) rfl ?_
    exact k
  obtain ⟨x365, hx365, hF⟩ := own_lt_e hF
  rw [← hx365]
  obtain ⟨r366, hr366, hF⟩ := own_bd_e hF
  obtain ⟨_, _, ⟨T366, L366, k366, n366⟩, -, X366, ⟨Lc366, hQ366, l366, y366, z366⟩, st366⟩ := Jvm.LawKit.callS X364 hx (y := (⟨"com/example/oxpecker/oxpecker/sip/RawMessageSecondValueStartPinLaw", "kind", "(I)B"⟩ : MethodName)) hown (mvT hZ (w1 hw)) (mvT hZ (w2 hw)) (mvT hZ (w3 hw)) (mvT hZ (w4 hw)) (by decide) (backOf (W := 2) (rm_RawMessageSecondValueStartPinLaw_kind l Z a0 hw [] h364 n0 z364 x365 r366 hr366) hZ (w4 hw) (w3 hw) (by decide) (by decide)) (g := (mkF m 20 #[.val (.int v0), .val (.int v1), .val (.int v2), .val (.int v3), .val (.int v4), .val (.ref c362), .unset, .unset, .unset] [(.int x365), (.int (1 : Int32)), (.ref c362)])) rfl (by rw [hml]; rfl) (argsL := [(.int x365)]) (rest := [(.int (1 : Int32)), (.ref c362)]) (lenOf pd_0 rfl) rfl (by show 2 * 0 + _ ≤ _; exact Nat.le_of_eq rfl) (hb hby at_20) (fun _ _ => ⟨rfl, e364, (by decide : 1 + 0 ≤ _), (by decide : 6 + 0 ≤ _)⟩)
  dsimp only [Pt.U, Pt.locs, Pt.cells, Pt.slots] at X366 l366 y366 z366 st366 hQ366
  subst l366 y366 z366
  obtain ⟨rfl, N366q, e366⟩ := hQ366
  have N366 := Fr.app N364 N366q
  refine own_Goes.via st366 ?_
  show own_Goes _ _ _ _ _ _ _ (T366.setTop (mkF m 23 #[.val (.int v0), .val (.int v1), .val (.int v2), .val (.int v3), .val (.int v4), .val (.ref c362), .unset, .unset, .unset] [(.int r366), (.int (1 : Int32)), (.ref c362)]))
  obtain ⟨T367, h367, X367, e367, W367, A367_c362, st367⟩ := own_stB X366 hx hZ e366 A364_c362 (own_inbk 1 6 (by decide) (by decide) rfl (by decide)) (g := (mkF m 23 #[.val (.int v0), .val (.int v1), .val (.int v2), .val (.int v3), .val (.int v4), .val (.ref c362), .unset, .unset, .unset] [(.int r366), (.int (1 : Int32)), (.ref c362)])) rfl rfl (hb hby at_23)
  refine own_Goes.via st367 ?_
  have z367 := Nat.le_trans z364 (Keep.of_wr W367).1
  have K367_ := K364_.wr W367 (Or.inr nE362_c362)
  have N367 := Fr.snoc X367 N366 g362_c362
  rw [own_wrk 1 (by decide)] at A367_c362
  have A367_c362 : own_Ar Z h367 c362 .byte (([(r363.toInt8.toInt32), (r366.toInt8.toInt32), (0 : Int32), (0 : Int32), (0 : Int32), (0 : Int32)] : List Int32).map Value.int) := A367_c362
  show own_Goes _ _ _ _ _ _ _ (T367.setTop (mkF m 24 #[.val (.int v0), .val (.int v1), .val (.int v2), .val (.int v3), .val (.int v4), .val (.ref c362), .unset, .unset, .unset] []))
  refine own_Goes.via (B := T367.setTop (mkF m 31 #[.val (.int v0), .val (.int v1), .val (.int v2), .val (.int v3), .val (.int v4), .val (.ref c362), .unset, .unset, .unset] [(.int ((v0.toUInt32 >>> ((6 : Int32) &&& 31).toUInt32).toInt32)), (.int (2 : Int32)), (.ref c362)])) (fun t k => ?_) ?_
  · show Steps p.tables e below (T367.setTop (mkF m 24 #[.val (.int v0), .val (.int v1), .val (.int v2), .val (.int v3), .val (.int v4), .val (.ref c362), .unset, .unset, .unset] [])) t
    refine XS.aload X367.here hx rfl (hb hby at_24) rfl rfl ?_
    show Steps p.tables e below (T367.setTop (mkF m 26 #[.val (.int v0), .val (.int v1), .val (.int v2), .val (.int v3), .val (.int v4), .val (.ref c362), .unset, .unset, .unset] [(.ref c362)])) t
    refine XS.iconst X367.here hx rfl (hb hby at_26) ?_
    show Steps p.tables e below (T367.setTop (mkF m 27 #[.val (.int v0), .val (.int v1), .val (.int v2), .val (.int v3), .val (.int v4), .val (.ref c362), .unset, .unset, .unset] [(.int (2 : Int32)), (.ref c362)])) t
    refine XS.iloadN X367.here hx rfl (hb hby at_27) rfl ?_
    show Steps p.tables e below (T367.setTop (mkF m 28 #[.val (.int v0), .val (.int v1), .val (.int v2), .val (.int v3), .val (.int v4), .val (.ref c362), .unset, .unset, .unset] [(.int v0), (.int (2 : Int32)), (.ref c362)])) t
    refine XS.bipush X367.here hx rfl (hb hby at_28) ?_
    show Steps p.tables e below (T367.setTop (mkF m 30 #[.val (.int v0), .val (.int v1), .val (.int v2), .val (.int v3), .val (.int v4), .val (.ref c362), .unset, .unset, .unset] [(.int (6 : Int32)), (.int v0), (.int (2 : Int32)), (.ref c362)])) t
    refine XS.iushr X367.here hx rfl (hb hby at_30) rfl ?_
    exact k
  obtain ⟨x368, hx368, hF⟩ := own_lt_e hF
  rw [← hx368]
  obtain ⟨r369, hr369, hF⟩ := own_bd_e hF
  obtain ⟨_, _, ⟨T369, L369, k369, n369⟩, -, X369, ⟨Lc369, hQ369, l369, y369, z369⟩, st369⟩ := Jvm.LawKit.callS X367 hx (y := (⟨"com/example/oxpecker/oxpecker/sip/RawMessageSecondValueStartPinLaw", "kind", "(I)B"⟩ : MethodName)) hown (mvT hZ (w1 hw)) (mvT hZ (w2 hw)) (mvT hZ (w3 hw)) (mvT hZ (w4 hw)) (by decide) (backOf (W := 2) (rm_RawMessageSecondValueStartPinLaw_kind l Z a0 hw [] h367 n0 z367 x368 r369 hr369) hZ (w4 hw) (w3 hw) (by decide) (by decide)) (g := (mkF m 31 #[.val (.int v0), .val (.int v1), .val (.int v2), .val (.int v3), .val (.int v4), .val (.ref c362), .unset, .unset, .unset] [(.int x368), (.int (2 : Int32)), (.ref c362)])) rfl (by rw [hml]; rfl) (argsL := [(.int x368)]) (rest := [(.int (2 : Int32)), (.ref c362)]) (lenOf pd_0 rfl) rfl (by show 2 * 0 + _ ≤ _; exact Nat.le_of_eq rfl) (hb hby at_31) (fun _ _ => ⟨rfl, e367, (by decide : 1 + 0 ≤ _), (by decide : 6 + 0 ≤ _)⟩)
  dsimp only [Pt.U, Pt.locs, Pt.cells, Pt.slots] at X369 l369 y369 z369 st369 hQ369
  subst l369 y369 z369
  obtain ⟨rfl, N369q, e369⟩ := hQ369
  have N369 := Fr.app N367 N369q
  refine own_Goes.via st369 ?_
  show own_Goes _ _ _ _ _ _ _ (T369.setTop (mkF m 34 #[.val (.int v0), .val (.int v1), .val (.int v2), .val (.int v3), .val (.int v4), .val (.ref c362), .unset, .unset, .unset] [(.int r369), (.int (2 : Int32)), (.ref c362)]))
  obtain ⟨T370, h370, X370, e370, W370, A370_c362, st370⟩ := own_stB X369 hx hZ e369 A367_c362 (own_inbk 2 6 (by decide) (by decide) rfl (by decide)) (g := (mkF m 34 #[.val (.int v0), .val (.int v1), .val (.int v2), .val (.int v3), .val (.int v4), .val (.ref c362), .unset, .unset, .unset] [(.int r369), (.int (2 : Int32)), (.ref c362)])) rfl rfl (hb hby at_34)
  refine own_Goes.via st370 ?_
  have z370 := Nat.le_trans z367 (Keep.of_wr W370).1
  have K370_ := K367_.wr W370 (Or.inr nE362_c362)
  have N370 := Fr.snoc X370 N369 g362_c362
  rw [own_wrk 2 (by decide)] at A370_c362
  have A370_c362 : own_Ar Z h370 c362 .byte (([(r363.toInt8.toInt32), (r366.toInt8.toInt32), (r369.toInt8.toInt32), (0 : Int32), (0 : Int32), (0 : Int32)] : List Int32).map Value.int) := A370_c362
  show own_Goes _ _ _ _ _ _ _ (T370.setTop (mkF m 35 #[.val (.int v0), .val (.int v1), .val (.int v2), .val (.int v3), .val (.int v4), .val (.ref c362), .unset, .unset, .unset] []))
  refine own_Goes.via (B := T370.setTop (mkF m 42 #[.val (.int v0), .val (.int v1), .val (.int v2), .val (.int v3), .val (.int v4), .val (.ref c362), .unset, .unset, .unset] [(.int ((v0.toUInt32 >>> ((9 : Int32) &&& 31).toUInt32).toInt32)), (.int (3 : Int32)), (.ref c362)])) (fun t k => ?_) ?_
  · show Steps p.tables e below (T370.setTop (mkF m 35 #[.val (.int v0), .val (.int v1), .val (.int v2), .val (.int v3), .val (.int v4), .val (.ref c362), .unset, .unset, .unset] [])) t
    refine XS.aload X370.here hx rfl (hb hby at_35) rfl rfl ?_
    show Steps p.tables e below (T370.setTop (mkF m 37 #[.val (.int v0), .val (.int v1), .val (.int v2), .val (.int v3), .val (.int v4), .val (.ref c362), .unset, .unset, .unset] [(.ref c362)])) t
    refine XS.iconst X370.here hx rfl (hb hby at_37) ?_
    show Steps p.tables e below (T370.setTop (mkF m 38 #[.val (.int v0), .val (.int v1), .val (.int v2), .val (.int v3), .val (.int v4), .val (.ref c362), .unset, .unset, .unset] [(.int (3 : Int32)), (.ref c362)])) t
    refine XS.iloadN X370.here hx rfl (hb hby at_38) rfl ?_
    show Steps p.tables e below (T370.setTop (mkF m 39 #[.val (.int v0), .val (.int v1), .val (.int v2), .val (.int v3), .val (.int v4), .val (.ref c362), .unset, .unset, .unset] [(.int v0), (.int (3 : Int32)), (.ref c362)])) t
    refine XS.bipush X370.here hx rfl (hb hby at_39) ?_
    show Steps p.tables e below (T370.setTop (mkF m 41 #[.val (.int v0), .val (.int v1), .val (.int v2), .val (.int v3), .val (.int v4), .val (.ref c362), .unset, .unset, .unset] [(.int (9 : Int32)), (.int v0), (.int (3 : Int32)), (.ref c362)])) t
    refine XS.iushr X370.here hx rfl (hb hby at_41) rfl ?_
    exact k
  obtain ⟨x371, hx371, hF⟩ := own_lt_e hF
  rw [← hx371]
  obtain ⟨r372, hr372, hF⟩ := own_bd_e hF
  obtain ⟨_, _, ⟨T372, L372, k372, n372⟩, -, X372, ⟨Lc372, hQ372, l372, y372, z372⟩, st372⟩ := Jvm.LawKit.callS X370 hx (y := (⟨"com/example/oxpecker/oxpecker/sip/RawMessageSecondValueStartPinLaw", "kind", "(I)B"⟩ : MethodName)) hown (mvT hZ (w1 hw)) (mvT hZ (w2 hw)) (mvT hZ (w3 hw)) (mvT hZ (w4 hw)) (by decide) (backOf (W := 2) (rm_RawMessageSecondValueStartPinLaw_kind l Z a0 hw [] h370 n0 z370 x371 r372 hr372) hZ (w4 hw) (w3 hw) (by decide) (by decide)) (g := (mkF m 42 #[.val (.int v0), .val (.int v1), .val (.int v2), .val (.int v3), .val (.int v4), .val (.ref c362), .unset, .unset, .unset] [(.int x371), (.int (3 : Int32)), (.ref c362)])) rfl (by rw [hml]; rfl) (argsL := [(.int x371)]) (rest := [(.int (3 : Int32)), (.ref c362)]) (lenOf pd_0 rfl) rfl (by show 2 * 0 + _ ≤ _; exact Nat.le_of_eq rfl) (hb hby at_42) (fun _ _ => ⟨rfl, e370, (by decide : 1 + 0 ≤ _), (by decide : 6 + 0 ≤ _)⟩)
  dsimp only [Pt.U, Pt.locs, Pt.cells, Pt.slots] at X372 l372 y372 z372 st372 hQ372
  subst l372 y372 z372
  obtain ⟨rfl, N372q, e372⟩ := hQ372
  have N372 := Fr.app N370 N372q
  refine own_Goes.via st372 ?_
  show own_Goes _ _ _ _ _ _ _ (T372.setTop (mkF m 45 #[.val (.int v0), .val (.int v1), .val (.int v2), .val (.int v3), .val (.int v4), .val (.ref c362), .unset, .unset, .unset] [(.int r372), (.int (3 : Int32)), (.ref c362)]))
  obtain ⟨T373, h373, X373, e373, W373, A373_c362, st373⟩ := own_stB X372 hx hZ e372 A370_c362 (own_inbk 3 6 (by decide) (by decide) rfl (by decide)) (g := (mkF m 45 #[.val (.int v0), .val (.int v1), .val (.int v2), .val (.int v3), .val (.int v4), .val (.ref c362), .unset, .unset, .unset] [(.int r372), (.int (3 : Int32)), (.ref c362)])) rfl rfl (hb hby at_45)
  refine own_Goes.via st373 ?_
  have z373 := Nat.le_trans z370 (Keep.of_wr W373).1
  have K373_ := K370_.wr W373 (Or.inr nE362_c362)
  have N373 := Fr.snoc X373 N372 g362_c362
  rw [own_wrk 3 (by decide)] at A373_c362
  have A373_c362 : own_Ar Z h373 c362 .byte (([(r363.toInt8.toInt32), (r366.toInt8.toInt32), (r369.toInt8.toInt32), (r372.toInt8.toInt32), (0 : Int32), (0 : Int32)] : List Int32).map Value.int) := A373_c362
  show own_Goes _ _ _ _ _ _ _ (T373.setTop (mkF m 46 #[.val (.int v0), .val (.int v1), .val (.int v2), .val (.int v3), .val (.int v4), .val (.ref c362), .unset, .unset, .unset] []))
  refine own_Goes.via (B := T373.setTop (mkF m 53 #[.val (.int v0), .val (.int v1), .val (.int v2), .val (.int v3), .val (.int v4), .val (.ref c362), .unset, .unset, .unset] [(.int ((v0.toUInt32 >>> ((12 : Int32) &&& 31).toUInt32).toInt32)), (.int (4 : Int32)), (.ref c362)])) (fun t k => ?_) ?_
  · show Steps p.tables e below (T373.setTop (mkF m 46 #[.val (.int v0), .val (.int v1), .val (.int v2), .val (.int v3), .val (.int v4), .val (.ref c362), .unset, .unset, .unset] [])) t
    refine XS.aload X373.here hx rfl (hb hby at_46) rfl rfl ?_
    show Steps p.tables e below (T373.setTop (mkF m 48 #[.val (.int v0), .val (.int v1), .val (.int v2), .val (.int v3), .val (.int v4), .val (.ref c362), .unset, .unset, .unset] [(.ref c362)])) t
    refine XS.iconst X373.here hx rfl (hb hby at_48) ?_
    show Steps p.tables e below (T373.setTop (mkF m 49 #[.val (.int v0), .val (.int v1), .val (.int v2), .val (.int v3), .val (.int v4), .val (.ref c362), .unset, .unset, .unset] [(.int (4 : Int32)), (.ref c362)])) t
    refine XS.iloadN X373.here hx rfl (hb hby at_49) rfl ?_
    show Steps p.tables e below (T373.setTop (mkF m 50 #[.val (.int v0), .val (.int v1), .val (.int v2), .val (.int v3), .val (.int v4), .val (.ref c362), .unset, .unset, .unset] [(.int v0), (.int (4 : Int32)), (.ref c362)])) t
    refine XS.bipush X373.here hx rfl (hb hby at_50) ?_
    show Steps p.tables e below (T373.setTop (mkF m 52 #[.val (.int v0), .val (.int v1), .val (.int v2), .val (.int v3), .val (.int v4), .val (.ref c362), .unset, .unset, .unset] [(.int (12 : Int32)), (.int v0), (.int (4 : Int32)), (.ref c362)])) t
    refine XS.iushr X373.here hx rfl (hb hby at_52) rfl ?_
    exact k
  obtain ⟨x374, hx374, hF⟩ := own_lt_e hF
  rw [← hx374]
  obtain ⟨r375, hr375, hF⟩ := own_bd_e hF
  obtain ⟨_, _, ⟨T375, L375, k375, n375⟩, -, X375, ⟨Lc375, hQ375, l375, y375, z375⟩, st375⟩ := Jvm.LawKit.callS X373 hx (y := (⟨"com/example/oxpecker/oxpecker/sip/RawMessageSecondValueStartPinLaw", "kind", "(I)B"⟩ : MethodName)) hown (mvT hZ (w1 hw)) (mvT hZ (w2 hw)) (mvT hZ (w3 hw)) (mvT hZ (w4 hw)) (by decide) (backOf (W := 2) (rm_RawMessageSecondValueStartPinLaw_kind l Z a0 hw [] h373 n0 z373 x374 r375 hr375) hZ (w4 hw) (w3 hw) (by decide) (by decide)) (g := (mkF m 53 #[.val (.int v0), .val (.int v1), .val (.int v2), .val (.int v3), .val (.int v4), .val (.ref c362), .unset, .unset, .unset] [(.int x374), (.int (4 : Int32)), (.ref c362)])) rfl (by rw [hml]; rfl) (argsL := [(.int x374)]) (rest := [(.int (4 : Int32)), (.ref c362)]) (lenOf pd_0 rfl) rfl (by show 2 * 0 + _ ≤ _; exact Nat.le_of_eq rfl) (hb hby at_53) (fun _ _ => ⟨rfl, e373, (by decide : 1 + 0 ≤ _), (by decide : 6 + 0 ≤ _)⟩)
  dsimp only [Pt.U, Pt.locs, Pt.cells, Pt.slots] at X375 l375 y375 z375 st375 hQ375
  subst l375 y375 z375
  obtain ⟨rfl, N375q, e375⟩ := hQ375
  have N375 := Fr.app N373 N375q
  refine own_Goes.via st375 ?_
  show own_Goes _ _ _ _ _ _ _ (T375.setTop (mkF m 56 #[.val (.int v0), .val (.int v1), .val (.int v2), .val (.int v3), .val (.int v4), .val (.ref c362), .unset, .unset, .unset] [(.int r375), (.int (4 : Int32)), (.ref c362)]))
  obtain ⟨T376, h376, X376, e376, W376, A376_c362, st376⟩ := own_stB X375 hx hZ e375 A373_c362 (own_inbk 4 6 (by decide) (by decide) rfl (by decide)) (g := (mkF m 56 #[.val (.int v0), .val (.int v1), .val (.int v2), .val (.int v3), .val (.int v4), .val (.ref c362), .unset, .unset, .unset] [(.int r375), (.int (4 : Int32)), (.ref c362)])) rfl rfl (hb hby at_56)
  refine own_Goes.via st376 ?_
  have z376 := Nat.le_trans z373 (Keep.of_wr W376).1
  have K376_ := K373_.wr W376 (Or.inr nE362_c362)
  have N376 := Fr.snoc X376 N375 g362_c362
  rw [own_wrk 4 (by decide)] at A376_c362
  have A376_c362 : own_Ar Z h376 c362 .byte (([(r363.toInt8.toInt32), (r366.toInt8.toInt32), (r369.toInt8.toInt32), (r372.toInt8.toInt32), (r375.toInt8.toInt32), (0 : Int32)] : List Int32).map Value.int) := A376_c362
  show own_Goes _ _ _ _ _ _ _ (T376.setTop (mkF m 57 #[.val (.int v0), .val (.int v1), .val (.int v2), .val (.int v3), .val (.int v4), .val (.ref c362), .unset, .unset, .unset] []))
  refine own_Goes.via (B := T376.setTop (mkF m 64 #[.val (.int v0), .val (.int v1), .val (.int v2), .val (.int v3), .val (.int v4), .val (.ref c362), .unset, .unset, .unset] [(.int ((v0.toUInt32 >>> ((15 : Int32) &&& 31).toUInt32).toInt32)), (.int (5 : Int32)), (.ref c362)])) (fun t k => ?_) ?_
  · show Steps p.tables e below (T376.setTop (mkF m 57 #[.val (.int v0), .val (.int v1), .val (.int v2), .val (.int v3), .val (.int v4), .val (.ref c362), .unset, .unset, .unset] [])) t
    refine XS.aload X376.here hx rfl (hb hby at_57) rfl rfl ?_
    show Steps p.tables e below (T376.setTop (mkF m 59 #[.val (.int v0), .val (.int v1), .val (.int v2), .val (.int v3), .val (.int v4), .val (.ref c362), .unset, .unset, .unset] [(.ref c362)])) t
    refine XS.iconst X376.here hx rfl (hb hby at_59) ?_
    show Steps p.tables e below (T376.setTop (mkF m 60 #[.val (.int v0), .val (.int v1), .val (.int v2), .val (.int v3), .val (.int v4), .val (.ref c362), .unset, .unset, .unset] [(.int (5 : Int32)), (.ref c362)])) t
    refine XS.iloadN X376.here hx rfl (hb hby at_60) rfl ?_
    show Steps p.tables e below (T376.setTop (mkF m 61 #[.val (.int v0), .val (.int v1), .val (.int v2), .val (.int v3), .val (.int v4), .val (.ref c362), .unset, .unset, .unset] [(.int v0), (.int (5 : Int32)), (.ref c362)])) t
    refine XS.bipush X376.here hx rfl (hb hby at_61) ?_
    show Steps p.tables e below (T376.setTop (mkF m 63 #[.val (.int v0), .val (.int v1), .val (.int v2), .val (.int v3), .val (.int v4), .val (.ref c362), .unset, .unset, .unset] [(.int (15 : Int32)), (.int v0), (.int (5 : Int32)), (.ref c362)])) t
    refine XS.iushr X376.here hx rfl (hb hby at_63) rfl ?_
    exact k
  obtain ⟨x377, hx377, hF⟩ := own_lt_e hF
  rw [← hx377]
  obtain ⟨r378, hr378, hF⟩ := own_bd_e hF
  obtain ⟨_, _, ⟨T378, L378, k378, n378⟩, -, X378, ⟨Lc378, hQ378, l378, y378, z378⟩, st378⟩ := Jvm.LawKit.callS X376 hx (y := (⟨"com/example/oxpecker/oxpecker/sip/RawMessageSecondValueStartPinLaw", "kind", "(I)B"⟩ : MethodName)) hown (mvT hZ (w1 hw)) (mvT hZ (w2 hw)) (mvT hZ (w3 hw)) (mvT hZ (w4 hw)) (by decide) (backOf (W := 2) (rm_RawMessageSecondValueStartPinLaw_kind l Z a0 hw [] h376 n0 z376 x377 r378 hr378) hZ (w4 hw) (w3 hw) (by decide) (by decide)) (g := (mkF m 64 #[.val (.int v0), .val (.int v1), .val (.int v2), .val (.int v3), .val (.int v4), .val (.ref c362), .unset, .unset, .unset] [(.int x377), (.int (5 : Int32)), (.ref c362)])) rfl (by rw [hml]; rfl) (argsL := [(.int x377)]) (rest := [(.int (5 : Int32)), (.ref c362)]) (lenOf pd_0 rfl) rfl (by show 2 * 0 + _ ≤ _; exact Nat.le_of_eq rfl) (hb hby at_64) (fun _ _ => ⟨rfl, e376, (by decide : 1 + 0 ≤ _), (by decide : 6 + 0 ≤ _)⟩)
  dsimp only [Pt.U, Pt.locs, Pt.cells, Pt.slots] at X378 l378 y378 z378 st378 hQ378
  subst l378 y378 z378
  obtain ⟨rfl, N378q, e378⟩ := hQ378
  have N378 := Fr.app N376 N378q
  refine own_Goes.via st378 ?_
  show own_Goes _ _ _ _ _ _ _ (T378.setTop (mkF m 67 #[.val (.int v0), .val (.int v1), .val (.int v2), .val (.int v3), .val (.int v4), .val (.ref c362), .unset, .unset, .unset] [(.int r378), (.int (5 : Int32)), (.ref c362)]))
  obtain ⟨T379, h379, X379, e379, W379, A379_c362, st379⟩ := own_stB X378 hx hZ e378 A376_c362 (own_inbk 5 6 (by decide) (by decide) rfl (by decide)) (g := (mkF m 67 #[.val (.int v0), .val (.int v1), .val (.int v2), .val (.int v3), .val (.int v4), .val (.ref c362), .unset, .unset, .unset] [(.int r378), (.int (5 : Int32)), (.ref c362)])) rfl rfl (hb hby at_67)
  refine own_Goes.via st379 ?_
  have z379 := Nat.le_trans z376 (Keep.of_wr W379).1
  have K379_ := K376_.wr W379 (Or.inr nE362_c362)
  have N379 := Fr.snoc X379 N378 g362_c362
  rw [own_wrk 5 (by decide)] at A379_c362
  have A379_c362 : own_Ar Z h379 c362 .byte (([(r363.toInt8.toInt32), (r366.toInt8.toInt32), (r369.toInt8.toInt32), (r372.toInt8.toInt32), (r375.toInt8.toInt32), (r378.toInt8.toInt32)] : List Int32).map Value.int) := A379_c362
  show own_Goes _ _ _ _ _ _ _ (T379.setTop (mkF m 68 #[.val (.int v0), .val (.int v1), .val (.int v2), .val (.int v3), .val (.int v4), .val (.ref c362), .unset, .unset, .unset] []))
  refine own_Goes.via (B := T379.setTop (mkF m 75 #[.val (.int v0), .val (.int v1), .val (.int v2), .val (.int v3), .val (.int v4), .val (.ref c362), .unset, .unset, .unset] [(.int ((v1 &&& (2147483647 : Int32)) % (8 : Int32)))])) (fun t k => ?_) ?_
  · show Steps p.tables e below (T379.setTop (mkF m 68 #[.val (.int v0), .val (.int v1), .val (.int v2), .val (.int v3), .val (.int v4), .val (.ref c362), .unset, .unset, .unset] [])) t
    refine XS.iloadN X379.here hx rfl (hb hby at_68) rfl ?_
    show Steps p.tables e below (T379.setTop (mkF m 69 #[.val (.int v0), .val (.int v1), .val (.int v2), .val (.int v3), .val (.int v4), .val (.ref c362), .unset, .unset, .unset] [(.int v1)])) t
    refine X379.ldcInt hx hown (mvT hZ (w5 hw)) (g := (mkF m 69 #[.val (.int v0), .val (.int v1), .val (.int v2), .val (.int v3), .val (.int v4), .val (.ref c362), .unset, .unset, .unset] [(.int v1)])) rfl (hb hby at_69) _ ?_
    show Steps p.tables e below (T379.setTop (mkF m 71 #[.val (.int v0), .val (.int v1), .val (.int v2), .val (.int v3), .val (.int v4), .val (.ref c362), .unset, .unset, .unset] [(.int (2147483647 : Int32)), (.int v1)])) t
    refine XS.iand X379.here hx rfl (hb hby at_71) rfl ?_
    show Steps p.tables e below (T379.setTop (mkF m 72 #[.val (.int v0), .val (.int v1), .val (.int v2), .val (.int v3), .val (.int v4), .val (.ref c362), .unset, .unset, .unset] [(.int (v1 &&& (2147483647 : Int32)))])) t
    refine XS.bipush X379.here hx rfl (hb hby at_72) ?_
    show Steps p.tables e below (T379.setTop (mkF m 74 #[.val (.int v0), .val (.int v1), .val (.int v2), .val (.int v3), .val (.int v4), .val (.ref c362), .unset, .unset, .unset] [(.int (8 : Int32)), (.int (v1 &&& (2147483647 : Int32)))])) t
    refine own_irem X379 hx rfl (hb hby at_74) rfl (by decide) ?_
    exact k
  obtain ⟨x380, hx380, hF⟩ := own_lt_e hF
  rw [← hx380]
  refine own_Goes.via (B := T379.setTop (mkF m 77 #[.val (.int v0), .val (.int v1), .val (.int v2), .val (.int v3), .val (.int v4), .val (.ref c362), .val (.int x380), .unset, .unset] [])) (fun t k => ?_) ?_
  · show Steps p.tables e below (T379.setTop (mkF m 75 #[.val (.int v0), .val (.int v1), .val (.int v2), .val (.int v3), .val (.int v4), .val (.ref c362), .unset, .unset, .unset] [(.int x380)])) t
    refine XS.istore X379.here hx rfl (hb hby at_75) rfl (l' := #[.val (.int v0), .val (.int v1), .val (.int v2), .val (.int v3), .val (.int v4), .val (.ref c362), .val (.int x380), .unset, .unset]) rfl ?_
    exact k
  obtain ⟨T381, h381, X381, e381, E381, A381, D381, -, st381⟩ := newO X379 hx hZ hown (w6 hw) (w7 hw) (w8 hw) e379 (g := (mkF m 77 #[.val (.int v0), .val (.int v1), .val (.int v2), .val (.int v3), .val (.int v4), .val (.ref c362), .val (.int x380), .unset, .unset] [])) rfl (hb hby at_77) (by decide) (by decide)
  obtain ⟨c381, q381⟩ : ∃ z, z = h379.size := ⟨_, rfl⟩
  rw [← q381] at A381 D381 st381
  have F381_c381_bytes : Fld Z h381 c381 "com/example/oxpecker/oxpecker/sip/RawMessage" "bytes" "[B" .null := D381 (Or.inr (w16 hw)) (ty := (.array .byte)) (by decide)
  have F381_c381_lineStarts : Fld Z h381 c381 "com/example/oxpecker/oxpecker/sip/RawMessage" "lineStarts" "[I" .null := D381 (Or.inr (w23 hw)) (ty := (.array .int)) (by decide)
  have F381_c381_lineEnds : Fld Z h381 c381 "com/example/oxpecker/oxpecker/sip/RawMessage" "lineEnds" "[I" .null := D381 (Or.inr (w25 hw)) (ty := (.array .int)) (by decide)
  have F381_c381_wordLengths : Fld Z h381 c381 "com/example/oxpecker/oxpecker/sip/RawMessage" "wordLengths" "[I" .null := D381 (Or.inr (w27 hw)) (ty := (.array .int)) (by decide)
  have F381_c381_lines : Fld Z h381 c381 "com/example/oxpecker/oxpecker/sip/RawMessage" "lines" "I" (.int (0 : Int32)) := D381 (Or.inr (w29 hw)) (ty := .int) (by decide)
  have F381_c381_bodyStart : Fld Z h381 c381 "com/example/oxpecker/oxpecker/sip/RawMessage" "bodyStart" "I" (.int (0 : Int32)) := D381 (Or.inr (w31 hw)) (ty := .int) (by decide)
  have g381_c381 : n0 ≤ c381 := Nat.le_trans z379 (Nat.le_of_eq q381.symm)
  have nE381_c381 : hE.size ≤ c381 := Nat.le_trans K379_.1 (Nat.le_of_eq q381.symm)
  have ne_c362_c381 : c362 ≠ c381 := Nat.ne_of_lt (Nat.lt_of_lt_of_le A379_c362.lt (Nat.le_of_eq q381.symm))
  have A381_c362 := A379_c362.ext E381
  have z381 := Nat.le_trans z379 E381.1
  have K381_ := K379_.ext E381
  refine own_Goes.via st381 ?_
  show own_Goes _ _ _ _ _ _ _ (T381.setTop (mkF m 80 #[.val (.int v0), .val (.int v1), .val (.int v2), .val (.int v3), .val (.int v4), .val (.ref c362), .val (.int x380), .unset, .unset] [(.ref c381)]))
  refine own_Goes.via (B := T381.setTop (mkF m 83 #[.val (.int v0), .val (.int v1), .val (.int v2), .val (.int v3), .val (.int v4), .val (.ref c362), .val (.int x380), .unset, .unset] [(.ref c362), (.ref c381), (.ref c381)])) (fun t k => ?_) ?_
  · show Steps p.tables e below (T381.setTop (mkF m 80 #[.val (.int v0), .val (.int v1), .val (.int v2), .val (.int v3), .val (.int v4), .val (.ref c362), .val (.int x380), .unset, .unset] [(.ref c381)])) t
    refine XS.dup X381.here hx rfl (hb hby at_80) rfl rfl ?_
    show Steps p.tables e below (T381.setTop (mkF m 81 #[.val (.int v0), .val (.int v1), .val (.int v2), .val (.int v3), .val (.int v4), .val (.ref c362), .val (.int x380), .unset, .unset] [(.ref c381), (.ref c381)])) t
    refine XS.aload X381.here hx rfl (hb hby at_81) rfl rfl ?_
    exact k
  obtain ⟨r382, hr382, hF⟩ := own_bd_e hF
  obtain ⟨_, _, ⟨T382, L382, k382, n382⟩, -, X382, ⟨Lc382, hQ382, l382, y382, z382⟩, st382⟩ := X381.specialBack hx (y := (⟨"com/example/oxpecker/oxpecker/sip/RawMessage", "<init>", "([B)V"⟩ : MethodName)) rfl hown (mvT hZ (w9 hw)) (mvT hZ (w10 hw)) (mvT hZ (w11 hw)) (by decide) (backOf (W := 1) (rm_RawMessage_mk l Z a0 hw [] h381 n0 z381 c381 c362 (0 : Int32) (0 : Int32) ([(r363.toInt8.toInt32), (r366.toInt8.toInt32), (r369.toInt8.toInt32), (r372.toInt8.toInt32), (r375.toInt8.toInt32), (r378.toInt8.toInt32)] : List Int32) A381 F381_c381_bodyStart F381_c381_bytes F381_c381_lineEnds F381_c381_lineStarts F381_c381_lines F381_c381_wordLengths g381_c381 A381_c362 g362_c362 (Ne.symm ne_c362_c381) r382 hr382) hZ (w11 hw) (w8 hw) (by decide) (by decide)) (g := (mkF m 83 #[.val (.int v0), .val (.int v1), .val (.int v2), .val (.int v3), .val (.int v4), .val (.ref c362), .val (.int x380), .unset, .unset] [(.ref c362), (.ref c381), (.ref c381)])) rfl (by rw [hml]; rfl) (Steps.refl _) (a := c381) (argsL := [(.ref c362)]) (rest := [(.ref c381)]) (lenOf pd_2 rfl) rfl (by show 2 * 0 + _ ≤ _; exact Nat.le_of_eq rfl) (hb hby at_83) (fun _ _ => ⟨rfl, e381, (by decide : 2 + 3 ≤ _), (by decide : 12 + 48 ≤ _)⟩)
  dsimp only [Pt.U, Pt.locs, Pt.cells, Pt.slots] at X382 l382 y382 z382 st382 hQ382
  subst l382 y382 z382
  obtain ⟨c382_0, c382_1, c382_2, rfl, N382q, K382, E382_c381, F382_c381_bodyStart, F382_c381_bytes, F382_c381_lineEnds, F382_c381_lineStarts, F382_c381_lines, F382_c381_wordLengths, g382_c382_0, s382_c382_0, A382_c382_0, g382_c382_1, s382_c382_1, A382_c382_1, ne_c382_1_c382_0', g382_c382_2, s382_c382_2, A382_c382_2, ne_c382_2_c382_0', ne_c382_2_c382_1'⟩ := hQ382
  have N382 := Fr.app N379 N382q
  have ne_c362_c382_0 : c362 ≠ c382_0 := Nat.ne_of_lt (Nat.lt_of_lt_of_le A381_c362.lt s382_c382_0)
  have ne_c362_c382_1 : c362 ≠ c382_1 := Nat.ne_of_lt (Nat.lt_of_lt_of_le A381_c362.lt s382_c382_1)
  have ne_c362_c382_2 : c362 ≠ c382_2 := Nat.ne_of_lt (Nat.lt_of_lt_of_le A381_c362.lt s382_c382_2)
  have ne_c381_c382_0 : c381 ≠ c382_0 := Nat.ne_of_lt (Nat.lt_of_lt_of_le A381.lt s382_c382_0)
  have ne_c381_c382_1 : c381 ≠ c382_1 := Nat.ne_of_lt (Nat.lt_of_lt_of_le A381.lt s382_c382_1)
  have ne_c381_c382_2 : c381 ≠ c382_2 := Nat.ne_of_lt (Nat.lt_of_lt_of_le A381.lt s382_c382_2)
  have ne_c382_0_c382_1 := Ne.symm ne_c382_1_c382_0'
  have ne_c382_0_c382_2 := Ne.symm ne_c382_2_c382_0'
  have ne_c382_1_c382_2 := Ne.symm ne_c382_2_c382_1'
  have A382_c362 := A381_c362.keep K382 (ninS ne_c362_c381 nin0)
  have nE382_c382_0 : hE.size ≤ c382_0 := Nat.le_trans K381_.1 s382_c382_0
  have nE382_c382_1 : hE.size ≤ c382_1 := Nat.le_trans K381_.1 s382_c382_1
  have nE382_c382_2 : hE.size ≤ c382_2 := Nat.le_trans K381_.1 s382_c382_2
  have K382_ := K381_.trans K382 (allS (Or.inr nE381_c381) all0)
  have z382_ := Nat.le_trans z381 K382.1
  refine own_Goes.tr st382 ?_
  show own_Goes _ _ _ _ _ _ _ (T382.setTop (mkF m 86 #[.val (.int v0), .val (.int v1), .val (.int v2), .val (.int v3), .val (.int v4), .val (.ref c362), .val (.int x380), .unset, .unset] [(.ref c381)]))
  refine own_Goes.via (B := T382.setTop (mkF m 90 #[.val (.int v0), .val (.int v1), .val (.int v2), .val (.int v3), .val (.int v4), .val (.ref c362), .val (.int x380), .val (.ref c381), .unset] [(.ref c381)])) (fun t k => ?_) ?_
  · show Steps p.tables e below (T382.setTop (mkF m 86 #[.val (.int v0), .val (.int v1), .val (.int v2), .val (.int v3), .val (.int v4), .val (.ref c362), .val (.int x380), .unset, .unset] [(.ref c381)])) t
    refine XS.astore X382.here hx rfl (hb hby at_86) rfl rfl (l' := #[.val (.int v0), .val (.int v1), .val (.int v2), .val (.int v3), .val (.int v4), .val (.ref c362), .val (.int x380), .val (.ref c381), .unset]) rfl ?_
    show Steps p.tables e below (T382.setTop (mkF m 88 #[.val (.int v0), .val (.int v1), .val (.int v2), .val (.int v3), .val (.int v4), .val (.ref c362), .val (.int x380), .val (.ref c381), .unset] [])) t
    refine XS.aload X382.here hx rfl (hb hby at_88) rfl rfl ?_
    exact k
  obtain ⟨T383, h383, X383, e383, E383, A383, D383, -, st383⟩ := newO X382 hx hZ hown (w32 hw) (w33 hw) (w34 hw) rfl (g := (mkF m 90 #[.val (.int v0), .val (.int v1), .val (.int v2), .val (.int v3), .val (.int v4), .val (.ref c362), .val (.int x380), .val (.ref c381), .unset] [(.ref c381)])) rfl (hb hby at_90) (by decide) (by decide)
  obtain ⟨c383, q383⟩ : ∃ z, z = T382.heap.size := ⟨_, rfl⟩
  rw [← q383] at A383 D383 st383
  have F383_c383_start : Fld Z h383 c383 "com/example/oxpecker/oxpecker/sip/RawMessage$Header" "start" "I" (.int (0 : Int32)) := D383 (Or.inr (w45 hw)) (ty := .int) (by decide)
  have F383_c383_valueStart : Fld Z h383 c383 "com/example/oxpecker/oxpecker/sip/RawMessage$Header" "valueStart" "I" (.int (0 : Int32)) := D383 (Or.inr (w47 hw)) (ty := .int) (by decide)
  have F383_c383_valueEnd : Fld Z h383 c383 "com/example/oxpecker/oxpecker/sip/RawMessage$Header" "valueEnd" "I" (.int (0 : Int32)) := D383 (Or.inr (w49 hw)) (ty := .int) (by decide)
  have F383_c383_next : Fld Z h383 c383 "com/example/oxpecker/oxpecker/sip/RawMessage$Header" "next" "I" (.int (0 : Int32)) := D383 (Or.inr (w51 hw)) (ty := .int) (by decide)
  have g383_c383 : n0 ≤ c383 := Nat.le_trans z382_ (Nat.le_of_eq q383.symm)
  have nE383_c383 : hE.size ≤ c383 := Nat.le_trans K382_.1 (Nat.le_of_eq q383.symm)
  have ne_c362_c383 : c362 ≠ c383 := Nat.ne_of_lt (Nat.lt_of_lt_of_le A382_c362.lt (Nat.le_of_eq q383.symm))
  have ne_c381_c383 : c381 ≠ c383 := Nat.ne_of_lt (Nat.lt_of_lt_of_le E382_c381.lt (Nat.le_of_eq q383.symm))
  have ne_c382_0_c383 : c382_0 ≠ c383 := Nat.ne_of_lt (Nat.lt_of_lt_of_le A382_c382_0.lt (Nat.le_of_eq q383.symm))
  have ne_c382_1_c383 : c382_1 ≠ c383 := Nat.ne_of_lt (Nat.lt_of_lt_of_le A382_c382_1.lt (Nat.le_of_eq q383.symm))
  have ne_c382_2_c383 : c382_2 ≠ c383 := Nat.ne_of_lt (Nat.lt_of_lt_of_le A382_c382_2.lt (Nat.le_of_eq q383.symm))
  have A383_c362 := A382_c362.ext E383
  have F383_c381_bytes := F382_c381_bytes.ext E383
  have F383_c381_lineStarts := F382_c381_lineStarts.ext E383
  have F383_c381_lineEnds := F382_c381_lineEnds.ext E383
  have F383_c381_wordLengths := F382_c381_wordLengths.ext E383
  have F383_c381_lines := F382_c381_lines.ext E383
  have F383_c381_bodyStart := F382_c381_bodyStart.ext E383
  have E383_c381 := E382_c381.ext E383
  have A383_c382_0 := A382_c382_0.ext E383
  have A383_c382_1 := A382_c382_1.ext E383
  have A383_c382_2 := A382_c382_2.ext E383
  have z383 := Nat.le_trans z382_ E383.1
  have K383_ := K382_.ext E383
  refine own_Goes.via st383 ?_
  show own_Goes _ _ _ _ _ _ _ (T383.setTop (mkF m 93 #[.val (.int v0), .val (.int v1), .val (.int v2), .val (.int v3), .val (.int v4), .val (.ref c362), .val (.int x380), .val (.ref c381), .unset] [(.ref c383), (.ref c381)]))
  refine own_Goes.via (B := T383.setTop (mkF m 100 #[.val (.int v0), .val (.int v1), .val (.int v2), .val (.int v3), .val (.int v4), .val (.ref c362), .val (.int x380), .val (.ref c381), .unset] [(.int v4), (.int v2), (.int x380), (.int v3), (.ref c383), (.ref c383), (.ref c381)])) (fun t k => ?_) ?_
  · show Steps p.tables e below (T383.setTop (mkF m 93 #[.val (.int v0), .val (.int v1), .val (.int v2), .val (.int v3), .val (.int v4), .val (.ref c362), .val (.int x380), .val (.ref c381), .unset] [(.ref c383), (.ref c381)])) t
    refine XS.dup X383.here hx rfl (hb hby at_93) rfl rfl ?_
    show Steps p.tables e below (T383.setTop (mkF m 94 #[.val (.int v0), .val (.int v1), .val (.int v2), .val (.int v3), .val (.int v4), .val (.ref c362), .val (.int x380), .val (.ref c381), .unset] [(.ref c383), (.ref c383), (.ref c381)])) t
    refine XS.iloadN X383.here hx rfl (hb hby at_94) rfl ?_
    show Steps p.tables e below (T383.setTop (mkF m 95 #[.val (.int v0), .val (.int v1), .val (.int v2), .val (.int v3), .val (.int v4), .val (.ref c362), .val (.int x380), .val (.ref c381), .unset] [(.int v3), (.ref c383), (.ref c383), (.ref c381)])) t
    refine XS.iload X383.here hx rfl (hb hby at_95) rfl ?_
    show Steps p.tables e below (T383.setTop (mkF m 97 #[.val (.int v0), .val (.int v1), .val (.int v2), .val (.int v3), .val (.int v4), .val (.ref c362), .val (.int x380), .val (.ref c381), .unset] [(.int x380), (.int v3), (.ref c383), (.ref c383), (.ref c381)])) t
    refine XS.iloadN X383.here hx rfl (hb hby at_97) rfl ?_
    show Steps p.tables e below (T383.setTop (mkF m 98 #[.val (.int v0), .val (.int v1), .val (.int v2), .val (.int v3), .val (.int v4), .val (.ref c362), .val (.int x380), .val (.ref c381), .unset] [(.int v2), (.int x380), (.int v3), (.ref c383), (.ref c383), (.ref c381)])) t
    refine XS.iload X383.here hx rfl (hb hby at_98) rfl ?_
    exact k
  obtain ⟨r384, hr384, hF⟩ := own_bd_e hF
  obtain ⟨_, _, ⟨T384, L384, k384, n384⟩, -, X384, ⟨Lc384, hQ384, l384, y384, z384⟩, st384⟩ := X383.specialBack hx (y := (⟨"com/example/oxpecker/oxpecker/sip/RawMessage$Header", "<init>", "(IIII)V"⟩ : MethodName)) rfl hown (mvT hZ (w35 hw)) (mvT hZ (w36 hw)) (mvT hZ (w37 hw)) (by decide) (backOf (W := 2) (rm_Header_mk l Z a0 hw [] h383 n0 z383 c383 v3 x380 v2 v4 (0 : Int32) (0 : Int32) (0 : Int32) (0 : Int32) A383 F383_c383_next F383_c383_start F383_c383_valueEnd F383_c383_valueStart g383_c383 r384 hr384) hZ (w37 hw) (w34 hw) (by decide) (by decide)) (g := (mkF m 100 #[.val (.int v0), .val (.int v1), .val (.int v2), .val (.int v3), .val (.int v4), .val (.ref c362), .val (.int x380), .val (.ref c381), .unset] [(.int v4), (.int v2), (.int x380), (.int v3), (.ref c383), (.ref c383), (.ref c381)])) rfl (by rw [hml]; rfl) (Steps.refl _) (a := c383) (argsL := [(.int v3), (.int x380), (.int v2), (.int v4)]) (rest := [(.ref c383), (.ref c381)]) (lenOf pd_4 rfl) rfl (by show 2 * 0 + _ ≤ _; exact Nat.le_of_eq rfl) (hb hby at_100) (fun _ _ => ⟨rfl, e383, (by decide : 6 + 0 ≤ _), (by decide : 64 + 0 ≤ _)⟩)
  dsimp only [Pt.U, Pt.locs, Pt.cells, Pt.slots] at X384 l384 y384 z384 st384 hQ384
  subst l384 y384 z384
  obtain ⟨rfl, N384q, K384, E384_c383, F384_c383_next, F384_c383_start, F384_c383_valueEnd, F384_c383_valueStart⟩ := hQ384
  have N384 := Fr.app N382 N384q
  have A384_c362 := A383_c362.keep K384 (ninS ne_c362_c383 nin0)
  have F384_c381_bytes := F383_c381_bytes.keep K384 (ninS ne_c381_c383 nin0)
  have F384_c381_lineStarts := F383_c381_lineStarts.keep K384 (ninS ne_c381_c383 nin0)
  have F384_c381_lineEnds := F383_c381_lineEnds.keep K384 (ninS ne_c381_c383 nin0)
  have F384_c381_wordLengths := F383_c381_wordLengths.keep K384 (ninS ne_c381_c383 nin0)
  have F384_c381_lines := F383_c381_lines.keep K384 (ninS ne_c381_c383 nin0)
  have F384_c381_bodyStart := F383_c381_bodyStart.keep K384 (ninS ne_c381_c383 nin0)
  have E384_c381 := E383_c381.keep K384
  have A384_c382_0 := A383_c382_0.keep K384 (ninS ne_c382_0_c383 nin0)
  have A384_c382_1 := A383_c382_1.keep K384 (ninS ne_c382_1_c383 nin0)
  have A384_c382_2 := A383_c382_2.keep K384 (ninS ne_c382_2_c383 nin0)
  have K384_ := K383_.trans K384 (allS (Or.inr nE383_c383) all0)
  have z384_ := Nat.le_trans z383 K384.1
  refine own_Goes.tr st384 ?_
  show own_Goes _ _ _ _ _ _ _ (T384.setTop (mkF m 103 #[.val (.int v0), .val (.int v1), .val (.int v2), .val (.int v3), .val (.int v4), .val (.ref c362), .val (.int x380), .val (.ref c381), .unset] [(.ref c383), (.ref c381)]))
  obtain ⟨r385, hr385, hF⟩ := own_bd_e hF
  obtain ⟨cq385, kq385, q385a, q385b, q385c⟩ := isOf hZ rfl E384_c381
  obtain ⟨_, _, ⟨T385, L385, k385, n385⟩, -, X385, ⟨Lc385, hQ385, l385, y385, z385⟩, st385⟩ := X384.virtualBack hx (y := (⟨"com/example/oxpecker/oxpecker/sip/RawMessage", "secondValueStart", "(Lcom/example/oxpecker/oxpecker/sip/RawMessage$Header;)I"⟩ : MethodName)) (z := (⟨"com/example/oxpecker/oxpecker/sip/RawMessage", "secondValueStart", "(Lcom/example/oxpecker/oxpecker/sip/RawMessage$Header;)I"⟩ : MethodName)) hown (mvT hZ (w52 hw)) (mvT hZ (w53 hw)) (notFace_of_selects (args := #[]) (mvT hZ (w55 hw))) (mvT hZ (w55 hw)) (mvT hZ (w54 hw)) (by decide) (backOf (W := 0) (rm_RawMessage_secondValueStart l Z a0 hw [] T384.heap n0 z384_ c381 c362 c382_0 c382_1 c382_2 c383 r382.1 r382.2.1 ([(r363.toInt8.toInt32), (r366.toInt8.toInt32), (r369.toInt8.toInt32), (r372.toInt8.toInt32), (r375.toInt8.toInt32), (r378.toInt8.toInt32)] : List Int32) r382.2.2.1 r382.2.2.2.1 r382.2.2.2.2 r384.1 r384.2.1 r384.2.2.1 r384.2.2.2 E384_c381 F384_c381_bodyStart F384_c381_bytes F384_c381_lineEnds F384_c381_lineStarts F384_c381_lines F384_c381_wordLengths g381_c381 A384_c362 g362_c362 A384_c382_0 g382_c382_0 A384_c382_1 g382_c382_1 A384_c382_2 g382_c382_2 E384_c383 F384_c383_next F384_c383_start F384_c383_valueEnd F384_c383_valueStart g383_c383 (Ne.symm ne_c362_c381) ne_c381_c382_0 ne_c362_c382_0 ne_c381_c382_1 ne_c362_c382_1 ne_c382_0_c382_1 ne_c381_c382_2 ne_c362_c382_2 ne_c382_0_c382_2 ne_c382_1_c382_2 ne_c381_c383 ne_c362_c383 ne_c382_0_c383 ne_c382_1_c383 ne_c382_2_c383 r385 hr385) hZ (w56 hw) (w8 hw) (by decide) (by decide)) q385a q385c (g := (mkF m 103 #[.val (.int v0), .val (.int v1), .val (.int v2), .val (.int v3), .val (.int v4), .val (.ref c362), .val (.int x380), .val (.ref c381), .unset] [(.ref c383), (.ref c381)])) rfl (by rw [hml]; rfl) (Steps.refl _) (argsL := [(.ref c383)]) (rest := []) (lenOf pd_7 rfl) rfl (by show 2 * 0 + _ ≤ _; exact Nat.le_of_eq rfl) (hb hby at_103) (fun _ _ => ⟨rfl, rfl, (by decide : 6 + 0 ≤ _), (by decide : 64 + 0 ≤ _)⟩)
  dsimp only [Pt.U, Pt.locs, Pt.cells, Pt.slots] at X385 l385 y385 z385 st385 hQ385
  subst l385 y385 z385
  obtain ⟨rfl, N385q, e385⟩ := hQ385
  have N385 := Fr.app N384 N385q
  refine own_Goes.tr st385 ?_
  show own_Goes _ _ _ _ _ _ _ (T385.setTop (mkF m 106 #[.val (.int v0), .val (.int v1), .val (.int v2), .val (.int v3), .val (.int v4), .val (.ref c362), .val (.int x380), .val (.ref c381), .unset] [(.int r385)]))
  refine own_Goes.via (B := T385.setTop (mkF m 111 #[.val (.int v0), .val (.int v1), .val (.int v2), .val (.int v3), .val (.int v4), .val (.ref c362), .val (.int x380), .val (.ref c381), .val (.int r385)] [(.int (-1 : Int32)), (.int r385)])) (fun t k => ?_) ?_
  · show Steps p.tables e below (T385.setTop (mkF m 106 #[.val (.int v0), .val (.int v1), .val (.int v2), .val (.int v3), .val (.int v4), .val (.ref c362), .val (.int x380), .val (.ref c381), .unset] [(.int r385)])) t
    refine XS.istore X385.here hx rfl (hb hby at_106) rfl (l' := #[.val (.int v0), .val (.int v1), .val (.int v2), .val (.int v3), .val (.int v4), .val (.ref c362), .val (.int x380), .val (.ref c381), .val (.int r385)]) rfl ?_
    show Steps p.tables e below (T385.setTop (mkF m 108 #[.val (.int v0), .val (.int v1), .val (.int v2), .val (.int v3), .val (.int v4), .val (.ref c362), .val (.int x380), .val (.ref c381), .val (.int r385)] [])) t
    refine XS.iload X385.here hx rfl (hb hby at_108) rfl ?_
    show Steps p.tables e below (T385.setTop (mkF m 110 #[.val (.int v0), .val (.int v1), .val (.int v2), .val (.int v3), .val (.int v4), .val (.ref c362), .val (.int x380), .val (.ref c381), .val (.int r385)] [(.int r385)])) t
    refine XS.iconst X385.here hx rfl (hb hby at_110) ?_
    exact k
  by_cases hc111 : r385 = (-1 : Int32)
  · rw [if_pos hc111] at hF
    refine own_Goes.via (B := T385.setTop (mkF m 119 #[.val (.int v0), .val (.int v1), .val (.int v2), .val (.int v3), .val (.int v4), .val (.ref c362), .val (.int x380), .val (.ref c381), .val (.int r385)] [(.int v2), (.int x380), (.ref c362)])) (fun t k => ?_) ?_
    · show Steps p.tables e below (T385.setTop (mkF m 111 #[.val (.int v0), .val (.int v1), .val (.int v2), .val (.int v3), .val (.int v4), .val (.ref c362), .val (.int x380), .val (.ref c381), .val (.int r385)] [(.int (-1 : Int32)), (.int r385)])) t
      refine XS.icmpNo X385.here hx rfl (hb hby at_111) rfl (teq hc111).2 ?_
      show Steps p.tables e below (T385.setTop (mkF m 114 #[.val (.int v0), .val (.int v1), .val (.int v2), .val (.int v3), .val (.int v4), .val (.ref c362), .val (.int x380), .val (.ref c381), .val (.int r385)] [])) t
      refine XS.aload X385.here hx rfl (hb hby at_114) rfl rfl ?_
      show Steps p.tables e below (T385.setTop (mkF m 116 #[.val (.int v0), .val (.int v1), .val (.int v2), .val (.int v3), .val (.int v4), .val (.ref c362), .val (.int x380), .val (.ref c381), .val (.int r385)] [(.ref c362)])) t
      refine XS.iload X385.here hx rfl (hb hby at_116) rfl ?_
      show Steps p.tables e below (T385.setTop (mkF m 118 #[.val (.int v0), .val (.int v1), .val (.int v2), .val (.int v3), .val (.int v4), .val (.ref c362), .val (.int x380), .val (.ref c381), .val (.int r385)] [(.int x380), (.ref c362)])) t
      refine XS.iloadN X385.here hx rfl (hb hby at_118) rfl ?_
      exact k
    obtain ⟨r386, hr386, hF⟩ := own_bd_e hF
    obtain ⟨_, _, ⟨T386, L386, k386, n386⟩, -, X386, ⟨Lc386, hQ386, l386, y386, z386⟩, st386⟩ := Jvm.LawKit.callS X385 hx (y := (⟨"com/example/oxpecker/oxpecker/sip/RawMessageSecondValueStartPinLaw", "noComma", "([BII)Z"⟩ : MethodName)) hown (mvT hZ (w67 hw)) (mvT hZ (w68 hw)) (mvT hZ (w3 hw)) (mvT hZ (w69 hw)) (by decide) (backOf (W := 0) (rm_RawMessageSecondValueStartPinLaw_noComma l Z a0 hw [] T384.heap n0 z384_ c362 x380 v2 ([(r363.toInt8.toInt32), (r366.toInt8.toInt32), (r369.toInt8.toInt32), (r372.toInt8.toInt32), (r375.toInt8.toInt32), (r378.toInt8.toInt32)] : List Int32) A384_c362 g362_c362 r386 hr386) hZ (w69 hw) (w3 hw) (by decide) (by decide)) (g := (mkF m 119 #[.val (.int v0), .val (.int v1), .val (.int v2), .val (.int v3), .val (.int v4), .val (.ref c362), .val (.int x380), .val (.ref c381), .val (.int r385)] [(.int v2), (.int x380), (.ref c362)])) rfl (by rw [hml]; rfl) (argsL := [(.ref c362), (.int x380), (.int v2)]) (rest := []) (lenOf pd_10 rfl) rfl (by show 2 * 0 + _ ≤ _; exact Nat.le_of_eq rfl) (hb hby at_119) (fun _ _ => ⟨rfl, e385, (by decide : 6 + 0 ≤ _), (by decide : 64 + 0 ≤ _)⟩)
    dsimp only [Pt.U, Pt.locs, Pt.cells, Pt.slots] at X386 l386 y386 z386 st386 hQ386
    subst l386 y386 z386
    obtain ⟨rfl, N386q, e386⟩ := hQ386
    have N386 := Fr.app N385 N386q
    refine own_Goes.via st386 ?_
    show own_Goes _ _ _ _ _ _ _ (T386.setTop (mkF m 122 #[.val (.int v0), .val (.int v1), .val (.int v2), .val (.int v3), .val (.int v4), .val (.ref c362), .val (.int x380), .val (.ref c381), .val (.int r385)] [(.int r386)]))
    obtain rfl : (r386 &&& 1) = r := Option.some.inj hF
    exact own_retN X386 hx (t := .boolean) hret hlk (by simp) (hb hby at_122) e386 (v := (r386 &&& 1)) rfl ⟨rfl, N386, K384_⟩ (by decide) (by decide)
  · rw [if_neg hc111] at hF
    refine own_Goes.via (B := T385.setTop (mkF m 131 #[.val (.int v0), .val (.int v1), .val (.int v2), .val (.int v3), .val (.int v4), .val (.ref c362), .val (.int x380), .val (.ref c381), .val (.int r385)] [(.int r385), (.int v2), (.int x380), (.int (0 : Int32)), (.ref c362)])) (fun t k => ?_) ?_
    · show Steps p.tables e below (T385.setTop (mkF m 111 #[.val (.int v0), .val (.int v1), .val (.int v2), .val (.int v3), .val (.int v4), .val (.ref c362), .val (.int x380), .val (.ref c381), .val (.int r385)] [(.int (-1 : Int32)), (.int r385)])) t
      refine XS.icmpYes X385.here hx rfl (pc0 := 111) (pc' := 123) rfl (hb hby at_111) rfl (feq hc111).2 (by decide) (by decide) ?_
      show Steps p.tables e below (T385.setTop (mkF m 123 #[.val (.int v0), .val (.int v1), .val (.int v2), .val (.int v3), .val (.int v4), .val (.ref c362), .val (.int x380), .val (.ref c381), .val (.int r385)] [])) t
      refine XS.aload X385.here hx rfl (hb hby at_123) rfl rfl ?_
      show Steps p.tables e below (T385.setTop (mkF m 125 #[.val (.int v0), .val (.int v1), .val (.int v2), .val (.int v3), .val (.int v4), .val (.ref c362), .val (.int x380), .val (.ref c381), .val (.int r385)] [(.ref c362)])) t
      refine XS.iconst X385.here hx rfl (hb hby at_125) ?_
      show Steps p.tables e below (T385.setTop (mkF m 126 #[.val (.int v0), .val (.int v1), .val (.int v2), .val (.int v3), .val (.int v4), .val (.ref c362), .val (.int x380), .val (.ref c381), .val (.int r385)] [(.int (0 : Int32)), (.ref c362)])) t
      refine XS.iload X385.here hx rfl (hb hby at_126) rfl ?_
      show Steps p.tables e below (T385.setTop (mkF m 128 #[.val (.int v0), .val (.int v1), .val (.int v2), .val (.int v3), .val (.int v4), .val (.ref c362), .val (.int x380), .val (.ref c381), .val (.int r385)] [(.int x380), (.int (0 : Int32)), (.ref c362)])) t
      refine XS.iloadN X385.here hx rfl (hb hby at_128) rfl ?_
      show Steps p.tables e below (T385.setTop (mkF m 129 #[.val (.int v0), .val (.int v1), .val (.int v2), .val (.int v3), .val (.int v4), .val (.ref c362), .val (.int x380), .val (.ref c381), .val (.int r385)] [(.int v2), (.int x380), (.int (0 : Int32)), (.ref c362)])) t
      refine XS.iload X385.here hx rfl (hb hby at_129) rfl ?_
      exact k
    obtain ⟨r387, hr387, hF⟩ := own_bd_e hF
    obtain ⟨_, _, ⟨T387, L387, k387, n387⟩, -, X387, ⟨Lc387, hQ387, l387, y387, z387⟩, st387⟩ := Jvm.LawKit.callS X385 hx (y := (⟨"com/example/oxpecker/oxpecker/sip/RawMessageSecondValueStartPinLaw", "commaAt", "([BIIII)Z"⟩ : MethodName)) hown (mvT hZ (w77 hw)) (mvT hZ (w78 hw)) (mvT hZ (w3 hw)) (mvT hZ (w79 hw)) (by decide) (backOf (W := 0) (rm_RawMessageSecondValueStartPinLaw_commaAt l Z a0 hw [] T384.heap n0 z384_ c362 (0 : Int32) x380 v2 r385 ([(r363.toInt8.toInt32), (r366.toInt8.toInt32), (r369.toInt8.toInt32), (r372.toInt8.toInt32), (r375.toInt8.toInt32), (r378.toInt8.toInt32)] : List Int32) A384_c362 g362_c362 r387 hr387) hZ (w79 hw) (w3 hw) (by decide) (by decide)) (g := (mkF m 131 #[.val (.int v0), .val (.int v1), .val (.int v2), .val (.int v3), .val (.int v4), .val (.ref c362), .val (.int x380), .val (.ref c381), .val (.int r385)] [(.int r385), (.int v2), (.int x380), (.int (0 : Int32)), (.ref c362)])) rfl (by rw [hml]; rfl) (argsL := [(.ref c362), (.int (0 : Int32)), (.int x380), (.int v2), (.int r385)]) (rest := []) (lenOf pd_11 rfl) rfl (by show 2 * 0 + _ ≤ _; exact Nat.le_of_eq rfl) (hb hby at_131) (fun _ _ => ⟨rfl, e385, (by decide : 6 + 0 ≤ _), (by decide : 64 + 0 ≤ _)⟩)
    dsimp only [Pt.U, Pt.locs, Pt.cells, Pt.slots] at X387 l387 y387 z387 st387 hQ387
    subst l387 y387 z387
    obtain ⟨rfl, N387q, e387⟩ := hQ387
    have N387 := Fr.app N385 N387q
    refine own_Goes.via st387 ?_
    show own_Goes _ _ _ _ _ _ _ (T387.setTop (mkF m 134 #[.val (.int v0), .val (.int v1), .val (.int v2), .val (.int v3), .val (.int v4), .val (.ref c362), .val (.int x380), .val (.ref c381), .val (.int r385)] [(.int r387)]))
    by_cases hc134 : r387 = (0 : Int32)
    · rw [if_pos hc134] at hF
      refine own_Goes.via (B := T387.setTop (mkF m 145 #[.val (.int v0), .val (.int v1), .val (.int v2), .val (.int v3), .val (.int v4), .val (.ref c362), .val (.int x380), .val (.ref c381), .val (.int r385)] [(.int r385), (.int v2), (.int x380), (.int (1 : Int32)), (.ref c362)])) (fun t k => ?_) ?_
      · show Steps p.tables e below (T387.setTop (mkF m 134 #[.val (.int v0), .val (.int v1), .val (.int v2), .val (.int v3), .val (.int v4), .val (.ref c362), .val (.int x380), .val (.ref c381), .val (.int r385)] [(.int r387)])) t
        refine XS.ifNo X387.here hx rfl (hb hby at_134) rfl ((if0 _ _).trans (teq hc134).2) ?_
        show Steps p.tables e below (T387.setTop (mkF m 137 #[.val (.int v0), .val (.int v1), .val (.int v2), .val (.int v3), .val (.int v4), .val (.ref c362), .val (.int x380), .val (.ref c381), .val (.int r385)] [])) t
        refine XS.aload X387.here hx rfl (hb hby at_137) rfl rfl ?_
        show Steps p.tables e below (T387.setTop (mkF m 139 #[.val (.int v0), .val (.int v1), .val (.int v2), .val (.int v3), .val (.int v4), .val (.ref c362), .val (.int x380), .val (.ref c381), .val (.int r385)] [(.ref c362)])) t
        refine XS.iconst X387.here hx rfl (hb hby at_139) ?_
        show Steps p.tables e below (T387.setTop (mkF m 140 #[.val (.int v0), .val (.int v1), .val (.int v2), .val (.int v3), .val (.int v4), .val (.ref c362), .val (.int x380), .val (.ref c381), .val (.int r385)] [(.int (1 : Int32)), (.ref c362)])) t
        refine XS.iload X387.here hx rfl (hb hby at_140) rfl ?_
        show Steps p.tables e below (T387.setTop (mkF m 142 #[.val (.int v0), .val (.int v1), .val (.int v2), .val (.int v3), .val (.int v4), .val (.ref c362), .val (.int x380), .val (.ref c381), .val (.int r385)] [(.int x380), (.int (1 : Int32)), (.ref c362)])) t
        refine XS.iloadN X387.here hx rfl (hb hby at_142) rfl ?_
        show Steps p.tables e below (T387.setTop (mkF m 143 #[.val (.int v0), .val (.int v1), .val (.int v2), .val (.int v3), .val (.int v4), .val (.ref c362), .val (.int x380), .val (.ref c381), .val (.int r385)] [(.int v2), (.int x380), (.int (1 : Int32)), (.ref c362)])) t
        refine XS.iload X387.here hx rfl (hb hby at_143) rfl ?_
        exact k
      obtain ⟨r388, hr388, hF⟩ := own_bd_e hF
      obtain ⟨_, _, ⟨T388, L388, k388, n388⟩, -, X388, ⟨Lc388, hQ388, l388, y388, z388⟩, st388⟩ := Jvm.LawKit.callS X387 hx (y := (⟨"com/example/oxpecker/oxpecker/sip/RawMessageSecondValueStartPinLaw", "commaAt", "([BIIII)Z"⟩ : MethodName)) hown (mvT hZ (w77 hw)) (mvT hZ (w78 hw)) (mvT hZ (w3 hw)) (mvT hZ (w79 hw)) (by decide) (backOf (W := 0) (rm_RawMessageSecondValueStartPinLaw_commaAt l Z a0 hw [] T384.heap n0 z384_ c362 (1 : Int32) x380 v2 r385 ([(r363.toInt8.toInt32), (r366.toInt8.toInt32), (r369.toInt8.toInt32), (r372.toInt8.toInt32), (r375.toInt8.toInt32), (r378.toInt8.toInt32)] : List Int32) A384_c362 g362_c362 r388 hr388) hZ (w79 hw) (w3 hw) (by decide) (by decide)) (g := (mkF m 145 #[.val (.int v0), .val (.int v1), .val (.int v2), .val (.int v3), .val (.int v4), .val (.ref c362), .val (.int x380), .val (.ref c381), .val (.int r385)] [(.int r385), (.int v2), (.int x380), (.int (1 : Int32)), (.ref c362)])) rfl (by rw [hml]; rfl) (argsL := [(.ref c362), (.int (1 : Int32)), (.int x380), (.int v2), (.int r385)]) (rest := []) (lenOf pd_11 rfl) rfl (by show 2 * 0 + _ ≤ _; exact Nat.le_of_eq rfl) (hb hby at_145) (fun _ _ => ⟨rfl, e387, (by decide : 6 + 0 ≤ _), (by decide : 64 + 0 ≤ _)⟩)
      dsimp only [Pt.U, Pt.locs, Pt.cells, Pt.slots] at X388 l388 y388 z388 st388 hQ388
      subst l388 y388 z388
      obtain ⟨rfl, N388q, e388⟩ := hQ388
      have N388 := Fr.app N387 N388q
      refine own_Goes.via st388 ?_
      show own_Goes _ _ _ _ _ _ _ (T388.setTop (mkF m 148 #[.val (.int v0), .val (.int v1), .val (.int v2), .val (.int v3), .val (.int v4), .val (.ref c362), .val (.int x380), .val (.ref c381), .val (.int r385)] [(.int r388)]))
      by_cases hc148 : r388 = (0 : Int32)
      · rw [if_pos hc148] at hF
        refine own_Goes.via (B := T388.setTop (mkF m 159 #[.val (.int v0), .val (.int v1), .val (.int v2), .val (.int v3), .val (.int v4), .val (.ref c362), .val (.int x380), .val (.ref c381), .val (.int r385)] [(.int r385), (.int v2), (.int x380), (.int (2 : Int32)), (.ref c362)])) (fun t k => ?_) ?_
        · show Steps p.tables e below (T388.setTop (mkF m 148 #[.val (.int v0), .val (.int v1), .val (.int v2), .val (.int v3), .val (.int v4), .val (.ref c362), .val (.int x380), .val (.ref c381), .val (.int r385)] [(.int r388)])) t
          refine XS.ifNo X388.here hx rfl (hb hby at_148) rfl ((if0 _ _).trans (teq hc148).2) ?_
          show Steps p.tables e below (T388.setTop (mkF m 151 #[.val (.int v0), .val (.int v1), .val (.int v2), .val (.int v3), .val (.int v4), .val (.ref c362), .val (.int x380), .val (.ref c381), .val (.int r385)] [])) t
          refine XS.aload X388.here hx rfl (hb hby at_151) rfl rfl ?_
          show Steps p.tables e below (T388.setTop (mkF m 153 #[.val (.int v0), .val (.int v1), .val (.int v2), .val (.int v3), .val (.int v4), .val (.ref c362), .val (.int x380), .val (.ref c381), .val (.int r385)] [(.ref c362)])) t
          refine XS.iconst X388.here hx rfl (hb hby at_153) ?_
          show Steps p.tables e below (T388.setTop (mkF m 154 #[.val (.int v0), .val (.int v1), .val (.int v2), .val (.int v3), .val (.int v4), .val (.ref c362), .val (.int x380), .val (.ref c381), .val (.int r385)] [(.int (2 : Int32)), (.ref c362)])) t
          refine XS.iload X388.here hx rfl (hb hby at_154) rfl ?_
          show Steps p.tables e below (T388.setTop (mkF m 156 #[.val (.int v0), .val (.int v1), .val (.int v2), .val (.int v3), .val (.int v4), .val (.ref c362), .val (.int x380), .val (.ref c381), .val (.int r385)] [(.int x380), (.int (2 : Int32)), (.ref c362)])) t
          refine XS.iloadN X388.here hx rfl (hb hby at_156) rfl ?_
          show Steps p.tables e below (T388.setTop (mkF m 157 #[.val (.int v0), .val (.int v1), .val (.int v2), .val (.int v3), .val (.int v4), .val (.ref c362), .val (.int x380), .val (.ref c381), .val (.int r385)] [(.int v2), (.int x380), (.int (2 : Int32)), (.ref c362)])) t
          refine XS.iload X388.here hx rfl (hb hby at_157) rfl ?_
          exact k
        obtain ⟨r389, hr389, hF⟩ := own_bd_e hF
        obtain ⟨_, _, ⟨T389, L389, k389, n389⟩, -, X389, ⟨Lc389, hQ389, l389, y389, z389⟩, st389⟩ := Jvm.LawKit.callS X388 hx (y := (⟨"com/example/oxpecker/oxpecker/sip/RawMessageSecondValueStartPinLaw", "commaAt", "([BIIII)Z"⟩ : MethodName)) hown (mvT hZ (w77 hw)) (mvT hZ (w78 hw)) (mvT hZ (w3 hw)) (mvT hZ (w79 hw)) (by decide) (backOf (W := 0) (rm_RawMessageSecondValueStartPinLaw_commaAt l Z a0 hw [] T384.heap n0 z384_ c362 (2 : Int32) x380 v2 r385 ([(r363.toInt8.toInt32), (r366.toInt8.toInt32), (r369.toInt8.toInt32), (r372.toInt8.toInt32), (r375.toInt8.toInt32), (r378.toInt8.toInt32)] : List Int32) A384_c362 g362_c362 r389 hr389) hZ (w79 hw) (w3 hw) (by decide) (by decide)) (g := (mkF m 159 #[.val (.int v0), .val (.int v1), .val (.int v2), .val (.int v3), .val (.int v4), .val (.ref c362), .val (.int x380), .val (.ref c381), .val (.int r385)] [(.int r385), (.int v2), (.int x380), (.int (2 : Int32)), (.ref c362)])) rfl (by rw [hml]; rfl) (argsL := [(.ref c362), (.int (2 : Int32)), (.int x380), (.int v2), (.int r385)]) (rest := []) (lenOf pd_11 rfl) rfl (by show 2 * 0 + _ ≤ _; exact Nat.le_of_eq rfl) (hb hby at_159) (fun _ _ => ⟨rfl, e388, (by decide : 6 + 0 ≤ _), (by decide : 64 + 0 ≤ _)⟩)
        dsimp only [Pt.U, Pt.locs, Pt.cells, Pt.slots] at X389 l389 y389 z389 st389 hQ389
        subst l389 y389 z389
        obtain ⟨rfl, N389q, e389⟩ := hQ389
        have N389 := Fr.app N388 N389q
        refine own_Goes.via st389 ?_
        show own_Goes _ _ _ _ _ _ _ (T389.setTop (mkF m 162 #[.val (.int v0), .val (.int v1), .val (.int v2), .val (.int v3), .val (.int v4), .val (.ref c362), .val (.int x380), .val (.ref c381), .val (.int r385)] [(.int r389)]))
        by_cases hc162 : r389 = (0 : Int32)
        · rw [if_pos hc162] at hF
          refine own_Goes.via (B := T389.setTop (mkF m 173 #[.val (.int v0), .val (.int v1), .val (.int v2), .val (.int v3), .val (.int v4), .val (.ref c362), .val (.int x380), .val (.ref c381), .val (.int r385)] [(.int r385), (.int v2), (.int x380), (.int (3 : Int32)), (.ref c362)])) (fun t k => ?_) ?_
          · show Steps p.tables e below (T389.setTop (mkF m 162 #[.val (.int v0), .val (.int v1), .val (.int v2), .val (.int v3), .val (.int v4), .val (.ref c362), .val (.int x380), .val (.ref c381), .val (.int r385)] [(.int r389)])) t
            refine XS.ifNo X389.here hx rfl (hb hby at_162) rfl ((if0 _ _).trans (teq hc162).2) ?_
            show Steps p.tables e below (T389.setTop (mkF m 165 #[.val (.int v0), .val (.int v1), .val (.int v2), .val (.int v3), .val (.int v4), .val (.ref c362), .val (.int x380), .val (.ref c381), .val (.int r385)] [])) t
            refine XS.aload X389.here hx rfl (hb hby at_165) rfl rfl ?_
            show Steps p.tables e below (T389.setTop (mkF m 167 #[.val (.int v0), .val (.int v1), .val (.int v2), .val (.int v3), .val (.int v4), .val (.ref c362), .val (.int x380), .val (.ref c381), .val (.int r385)] [(.ref c362)])) t
            refine XS.iconst X389.here hx rfl (hb hby at_167) ?_
            show Steps p.tables e below (T389.setTop (mkF m 168 #[.val (.int v0), .val (.int v1), .val (.int v2), .val (.int v3), .val (.int v4), .val (.ref c362), .val (.int x380), .val (.ref c381), .val (.int r385)] [(.int (3 : Int32)), (.ref c362)])) t
            refine XS.iload X389.here hx rfl (hb hby at_168) rfl ?_
            show Steps p.tables e below (T389.setTop (mkF m 170 #[.val (.int v0), .val (.int v1), .val (.int v2), .val (.int v3), .val (.int v4), .val (.ref c362), .val (.int x380), .val (.ref c381), .val (.int r385)] [(.int x380), (.int (3 : Int32)), (.ref c362)])) t
            refine XS.iloadN X389.here hx rfl (hb hby at_170) rfl ?_
            show Steps p.tables e below (T389.setTop (mkF m 171 #[.val (.int v0), .val (.int v1), .val (.int v2), .val (.int v3), .val (.int v4), .val (.ref c362), .val (.int x380), .val (.ref c381), .val (.int r385)] [(.int v2), (.int x380), (.int (3 : Int32)), (.ref c362)])) t
            refine XS.iload X389.here hx rfl (hb hby at_171) rfl ?_
            exact k
          obtain ⟨r390, hr390, hF⟩ := own_bd_e hF
          obtain ⟨_, _, ⟨T390, L390, k390, n390⟩, -, X390, ⟨Lc390, hQ390, l390, y390, z390⟩, st390⟩ := Jvm.LawKit.callS X389 hx (y := (⟨"com/example/oxpecker/oxpecker/sip/RawMessageSecondValueStartPinLaw", "commaAt", "([BIIII)Z"⟩ : MethodName)) hown (mvT hZ (w77 hw)) (mvT hZ (w78 hw)) (mvT hZ (w3 hw)) (mvT hZ (w79 hw)) (by decide) (backOf (W := 0) (rm_RawMessageSecondValueStartPinLaw_commaAt l Z a0 hw [] T384.heap n0 z384_ c362 (3 : Int32) x380 v2 r385 ([(r363.toInt8.toInt32), (r366.toInt8.toInt32), (r369.toInt8.toInt32), (r372.toInt8.toInt32), (r375.toInt8.toInt32), (r378.toInt8.toInt32)] : List Int32) A384_c362 g362_c362 r390 hr390) hZ (w79 hw) (w3 hw) (by decide) (by decide)) (g := (mkF m 173 #[.val (.int v0), .val (.int v1), .val (.int v2), .val (.int v3), .val (.int v4), .val (.ref c362), .val (.int x380), .val (.ref c381), .val (.int r385)] [(.int r385), (.int v2), (.int x380), (.int (3 : Int32)), (.ref c362)])) rfl (by rw [hml]; rfl) (argsL := [(.ref c362), (.int (3 : Int32)), (.int x380), (.int v2), (.int r385)]) (rest := []) (lenOf pd_11 rfl) rfl (by show 2 * 0 + _ ≤ _; exact Nat.le_of_eq rfl) (hb hby at_173) (fun _ _ => ⟨rfl, e389, (by decide : 6 + 0 ≤ _), (by decide : 64 + 0 ≤ _)⟩)
          dsimp only [Pt.U, Pt.locs, Pt.cells, Pt.slots] at X390 l390 y390 z390 st390 hQ390
          subst l390 y390 z390
          obtain ⟨rfl, N390q, e390⟩ := hQ390
          have N390 := Fr.app N389 N390q
          refine own_Goes.via st390 ?_
          show own_Goes _ _ _ _ _ _ _ (T390.setTop (mkF m 176 #[.val (.int v0), .val (.int v1), .val (.int v2), .val (.int v3), .val (.int v4), .val (.ref c362), .val (.int x380), .val (.ref c381), .val (.int r385)] [(.int r390)]))
          by_cases hc176 : r390 = (0 : Int32)
          · rw [if_pos hc176] at hF
            refine own_Goes.via (B := T390.setTop (mkF m 187 #[.val (.int v0), .val (.int v1), .val (.int v2), .val (.int v3), .val (.int v4), .val (.ref c362), .val (.int x380), .val (.ref c381), .val (.int r385)] [(.int r385), (.int v2), (.int x380), (.int (4 : Int32)), (.ref c362)])) (fun t k => ?_) ?_
            · show Steps p.tables e below (T390.setTop (mkF m 176 #[.val (.int v0), .val (.int v1), .val (.int v2), .val (.int v3), .val (.int v4), .val (.ref c362), .val (.int x380), .val (.ref c381), .val (.int r385)] [(.int r390)])) t
              refine XS.ifNo X390.here hx rfl (hb hby at_176) rfl ((if0 _ _).trans (teq hc176).2) ?_
              show Steps p.tables e below (T390.setTop (mkF m 179 #[.val (.int v0), .val (.int v1), .val (.int v2), .val (.int v3), .val (.int v4), .val (.ref c362), .val (.int x380), .val (.ref c381), .val (.int r385)] [])) t
              refine XS.aload X390.here hx rfl (hb hby at_179) rfl rfl ?_
              show Steps p.tables e below (T390.setTop (mkF m 181 #[.val (.int v0), .val (.int v1), .val (.int v2), .val (.int v3), .val (.int v4), .val (.ref c362), .val (.int x380), .val (.ref c381), .val (.int r385)] [(.ref c362)])) t
              refine XS.iconst X390.here hx rfl (hb hby at_181) ?_
              show Steps p.tables e below (T390.setTop (mkF m 182 #[.val (.int v0), .val (.int v1), .val (.int v2), .val (.int v3), .val (.int v4), .val (.ref c362), .val (.int x380), .val (.ref c381), .val (.int r385)] [(.int (4 : Int32)), (.ref c362)])) t
              refine XS.iload X390.here hx rfl (hb hby at_182) rfl ?_
              show Steps p.tables e below (T390.setTop (mkF m 184 #[.val (.int v0), .val (.int v1), .val (.int v2), .val (.int v3), .val (.int v4), .val (.ref c362), .val (.int x380), .val (.ref c381), .val (.int r385)] [(.int x380), (.int (4 : Int32)), (.ref c362)])) t
              refine XS.iloadN X390.here hx rfl (hb hby at_184) rfl ?_
              show Steps p.tables e below (T390.setTop (mkF m 185 #[.val (.int v0), .val (.int v1), .val (.int v2), .val (.int v3), .val (.int v4), .val (.ref c362), .val (.int x380), .val (.ref c381), .val (.int r385)] [(.int v2), (.int x380), (.int (4 : Int32)), (.ref c362)])) t
              refine XS.iload X390.here hx rfl (hb hby at_185) rfl ?_
              exact k
            obtain ⟨r391, hr391, hF⟩ := own_bd_e hF
            obtain ⟨_, _, ⟨T391, L391, k391, n391⟩, -, X391, ⟨Lc391, hQ391, l391, y391, z391⟩, st391⟩ := Jvm.LawKit.callS X390 hx (y := (⟨"com/example/oxpecker/oxpecker/sip/RawMessageSecondValueStartPinLaw", "commaAt", "([BIIII)Z"⟩ : MethodName)) hown (mvT hZ (w77 hw)) (mvT hZ (w78 hw)) (mvT hZ (w3 hw)) (mvT hZ (w79 hw)) (by decide) (backOf (W := 0) (rm_RawMessageSecondValueStartPinLaw_commaAt l Z a0 hw [] T384.heap n0 z384_ c362 (4 : Int32) x380 v2 r385 ([(r363.toInt8.toInt32), (r366.toInt8.toInt32), (r369.toInt8.toInt32), (r372.toInt8.toInt32), (r375.toInt8.toInt32), (r378.toInt8.toInt32)] : List Int32) A384_c362 g362_c362 r391 hr391) hZ (w79 hw) (w3 hw) (by decide) (by decide)) (g := (mkF m 187 #[.val (.int v0), .val (.int v1), .val (.int v2), .val (.int v3), .val (.int v4), .val (.ref c362), .val (.int x380), .val (.ref c381), .val (.int r385)] [(.int r385), (.int v2), (.int x380), (.int (4 : Int32)), (.ref c362)])) rfl (by rw [hml]; rfl) (argsL := [(.ref c362), (.int (4 : Int32)), (.int x380), (.int v2), (.int r385)]) (rest := []) (lenOf pd_11 rfl) rfl (by show 2 * 0 + _ ≤ _; exact Nat.le_of_eq rfl) (hb hby at_187) (fun _ _ => ⟨rfl, e390, (by decide : 6 + 0 ≤ _), (by decide : 64 + 0 ≤ _)⟩)
            dsimp only [Pt.U, Pt.locs, Pt.cells, Pt.slots] at X391 l391 y391 z391 st391 hQ391
            subst l391 y391 z391
            obtain ⟨rfl, N391q, e391⟩ := hQ391
            have N391 := Fr.app N390 N391q
            refine own_Goes.via st391 ?_
            show own_Goes _ _ _ _ _ _ _ (T391.setTop (mkF m 190 #[.val (.int v0), .val (.int v1), .val (.int v2), .val (.int v3), .val (.int v4), .val (.ref c362), .val (.int x380), .val (.ref c381), .val (.int r385)] [(.int r391)]))
            by_cases hc190 : r391 = (0 : Int32)
            · rw [if_pos hc190] at hF
              refine own_Goes.via (B := T391.setTop (mkF m 201 #[.val (.int v0), .val (.int v1), .val (.int v2), .val (.int v3), .val (.int v4), .val (.ref c362), .val (.int x380), .val (.ref c381), .val (.int r385)] [(.int r385), (.int v2), (.int x380), (.int (5 : Int32)), (.ref c362)])) (fun t k => ?_) ?_
              · show Steps p.tables e below (T391.setTop (mkF m 190 #[.val (.int v0), .val (.int v1), .val (.int v2), .val (.int v3), .val (.int v4), .val (.ref c362), .val (.int x380), .val (.ref c381), .val (.int r385)] [(.int r391)])) t
                refine XS.ifNo X391.here hx rfl (hb hby at_190) rfl ((if0 _ _).trans (teq hc190).2) ?_
                show Steps p.tables e below (T391.setTop (mkF m 193 #[.val (.int v0), .val (.int v1), .val (.int v2), .val (.int v3), .val (.int v4), .val (.ref c362), .val (.int x380), .val (.ref c381), .val (.int r385)] [])) t
                refine XS.aload X391.here hx rfl (hb hby at_193) rfl rfl ?_
                show Steps p.tables e below (T391.setTop (mkF m 195 #[.val (.int v0), .val (.int v1), .val (.int v2), .val (.int v3), .val (.int v4), .val (.ref c362), .val (.int x380), .val (.ref c381), .val (.int r385)] [(.ref c362)])) t
                refine XS.iconst X391.here hx rfl (hb hby at_195) ?_
                show Steps p.tables e below (T391.setTop (mkF m 196 #[.val (.int v0), .val (.int v1), .val (.int v2), .val (.int v3), .val (.int v4), .val (.ref c362), .val (.int x380), .val (.ref c381), .val (.int r385)] [(.int (5 : Int32)), (.ref c362)])) t
                refine XS.iload X391.here hx rfl (hb hby at_196) rfl ?_
                show Steps p.tables e below (T391.setTop (mkF m 198 #[.val (.int v0), .val (.int v1), .val (.int v2), .val (.int v3), .val (.int v4), .val (.ref c362), .val (.int x380), .val (.ref c381), .val (.int r385)] [(.int x380), (.int (5 : Int32)), (.ref c362)])) t
                refine XS.iloadN X391.here hx rfl (hb hby at_198) rfl ?_
                show Steps p.tables e below (T391.setTop (mkF m 199 #[.val (.int v0), .val (.int v1), .val (.int v2), .val (.int v3), .val (.int v4), .val (.ref c362), .val (.int x380), .val (.ref c381), .val (.int r385)] [(.int v2), (.int x380), (.int (5 : Int32)), (.ref c362)])) t
                refine XS.iload X391.here hx rfl (hb hby at_199) rfl ?_
                exact k
              obtain ⟨r392, hr392, hF⟩ := own_bd_e hF
              obtain ⟨_, _, ⟨T392, L392, k392, n392⟩, -, X392, ⟨Lc392, hQ392, l392, y392, z392⟩, st392⟩ := Jvm.LawKit.callS X391 hx (y := (⟨"com/example/oxpecker/oxpecker/sip/RawMessageSecondValueStartPinLaw", "commaAt", "([BIIII)Z"⟩ : MethodName)) hown (mvT hZ (w77 hw)) (mvT hZ (w78 hw)) (mvT hZ (w3 hw)) (mvT hZ (w79 hw)) (by decide) (backOf (W := 0) (rm_RawMessageSecondValueStartPinLaw_commaAt l Z a0 hw [] T384.heap n0 z384_ c362 (5 : Int32) x380 v2 r385 ([(r363.toInt8.toInt32), (r366.toInt8.toInt32), (r369.toInt8.toInt32), (r372.toInt8.toInt32), (r375.toInt8.toInt32), (r378.toInt8.toInt32)] : List Int32) A384_c362 g362_c362 r392 hr392) hZ (w79 hw) (w3 hw) (by decide) (by decide)) (g := (mkF m 201 #[.val (.int v0), .val (.int v1), .val (.int v2), .val (.int v3), .val (.int v4), .val (.ref c362), .val (.int x380), .val (.ref c381), .val (.int r385)] [(.int r385), (.int v2), (.int x380), (.int (5 : Int32)), (.ref c362)])) rfl (by rw [hml]; rfl) (argsL := [(.ref c362), (.int (5 : Int32)), (.int x380), (.int v2), (.int r385)]) (rest := []) (lenOf pd_11 rfl) rfl (by show 2 * 0 + _ ≤ _; exact Nat.le_of_eq rfl) (hb hby at_201) (fun _ _ => ⟨rfl, e391, (by decide : 6 + 0 ≤ _), (by decide : 64 + 0 ≤ _)⟩)
              dsimp only [Pt.U, Pt.locs, Pt.cells, Pt.slots] at X392 l392 y392 z392 st392 hQ392
              subst l392 y392 z392
              obtain ⟨rfl, N392q, e392⟩ := hQ392
              have N392 := Fr.app N391 N392q
              refine own_Goes.via st392 ?_
              show own_Goes _ _ _ _ _ _ _ (T392.setTop (mkF m 204 #[.val (.int v0), .val (.int v1), .val (.int v2), .val (.int v3), .val (.int v4), .val (.ref c362), .val (.int x380), .val (.ref c381), .val (.int r385)] [(.int r392)]))
              by_cases hc204 : r392 = (0 : Int32)
              · rw [if_pos hc204] at hF
                refine own_Goes.via (B := T392.setTop (mkF m 212 #[.val (.int v0), .val (.int v1), .val (.int v2), .val (.int v3), .val (.int v4), .val (.ref c362), .val (.int x380), .val (.ref c381), .val (.int r385)] [(.int (0 : Int32))])) (fun t k => ?_) ?_
                · show Steps p.tables e below (T392.setTop (mkF m 204 #[.val (.int v0), .val (.int v1), .val (.int v2), .val (.int v3), .val (.int v4), .val (.ref c362), .val (.int x380), .val (.ref c381), .val (.int r385)] [(.int r392)])) t
                  refine XS.ifYes X392.here hx rfl (pc0 := 204) (pc' := 211) rfl (hb hby at_204) rfl ((if0 _ _).trans (teq hc204).1) (by decide) (by decide) ?_
                  show Steps p.tables e below (T392.setTop (mkF m 211 #[.val (.int v0), .val (.int v1), .val (.int v2), .val (.int v3), .val (.int v4), .val (.ref c362), .val (.int x380), .val (.ref c381), .val (.int r385)] [])) t
                  refine XS.iconst X392.here hx rfl (hb hby at_211) ?_
                  exact k
                obtain rfl : (0 : Int32) = r := Option.some.inj hF
                exact own_retN X392 hx (t := .boolean) hret hlk (by simp) (hb hby at_212) e392 (v := (0 : Int32)) (by decide) ⟨rfl, N392, K384_⟩ (by decide) (by decide)
              · rw [if_neg hc204] at hF
                refine own_Goes.via (B := T392.setTop (mkF m 212 #[.val (.int v0), .val (.int v1), .val (.int v2), .val (.int v3), .val (.int v4), .val (.ref c362), .val (.int x380), .val (.ref c381), .val (.int r385)] [(.int (1 : Int32))])) (fun t k => ?_) ?_
                · show Steps p.tables e below (T392.setTop (mkF m 204 #[.val (.int v0), .val (.int v1), .val (.int v2), .val (.int v3), .val (.int v4), .val (.ref c362), .val (.int x380), .val (.ref c381), .val (.int r385)] [(.int r392)])) t
                  refine XS.ifNo X392.here hx rfl (hb hby at_204) rfl ((if0 _ _).trans (feq hc204).1) ?_
                  show Steps p.tables e below (T392.setTop (mkF m 207 #[.val (.int v0), .val (.int v1), .val (.int v2), .val (.int v3), .val (.int v4), .val (.ref c362), .val (.int x380), .val (.ref c381), .val (.int r385)] [])) t
                  refine XS.iconst X392.here hx rfl (hb hby at_207) ?_
                  show Steps p.tables e below (T392.setTop (mkF m 208 #[.val (.int v0), .val (.int v1), .val (.int v2), .val (.int v3), .val (.int v4), .val (.ref c362), .val (.int x380), .val (.ref c381), .val (.int r385)] [(.int (1 : Int32))])) t
                  refine XS.goto X392.here hx rfl (pc0 := 208) (pc' := 212) rfl (hb hby at_208) (by decide) (by decide) ?_
                  exact k
                obtain rfl : (1 : Int32) = r := Option.some.inj hF
                exact own_retN X392 hx (t := .boolean) hret hlk (by simp) (hb hby at_212) e392 (v := (1 : Int32)) (by decide) ⟨rfl, N392, K384_⟩ (by decide) (by decide)
            · rw [if_neg hc190] at hF
              refine own_Goes.via (B := T391.setTop (mkF m 212 #[.val (.int v0), .val (.int v1), .val (.int v2), .val (.int v3), .val (.int v4), .val (.ref c362), .val (.int x380), .val (.ref c381), .val (.int r385)] [(.int (1 : Int32))])) (fun t k => ?_) ?_
              · show Steps p.tables e below (T391.setTop (mkF m 190 #[.val (.int v0), .val (.int v1), .val (.int v2), .val (.int v3), .val (.int v4), .val (.ref c362), .val (.int x380), .val (.ref c381), .val (.int r385)] [(.int r391)])) t
                refine XS.ifYes X391.here hx rfl (pc0 := 190) (pc' := 207) rfl (hb hby at_190) rfl ((if0 _ _).trans (feq hc190).2) (by decide) (by decide) ?_
                show Steps p.tables e below (T391.setTop (mkF m 207 #[.val (.int v0), .val (.int v1), .val (.int v2), .val (.int v3), .val (.int v4), .val (.ref c362), .val (.int x380), .val (.ref c381), .val (.int r385)] [])) t
                refine XS.iconst X391.here hx rfl (hb hby at_207) ?_
                show Steps p.tables e below (T391.setTop (mkF m 208 #[.val (.int v0), .val (.int v1), .val (.int v2), .val (.int v3), .val (.int v4), .val (.ref c362), .val (.int x380), .val (.ref c381), .val (.int r385)] [(.int (1 : Int32))])) t
                refine XS.goto X391.here hx rfl (pc0 := 208) (pc' := 212) rfl (hb hby at_208) (by decide) (by decide) ?_
                exact k
              obtain rfl : (1 : Int32) = r := Option.some.inj hF
              exact own_retN X391 hx (t := .boolean) hret hlk (by simp) (hb hby at_212) e391 (v := (1 : Int32)) (by decide) ⟨rfl, N391, K384_⟩ (by decide) (by decide)
          · rw [if_neg hc176] at hF
            refine own_Goes.via (B := T390.setTop (mkF m 212 #[.val (.int v0), .val (.int v1), .val (.int v2), .val (.int v3), .val (.int v4), .val (.ref c362), .val (.int x380), .val (.ref c381), .val (.int r385)] [(.int (1 : Int32))])) (fun t k => ?_) ?_
            · show Steps p.tables e below (T390.setTop (mkF m 176 #[.val (.int v0), .val (.int v1), .val (.int v2), .val (.int v3), .val (.int v4), .val (.ref c362), .val (.int x380), .val (.ref c381), .val (.int r385)] [(.int r390)])) t
              refine XS.ifYes X390.here hx rfl (pc0 := 176) (pc' := 207) rfl (hb hby at_176) rfl ((if0 _ _).trans (feq hc176).2) (by decide) (by decide) ?_
              show Steps p.tables e below (T390.setTop (mkF m 207 #[.val (.int v0), .val (.int v1), .val (.int v2), .val (.int v3), .val (.int v4), .val (.ref c362), .val (.int x380), .val (.ref c381), .val (.int r385)] [])) t
              refine XS.iconst X390.here hx rfl (hb hby at_207) ?_
              show Steps p.tables e below (T390.setTop (mkF m 208 #[.val (.int v0), .val (.int v1), .val (.int v2), .val (.int v3), .val (.int v4), .val (.ref c362), .val (.int x380), .val (.ref c381), .val (.int r385)] [(.int (1 : Int32))])) t
              refine XS.goto X390.here hx rfl (pc0 := 208) (pc' := 212) rfl (hb hby at_208) (by decide) (by decide) ?_
              exact k
            obtain rfl : (1 : Int32) = r := Option.some.inj hF
            exact own_retN X390 hx (t := .boolean) hret hlk (by simp) (hb hby at_212) e390 (v := (1 : Int32)) (by decide) ⟨rfl, N390, K384_⟩ (by decide) (by decide)
        · rw [if_neg hc162] at hF
          refine own_Goes.via (B := T389.setTop (mkF m 212 #[.val (.int v0), .val (.int v1), .val (.int v2), .val (.int v3), .val (.int v4), .val (.ref c362), .val (.int x380), .val (.ref c381), .val (.int r385)] [(.int (1 : Int32))])) (fun t k => ?_) ?_
          · show Steps p.tables e below (T389.setTop (mkF m 162 #[.val (.int v0), .val (.int v1), .val (.int v2), .val (.int v3), .val (.int v4), .val (.ref c362), .val (.int x380), .val (.ref c381), .val (.int r385)] [(.int r389)])) t
            refine XS.ifYes X389.here hx rfl (pc0 := 162) (pc' := 207) rfl (hb hby at_162) rfl ((if0 _ _).trans (feq hc162).2) (by decide) (by decide) ?_
            show Steps p.tables e below (T389.setTop (mkF m 207 #[.val (.int v0), .val (.int v1), .val (.int v2), .val (.int v3), .val (.int v4), .val (.ref c362), .val (.int x380), .val (.ref c381), .val (.int r385)] [])) t
            refine XS.iconst X389.here hx rfl (hb hby at_207) ?_
            show Steps p.tables e below (T389.setTop (mkF m 208 #[.val (.int v0), .val (.int v1), .val (.int v2), .val (.int v3), .val (.int v4), .val (.ref c362), .val (.int x380), .val (.ref c381), .val (.int r385)] [(.int (1 : Int32))])) t
            refine XS.goto X389.here hx rfl (pc0 := 208) (pc' := 212) rfl (hb hby at_208) (by decide) (by decide) ?_
            exact k
          obtain rfl : (1 : Int32) = r := Option.some.inj hF
          exact own_retN X389 hx (t := .boolean) hret hlk (by simp) (hb hby at_212) e389 (v := (1 : Int32)) (by decide) ⟨rfl, N389, K384_⟩ (by decide) (by decide)
      · rw [if_neg hc148] at hF
        refine own_Goes.via (B := T388.setTop (mkF m 212 #[.val (.int v0), .val (.int v1), .val (.int v2), .val (.int v3), .val (.int v4), .val (.ref c362), .val (.int x380), .val (.ref c381), .val (.int r385)] [(.int (1 : Int32))])) (fun t k => ?_) ?_
        · show Steps p.tables e below (T388.setTop (mkF m 148 #[.val (.int v0), .val (.int v1), .val (.int v2), .val (.int v3), .val (.int v4), .val (.ref c362), .val (.int x380), .val (.ref c381), .val (.int r385)] [(.int r388)])) t
          refine XS.ifYes X388.here hx rfl (pc0 := 148) (pc' := 207) rfl (hb hby at_148) rfl ((if0 _ _).trans (feq hc148).2) (by decide) (by decide) ?_
          show Steps p.tables e below (T388.setTop (mkF m 207 #[.val (.int v0), .val (.int v1), .val (.int v2), .val (.int v3), .val (.int v4), .val (.ref c362), .val (.int x380), .val (.ref c381), .val (.int r385)] [])) t
          refine XS.iconst X388.here hx rfl (hb hby at_207) ?_
          show Steps p.tables e below (T388.setTop (mkF m 208 #[.val (.int v0), .val (.int v1), .val (.int v2), .val (.int v3), .val (.int v4), .val (.ref c362), .val (.int x380), .val (.ref c381), .val (.int r385)] [(.int (1 : Int32))])) t
          refine XS.goto X388.here hx rfl (pc0 := 208) (pc' := 212) rfl (hb hby at_208) (by decide) (by decide) ?_
          exact k
        obtain rfl : (1 : Int32) = r := Option.some.inj hF
        exact own_retN X388 hx (t := .boolean) hret hlk (by simp) (hb hby at_212) e388 (v := (1 : Int32)) (by decide) ⟨rfl, N388, K384_⟩ (by decide) (by decide)
    · rw [if_neg hc134] at hF
      refine own_Goes.via (B := T387.setTop (mkF m 212 #[.val (.int v0), .val (.int v1), .val (.int v2), .val (.int v3), .val (.int v4), .val (.ref c362), .val (.int x380), .val (.ref c381), .val (.int r385)] [(.int (1 : Int32))])) (fun t k => ?_) ?_
      · show Steps p.tables e below (T387.setTop (mkF m 134 #[.val (.int v0), .val (.int v1), .val (.int v2), .val (.int v3), .val (.int v4), .val (.ref c362), .val (.int x380), .val (.ref c381), .val (.int r385)] [(.int r387)])) t
        refine XS.ifYes X387.here hx rfl (pc0 := 134) (pc' := 207) rfl (hb hby at_134) rfl ((if0 _ _).trans (feq hc134).2) (by decide) (by decide) ?_
        show Steps p.tables e below (T387.setTop (mkF m 207 #[.val (.int v0), .val (.int v1), .val (.int v2), .val (.int v3), .val (.int v4), .val (.ref c362), .val (.int x380), .val (.ref c381), .val (.int r385)] [])) t
        refine XS.iconst X387.here hx rfl (hb hby at_207) ?_
        show Steps p.tables e below (T387.setTop (mkF m 208 #[.val (.int v0), .val (.int v1), .val (.int v2), .val (.int v3), .val (.int v4), .val (.ref c362), .val (.int x380), .val (.ref c381), .val (.int r385)] [(.int (1 : Int32))])) t
        refine XS.goto X387.here hx rfl (pc0 := 208) (pc' := 212) rfl (hb hby at_208) (by decide) (by decide) ?_
        exact k
      obtain rfl : (1 : Int32) = r := Option.some.inj hF
      exact own_retN X387 hx (t := .boolean) hret hlk (by simp) (hb hby at_212) e387 (v := (1 : Int32)) (by decide) ⟨rfl, N387, K384_⟩ (by decide) (by decide)
theorem ef_law (m : MethodId) (x0 : Int32) (x1 : Int32) (x2 : Int32) (x3 : Int32) (x4 : Int32) : entryFrame m #[(.int x0), (.int x1), (.int x2), (.int x3), (.int x4)] maxLocals = mkF m 0 #[.val (.int x0), .val (.int x1), .val (.int x2), .val (.int x3), .val (.int x4), .unset, .unset, .unset, .unset] [] := by first | (simp [entryFrame, mkF, argsToLocals, Value.category, maxLocals]; done) | rfl
set_option maxRecDepth 65536 in
set_option maxHeartbeats 4000000 in
theorem rm_law (l : Launch) (Z : State) (a0 : Array Value) (hw : ∀ d ∈ tables_1, d.before a0 Z = true) (ws : List Jvm.Cond) (hE : Heap) (n0 : Nat) (z : n0 ≤ hE.size)  (v0 : Int32) (v1 : Int32) (v2 : Int32) (v3 : Int32) (v4 : Int32) (r : Int32) (hF : (f_law v0 v1 v2 v3 v4) = some r) :
    MetFree l x (head1 (Jvm.Cond.code x code maxLocals ret :: ws) room_1) (fun a U => a = #[(.int v0), (.int v1), (.int v2), (.int v3), (.int v4)] ∧ Z.Warmed39 U.vm ∧ U.heap = hE) (fun _ _ _ _ _ => True) (fun _ U o U' => ∃ v L, o = .returned v ∧ (Q_law Z hE n0 r) v U'.heap L ∧ FrameEnd U o U' L 6 64) := by
  refine MetFree.of_bodySF (plainFor_of_name pn_com_example_oxpecker_oxpecker_sip_RawMessageSecondValueStartPinLaw) hisR ?_
  intro p e s m args below meth c s₁ Bd hml0 hP hK
  obtain ⟨rfl, hZ, hh⟩ := hP
  have X0 : Stand p l e room_1 s m #[(.int v0), (.int v1), (.int v2), (.int v3), (.int v4)] below meth c s₁ [] 0 0 := Stand.of_body Bd
  have e0 : s₁.heap = hE := by rw [← hh, Bd.state]; rfl
  have cx : Cx_law p s m meth c Z a0 := ⟨Bd.exec, hZ, hw, Bd.bytes, hml0, findClass_of_methodNamed Bd.named, Bd.returns, Bd.notSynchronized, (name_of_methodNamed Bd.named Bd.method).1⟩
  show own_Goes p e below s (Q_law Z hE n0 r) 6 64 (s₁.setTop (entryFrame m #[(.int v0), (.int v1), (.int v2), (.int v3), (.int v4)] maxLocals))
  rw [ef_law]
  exact b_law cx X0 e0 (Fr.nil n0) (Keep.refl _ _) z v0 v1 v2 v3 v4 _ hF
/-! the words of the mirrors -/
theorem own_bs {α β : Type} (x : α) (f : α → Option β) : own_bd (some x) f = f x := by unfold own_bd; exact rfl
theorem own_ls {α β : Type} (x : α) (f : α → Option β) : own_lt x f = f x := by unfold own_lt; exact rfl
theorem own_bn {α : Type} (x : Option α) : own_bd x (fun y => some y) = x := by cases x <;> exact rfl
theorem own_ct {β : Type} {P : Prop} [Decidable P] (x : Option β) (h : P) : own_ck P x = x := by unfold own_ck; exact if_pos h
/-! numbers: ints and longs as integers -/
theorem own_i1 (x : Int32) : -2147483648 ≤ x.toInt := Int32.le_toInt x
theorem own_i2 (x : Int32) : x.toInt < 2147483648 := Int32.toInt_lt x
theorem own_j1 (x : Int64) : -9223372036854775808 ≤ x.toInt := Int64.le_toInt x
theorem own_j2 (x : Int64) : x.toInt < 9223372036854775808 := Int64.toInt_lt x
theorem own_iadd {a b : Int32} (h1 : -2147483648 ≤ a.toInt + b.toInt) (h2 : a.toInt + b.toInt < 2147483648) : (a + b).toInt = a.toInt + b.toInt := by
  rw [Int32.toInt_add]; exact Int.bmod_eq_of_le (by omega) (by omega)
theorem own_isub {a b : Int32} (h1 : -2147483648 ≤ a.toInt - b.toInt) (h2 : a.toInt - b.toInt < 2147483648) : (a - b).toInt = a.toInt - b.toInt := by
  rw [Int32.toInt_sub]; exact Int.bmod_eq_of_le (by omega) (by omega)
theorem own_imul {a b : Int32} (h1 : -2147483648 ≤ a.toInt * b.toInt) (h2 : a.toInt * b.toInt < 2147483648) : (a * b).toInt = a.toInt * b.toInt := by
  rw [Int32.toInt_mul]; exact Int.bmod_eq_of_le (by omega) (by omega)
theorem own_ladd {a b : Int64} (h1 : -9223372036854775808 ≤ a.toInt + b.toInt) (h2 : a.toInt + b.toInt < 9223372036854775808) : (a + b).toInt = a.toInt + b.toInt := by
  rw [Int64.toInt_add]; exact Int.bmod_eq_of_le (by omega) (by omega)
theorem own_lsub {a b : Int64} (h1 : -9223372036854775808 ≤ a.toInt - b.toInt) (h2 : a.toInt - b.toInt < 9223372036854775808) : (a - b).toInt = a.toInt - b.toInt := by
  rw [Int64.toInt_sub]; exact Int.bmod_eq_of_le (by omega) (by omega)
theorem own_lmul {a b : Int64} (h1 : -9223372036854775808 ≤ a.toInt * b.toInt) (h2 : a.toInt * b.toInt < 9223372036854775808) : (a * b).toInt = a.toInt * b.toInt := by
  rw [Int64.toInt_mul]; exact Int.bmod_eq_of_le (by omega) (by omega)
theorem own_imask {x m : Int32} (k : Nat) (hk : k ≤ 31) (hm : m.toBitVec.toNat = 2 ^ k - 1) : (x &&& m).toInt = x.toInt % 2 ^ k := by
  have h1 : (x &&& m).toBitVec.toNat = x.toBitVec.toNat % 2 ^ k := by rw [Int32.toBitVec_and, BitVec.toNat_and, hm, Nat.and_two_pow_sub_one_eq_mod]
  have h3 : x.toBitVec.toNat % 2 ^ k < 2 ^ k := Nat.mod_lt _ (Nat.pow_pos (by decide))
  have h4 : (2 : Nat) ^ k ≤ 2 ^ 31 := Nat.pow_le_pow_right (by decide) hk
  have h2 : (x &&& m).toInt = ((x.toBitVec.toNat % 2 ^ k : Nat) : Int) := by
    show (x &&& m).toBitVec.toInt = _
    rw [BitVec.toInt_eq_toNat_of_lt (by rw [h1]; omega), h1]
  rw [h2]
  have h5 : x.toInt = x.toBitVec.toInt := rfl
  have h6 : ((2 : Int) ^ k) ∣ 4294967296 := by
    have : (4294967296 : Int) = 2 ^ k * 2 ^ (32 - k) := by rw [← Int.pow_add, show k + (32 - k) = 32 by omega]; rfl
    exact ⟨_, this⟩
  rw [h5, BitVec.toInt_eq_toNat_cond]
  split
  · exact Int.natCast_emod _ _
  · rw [Int.natCast_emod, show (((2 ^ 32 : Nat) : Int)) = 4294967296 from rfl, Int.sub_emod, Int.emod_eq_zero_of_dvd h6]; simp
theorem own_lmask {x m : Int64} (k : Nat) (hk : k ≤ 63) (hm : m.toBitVec.toNat = 2 ^ k - 1) : (x &&& m).toInt = x.toInt % 2 ^ k := by
  have h1 : (x &&& m).toBitVec.toNat = x.toBitVec.toNat % 2 ^ k := by rw [Int64.toBitVec_and, BitVec.toNat_and, hm, Nat.and_two_pow_sub_one_eq_mod]
  have h3 : x.toBitVec.toNat % 2 ^ k < 2 ^ k := Nat.mod_lt _ (Nat.pow_pos (by decide))
  have h4 : (2 : Nat) ^ k ≤ 2 ^ 63 := Nat.pow_le_pow_right (by decide) hk
  have h2 : (x &&& m).toInt = ((x.toBitVec.toNat % 2 ^ k : Nat) : Int) := by
    show (x &&& m).toBitVec.toInt = _
    rw [BitVec.toInt_eq_toNat_of_lt (by rw [h1]; omega), h1]
  rw [h2]
  have h5 : x.toInt = x.toBitVec.toInt := rfl
  have h6 : ((2 : Int) ^ k) ∣ 18446744073709551616 := by
    have : (18446744073709551616 : Int) = 2 ^ k * 2 ^ (64 - k) := by rw [← Int.pow_add, show k + (64 - k) = 64 by omega]; rfl
    exact ⟨_, this⟩
  rw [h5, BitVec.toInt_eq_toNat_cond]
  split
  · exact Int.natCast_emod _ _
  · rw [Int.natCast_emod, show (((2 ^ 64 : Nat) : Int)) = 18446744073709551616 from rfl, Int.sub_emod, Int.emod_eq_zero_of_dvd h6]; simp
theorem own_bm32 (x : Int) : x.bmod 4294967296 = (x + 2147483648) % 4294967296 - 2147483648 := by
  unfold Int.bmod; dsimp only; split <;> omega
theorem own_bm64 (x : Int) : x.bmod 18446744073709551616 = (x + 9223372036854775808) % 18446744073709551616 - 9223372036854775808 := by
  unfold Int.bmod; dsimp only; split <;> omega
theorem own_bm8 (x : Int) : x.bmod 256 = (x + 128) % 256 - 128 := by
  unfold Int.bmod; dsimp only; split <;> omega
theorem own_bm16 (x : Int) : x.bmod 65536 = (x + 32768) % 65536 - 32768 := by
  unfold Int.bmod; dsimp only; split <;> omega
theorem own_b8 (x : Int32) : x.toInt8.toInt32.toInt = (x.toInt + 128) % 256 - 128 := by rw [Int8.toInt_toInt32, Int32.toInt_toInt8]; exact own_bm8 _
theorem own_s16 (x : Int32) : x.toInt16.toInt32.toInt = (x.toInt + 32768) % 65536 - 32768 := by rw [Int16.toInt_toInt32, Int32.toInt_toInt16]; exact own_bm16 _
theorem own_l2i (x : Int64) : x.toInt32.toInt = (x.toInt + 2147483648) % 4294967296 - 2147483648 := by rw [Int64.toInt_toInt32]; exact own_bm32 _
theorem own_i2l (x : Int32) : x.toInt64.toInt = x.toInt := Int32.toInt_toInt64 x
theorem own_idiv {a b : Int32} (h1 : 0 ≤ a.toInt) (h2 : 0 < b.toInt) : (a / b).toInt = a.toInt / b.toInt := by
  rw [Int32.toInt_div_of_ne_right a b (fun q => by rw [q] at h2; exact absurd h2 (by decide)), Int.tdiv_eq_ediv_of_nonneg h1]
theorem own_ldiv {a b : Int64} (h1 : 0 ≤ a.toInt) (h2 : 0 < b.toInt) : (a / b).toInt = a.toInt / b.toInt := by
  rw [Int64.toInt_div_of_ne_right a b (fun q => by rw [q] at h2; exact absurd h2 (by decide)), Int.tdiv_eq_ediv_of_nonneg h1]
theorem own_imod {a b : Int32} (h1 : 0 ≤ a.toInt) : (a % b).toInt = a.toInt % b.toInt := by rw [Int32.toInt_mod, Int.tmod_eq_emod_of_nonneg h1]
theorem own_lmod {a b : Int64} (h1 : 0 ≤ a.toInt) : (a % b).toInt = a.toInt % b.toInt := by rw [Int64.toInt_mod, Int.tmod_eq_emod_of_nonneg h1]
theorem own_uI (x : Int32) : (x.toUInt32.toNat : Int) = x.toInt % 4294967296 := by
  have h : x.toInt = x.toBitVec.toInt := rfl
  have q : x.toUInt32.toNat = x.toBitVec.toNat := rfl
  have b := x.toBitVec.isLt
  rw [h, q, BitVec.toInt_eq_toNat_cond]
  split <;> omega
theorem own_uJ (x : Int64) : (x.toUInt64.toNat : Int) = x.toInt % 18446744073709551616 := by
  have h : x.toInt = x.toBitVec.toInt := rfl
  have q : x.toUInt64.toNat = x.toBitVec.toNat := rfl
  have b := x.toBitVec.isLt
  rw [h, q, BitVec.toInt_eq_toNat_cond]
  split <;> omega
theorem own_ofU (u : UInt32) (h : u.toNat < 2147483648) : u.toInt32.toInt = u.toNat := by
  show u.toBitVec.toInt = _
  exact BitVec.toInt_eq_toNat_of_lt (by show 2 * u.toNat < 2 ^ 32; omega)
theorem own_ofUJ (u : UInt64) (h : u.toNat < 9223372036854775808) : u.toInt64.toInt = u.toNat := by
  show u.toBitVec.toInt = _
  exact BitVec.toInt_eq_toNat_of_lt (by show 2 * u.toNat < 2 ^ 64; omega)
/-- Java's >>> on ints by a constant from 1 to 31 -/
theorem own_iushr (x s : Int32) (n : Nat) (h0 : 1 ≤ n) (hn : n < 32) (hs : (s &&& 31).toUInt32.toNat = n) : ((x.toUInt32 >>> (s &&& 31).toUInt32).toInt32).toInt = (x.toInt % 4294967296) / (2 ^ n : Nat) := by
  have e : (x.toUInt32 >>> (s &&& 31).toUInt32).toNat = x.toUInt32.toNat / 2 ^ n := by rw [UInt32.toNat_shiftRight, hs, Nat.mod_eq_of_lt hn, Nat.shiftRight_eq_div_pow]
  have b : x.toUInt32.toNat < 4294967296 := x.toUInt32.toNat_lt
  have c : x.toUInt32.toNat / 2 ^ n ≤ x.toUInt32.toNat / 2 ^ 1 := Nat.div_le_div_left (Nat.pow_le_pow_right (by decide) h0) (by decide)
  rw [own_ofU _ (by rw [e]; omega), e, Int.natCast_ediv, own_uI]
theorem own_lushr (x : Int64) (s : Int32) (n : Nat) (h0 : 1 ≤ n) (hn : n < 64) (hs : (s &&& 0x3f).toInt64.toUInt64.toNat = n) : ((x.toUInt64 >>> (s &&& 0x3f).toInt64.toUInt64).toInt64).toInt = (x.toInt % 18446744073709551616) / (2 ^ n : Nat) := by
  have e : (x.toUInt64 >>> (s &&& 0x3f).toInt64.toUInt64).toNat = x.toUInt64.toNat / 2 ^ n := by rw [UInt64.toNat_shiftRight, hs, Nat.mod_eq_of_lt hn, Nat.shiftRight_eq_div_pow]
  have b : x.toUInt64.toNat < 18446744073709551616 := x.toUInt64.toNat_lt
  have c : x.toUInt64.toNat / 2 ^ n ≤ x.toUInt64.toNat / 2 ^ 1 := Nat.div_le_div_left (Nat.pow_le_pow_right (by decide) h0) (by decide)
  rw [own_ofUJ _ (by rw [e]; omega), e, Int.natCast_ediv, own_uJ]
theorem own_ishl {x s : Int32} (n : Nat) (hs : (s.toBitVec.smod 32).toNat = n) (h0 : 0 ≤ x.toInt) (h1 : x.toInt * (2 ^ n : Nat) < 2147483648) : (x <<< s).toInt = x.toInt * (2 ^ n : Nat) := by
  have h : x.toInt = x.toBitVec.toInt := rfl
  have hx : x.toInt = x.toBitVec.toNat := by
    have b := x.toBitVec.isLt
    rw [h, BitVec.toInt_eq_toNat_cond]; rw [h, BitVec.toInt_eq_toNat_cond] at h0
    split at h0 <;> rename_i q
    · rw [if_pos q]
    · omega
  have e : (x <<< s).toBitVec.toNat = x.toBitVec.toNat * 2 ^ n := by
    rw [Int32.toBitVec_shiftLeft, BitVec.shiftLeft_eq', hs, BitVec.toNat_shiftLeft, Nat.shiftLeft_eq]
    apply Nat.mod_eq_of_lt
    rw [hx] at h1
    omega
  show (x <<< s).toBitVec.toInt = _
  rw [BitVec.toInt_eq_toNat_of_lt (by rw [e]; rw [hx] at h1; omega), e, hx]
  simp
theorem own_lshl {x s : Int64} (n : Nat) (hs : (s.toBitVec.smod 64).toNat = n) (h0 : 0 ≤ x.toInt) (h1 : x.toInt * (2 ^ n : Nat) < 9223372036854775808) : (x <<< s).toInt = x.toInt * (2 ^ n : Nat) := by
  have h : x.toInt = x.toBitVec.toInt := rfl
  have hx : x.toInt = x.toBitVec.toNat := by
    have b := x.toBitVec.isLt
    rw [h, BitVec.toInt_eq_toNat_cond]; rw [h, BitVec.toInt_eq_toNat_cond] at h0
    split at h0 <;> rename_i q
    · rw [if_pos q]
    · omega
  have e : (x <<< s).toBitVec.toNat = x.toBitVec.toNat * 2 ^ n := by
    rw [Int64.toBitVec_shiftLeft, BitVec.shiftLeft_eq', hs, BitVec.toNat_shiftLeft, Nat.shiftLeft_eq]
    apply Nat.mod_eq_of_lt
    rw [hx] at h1
    omega
  show (x <<< s).toBitVec.toInt = _
  rw [BitVec.toInt_eq_toNat_of_lt (by rw [e]; rw [hx] at h1; omega), e, hx]
  simp
theorem own_ishr (x s : Int32) (n : Nat) (hs : (s.toBitVec.smod 32).toNat = n) : (x >>> s).toInt = x.toInt / (2 ^ n : Nat) := by
  show (x >>> s).toBitVec.toInt = _
  rw [Int32.toBitVec_shiftRight, BitVec.sshiftRight', hs, BitVec.toInt_sshiftRight, Int.shiftRight_eq_div_pow]
  rfl
theorem own_lshr (x s : Int64) (n : Nat) (hs : (s.toBitVec.smod 64).toNat = n) : (x >>> s).toInt = x.toInt / (2 ^ n : Nat) := by
  show (x >>> s).toBitVec.toInt = _
  rw [Int64.toBitVec_shiftRight, BitVec.sshiftRight', hs, BitVec.toInt_sshiftRight, Int.shiftRight_eq_div_pow]
  rfl
theorem own_natbit (x k : Nat) : x &&& 2 ^ k = 0 ↔ x / 2 ^ k % 2 = 0 := by
  constructor
  · intro h
    have q : (x &&& 2 ^ k).testBit k = false := by rw [h]; exact Nat.zero_testBit k
    rw [Nat.testBit_and, Nat.testBit_two_pow_self, Bool.and_true, Nat.testBit_eq_decide_div_mod_eq] at q
    have q := of_decide_eq_false q
    omega
  · intro h
    apply Nat.eq_of_testBit_eq
    intro i
    rw [Nat.testBit_and, Nat.zero_testBit, Nat.testBit_two_pow]
    by_cases e : k = i
    · subst e
      rw [Nat.testBit_eq_decide_div_mod_eq, h]; rfl
    · simp [e]
/-- one bit of an int -/
theorem own_ibit (x m : Int32) (k : Nat) (hm : m.toBitVec.toNat = 2 ^ k) : (x &&& m = 0) ↔ x.toInt % 4294967296 / (2 ^ k : Nat) % 2 = 0 := by
  have u : (x.toBitVec.toNat : Int) = x.toInt % 4294967296 := own_uI x
  have z : (0 : Int32).toBitVec.toNat = 0 := rfl
  rw [← u, ← Int.natCast_ediv, ← Int32.toBitVec_inj, ← BitVec.toNat_inj, Int32.toBitVec_and, BitVec.toNat_and, hm, z, own_natbit]
  omega
theorem own_k0 : (0 : Int32).toNatClampNeg = 0 := by decide
theorem own_k1 : (1 : Int32).toNatClampNeg = 1 := by decide
theorem own_k2 : (2 : Int32).toNatClampNeg = 2 := by decide
theorem own_k3 : (3 : Int32).toNatClampNeg = 3 := by decide
theorem own_k4 : (4 : Int32).toNatClampNeg = 4 := by decide
theorem own_k5 : (5 : Int32).toNatClampNeg = 5 := by decide
theorem own_k6 : (6 : Int32).toNatClampNeg = 6 := by decide
theorem own_k7 : (7 : Int32).toNatClampNeg = 7 := by decide
/-- a byte, and what a property of the 256 of them says -/
theorem own_byte {P : Int32 → Prop} (h : ∀ n : Nat, n < 256 → P (Int32.ofNat n)) (x : Int32) (h1 : 0 ≤ x.toInt) (h2 : x.toInt < 256) : P x := by
  have e : x = Int32.ofNat x.toInt.toNat := by
    apply Int32.toInt_inj.mp
    rw [Int32.toInt_ofNat_of_lt (by omega)]; omega
  rw [e]; exact h _ (by omega)
theorem own_192 (x : Int32) (h1 : 0 ≤ x.toInt) (h2 : x.toInt < 256) : (x &&& 192).toInt = x.toInt / 64 * 64 :=
  own_byte (P := fun x => (x &&& 192).toInt = x.toInt / 64 * 64) (by decide +kernel) x h1 h2
/-- the or of two numbers that share no bit -/
theorem own_ior {x y : Int32} (k : Nat) (q : Int) (hq : 0 ≤ q) (hx : x.toInt = (2 ^ k : Nat) * q) (hy : 0 ≤ y.toInt) (hy2 : y.toInt < (2 ^ k : Nat)) : (x ||| y).toInt = x.toInt + y.toInt := by
  have x0 : 0 ≤ x.toInt := by rw [hx]; exact Int.mul_nonneg (Int.natCast_nonneg _) hq
  have ux := own_uI x
  have uy := own_uI y
  have x2 := own_i2 x
  have y2 := own_i2 y
  have nx : x.toUInt32.toNat = 2 ^ k * q.toNat := by
    have : ((2 ^ k * q.toNat : Nat) : Int) = (2 ^ k : Nat) * q := by rw [Int.natCast_mul, Int.toNat_of_nonneg hq]
    omega
  have e : (x ||| y).toBitVec.toNat = x.toUInt32.toNat + y.toUInt32.toNat := by
    rw [Int32.toBitVec_or, BitVec.toNat_or]
    show x.toUInt32.toNat ||| y.toUInt32.toNat = _
    rw [nx]
    exact (Nat.two_pow_add_eq_or_of_lt (by omega) _).symm
  have lt : x.toInt + y.toInt < 2147483648 := by
    by_cases k31 : k ≤ 31
    · have d : (2 ^ 31 : Nat) = 2 ^ k * 2 ^ (31 - k) := by rw [← Nat.pow_add]; congr 1; omega
      have z1 : q.toNat < 2 ^ (31 - k) := by
        apply Nat.lt_of_mul_lt_mul_left (a := 2 ^ k)
        rw [← d, ← nx]; omega
      have z2 : 2 ^ k * (q.toNat + 1) ≤ 2 ^ k * 2 ^ (31 - k) := Nat.mul_le_mul_left _ z1
      rw [← d, Nat.mul_add, ← nx] at z2
      omega
    · have z0 : q = 0 := by
        have z1 : (2 ^ 32 : Nat) ≤ 2 ^ k := Nat.pow_le_pow_right (by decide) (by omega)
        by_cases q0 : q = 0
        · exact q0
        · have z3 : (2 ^ k : Nat) * 1 ≤ ((2 ^ k : Nat) : Int) * q := Int.mul_le_mul_of_nonneg_left (by omega) (Int.natCast_nonneg _)
          omega
      rw [hx, z0]; omega
  show (x ||| y).toBitVec.toInt = _
  rw [BitVec.toInt_eq_toNat_of_lt (by rw [e]; omega), e]
  omega
/-! arrays as lists: a place read behind a write -/
theorem own_nn {i : Int32} (h : 0 ≤ i.toInt) : (i.toNatClampNeg : Int) = i.toInt := by rw [Int32.toNatClampNeg]; omega
theorem own_ib {α : Type} {bs : List α} {i : Int32} (h1 : 0 ≤ i.toInt) (h2 : i.toInt < bs.length) : own_inb bs i := by
  refine ⟨?_, ?_⟩
  · rw [Int32.lt_iff_toInt_lt]; simp only [Int32.reduceToInt]; omega
  · have := own_nn h1; omega
theorem own_ibe {α : Type} {bs : List α} {i : Int32} (h : own_inb bs i) : 0 ≤ i.toInt ∧ i.toInt < bs.length := by
  have h1 := h.1
  rw [Int32.lt_iff_toInt_lt] at h1
  simp only [Int32.reduceToInt] at h1
  have := own_nn (i := i) (by omega)
  have := h.2
  omega
theorem own_wrl {α : Type} (bs : List α) (j : Int32) (v : α) : (own_wr bs j v).length = bs.length := by rw [own_wr, List.length_set]
theorem own_rw {α : Type} [OfNat α 0] {bs : List α} {i j : Int32} (v : α) (hi : 0 ≤ i.toInt) (hj : own_inb bs j) : own_rd (own_wr bs j v) i = if i = j then v else own_rd bs i := by
  have h := own_ibe hj
  rw [own_rd, own_rd, own_wr]
  have ni := own_nn hi
  have nj := own_nn h.1
  by_cases e : i = j
  · subst e
    rw [if_pos rfl, List.getD_eq_getElem?_getD, List.getElem?_set_self (by omega)]; rfl
  · have e' : i.toInt ≠ j.toInt := fun z => e (Int32.toInt_inj.mp z)
    rw [if_neg e, List.getD_eq_getElem?_getD, List.getElem?_set_ne (by omega), List.getD_eq_getElem?_getD]
theorem own_rw1 {α : Type} [OfNat α 0] {bs : List α} {j : Int32} (v : α) (hj : own_inb bs j) : own_rd (own_wr bs j v) j = v := by rw [own_rw v (own_ibe hj).1 hj, if_pos rfl]
theorem own_rw2 {α : Type} [OfNat α 0] {bs : List α} {i j : Int32} (v : α) (hi : 0 ≤ i.toInt) (hj : own_inb bs j) (h : i.toInt ≠ j.toInt) : own_rd (own_wr bs j v) i = own_rd bs i := by
  rw [own_rw v hi hj, if_neg fun z => h (by rw [z])]
theorem own_rrep {α : Type} [OfNat α 0] (n : Nat) (v : α) {i : Int32} (h : i.toNatClampNeg < n) : own_rd (List.replicate n v) i = v := by
  rw [own_rd, List.getD_eq_getElem?_getD, List.getElem?_replicate, if_pos h]; rfl
theorem own_n8i (x : Int32) : x.toInt8.toInt32.toInt8.toInt32 = x.toInt8.toInt32 := by
  rw [← Int32.toInt_inj, own_b8, own_b8]; omega
theorem own_iadd1 (a : Int32) (k : Int32) (h1 : -2147483648 ≤ a.toInt + k.toInt) (h2 : a.toInt + k.toInt < 2147483648) : (a + k).toInt = a.toInt + k.toInt := own_iadd h1 h2
/-! small naturals as ints -/
theorem own_sn (i : Nat) (h : i < 1000) : (Int32.ofNat i).toInt = i := Int32.toInt_ofNat_of_lt (by omega)
theorem own_sc (i : Nat) (h : i < 1000) : (Int32.ofNat i).toNatClampNeg = i := by
  have := own_sn i h
  rw [Int32.toNatClampNeg, this]; omega
theorem own_slt {i n : Nat} (hi : i < 1000) (hn : n < 1000) : (Int32.ofNat i < Int32.ofNat n) ↔ i < n := by
  rw [Int32.lt_iff_toInt_lt, own_sn i hi, own_sn n hn]; omega
theorem own_seq {i n : Nat} (hi : i < 1000) (hn : n < 1000) : (Int32.ofNat i = Int32.ofNat n) ↔ i = n := by
  rw [← Int32.toInt_inj, own_sn i hi, own_sn n hn]; omega
theorem own_inc (i : Nat) : Int32.ofNat i + 1 = Int32.ofNat (i + 1) := (Int32.ofNat_add i 1).symm
theorem own_szn {α : Type} (bs : List α) : own_sz bs = Int32.ofNat bs.length := rfl
theorem own_sin {α : Type} {bs : List α} {i : Nat} (hi : i < 1000) (h : i < bs.length) : own_inb bs (Int32.ofNat i) := by
  refine ⟨?_, by rw [own_sc i hi]; exact h⟩
  rw [Int32.lt_iff_toInt_lt, own_sn i hi]; simp only [Int32.reduceToInt]; omega
theorem own_srd (bs : List Int32) {i : Nat} (hi : i < 1000) : own_rd bs (Int32.ofNat i) = bs.getD i 0 := by rw [own_rd, own_sc i hi]
theorem own_swr (bs : List Int32) {i : Nat} (hi : i < 1000) (v : Int32) : own_wr bs (Int32.ofNat i) v = bs.set i v := by rw [own_wr, own_sc i hi]
/-! indexOf -/
theorem own_idx (c : Int32) (bs : List Int32) (p q : Int32) (hb : bs.length < 900) : ∀ (d i fuel : Nat), i + d = bs.length → d < fuel →
    (f_RawMessage_indexOf_2 fuel c (Int32.ofNat i) p q bs = some (-1) ∧ ∀ j, i ≤ j → j < bs.length → bs.getD j 0 ≠ c) ∨
    (∃ k, i ≤ k ∧ k < bs.length ∧ f_RawMessage_indexOf_2 fuel c (Int32.ofNat i) p q bs = some (Int32.ofNat k) ∧ bs.getD k 0 = c ∧ ∀ j, i ≤ j → j < k → bs.getD j 0 ≠ c) := by
  intro d
  induction d with
  | zero =>
    intro i fuel h1 h2
    obtain ⟨f, rfl⟩ : ∃ f, fuel = f + 1 := ⟨fuel - 1, by omega⟩
    left
    rw [f_RawMessage_indexOf_2, own_szn, if_neg (by rw [own_slt (by omega) (by omega)]; omega)]
    exact ⟨rfl, fun j q1 q2 => by omega⟩
  | succ d ih =>
    intro i fuel h1 h2
    obtain ⟨f, rfl⟩ : ∃ f, fuel = f + 1 := ⟨fuel - 1, by omega⟩
    rw [f_RawMessage_indexOf_2, own_szn, if_pos (by rw [own_slt (by omega) (by omega)]; omega), own_ct _ (own_sin (by omega) (by omega)), own_srd _ (by omega), own_ls, own_inc]
    by_cases e : bs.getD i 0 = c
    · right
      rw [if_pos e]
      exact ⟨i, by omega, by omega, rfl, e, fun j q1 q2 => by omega⟩
    · rw [if_neg e]
      rcases ih (i + 1) f (by omega) (by omega) with ⟨a, b⟩ | ⟨k, k1, k2, a, b, g⟩
      · left
        refine ⟨a, fun j q1 q2 => ?_⟩
        by_cases z : j = i
        · rw [z]; exact e
        · exact b j (by omega) q2
      · right
        refine ⟨k, by omega, k2, a, b, fun j q1 q2 => ?_⟩
        by_cases z : j = i
        · rw [z]; exact e
        · exact g j (by omega) q2
theorem own_idx0 (c : Int32) (bs : List Int32) (p q : Int32) (i : Nat) (hb : bs.length < 90) (hi : i ≤ bs.length) :
    (f_RawMessage_indexOf c (Int32.ofNat i) p q bs = some (-1) ∧ ∀ j, i ≤ j → j < bs.length → bs.getD j 0 ≠ c) ∨
    (∃ k, i ≤ k ∧ k < bs.length ∧ f_RawMessage_indexOf c (Int32.ofNat i) p q bs = some (Int32.ofNat k) ∧ bs.getD k 0 = c ∧ ∀ j, i ≤ j → j < k → bs.getD j 0 ≠ c) :=
  own_idx c bs p q (by omega) (bs.length - i) i 100 (by omega) (by omega)
theorem own_ix2 (c : Int32) (bs x y z : List Int32) (p q : Int32) : ∀ (n : Nat) (i : Int32), f_RawMessage_indexOf_i2_2 n c i p q bs x y z = f_RawMessage_indexOf_2 n c i p q bs := by
  intro n
  induction n with
  | zero => intro i; rfl
  | succ n ih => intro i; rw [f_RawMessage_indexOf_i2_2, f_RawMessage_indexOf_2]; simp only [ih]
theorem own_ix20 (c i : Int32) (bs x y z : List Int32) (p q : Int32) : f_RawMessage_indexOf_i2 c i p q bs x y z = f_RawMessage_indexOf c i p q bs := by
  unfold f_RawMessage_indexOf_i2 f_RawMessage_indexOf
  exact own_ix2 c bs x y z p q 100 i
/-! the constructor's inner loop: the line's first word -/
theorem own_word (k34 : Int32 → Int32 → Int32 → Int32 → Int32 → List Int32 → List Int32 → List Int32 → List Int32 → Option (Int32 × Int32 × List Int32 × List Int32 × List Int32))
    (cnt body line u v : Int32) (e : Nat) (bs b1 b2 b3 : List Int32) (he : e ≤ bs.length) (hb : bs.length < 90) : ∀ (d w fuel : Nat), w + d = e → d < fuel →
    ∃ w', w ≤ w' ∧ w' ≤ e ∧ f_RawMessage_mk_148 k34 fuel cnt body line (Int32.ofNat e) (Int32.ofNat w) u v bs b1 b2 b3 = f_RawMessage_mk_188 k34 cnt body line (Int32.ofNat e) (Int32.ofNat w') u v bs b1 b2 b3 := by
  intro d
  induction d with
  | zero =>
    intro w fuel h1 h2
    obtain ⟨f, rfl⟩ : ∃ f, fuel = f + 1 := ⟨fuel - 1, by omega⟩
    refine ⟨w, Nat.le_refl _, by omega, ?_⟩
    rw [f_RawMessage_mk_148, if_neg (by rw [own_slt (by omega) (by omega)]; omega)]
  | succ d ih =>
    intro w fuel h1 h2
    obtain ⟨f, rfl⟩ : ∃ f, fuel = f + 1 := ⟨fuel - 1, by omega⟩
    have ib : own_inb bs (Int32.ofNat w) := own_sin (by omega) (by omega)
    rw [f_RawMessage_mk_148, if_pos (by rw [own_slt (by omega) (by omega)]; omega), own_ct _ ib, own_ct _ ib, own_ct _ ib, own_ls, own_inc]
    obtain ⟨w', q1, q2, q3⟩ := ih (w + 1) f (by omega) (by omega)
    split
    · exact ⟨w, Nat.le_refl _, by omega, rfl⟩
    · split
      · exact ⟨w, Nat.le_refl _, by omega, rfl⟩
      · split
        · exact ⟨w, Nat.le_refl _, by omega, rfl⟩
        · exact ⟨w', by omega, q2, q3⟩
/-! the constructor comes to its end -/
theorem own_szl (bs : List Int32) (n : Nat) (h : bs.length = n) : own_sz bs = Int32.ofNat n := by rw [own_szn, h]
theorem own_make (bs : List Int32) (hb : bs.length < 14) (u v : Int32) : ∀ (fuel cnt line : Nat) (body : Int32) (b1 b2 b3 : List Int32), cnt ≤ line → line ≤ bs.length + 1 → bs.length + 2 ≤ fuel + line → b1.length = 16 → b2.length = 16 → b3.length = 16 →
    ∃ r, f_RawMessage_mk_34 fuel (Int32.ofNat cnt) body (Int32.ofNat line) u v bs b1 b2 b3 = some r := by
  intro fuel
  induction fuel with
  | zero => intro cnt line body b1 b2 b3 h1 h2 h3; omega
  | succ f ih =>
    intro cnt line body b1 b2 b3 h1 h2 h3 l1 l2 l3
    rw [f_RawMessage_mk_34, own_szn]
    by_cases c : line < bs.length
    · rw [if_pos (by rw [own_slt (by omega) (by omega)]; exact c)]
      -- a line from 'line' to e that isn't the empty one
      have go : ∀ (le : Int32) (e : Nat), line ≤ e → e ≤ bs.length → ∃ r, f_RawMessage_mk_63 (f_RawMessage_mk_34 f) (Int32.ofNat cnt) body (Int32.ofNat line) le (Int32.ofNat e) u v bs b1 b2 b3 = some r := by
        intro le e q1 q2
        have fin : ∀ x : Int32, ∃ r, f_RawMessage_mk_222 (Int32.ofNat cnt) x u v bs b1 b2 b3 = some r := fun x => ⟨_, by unfold f_RawMessage_mk_222; exact rfl⟩
        have more : ∃ r, f_RawMessage_mk_108 (f_RawMessage_mk_34 f) (Int32.ofNat cnt) body (Int32.ofNat line) (Int32.ofNat e) u v bs b1 b2 b3 = some r := by
          unfold f_RawMessage_mk_108
          rw [own_szl b1 16 l1, if_neg (by rw [own_seq (by omega) (by omega)]; omega)]
          obtain ⟨w', g1, g2, g3⟩ := own_word (f_RawMessage_mk_34 f) (Int32.ofNat cnt) body (Int32.ofNat line) u v e bs b1 b2 b3 q2 (by omega) (e - line) line 100 (by omega) (by omega)
          rw [g3]
          unfold f_RawMessage_mk_188
          rw [own_ct _ (own_sin (by omega) (by omega)), own_ls, own_ct _ (own_sin (by omega) (by omega)), own_ls, own_ls, own_ct _ (own_sin (by omega) (by omega)), own_ls, own_ls, own_ls, own_inc, own_inc]
          exact ih (cnt + 1) (e + 1) body _ _ _ (by omega) (by omega) (by omega) (by rw [own_wrl, l1]) (by rw [own_wrl, l2]) (by rw [own_wrl, l3])
        unfold f_RawMessage_mk_63
        rw [own_ct _ (own_sin (by omega) c)]
        simp only [own_ls]
        repeat' split
        all_goals first | exact fin _ | exact more
      rcases own_idx0 10 bs u v line (by omega) (by omega) with ⟨a, -⟩ | ⟨k, k1, k2, a, -, -⟩
      · rw [a, own_bs, if_pos (by decide)]
        exact go _ _ (by omega) (by omega)
      · rw [a, own_bs, if_neg (by rw [Int32.lt_iff_toInt_lt, own_sn k (by omega)]; simp only [Int32.reduceToInt]; omega)]
        exact go _ _ k1 (by omega)
    · rw [if_neg (by rw [own_slt (by omega) (by omega)]; exact c)]
      exact ⟨_, by unfold f_RawMessage_mk_222; exact rfl⟩
theorem own_made (bs : List Int32) (hb : bs.length < 14) : ∃ r, f_RawMessage_mk 0 0 bs = some r := by
  unfold f_RawMessage_mk
  exact own_make bs hb 0 0 100 0 0 (-1) _ _ _ (by omega) (by omega) (by omega) rfl rfl rfl
/-! skipBlanks -/
def own_bl (x : Int32) : Prop := x = 32 ∨ x = 9
theorem own_skip (bs x y z : List Int32) (p q : Int32) (hb : bs.length < 90) : ∀ (d i fuel : Nat), i + d = bs.length → d < fuel →
    ∃ k, i ≤ k ∧ k ≤ bs.length ∧ f_RawMessage_skipBlanks_2 fuel (Int32.ofNat i) p q bs x y z = some (Int32.ofNat k) ∧ (∀ j, i ≤ j → j < k → own_bl (bs.getD j 0)) ∧ (k < bs.length → ¬ own_bl (bs.getD k 0)) := by
  intro d
  induction d with
  | zero =>
    intro i fuel h1 h2
    obtain ⟨f, rfl⟩ : ∃ f, fuel = f + 1 := ⟨fuel - 1, by omega⟩
    refine ⟨i, Nat.le_refl _, by omega, ?_, fun j q1 q2 => by omega, fun q1 => by omega⟩
    rw [f_RawMessage_skipBlanks_2, own_szn, if_neg (by rw [own_slt (by omega) (by omega)]; omega)]
  | succ d ih =>
    intro i fuel h1 h2
    obtain ⟨f, rfl⟩ : ∃ f, fuel = f + 1 := ⟨fuel - 1, by omega⟩
    have ib : own_inb bs (Int32.ofNat i) := own_sin (by omega) (by omega)
    rw [f_RawMessage_skipBlanks_2, own_szn, if_pos (by rw [own_slt (by omega) (by omega)]; omega), own_ct _ ib, own_ct _ ib, own_srd _ (by omega), own_ls, own_inc]
    obtain ⟨k, k1, k2, k3, k4, k5⟩ := ih (i + 1) f (by omega) (by omega)
    have pass : own_bl (bs.getD i 0) → (∀ j, i ≤ j → j < k → own_bl (bs.getD j 0)) := fun e j q1 q2 => by
      by_cases z : j = i
      · rw [z]; exact e
      · exact k4 j (by omega) q2
    by_cases e1 : bs.getD i 0 = 32
    · rw [if_pos e1]; exact ⟨k, by omega, k2, k3, pass (Or.inl e1), k5⟩
    · rw [if_neg e1]
      by_cases e2 : bs.getD i 0 = 9
      · rw [if_pos e2]; exact ⟨k, by omega, k2, k3, pass (Or.inr e2), k5⟩
      · rw [if_neg e2]; exact ⟨i, Nat.le_refl _, by omega, rfl, fun j q1 q2 => by omega, fun _ q => q.elim e1 e2⟩
/-! the law's own words, on six bytes -/
theorem own_sz6 (bs : List Int32) (h6 : bs.length = 6) : own_sz bs = Int32.ofNat 6 := by rw [own_szn, h6]
theorem own_isC (bs : List Int32) (h6 : bs.length = 6) (i : Nat) (hi : i < 6) : f_RawMessageSecondValueStartPinLaw_isC (Int32.ofNat i) bs = some (if bs.getD i 0 = 44 then 1 else 0) := by
  unfold f_RawMessageSecondValueStartPinLaw_isC
  rw [if_neg (by rw [Int32.lt_iff_toInt_lt, own_sn i (by omega)]; simp only [Int32.reduceToInt]; omega), own_sz6 bs h6, if_pos (by rw [own_slt (by omega) (by omega)]; exact hi), own_ct _ (own_sin (by omega) (by omega)), own_srd _ (by omega)]
  split <;> rfl
theorem own_isBl (bs : List Int32) (h6 : bs.length = 6) (i : Nat) (hi : i < 6) : ∃ k, f_RawMessageSecondValueStartPinLaw_isBl (Int32.ofNat i) bs = some k ∧ (own_bl (bs.getD i 0) → ¬ k = 0) ∧ (¬ own_bl (bs.getD i 0) → k = 0) := by
  have ib : own_inb bs (Int32.ofNat i) := own_sin (by omega) (by omega)
  unfold f_RawMessageSecondValueStartPinLaw_isBl
  rw [if_neg (by rw [Int32.lt_iff_toInt_lt, own_sn i (by omega)]; simp only [Int32.reduceToInt]; omega), own_sz6 bs h6, if_pos (by rw [own_slt (by omega) (by omega)]; exact hi), own_ct _ ib, own_ct _ ib, own_srd _ (by omega)]
  by_cases e1 : bs.getD i 0 = 32
  · rw [if_pos e1]; exact ⟨_, rfl, fun _ => by decide, fun q => absurd (Or.inl e1) q⟩
  · rw [if_neg e1]
    by_cases e2 : bs.getD i 0 = 9
    · rw [if_pos e2]; exact ⟨_, rfl, fun _ => by decide, fun q => absurd (Or.inr e2) q⟩
    · rw [if_neg e2]; exact ⟨_, rfl, fun q => absurd q (fun z => z.elim e1 e2), fun _ => rfl⟩
theorem own_free (bs : List Int32) (h6 : bs.length = 6) (i : Nat) (hi : i < 6) (lo hi' : Int32) : ∃ k, f_RawMessageSecondValueStartPinLaw_free (Int32.ofNat i) lo hi' bs = some k ∧ ((lo.toInt ≤ i → (i : Int) < hi'.toInt → bs.getD i 0 ≠ 44) → ¬ k = 0) := by
  unfold f_RawMessageSecondValueStartPinLaw_free
  simp only [Int32.lt_iff_toInt_lt, own_sn i (show i < 1000 by omega), own_isC bs h6 i hi, own_bs]
  split
  · exact ⟨_, rfl, fun _ => by decide⟩
  · split
    · by_cases e : bs.getD i 0 = 44
      · rw [if_pos e, if_neg (by decide)]
        exact ⟨_, rfl, fun q => absurd e (q (by omega) (by omega))⟩
      · rw [if_neg e, if_pos rfl]
        exact ⟨_, rfl, fun _ => by decide⟩
    · exact ⟨_, rfl, fun _ => by decide⟩
theorem own_blank (bs : List Int32) (h6 : bs.length = 6) (i : Nat) (hi : i < 6) (lo hi' : Int32) : ∃ k, f_RawMessageSecondValueStartPinLaw_blankOrOut (Int32.ofNat i) lo hi' bs = some k ∧ ((lo.toInt ≤ i → (i : Int) < hi'.toInt → own_bl (bs.getD i 0)) → ¬ k = 0) := by
  obtain ⟨k, hk, g1, g2⟩ := own_isBl bs h6 i hi
  unfold f_RawMessageSecondValueStartPinLaw_blankOrOut
  simp only [Int32.lt_iff_toInt_lt, own_sn i (show i < 1000 by omega), hk, own_bs]
  split
  · exact ⟨_, rfl, fun _ => by decide⟩
  · split
    · by_cases e : k = 0
      · rw [if_pos e]
        exact ⟨_, rfl, fun q => absurd e (g1 (q (by omega) (by omega)))⟩
      · rw [if_neg e]
        exact ⟨_, rfl, fun _ => by decide⟩
    · exact ⟨_, rfl, fun _ => by decide⟩
theorem own_noComma (bs : List Int32) (h6 : bs.length = 6) (lo hi : Int32) : ∃ k, f_RawMessageSecondValueStartPinLaw_noComma lo hi bs = some k ∧ ((∀ i : Nat, i < 6 → lo.toInt ≤ i → (i : Int) < hi.toInt → bs.getD i 0 ≠ 44) → k = 1) := by
  obtain ⟨k0, a0, g0⟩ := own_free bs h6 0 (by omega) lo hi
  obtain ⟨k1, a1, g1⟩ := own_free bs h6 1 (by omega) lo hi
  obtain ⟨k2, a2, g2⟩ := own_free bs h6 2 (by omega) lo hi
  obtain ⟨k3, a3, g3⟩ := own_free bs h6 3 (by omega) lo hi
  obtain ⟨k4, a4, g4⟩ := own_free bs h6 4 (by omega) lo hi
  obtain ⟨k5, a5, g5⟩ := own_free bs h6 5 (by omega) lo hi
  unfold f_RawMessageSecondValueStartPinLaw_noComma
  rw [show f_RawMessageSecondValueStartPinLaw_free 0 lo hi bs = some k0 from a0, own_bs, show f_RawMessageSecondValueStartPinLaw_free 1 lo hi bs = some k1 from a1, own_bs, show f_RawMessageSecondValueStartPinLaw_free 2 lo hi bs = some k2 from a2, own_bs, show f_RawMessageSecondValueStartPinLaw_free 3 lo hi bs = some k3 from a3, own_bs, show f_RawMessageSecondValueStartPinLaw_free 4 lo hi bs = some k4 from a4, own_bs, show f_RawMessageSecondValueStartPinLaw_free 5 lo hi bs = some k5 from a5, own_bs]
  by_cases all : ∀ i : Nat, i < 6 → lo.toInt ≤ i → (i : Int) < hi.toInt → bs.getD i 0 ≠ 44
  · refine ⟨1, ?_, fun _ => rfl⟩
    rw [if_neg (g0 (all 0 (by omega))), if_neg (g1 (all 1 (by omega))), if_neg (g2 (all 2 (by omega))), if_neg (g3 (all 3 (by omega))), if_neg (g4 (all 4 (by omega))), if_neg (g5 (all 5 (by omega)))]
  · repeat' split
    all_goals exact ⟨_, rfl, fun q => absurd q all⟩
theorem own_allBlank (bs : List Int32) (h6 : bs.length = 6) (lo hi : Int32) : ∃ k, f_RawMessageSecondValueStartPinLaw_allBlank lo hi bs = some k ∧ ((∀ i : Nat, i < 6 → lo.toInt ≤ i → (i : Int) < hi.toInt → own_bl (bs.getD i 0)) → k = 1) := by
  obtain ⟨k0, a0, g0⟩ := own_blank bs h6 0 (by omega) lo hi
  obtain ⟨k1, a1, g1⟩ := own_blank bs h6 1 (by omega) lo hi
  obtain ⟨k2, a2, g2⟩ := own_blank bs h6 2 (by omega) lo hi
  obtain ⟨k3, a3, g3⟩ := own_blank bs h6 3 (by omega) lo hi
  obtain ⟨k4, a4, g4⟩ := own_blank bs h6 4 (by omega) lo hi
  obtain ⟨k5, a5, g5⟩ := own_blank bs h6 5 (by omega) lo hi
  unfold f_RawMessageSecondValueStartPinLaw_allBlank
  rw [show f_RawMessageSecondValueStartPinLaw_blankOrOut 0 lo hi bs = some k0 from a0, own_bs, show f_RawMessageSecondValueStartPinLaw_blankOrOut 1 lo hi bs = some k1 from a1, own_bs, show f_RawMessageSecondValueStartPinLaw_blankOrOut 2 lo hi bs = some k2 from a2, own_bs, show f_RawMessageSecondValueStartPinLaw_blankOrOut 3 lo hi bs = some k3 from a3, own_bs, show f_RawMessageSecondValueStartPinLaw_blankOrOut 4 lo hi bs = some k4 from a4, own_bs, show f_RawMessageSecondValueStartPinLaw_blankOrOut 5 lo hi bs = some k5 from a5, own_bs]
  by_cases all : ∀ i : Nat, i < 6 → lo.toInt ≤ i → (i : Int) < hi.toInt → own_bl (bs.getD i 0)
  · refine ⟨1, ?_, fun _ => rfl⟩
    rw [if_neg (g0 (all 0 (by omega))), if_neg (g1 (all 1 (by omega))), if_neg (g2 (all 2 (by omega))), if_neg (g3 (all 3 (by omega))), if_neg (g4 (all 4 (by omega))), if_neg (g5 (all 5 (by omega)))]
  · repeat' split
    all_goals exact ⟨_, rfl, fun q => absurd q all⟩
theorem own_commaAt (bs : List Int32) (h6 : bs.length = 6) (p : Nat) (hp : p < 6) (vs ve : Int32) (r : Nat) (hr : r ≤ 6) : ∃ k, f_RawMessageSecondValueStartPinLaw_commaAt (Int32.ofNat p) vs ve (Int32.ofNat r) bs = some k ∧
    (bs.getD p 0 = 44 → vs.toInt ≤ p → (p : Int) < ve.toInt → (∀ i : Nat, i < 6 → vs.toInt ≤ i → i < p → bs.getD i 0 ≠ 44) → p < r → (∀ i : Nat, p < i → i < r → own_bl (bs.getD i 0)) → (r < 6 → ¬ own_bl (bs.getD r 0)) → k = 1) := by
  obtain ⟨k1, a1, g1⟩ := own_noComma bs h6 vs (Int32.ofNat p)
  obtain ⟨k2, a2, g2⟩ := own_allBlank bs h6 (Int32.ofNat (p + 1)) (Int32.ofNat r)
  unfold f_RawMessageSecondValueStartPinLaw_commaAt
  rw [own_isC bs h6 p hp, own_bs]
  by_cases e : bs.getD p 0 = 44
  · rw [if_pos e, if_neg (by decide)]
    simp only [Int32.lt_iff_toInt_lt, own_sn p (show p < 1000 by omega)]
    split
    · exact ⟨_, rfl, fun _ q => by omega⟩
    · split
      · rw [a1, own_bs]
        by_cases c1 : k1 = 0
        · rw [if_pos c1]
          refine ⟨_, rfl, fun _ _ _ q => ?_⟩
          have := g1 (fun i z1 z2 z3 => q i z1 z2 (by rw [own_sn p (by omega)] at z3; omega))
          rw [this] at c1; exact absurd c1 (by decide)
        · rw [if_neg c1, own_ls, own_inc, a2, own_sn r (by omega)]
          split
          · rw [own_bs]
            by_cases c2 : k2 = 0
            · rw [if_pos c2]
              refine ⟨_, rfl, fun _ _ _ _ _ q => ?_⟩
              have := g2 (fun i z1 z2 z3 => q i (by rw [own_sn (p + 1) (by omega)] at z2; omega) (by rw [own_sn r (by omega)] at z3; omega))
              rw [this] at c2; exact absurd c2 (by decide)
            · rw [if_neg c2, own_sz6 bs h6]
              by_cases c3 : r = 6
              · rw [if_pos (by rw [c3])]; exact ⟨_, rfl, fun _ _ _ _ _ _ _ => rfl⟩
              · rw [if_neg (by rw [own_seq (by omega) (by omega)]; exact c3), own_sn 6 (by omega), if_pos (by omega)]
                obtain ⟨k3, a3, g3, g4⟩ := own_isBl bs h6 r (by omega)
                rw [a3, own_bs]
                by_cases c4 : k3 = 0
                · rw [if_pos c4]; exact ⟨_, rfl, fun _ _ _ _ _ _ _ => rfl⟩
                · rw [if_neg c4]; exact ⟨_, rfl, fun _ _ _ _ _ _ q => absurd (g4 (q (by omega))) c4⟩
          · exact ⟨_, rfl, fun _ _ _ _ q => by omega⟩
      · exact ⟨_, rfl, fun _ _ q => by omega⟩
  · rw [if_neg e, if_pos rfl]; exact ⟨_, rfl, fun q => absurd q e⟩
theorem own_kind (k : Int32) : ∃ r, f_RawMessageSecondValueStartPinLaw_kind k = some r := by
  unfold f_RawMessageSecondValueStartPinLaw_kind
  rw [own_ls]
  repeat' split
  all_goals exact ⟨_, rfl⟩
theorem own_law (code vsr ve st nx : Int32) : f_law code vsr ve st nx = some 1 := by
  obtain ⟨b0, h0⟩ := own_kind code
  obtain ⟨b1, h1⟩ := own_kind ((code.toUInt32 >>> ((3 : Int32) &&& 31).toUInt32).toInt32)
  obtain ⟨b2, h2⟩ := own_kind ((code.toUInt32 >>> ((6 : Int32) &&& 31).toUInt32).toInt32)
  obtain ⟨b3, h3⟩ := own_kind ((code.toUInt32 >>> ((9 : Int32) &&& 31).toUInt32).toInt32)
  obtain ⟨b4, h4⟩ := own_kind ((code.toUInt32 >>> ((12 : Int32) &&& 31).toUInt32).toInt32)
  obtain ⟨b5, h5⟩ := own_kind ((code.toUInt32 >>> ((15 : Int32) &&& 31).toUInt32).toInt32)
  unfold f_law
  rw [h0, own_bs, own_ls, h1, own_bs, own_ls, h2, own_bs, own_ls, h3, own_bs, own_ls, h4, own_bs, own_ls, h5, own_bs, own_ls]
  generalize hL : ([b0.toInt8.toInt32, b1.toInt8.toInt32, b2.toInt8.toInt32, b3.toInt8.toInt32, b4.toInt8.toInt32, b5.toInt8.toInt32] : List Int32) = L
  have h6 : L.length = 6 := by rw [← hL]; rfl
  have mv : (vsr &&& (2147483647 : Int32)).toInt = vsr.toInt % 2 ^ 31 := own_imask 31 (by decide) (by decide)
  have ev : ((vsr &&& (2147483647 : Int32)) % (8 : Int32)).toInt = vsr.toInt % 2 ^ 31 % 8 := by rw [own_imod (by omega), mv]; rfl
  obtain ⟨V, hV, hV8⟩ : ∃ V : Nat, (vsr &&& (2147483647 : Int32)) % (8 : Int32) = Int32.ofNat V ∧ V < 8 := by
    refine ⟨(vsr.toInt % 2 ^ 31 % 8).toNat, ?_, by omega⟩
    rw [← Int32.toInt_inj, ev, own_sn _ (by omega)]; omega
  rw [hV]
  obtain ⟨r, hr⟩ := own_made L (by omega)
  rw [hr, own_bs]
  unfold f_Header_mk f_Record_mk
  rw [own_bs, own_bs]
  dsimp only
  unfold f_RawMessage_secondValueStart f_Header_valueStart f_Header_valueEnd
  rw [own_bs, own_ix20]
  have vn : (Int32.ofNat V).toInt = V := own_sn V (by omega)
  have neg : (∀ i : Nat, i < 6 → V ≤ i → (i : Int) < ve.toInt → L.getD i 0 ≠ 44) → (own_bd (f_RawMessageSecondValueStartPinLaw_noComma (Int32.ofNat V) ve L) fun r386 => some (r386 &&& 1)) = some 1 := fun q => by
    obtain ⟨k, a, g⟩ := own_noComma L h6 (Int32.ofNat V) ve
    rw [a, own_bs, g (fun i z1 z2 z3 => q i z1 (by omega) z3)]; rfl
  have idx : (f_RawMessage_indexOf 44 (Int32.ofNat V) r.1 r.2.1 L = some (-1) ∧ ∀ j, V ≤ j → j < L.length → L.getD j 0 ≠ 44) ∨ (∃ k, V ≤ k ∧ k < L.length ∧ f_RawMessage_indexOf 44 (Int32.ofNat V) r.1 r.2.1 L = some (Int32.ofNat k) ∧ L.getD k 0 = 44 ∧ ∀ j, V ≤ j → j < k → L.getD j 0 ≠ 44) := by
    by_cases c : V ≤ L.length
    · exact own_idx0 44 L _ _ V (by omega) c
    · left
      refine ⟨?_, fun j q1 q2 => by omega⟩
      unfold f_RawMessage_indexOf
      rw [show (100 : Nat) = 99 + 1 from rfl, f_RawMessage_indexOf_2, own_szn, if_neg (by rw [own_slt (by omega) (by omega)]; omega)]
  rcases idx with ⟨a, g⟩ | ⟨k, k1, k2, a, g1, g2⟩
  · rw [a, own_bs, if_pos (by decide), own_bs, if_pos rfl]
    exact neg (fun i z1 z2 _ => g i z2 (by omega))
  · rw [a, own_bs, if_neg (by rw [Int32.lt_iff_toInt_lt, own_sn k (by omega)]; simp only [Int32.reduceToInt]; omega), own_bs]
    by_cases c : Int32.ofNat k < ve
    · have c' := c
      rw [Int32.lt_iff_toInt_lt, own_sn k (by omega)] at c'
      rw [if_pos c, own_ls, own_inc]
      unfold f_RawMessage_skipBlanks
      obtain ⟨e, e1, e2, e3, e4, e5⟩ := own_skip L r.2.2.1 r.2.2.2.1 r.2.2.2.2 r.1 r.2.1 (by omega) (L.length - (k + 1)) (k + 1) 100 (by omega) (by omega)
      rw [e3, own_bs, own_bs, if_neg (by rw [← Int32.toInt_inj, own_sn e (by omega)]; simp only [Int32.reduceToInt]; omega)]
      obtain ⟨q0, w0, x0⟩ := own_commaAt L h6 0 (by omega) (Int32.ofNat V) ve e (by omega)
      obtain ⟨q1, w1, x1⟩ := own_commaAt L h6 1 (by omega) (Int32.ofNat V) ve e (by omega)
      obtain ⟨q2, w2, x2⟩ := own_commaAt L h6 2 (by omega) (Int32.ofNat V) ve e (by omega)
      obtain ⟨q3, w3, x3⟩ := own_commaAt L h6 3 (by omega) (Int32.ofNat V) ve e (by omega)
      obtain ⟨q4, w4, x4⟩ := own_commaAt L h6 4 (by omega) (Int32.ofNat V) ve e (by omega)
      obtain ⟨q5, w5, x5⟩ := own_commaAt L h6 5 (by omega) (Int32.ofNat V) ve e (by omega)
      obtain ⟨qk, wk, xk⟩ := own_commaAt L h6 k (by omega) (Int32.ofNat V) ve e (by omega)
      have one := xk g1 (by omega) c' (fun i z1 z2 z3 => g2 i (by omega) z3) (by omega) (fun i z1 z2 => e4 i (by omega) z2) (fun z => e5 (by omega))
      rw [show f_RawMessageSecondValueStartPinLaw_commaAt 0 (Int32.ofNat V) ve (Int32.ofNat e) L = some q0 from w0, own_bs, show f_RawMessageSecondValueStartPinLaw_commaAt 1 (Int32.ofNat V) ve (Int32.ofNat e) L = some q1 from w1, own_bs, show f_RawMessageSecondValueStartPinLaw_commaAt 2 (Int32.ofNat V) ve (Int32.ofNat e) L = some q2 from w2, own_bs, show f_RawMessageSecondValueStartPinLaw_commaAt 3 (Int32.ofNat V) ve (Int32.ofNat e) L = some q3 from w3, own_bs, show f_RawMessageSecondValueStartPinLaw_commaAt 4 (Int32.ofNat V) ve (Int32.ofNat e) L = some q4 from w4, own_bs, show f_RawMessageSecondValueStartPinLaw_commaAt 5 (Int32.ofNat V) ve (Int32.ofNat e) L = some q5 from w5, own_bs]
      have kk : k = 0 ∨ k = 1 ∨ k = 2 ∨ k = 3 ∨ k = 4 ∨ k = 5 := by omega
      have z1 : ¬ (1 : Int32) = 0 := by decide
      have ex : ∀ q : Int32, q = qk → ¬ q = 0 := fun q z => by rw [z, one]; exact z1
      have qq : q0 = qk ∨ q1 = qk ∨ q2 = qk ∨ q3 = qk ∨ q4 = qk ∨ q5 = qk := by
        rcases kk with rfl | rfl | rfl | rfl | rfl | rfl
        · exact Or.inl (Option.some.inj (w0.symm.trans wk))
        · exact Or.inr (Or.inl (Option.some.inj (w1.symm.trans wk)))
        · exact Or.inr (Or.inr (Or.inl (Option.some.inj (w2.symm.trans wk))))
        · exact Or.inr (Or.inr (Or.inr (Or.inl (Option.some.inj (w3.symm.trans wk)))))
        · exact Or.inr (Or.inr (Or.inr (Or.inr (Or.inl (Option.some.inj (w4.symm.trans wk))))))
        · exact Or.inr (Or.inr (Or.inr (Or.inr (Or.inr (Option.some.inj (w5.symm.trans wk))))))
      by_cases y0 : q0 = 0
      · rw [if_pos y0]
        by_cases y1 : q1 = 0
        · rw [if_pos y1]
          by_cases y2 : q2 = 0
          · rw [if_pos y2]
            by_cases y3 : q3 = 0
            · rw [if_pos y3]
              by_cases y4 : q4 = 0
              · rw [if_pos y4, if_neg]
                rcases qq with z | z | z | z | z | z
                · exact absurd y0 (ex _ z)
                · exact absurd y1 (ex _ z)
                · exact absurd y2 (ex _ z)
                · exact absurd y3 (ex _ z)
                · exact absurd y4 (ex _ z)
                · exact ex _ z
              · rw [if_neg y4]
            · rw [if_neg y3]
          · rw [if_neg y2]
        · rw [if_neg y1]
      · rw [if_neg y0]
    · rw [if_neg c, own_bs, if_pos rfl]
      rw [Int32.lt_iff_toInt_lt, own_sn k (by omega)] at c
      exact neg (fun i z1 z2 z3 => g2 i z2 (by omega))


set_option maxRecDepth 65536 in
set_option maxHeartbeats 4000000 in
theorem comes_1 {Post : Tables → Env → Array Value → State → Outcome → State → Prop} (hpost : ∀ tb e args s v u, (limb_1_1.after args s (.returned v) u = true ∧ limb_1_2.after args s (.returned v) u = true ∧ True) → FrameEnd s (.returned v) u (Jvm.fieldLocs frame_1_writes args s ++ Jvm.arrayLocs frame_1_arrays args s ++ Jvm.staticLocs frame_1_statics s) 24 192 → Post tb e args s (.returned v) u) :
    ArmFor flags0 classFile x code maxLocals ret World_1 tables_1 room_1 Calls_1 rest_1 Pre_1 Post := by
  intro l hfl _ _ p e ha hc hk s m args below hf hA hF happ hP
  obtain ⟨hcalls, hrest, hpre⟩ := hP
  obtain ⟨-, -, -, hnamed, -, -, -, hat⟩ := (Spec.applies_iff hf).mp happ
  obtain ⟨hg, hn⟩ := and_e (Cond.before_iff.mp (show (Jvm.Cond.and given_1 narrow_1).before args s = true from hpre))
  obtain ⟨gc, g0⟩ := and_e hg
  obtain ⟨ga0, g1⟩ := and_e g0
  obtain ⟨ga1, g2⟩ := and_e g1
  obtain ⟨ga2, g3⟩ := and_e g2
  obtain ⟨ga3, g4⟩ := and_e g3
  have ga4 := g4
  obtain ⟨w0, w1, w2, w3, w4, rfl⟩ : ∃ w0 w1 w2 w3 w4 : Value, args = #[w0, w1, w2, w3, w4] := by
    have hs : args.size = 5 := by simpa [Cond.value, given_1] using gc
    obtain ⟨L⟩ := args
    match L, hs with
    | [w0, w1, w2, w3, w4], _ => exact ⟨w0, w1, w2, w3, w4, rfl⟩
  have hw := fun d (hd : d ∈ tables_1) => atoms_spec (ws := Jvm.Cond.code x code maxLocals ret :: tables_1) hat d (List.mem_cons_of_mem _ hd)
  obtain ⟨i0, ei0⟩ := is_v ga0
  obtain rfl : w0 = (.int i0) := Option.some.inj ei0
  obtain ⟨i1, ei1⟩ := is_v ga1
  obtain rfl : w1 = (.int i1) := Option.some.inj ei1
  obtain ⟨i2, ei2⟩ := is_v ga2
  obtain rfl : w2 = (.int i2) := Option.some.inj ei2
  obtain ⟨i3, ei3⟩ := is_v ga3
  obtain rfl : w3 = (.int i3) := Option.some.inj ei3
  obtain ⟨i4, ei4⟩ := is_v ga4
  obtain rfl : w4 = (.int i4) := Option.some.inj ei4
  obtain ⟨n, o, h1, h2, h3, _, L, rfl, hQ, hq⟩ := rm_law l s _ hw tables_1 s.heap s.heap.size (Nat.le_refl _) i0 i1 i2 i3 i4 1 (own_law i0 i1 i2 i3 i4) p e ha hc hk s m _ below hf ((Spec.applies_iff_loose hf).mp happ).1 ⟨rfl, State.Warmed39.refl s, rfl⟩ trivial
  obtain ⟨rfl, N, -⟩ := hQ
  refine ⟨n, _, h1, h2, h3, hpost _ _ _ _ _ _ ⟨Cond.after_iff.mpr rfl, Cond.after_iff.mpr (eq_i res_at (Term.int_eval (1)) rfl), trivial⟩ ⟨hq.1, hq.2.1, (hq.2.2.sift fun y hy => Or.inr (N y hy)).mono (by decide) (by decide)⟩⟩
theorem main_1_1 : Claimed_1_1 := comes_1 fun _ _ _ _ _ _ h hF => ⟨h.1, hF⟩
theorem main_1_2 : Claimed_1_2 := comes_1 fun _ _ _ _ _ _ h hF => ⟨h.2.1, hF⟩
end Jvm.Pilot.@@N@@
namespace Jvm.Pilot.@@N@@
open Jvm Jvm.ClassFile Sem Op Lib Jvm.Free Jvm.Stand Jvm.Pilot.@@N@@.Jvm.D
/-! MADE BY PROGRAM (witnessworld.py) out of the Statement's table words and the real class files: 11 classes; the members and pool entries that the words name. The judged class is class 1, her method 9. -/
namespace start1
open Jvm.ClassFile
def u (s : String) : CpInfo := .utf8 (stringToUtf16 s)
/-- a pool by its gaps: so many unusable entries, then the entry; so many at the end -/
def gap : Nat → List CpInfo → List CpInfo
  | 0, r => r
  | n + 1, r => .unusable :: gap n r
def poolList (es : List (Nat × CpInfo)) (last : Nat) : List CpInfo := es.foldr (fun e r => gap e.1 (e.2 :: r)) (gap last [])
def pool (es : List (Nat × CpInfo)) (last : Nat) : Array CpInfo := ⟨poolList es last⟩
def fileOf (pool : Array CpInfo) (this : Nat) (attrs : Array Attribute := #[]) (ms : Array MethodInfo := #[]) (fl : Nat := 33) (sup : Nat := 0) (ifs : Array Nat := #[]) (fds : Array FieldInfo := #[]) : ClassFile where
  minorVersion := 0
  majorVersion := 65
  constantPool := pool
  accessFlags := fl
  thisClass := this
  superClass := sup
  interfaces := ifs
  fields := fds
  methods := ms
  attributes := attrs
def plain (name : String) (sup : Option ClassId) : Class where
  name := name
  kind := .ordinary
  loader := none
  accessFlags := 33
  super := sup
  interfaces := #[]
  cf := none
  fields := #[]
  methods := #[]
  instanceTypes := #[]
  staticTypes := #[]
  resolved := #[]
  callSites := []
  init := .initialized
  statics := none
  mirror := none

def pool0 : Array CpInfo := pool [(5, u "<init>"), (0, u "()V"), (1, .class_ 10), (1, u "java/lang/Object")] 113

def k0c0 : Code := { maxStack := 0, maxLocals := 1, code := object_method_1_code, exceptionTable := #[], attributes := #[] }
def k0m0 : Method := { name := "<init>", desc := "()V", sig := { parameters := [], returnType := none }, accessFlags := 1, code := some k0c0 }
/-- java/lang/Object -/
def k0 : Class := { plain "java/lang/Object" none with
  accessFlags := 33
  interfaces := #[]
  cf := some (fileOf pool0 8 #[] #[{ accessFlags := 1, nameIndex := 5, descriptorIndex := 6, attributes := #[] }] 33 0 #[] #[])
  fields := #[]
  methods := #[k0m0]
  instanceTypes := #[]
  staticTypes := #[]
  resolved := Array.replicate 124 none
  statics := none }

def pool1 : Array CpInfo := pool [(2, .class_ 4), (1, u "java/lang/Object"), (0, u "<init>"), (0, u "()V"), (0, .methodref 8 9), (0, .class_ 10), (0, .nameAndType 11 12), (0, u "com/example/oxpecker/oxpecker/sip/RawMessageSecondValueStartPinLaw"), (0, u "isC"), (0, u "([BI)Z"), (0, .methodref 8 14), (0, .nameAndType 15 16), (0, u "free"), (0, u "([BIII)Z"), (0, .methodref 8 18), (0, .nameAndType 19 12), (0, u "isBl"), (0, .methodref 8 21), (0, .nameAndType 22 16), (0, u "blankOrOut"), (0, .methodref 8 24), (0, .nameAndType 25 26), (0, u "noComma"), (0, u "([BII)Z"), (0, .methodref 8 28), (0, .nameAndType 29 26), (0, u "allBlank"), (0, .methodref 8 31), (0, .nameAndType 32 33), (0, u "kind"), (0, u "(I)B"), (0, .integer 2147483647), (0, .class_ 36), (0, u "com/example/oxpecker/oxpecker/sip/RawMessage"), (0, .methodref 35 38), (0, .nameAndType 5 39), (0, u "([B)V"), (0, .class_ 41), (0, u "com/example/oxpecker/oxpecker/sip/RawMessage$Header"), (0, .methodref 40 43), (0, .nameAndType 5 44), (0, u "(IIII)V"), (0, .methodref 35 46), (0, .nameAndType 47 48), (0, u "secondValueStart"), (0, u "(Lcom/example/oxpecker/oxpecker/sip/RawMessage$Header;)I"), (0, .methodref 8 50), (0, .nameAndType 51 52), (0, u "commaAt"), (0, u "([BIIII)Z"), (3, u "law"), (0, u "(IIIII)Z")] 6

def k1m0 : Method := { name := "<init>", desc := "()V", sig := { parameters := [], returnType := none }, accessFlags := 1, code := none }
def k1c1 : Code := { maxStack := 2, maxLocals := 2, code := method_2_code, exceptionTable := #[], attributes := #[] }
def k1m1 : Method := { name := "kind", desc := "(I)B", sig := { parameters := [.int], returnType := some .byte }, accessFlags := 10, code := some k1c1 }
def k1c2 : Code := { maxStack := 2, maxLocals := 2, code := method_3_code, exceptionTable := #[], attributes := #[] }
def k1m2 : Method := { name := "isC", desc := "([BI)Z", sig := { parameters := [(.array .byte), .int], returnType := some .boolean }, accessFlags := 10, code := some k1c2 }
def k1c3 : Code := { maxStack := 2, maxLocals := 2, code := method_4_code, exceptionTable := #[], attributes := #[] }
def k1m3 : Method := { name := "isBl", desc := "([BI)Z", sig := { parameters := [(.array .byte), .int], returnType := some .boolean }, accessFlags := 10, code := some k1c3 }
def k1c4 : Code := { maxStack := 2, maxLocals := 4, code := method_5_code, exceptionTable := #[], attributes := #[] }
def k1m4 : Method := { name := "free", desc := "([BIII)Z", sig := { parameters := [(.array .byte), .int, .int, .int], returnType := some .boolean }, accessFlags := 10, code := some k1c4 }
def k1c5 : Code := { maxStack := 4, maxLocals := 3, code := method_6_code, exceptionTable := #[], attributes := #[] }
def k1m5 : Method := { name := "noComma", desc := "([BII)Z", sig := { parameters := [(.array .byte), .int, .int], returnType := some .boolean }, accessFlags := 10, code := some k1c5 }
def k1c6 : Code := { maxStack := 2, maxLocals := 4, code := method_7_code, exceptionTable := #[], attributes := #[] }
def k1m6 : Method := { name := "blankOrOut", desc := "([BIII)Z", sig := { parameters := [(.array .byte), .int, .int, .int], returnType := some .boolean }, accessFlags := 10, code := some k1c6 }
def k1c7 : Code := { maxStack := 4, maxLocals := 3, code := method_8_code, exceptionTable := #[], attributes := #[] }
def k1m7 : Method := { name := "allBlank", desc := "([BII)Z", sig := { parameters := [(.array .byte), .int, .int], returnType := some .boolean }, accessFlags := 10, code := some k1c7 }
def k1c8 : Code := { maxStack := 3, maxLocals := 5, code := method_9_code, exceptionTable := #[], attributes := #[] }
def k1m8 : Method := { name := "commaAt", desc := "([BIIII)Z", sig := { parameters := [(.array .byte), .int, .int, .int, .int], returnType := some .boolean }, accessFlags := 10, code := some k1c8 }
def k1c9 : Code := { maxStack := 7, maxLocals := 9, code := code, exceptionTable := #[], attributes := #[] }
def k1m9 : Method := { name := "law", desc := "(IIIII)Z", sig := { parameters := [.int, .int, .int, .int, .int], returnType := some .boolean }, accessFlags := 9, code := some k1c9 }
/-- com/example/oxpecker/oxpecker/sip/RawMessageSecondValueStartPinLaw -/
def k1 : Class := { plain "com/example/oxpecker/oxpecker/sip/RawMessageSecondValueStartPinLaw" (some 0) with
  accessFlags := 49
  interfaces := #[]
  cf := some (fileOf pool1 8 #[] #[{ accessFlags := 1, nameIndex := 5, descriptorIndex := 6, attributes := #[] }, { accessFlags := 10, nameIndex := 32, descriptorIndex := 33, attributes := #[] }, { accessFlags := 10, nameIndex := 11, descriptorIndex := 12, attributes := #[] }, { accessFlags := 10, nameIndex := 19, descriptorIndex := 12, attributes := #[] }, { accessFlags := 10, nameIndex := 15, descriptorIndex := 16, attributes := #[] }, { accessFlags := 10, nameIndex := 25, descriptorIndex := 26, attributes := #[] }, { accessFlags := 10, nameIndex := 22, descriptorIndex := 16, attributes := #[] }, { accessFlags := 10, nameIndex := 29, descriptorIndex := 26, attributes := #[] }, { accessFlags := 10, nameIndex := 51, descriptorIndex := 52, attributes := #[] }, { accessFlags := 9, nameIndex := 56, descriptorIndex := 57, attributes := #[] }] 49 2 #[] #[])
  fields := #[]
  methods := #[k1m0, k1m1, k1m2, k1m3, k1m4, k1m5, k1m6, k1m7, k1m8, k1m9]
  instanceTypes := #[]
  staticTypes := #[]
  resolved := Array.replicate 64 none
  statics := none }

def pool2 : Array CpInfo := pool [(1, .methodref 2 3), (0, .class_ 4), (0, .nameAndType 5 6), (0, u "java/lang/Object"), (0, u "<init>"), (0, u "()V"), (0, .fieldref 8 9), (0, .class_ 10), (0, .nameAndType 11 12), (0, u "com/example/oxpecker/oxpecker/sip/RawMessage"), (0, u "bytes"), (0, u "[B"), (0, .methodref 8 14), (0, .nameAndType 15 16), (0, u "indexOf"), (0, u "(BI)I"), (6, .fieldref 8 24), (0, .nameAndType 25 26), (0, u "lineStarts"), (0, u "[I"), (0, .fieldref 8 28), (0, .nameAndType 29 26), (0, u "lineEnds"), (0, .fieldref 8 31), (0, .nameAndType 32 26), (0, u "wordLengths"), (0, .fieldref 8 34), (0, .nameAndType 35 36), (0, u "lines"), (0, u "I"), (0, .fieldref 8 38), (0, .nameAndType 39 36), (0, u "bodyStart"), (24, u "()I"), (8, .class_ 74), (0, u "com/example/oxpecker/oxpecker/sip/RawMessage$Header"), (9, .methodref 73 85), (0, .nameAndType 86 64), (0, u "valueStart"), (0, .methodref 73 88), (0, .nameAndType 89 64), (0, u "valueEnd"), (0, .methodref 8 91), (0, .nameAndType 92 93), (0, u "skipBlanks"), (0, u "(I)I"), (19, u "([B)V"), (13, u "secondValueStart"), (0, u "(Lcom/example/oxpecker/oxpecker/sip/RawMessage$Header;)I")] 8

def k2c0 : Code := { maxStack := 4, maxLocals := 11, code := prog_12_method_1_code, exceptionTable := #[], attributes := #[] }
def k2m0 : Method := { name := "<init>", desc := "([B)V", sig := { parameters := [(.array .byte)], returnType := none }, accessFlags := 0, code := some k2c0 }
def k2c1 : Code := { maxStack := 3, maxLocals := 3, code := prog_12_method_9_code, exceptionTable := #[], attributes := #[] }
def k2m1 : Method := { name := "secondValueStart", desc := "(Lcom/example/oxpecker/oxpecker/sip/RawMessage$Header;)I", sig := { parameters := [(.object "com/example/oxpecker/oxpecker/sip/RawMessage$Header")], returnType := some .int }, accessFlags := 0, code := some k2c1 }
def k2c2 : Code := { maxStack := 2, maxLocals := 3, code := prog_12_method_14_code, exceptionTable := #[], attributes := #[] }
def k2m2 : Method := { name := "skipBlanks", desc := "(I)I", sig := { parameters := [.int], returnType := some .int }, accessFlags := 2, code := some k2c2 }
def k2c3 : Code := { maxStack := 2, maxLocals := 4, code := prog_12_method_17_code, exceptionTable := #[], attributes := #[] }
def k2m3 : Method := { name := "indexOf", desc := "(BI)I", sig := { parameters := [.byte, .int], returnType := some .int }, accessFlags := 2, code := some k2c3 }
/-- com/example/oxpecker/oxpecker/sip/RawMessage -/
def k2 : Class := { plain "com/example/oxpecker/oxpecker/sip/RawMessage" (some 0) with
  accessFlags := 48
  interfaces := #[]
  cf := some (fileOf pool2 8 #[.nestMembers #[73]] #[{ accessFlags := 0, nameIndex := 5, descriptorIndex := 113, attributes := #[] }, { accessFlags := 0, nameIndex := 127, descriptorIndex := 128, attributes := #[] }, { accessFlags := 2, nameIndex := 92, descriptorIndex := 93, attributes := #[] }, { accessFlags := 2, nameIndex := 15, descriptorIndex := 16, attributes := #[] }] 48 2 #[] #[{ accessFlags := 18, nameIndex := 11, descriptorIndex := 12, attributes := #[] }, { accessFlags := 18, nameIndex := 25, descriptorIndex := 26, attributes := #[] }, { accessFlags := 18, nameIndex := 29, descriptorIndex := 26, attributes := #[] }, { accessFlags := 18, nameIndex := 32, descriptorIndex := 26, attributes := #[] }, { accessFlags := 18, nameIndex := 35, descriptorIndex := 36, attributes := #[] }, { accessFlags := 18, nameIndex := 39, descriptorIndex := 36, attributes := #[] }])
  fields := #[{ name := "bytes", type := (.array .byte), accessFlags := 18, slot := 0, constantValue := 0 }, { name := "lineStarts", type := (.array .int), accessFlags := 18, slot := 1, constantValue := 0 }, { name := "lineEnds", type := (.array .int), accessFlags := 18, slot := 2, constantValue := 0 }, { name := "wordLengths", type := (.array .int), accessFlags := 18, slot := 3, constantValue := 0 }, { name := "lines", type := .int, accessFlags := 18, slot := 4, constantValue := 0 }, { name := "bodyStart", type := .int, accessFlags := 18, slot := 5, constantValue := 0 }]
  methods := #[k2m0, k2m1, k2m2, k2m3]
  instanceTypes := #[(.array .byte), (.array .int), (.array .int), (.array .int), .int, .int]
  staticTypes := #[]
  resolved := Array.replicate 137 none
  statics := none }

def pool3 : Array CpInfo := pool [(1, .methodref 2 3), (0, .class_ 4), (0, .nameAndType 5 6), (0, u "java/lang/Object"), (0, u "<init>"), (0, u "()V"), (0, .class_ 8), (0, u "java/lang/Record")] 13

def k3c0 : Code := { maxStack := 1, maxLocals := 1, code := jdk_30_method_1_code, exceptionTable := #[], attributes := #[] }
def k3m0 : Method := { name := "<init>", desc := "()V", sig := { parameters := [], returnType := none }, accessFlags := 4, code := some k3c0 }
/-- java/lang/Record -/
def k3 : Class := { plain "java/lang/Record" (some 0) with
  accessFlags := 1057
  interfaces := #[]
  cf := some (fileOf pool3 7 #[] #[{ accessFlags := 4, nameIndex := 5, descriptorIndex := 6, attributes := #[] }] 1057 2 #[] #[])
  fields := #[]
  methods := #[k3m0]
  instanceTypes := #[]
  staticTypes := #[]
  resolved := Array.replicate 22 none
  statics := none }

def pool4 : Array CpInfo := pool [(1, .methodref 2 3), (0, .class_ 4), (0, .nameAndType 5 6), (0, u "java/lang/Record"), (0, u "<init>"), (0, u "()V"), (0, .fieldref 8 9), (0, .class_ 10), (0, .nameAndType 11 12), (0, u "com/example/oxpecker/oxpecker/sip/RawMessage$Header"), (0, u "start"), (0, u "I"), (0, .fieldref 8 14), (0, .nameAndType 15 12), (0, u "valueStart"), (0, .fieldref 8 17), (0, .nameAndType 18 12), (0, u "valueEnd"), (0, .fieldref 8 20), (0, .nameAndType 21 12), (0, u "next"), (12, u "(IIII)V"), (4, u "()I"), (4, .class_ 45), (0, u "com/example/oxpecker/oxpecker/sip/RawMessage")] 22

def k4c0 : Code := { maxStack := 2, maxLocals := 5, code := prog_13_method_1_code, exceptionTable := #[], attributes := #[] }
def k4m0 : Method := { name := "<init>", desc := "(IIII)V", sig := { parameters := [.int, .int, .int, .int], returnType := none }, accessFlags := 0, code := some k4c0 }
def k4c1 : Code := { maxStack := 1, maxLocals := 1, code := prog_13_method_6_code, exceptionTable := #[], attributes := #[] }
def k4m1 : Method := { name := "valueStart", desc := "()I", sig := { parameters := [], returnType := some .int }, accessFlags := 1, code := some k4c1 }
def k4c2 : Code := { maxStack := 1, maxLocals := 1, code := prog_13_method_7_code, exceptionTable := #[], attributes := #[] }
def k4m2 : Method := { name := "valueEnd", desc := "()I", sig := { parameters := [], returnType := some .int }, accessFlags := 1, code := some k4c2 }
/-- com/example/oxpecker/oxpecker/sip/RawMessage$Header -/
def k4 : Class := { plain "com/example/oxpecker/oxpecker/sip/RawMessage$Header" (some 3) with
  accessFlags := 48
  interfaces := #[]
  cf := some (fileOf pool4 8 #[.nestHost 44] #[{ accessFlags := 0, nameIndex := 5, descriptorIndex := 34, attributes := #[] }, { accessFlags := 1, nameIndex := 15, descriptorIndex := 39, attributes := #[] }, { accessFlags := 1, nameIndex := 18, descriptorIndex := 39, attributes := #[] }] 48 2 #[] #[{ accessFlags := 18, nameIndex := 11, descriptorIndex := 12, attributes := #[] }, { accessFlags := 18, nameIndex := 15, descriptorIndex := 12, attributes := #[] }, { accessFlags := 18, nameIndex := 18, descriptorIndex := 12, attributes := #[] }, { accessFlags := 18, nameIndex := 21, descriptorIndex := 12, attributes := #[] }])
  fields := #[{ name := "start", type := .int, accessFlags := 18, slot := 0, constantValue := 0 }, { name := "valueStart", type := .int, accessFlags := 18, slot := 1, constantValue := 0 }, { name := "valueEnd", type := .int, accessFlags := 18, slot := 2, constantValue := 0 }, { name := "next", type := .int, accessFlags := 18, slot := 3, constantValue := 0 }]
  methods := #[k4m0, k4m1, k4m2]
  instanceTypes := #[.int, .int, .int, .int]
  staticTypes := #[]
  resolved := Array.replicate 68 none
  statics := none }

def pool5 : Array CpInfo := pool [(1, u "java/lang/Cloneable"), (0, .class_ 1), (0, u "java/lang/Object"), (0, .class_ 3)] 3

/-- java/lang/Cloneable -/
def k5 : Class := { plain "java/lang/Cloneable" (some 0) with
  accessFlags := 1537
  interfaces := #[]
  cf := some (fileOf pool5 2 #[] #[] 1537 4 #[] #[])
  fields := #[]
  methods := #[]
  instanceTypes := #[]
  staticTypes := #[]
  resolved := Array.replicate 8 none
  statics := none }

def pool6 : Array CpInfo := pool [(1, u "java/io/Serializable"), (0, .class_ 1), (0, u "java/lang/Object"), (0, .class_ 3)] 3

/-- java/io/Serializable -/
def k6 : Class := { plain "java/io/Serializable" (some 0) with
  accessFlags := 1537
  interfaces := #[]
  cf := some (fileOf pool6 2 #[] #[] 1537 4 #[] #[])
  fields := #[]
  methods := #[]
  instanceTypes := #[]
  staticTypes := #[]
  resolved := Array.replicate 8 none
  statics := none }

/-- the primitive byte -/
def k7 : Class := { plain "byte" none with kind := .primitive 'B', accessFlags := 0x411 }
/-- [B -/
def k8 : Class := { plain "[B" (some 0) with kind := .array 7 .byte, interfaces := #[5, 6], accessFlags := 1041 }

/-- the primitive int -/
def k9 : Class := { plain "int" none with kind := .primitive 'I', accessFlags := 0x411 }
/-- [I -/
def k10 : Class := { plain "[I" (some 0) with kind := .array 9 .int, interfaces := #[5, 6], accessFlags := 1041 }

def heap : Heap := #[]
def classes : Array Class := #[k0, k1, k2, k3, k4, k5, k6, k7, k8, k9, k10]
def interned : List (Array UInt16 × Addr) := []
def slotsUsed : Nat := 0
def theMethod : MethodId := ⟨1, 9⟩
def args0 : Array Value := #[.int 5, .int 5, .int 5, .int 5, .int 5]
def aboutOver (below : List Frame) : State where
  vm := { classes := classes, interned := interned.toArray }
  heap := heap
  slotsUsed := slotsUsed
  threads := #[{ frames := .invoking theMethod args0 :: below }]
def below0 : List Frame := [.native { method := ⟨0, 0⟩, args := #[] }]
def about1 : State := aboutOver below0
def p0 : Program := .bare "" "" ""
def e0 : Env := launch0.env 0 0 0
theorem w_frames : about1.frames = Frame.invoking theMethod args0 :: below0 := rfl
set_option maxRecDepth 65536 in
theorem w_args : argsFit about1.vm theMethod args0 = true := by decide +kernel
set_option maxRecDepth 65536 in
theorem w_heap : heapFits about1 = true := by decide +kernel
set_option maxRecDepth 65536 in
theorem w_runnable : about1.curStatus? = some .runnable := by decide +kernel
set_option maxRecDepth 65536 in
theorem w_alone : about1.alone = true := by decide +kernel
set_option maxRecDepth 65536 in
theorem w_named : about1.methodNamed? x = some theMethod := by decide +kernel
set_option maxRecDepth 65536 in
theorem w_hears : about1.hears theMethod below0 = true := by decide +kernel
set_option maxRecDepth 65536 in
theorem w_ripe : about1.ripe theMethod args0 below0 = true := by decide +kernel
theorem w_running : about1.status = .running := rfl
set_option maxRecDepth 65536 in
theorem w_room : about1.hasRoom e0.platform room_1 = true :=
  launch0.hasRoom_least _ room_1 (by decide +kernel) (by decide +kernel) (by decide +kernel) (by decide +kernel) (by decide +kernel) (by decide +kernel)
theorem allAtoms_all (ts : List Jvm.Cond) (a : Array Jvm.Value) (st : Jvm.State) : (allAtoms ts).before a st = ts.all (fun c => c.before a st) := by
  induction ts with
  | nil => rfl
  | cons c t ih =>
    show (Jvm.Cond.and c (allAtoms t)).before a st = _
    rw [Jvm.Cond.before_and, ih, List.all_cons]
def words1 : List Jvm.Cond := Jvm.Cond.code x code maxLocals ret :: tables_1
/-- a 'code' word, met by the world's own term for the bytes: nothing is compared byte by byte -/
theorem code_word {y : MethodName} {bytes : ByteArray} {mx : Nat} {rt : Option FieldType} {a : Array Value} {s : State} {m : MethodId} {meth : Method} {c : Code} (h1 : s.methodNamed? y = some m) (h2 : s.vm.method? m = some meth) (h3 : meth.code = some c) (h4 : c.code = bytes)
    (h5 : (c.maxLocals == mx && c.exceptionTable.isEmpty && decide (c.maxStack ≤ mostOperands) && decide (meth.sig.returnType = rt) && !meth.locks && decide (parseMethodDescriptor y.desc = some meth.sig)) = true) : (Jvm.Cond.code y bytes mx rt).before a s = true := by
  simp only [Bool.and_eq_true, beq_iff_eq, Bool.not_eq_true', decide_eq_true_eq] at h5
  obtain ⟨⟨⟨⟨⟨g1, g2⟩, g3⟩, g4⟩, g5⟩, g6⟩ := h5
  simp [Cond.before, Cond.holds, Cond.value, h1, h2, h3, h4, g1, g2, g3, g4, g5, g6]
def isCode : Jvm.Cond → Bool
  | .code _ _ _ _ => true
  | _ => false
theorem all_split {L : List Jvm.Cond} {P : Jvm.Cond → Bool} (h1 : L.all (fun c => isCode c || P c) = true) (h2 : ∀ c ∈ L.filter isCode, P c = true) : L.all P = true := by
  refine List.all_eq_true.mpr fun c hc => ?_
  have h := List.all_eq_true.mp h1 c hc
  rcases Bool.eq_false_or_eq_true (isCode c) with hi | hi
  · exact h2 c (List.mem_filter.mpr ⟨hc, hi⟩)
  · simpa [hi] using h
set_option maxRecDepth 65536 in
theorem w_c0 : (Jvm.Cond.code x code maxLocals ret).before args0 about1 = true := code_word (m := ⟨1, 9⟩) (meth := k1m9) (c := k1c9) (by decide +kernel) rfl rfl rfl (by decide +kernel)
set_option maxRecDepth 65536 in
theorem w_c1 : (Jvm.Cond.code ({ cls := "com/example/oxpecker/oxpecker/sip/RawMessageSecondValueStartPinLaw", name := "kind", desc := "(I)B" } : Jvm.MethodName) method_2_code (2 : Nat) (Option.some Jvm.ClassFile.FieldType.byte)).before args0 about1 = true := code_word (m := ⟨1, 1⟩) (meth := k1m1) (c := k1c1) (by decide +kernel) rfl rfl rfl (by decide +kernel)
set_option maxRecDepth 65536 in
theorem w_c2 : (Jvm.Cond.code ({ cls := "com/example/oxpecker/oxpecker/sip/RawMessage", name := "<init>", desc := "([B)V" } : Jvm.MethodName) prog_12_method_1_code (11 : Nat) (Option.none : Option Jvm.ClassFile.FieldType)).before args0 about1 = true := code_word (m := ⟨2, 0⟩) (meth := k2m0) (c := k2c0) (by decide +kernel) rfl rfl rfl (by decide +kernel)
set_option maxRecDepth 65536 in
theorem w_c3 : (Jvm.Cond.code ({ cls := "java/lang/Object", name := "<init>", desc := "()V" } : Jvm.MethodName) object_method_1_code (1 : Nat) (Option.none : Option Jvm.ClassFile.FieldType)).before args0 about1 = true := code_word (m := ⟨0, 0⟩) (meth := k0m0) (c := k0c0) (by decide +kernel) rfl rfl rfl (by decide +kernel)
set_option maxRecDepth 65536 in
theorem w_c4 : (Jvm.Cond.code ({ cls := "com/example/oxpecker/oxpecker/sip/RawMessage", name := "indexOf", desc := "(BI)I" } : Jvm.MethodName) prog_12_method_17_code (4 : Nat) (Option.some Jvm.ClassFile.FieldType.int)).before args0 about1 = true := code_word (m := ⟨2, 3⟩) (meth := k2m3) (c := k2c3) (by decide +kernel) rfl rfl rfl (by decide +kernel)
set_option maxRecDepth 65536 in
theorem w_c5 : (Jvm.Cond.code ({ cls := "com/example/oxpecker/oxpecker/sip/RawMessage$Header", name := "<init>", desc := "(IIII)V" } : Jvm.MethodName) prog_13_method_1_code (5 : Nat) (Option.none : Option Jvm.ClassFile.FieldType)).before args0 about1 = true := code_word (m := ⟨4, 0⟩) (meth := k4m0) (c := k4c0) (by decide +kernel) rfl rfl rfl (by decide +kernel)
set_option maxRecDepth 65536 in
theorem w_c6 : (Jvm.Cond.code ({ cls := "java/lang/Record", name := "<init>", desc := "()V" } : Jvm.MethodName) jdk_30_method_1_code (1 : Nat) (Option.none : Option Jvm.ClassFile.FieldType)).before args0 about1 = true := code_word (m := ⟨3, 0⟩) (meth := k3m0) (c := k3c0) (by decide +kernel) rfl rfl rfl (by decide +kernel)
set_option maxRecDepth 65536 in
theorem w_c7 : (Jvm.Cond.code ({ cls := "com/example/oxpecker/oxpecker/sip/RawMessage", name := "secondValueStart", desc := "(Lcom/example/oxpecker/oxpecker/sip/RawMessage$Header;)I" } : Jvm.MethodName) prog_12_method_9_code (3 : Nat) (Option.some Jvm.ClassFile.FieldType.int)).before args0 about1 = true := code_word (m := ⟨2, 1⟩) (meth := k2m1) (c := k2c1) (by decide +kernel) rfl rfl rfl (by decide +kernel)
set_option maxRecDepth 65536 in
theorem w_c8 : (Jvm.Cond.code ({ cls := "com/example/oxpecker/oxpecker/sip/RawMessage$Header", name := "valueStart", desc := "()I" } : Jvm.MethodName) prog_13_method_6_code (1 : Nat) (Option.some Jvm.ClassFile.FieldType.int)).before args0 about1 = true := code_word (m := ⟨4, 1⟩) (meth := k4m1) (c := k4c1) (by decide +kernel) rfl rfl rfl (by decide +kernel)
set_option maxRecDepth 65536 in
theorem w_c9 : (Jvm.Cond.code ({ cls := "com/example/oxpecker/oxpecker/sip/RawMessage$Header", name := "valueEnd", desc := "()I" } : Jvm.MethodName) prog_13_method_7_code (1 : Nat) (Option.some Jvm.ClassFile.FieldType.int)).before args0 about1 = true := code_word (m := ⟨4, 2⟩) (meth := k4m2) (c := k4c2) (by decide +kernel) rfl rfl rfl (by decide +kernel)
set_option maxRecDepth 65536 in
theorem w_c10 : (Jvm.Cond.code ({ cls := "com/example/oxpecker/oxpecker/sip/RawMessageSecondValueStartPinLaw", name := "noComma", desc := "([BII)Z" } : Jvm.MethodName) method_6_code (3 : Nat) (Option.some Jvm.ClassFile.FieldType.boolean)).before args0 about1 = true := code_word (m := ⟨1, 5⟩) (meth := k1m5) (c := k1c5) (by decide +kernel) rfl rfl rfl (by decide +kernel)
set_option maxRecDepth 65536 in
theorem w_c11 : (Jvm.Cond.code ({ cls := "com/example/oxpecker/oxpecker/sip/RawMessageSecondValueStartPinLaw", name := "free", desc := "([BIII)Z" } : Jvm.MethodName) method_5_code (4 : Nat) (Option.some Jvm.ClassFile.FieldType.boolean)).before args0 about1 = true := code_word (m := ⟨1, 4⟩) (meth := k1m4) (c := k1c4) (by decide +kernel) rfl rfl rfl (by decide +kernel)
set_option maxRecDepth 65536 in
theorem w_c12 : (Jvm.Cond.code ({ cls := "com/example/oxpecker/oxpecker/sip/RawMessage", name := "skipBlanks", desc := "(I)I" } : Jvm.MethodName) prog_12_method_14_code (3 : Nat) (Option.some Jvm.ClassFile.FieldType.int)).before args0 about1 = true := code_word (m := ⟨2, 2⟩) (meth := k2m2) (c := k2c2) (by decide +kernel) rfl rfl rfl (by decide +kernel)
set_option maxRecDepth 65536 in
theorem w_c13 : (Jvm.Cond.code ({ cls := "com/example/oxpecker/oxpecker/sip/RawMessageSecondValueStartPinLaw", name := "commaAt", desc := "([BIIII)Z" } : Jvm.MethodName) method_9_code (5 : Nat) (Option.some Jvm.ClassFile.FieldType.boolean)).before args0 about1 = true := code_word (m := ⟨1, 8⟩) (meth := k1m8) (c := k1c8) (by decide +kernel) rfl rfl rfl (by decide +kernel)
set_option maxRecDepth 65536 in
theorem w_c14 : (Jvm.Cond.code ({ cls := "com/example/oxpecker/oxpecker/sip/RawMessageSecondValueStartPinLaw", name := "isC", desc := "([BI)Z" } : Jvm.MethodName) method_3_code (2 : Nat) (Option.some Jvm.ClassFile.FieldType.boolean)).before args0 about1 = true := code_word (m := ⟨1, 2⟩) (meth := k1m2) (c := k1c2) (by decide +kernel) rfl rfl rfl (by decide +kernel)
set_option maxRecDepth 65536 in
theorem w_c15 : (Jvm.Cond.code ({ cls := "com/example/oxpecker/oxpecker/sip/RawMessageSecondValueStartPinLaw", name := "allBlank", desc := "([BII)Z" } : Jvm.MethodName) method_8_code (3 : Nat) (Option.some Jvm.ClassFile.FieldType.boolean)).before args0 about1 = true := code_word (m := ⟨1, 7⟩) (meth := k1m7) (c := k1c7) (by decide +kernel) rfl rfl rfl (by decide +kernel)
set_option maxRecDepth 65536 in
theorem w_c16 : (Jvm.Cond.code ({ cls := "com/example/oxpecker/oxpecker/sip/RawMessageSecondValueStartPinLaw", name := "blankOrOut", desc := "([BIII)Z" } : Jvm.MethodName) method_7_code (4 : Nat) (Option.some Jvm.ClassFile.FieldType.boolean)).before args0 about1 = true := code_word (m := ⟨1, 6⟩) (meth := k1m6) (c := k1c6) (by decide +kernel) rfl rfl rfl (by decide +kernel)
set_option maxRecDepth 65536 in
theorem w_c17 : (Jvm.Cond.code ({ cls := "com/example/oxpecker/oxpecker/sip/RawMessageSecondValueStartPinLaw", name := "isBl", desc := "([BI)Z" } : Jvm.MethodName) method_4_code (2 : Nat) (Option.some Jvm.ClassFile.FieldType.boolean)).before args0 about1 = true := code_word (m := ⟨1, 3⟩) (meth := k1m3) (c := k1c3) (by decide +kernel) rfl rfl rfl (by decide +kernel)
def codes1 : List Jvm.Cond := [Jvm.Cond.code x code maxLocals ret, Jvm.Cond.code ({ cls := "com/example/oxpecker/oxpecker/sip/RawMessageSecondValueStartPinLaw", name := "kind", desc := "(I)B" } : Jvm.MethodName) method_2_code (2 : Nat) (Option.some Jvm.ClassFile.FieldType.byte), Jvm.Cond.code ({ cls := "com/example/oxpecker/oxpecker/sip/RawMessage", name := "<init>", desc := "([B)V" } : Jvm.MethodName) prog_12_method_1_code (11 : Nat) (Option.none : Option Jvm.ClassFile.FieldType), Jvm.Cond.code ({ cls := "java/lang/Object", name := "<init>", desc := "()V" } : Jvm.MethodName) object_method_1_code (1 : Nat) (Option.none : Option Jvm.ClassFile.FieldType), Jvm.Cond.code ({ cls := "com/example/oxpecker/oxpecker/sip/RawMessage", name := "indexOf", desc := "(BI)I" } : Jvm.MethodName) prog_12_method_17_code (4 : Nat) (Option.some Jvm.ClassFile.FieldType.int), Jvm.Cond.code ({ cls := "com/example/oxpecker/oxpecker/sip/RawMessage$Header", name := "<init>", desc := "(IIII)V" } : Jvm.MethodName) prog_13_method_1_code (5 : Nat) (Option.none : Option Jvm.ClassFile.FieldType), Jvm.Cond.code ({ cls := "java/lang/Record", name := "<init>", desc := "()V" } : Jvm.MethodName) jdk_30_method_1_code (1 : Nat) (Option.none : Option Jvm.ClassFile.FieldType), Jvm.Cond.code ({ cls := "com/example/oxpecker/oxpecker/sip/RawMessage", name := "secondValueStart", desc := "(Lcom/example/oxpecker/oxpecker/sip/RawMessage$Header;)I" } : Jvm.MethodName) prog_12_method_9_code (3 : Nat) (Option.some Jvm.ClassFile.FieldType.int), Jvm.Cond.code ({ cls := "com/example/oxpecker/oxpecker/sip/RawMessage$Header", name := "valueStart", desc := "()I" } : Jvm.MethodName) prog_13_method_6_code (1 : Nat) (Option.some Jvm.ClassFile.FieldType.int), Jvm.Cond.code ({ cls := "com/example/oxpecker/oxpecker/sip/RawMessage$Header", name := "valueEnd", desc := "()I" } : Jvm.MethodName) prog_13_method_7_code (1 : Nat) (Option.some Jvm.ClassFile.FieldType.int), Jvm.Cond.code ({ cls := "com/example/oxpecker/oxpecker/sip/RawMessageSecondValueStartPinLaw", name := "noComma", desc := "([BII)Z" } : Jvm.MethodName) method_6_code (3 : Nat) (Option.some Jvm.ClassFile.FieldType.boolean), Jvm.Cond.code ({ cls := "com/example/oxpecker/oxpecker/sip/RawMessageSecondValueStartPinLaw", name := "free", desc := "([BIII)Z" } : Jvm.MethodName) method_5_code (4 : Nat) (Option.some Jvm.ClassFile.FieldType.boolean), Jvm.Cond.code ({ cls := "com/example/oxpecker/oxpecker/sip/RawMessage", name := "skipBlanks", desc := "(I)I" } : Jvm.MethodName) prog_12_method_14_code (3 : Nat) (Option.some Jvm.ClassFile.FieldType.int), Jvm.Cond.code ({ cls := "com/example/oxpecker/oxpecker/sip/RawMessageSecondValueStartPinLaw", name := "commaAt", desc := "([BIIII)Z" } : Jvm.MethodName) method_9_code (5 : Nat) (Option.some Jvm.ClassFile.FieldType.boolean), Jvm.Cond.code ({ cls := "com/example/oxpecker/oxpecker/sip/RawMessageSecondValueStartPinLaw", name := "isC", desc := "([BI)Z" } : Jvm.MethodName) method_3_code (2 : Nat) (Option.some Jvm.ClassFile.FieldType.boolean), Jvm.Cond.code ({ cls := "com/example/oxpecker/oxpecker/sip/RawMessageSecondValueStartPinLaw", name := "allBlank", desc := "([BII)Z" } : Jvm.MethodName) method_8_code (3 : Nat) (Option.some Jvm.ClassFile.FieldType.boolean), Jvm.Cond.code ({ cls := "com/example/oxpecker/oxpecker/sip/RawMessageSecondValueStartPinLaw", name := "blankOrOut", desc := "([BIII)Z" } : Jvm.MethodName) method_7_code (4 : Nat) (Option.some Jvm.ClassFile.FieldType.boolean), Jvm.Cond.code ({ cls := "com/example/oxpecker/oxpecker/sip/RawMessageSecondValueStartPinLaw", name := "isBl", desc := "([BI)Z" } : Jvm.MethodName) method_4_code (2 : Nat) (Option.some Jvm.ClassFile.FieldType.boolean)]
set_option maxRecDepth 65536 in
theorem codes_eq : words1.filter isCode = codes1 := rfl
theorem w_codes : ∀ c ∈ words1.filter isCode, c.before args0 about1 = true := by
  rw [codes_eq]
  intro c hc
  simp only [codes1, List.mem_cons, List.not_mem_nil, or_false] at hc
  rcases hc with rfl | rfl | rfl | rfl | rfl | rfl | rfl | rfl | rfl | rfl | rfl | rfl | rfl | rfl | rfl | rfl | rfl | rfl
  · exact w_c0
  · exact w_c1
  · exact w_c2
  · exact w_c3
  · exact w_c4
  · exact w_c5
  · exact w_c6
  · exact w_c7
  · exact w_c8
  · exact w_c9
  · exact w_c10
  · exact w_c11
  · exact w_c12
  · exact w_c13
  · exact w_c14
  · exact w_c15
  · exact w_c16
  · exact w_c17
set_option maxRecDepth 65536 in
theorem w_t1 : (words1.take 24).all (fun c => isCode c || c.before args0 about1) = true := by decide +kernel
set_option maxRecDepth 65536 in
theorem w_t2 : ((words1.drop 24).take 24).all (fun c => isCode c || c.before args0 about1) = true := by decide +kernel
set_option maxRecDepth 65536 in
theorem w_t3 : (((words1.drop 24).drop 24).take 24).all (fun c => isCode c || c.before args0 about1) = true := by decide +kernel
set_option maxRecDepth 65536 in
theorem w_t4 : (((words1.drop 24).drop 24).drop 24).all (fun c => isCode c || c.before args0 about1) = true := by decide +kernel
theorem w_tables : (allAtoms (Jvm.Cond.code x code maxLocals ret :: tables_1)).before args0 about1 = true := by
  rw [allAtoms_all]
  show words1.all (fun c => c.before args0 about1) = true
  refine all_split ?_ w_codes
  rw [← List.take_append_drop 24 words1, List.all_append, w_t1, ← List.take_append_drop 24 (words1.drop 24), List.all_append, w_t2, ← List.take_append_drop 24 ((words1.drop 24).drop 24), List.all_append, w_t3, w_t4]
  rfl
set_option maxRecDepth 65536 in
theorem w_case : (Jvm.Cond.and given_1 narrow_1).before args0 about1 = true := by decide +kernel
theorem w_applies : (headSpec (Jvm.Cond.code x code maxLocals ret :: tables_1) room_1).applies x e0.platform about1 = true :=
  (Spec.applies_iff w_frames).mpr ⟨w_running, w_runnable, w_alone, w_named, w_hears, w_ripe, w_room, w_tables⟩
theorem atStart : AtStart classFile x code maxLocals ret World_1 tables_1 room_1 Calls_1 rest_1 Pre_1 launch0 p0 e0 about1 theMethod args0 below0 :=
  ⟨lists_1, trivial, launch0.admits_env _ _ _, launch0.least_env, fairChoices_fair.cas, fairChoices_fair.clock, w_frames, w_args, w_heap, w_applies, trivial, trivial, w_case⟩
end start1
theorem witness_1 : WitnessClaimed_1 := ⟨start1.p0, start1.e0, start1.about1, start1.theMethod, start1.args0, start1.below0, start1.atStart⟩
end Jvm.Pilot.@@N@@
