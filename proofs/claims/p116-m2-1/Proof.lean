import JvmDerived
import JvmDerived.Pilot.@@N@@Statement
import JvmDerived.Pilot.@@N@@Code
set_option linter.unusedVariables false
set_option linter.unusedSimpArgs false
namespace Jvm.Pilot.@@N@@
open Jvm Jvm.ClassFile Sem Op Lib Jvm.Free Jvm.Stand Jvm.LawKit Jvm.RoadKit Bundle Jvm.Pilot.@@N@@.Jvm.D
/-! 1. the words of the mirrors: a named value, a check, a call -/
def own_lt {α β : Type} (x : α) (f : α → Option β) : Option β := f x
def own_ck {β : Type} (P : Prop) [Decidable P] (x : Option β) : Option β := if P then x else none
def own_bd {α β : Type} (x : Option α) (f : α → Option β) : Option β := x.bind f
theorem own_lt_e {α β : Type} {x : α} {f : α → Option β} {r : β} (h : own_lt x f = some r) : ∃ v, v = x ∧ f v = some r := ⟨x, rfl, h⟩
theorem own_ck_e {β : Type} {P : Prop} [Decidable P] {x : Option β} {r : β} (h : own_ck P x = some r) : P ∧ x = some r := by
  unfold own_ck at h
  by_cases q : P
  · rw [if_pos q] at h; exact ⟨q, h⟩
  · rw [if_neg q] at h; cases h
theorem own_bd_e {α β : Type} {x : Option α} {f : α → Option β} {r : β} (h : own_bd x f = some r) : ∃ v, x = some v ∧ f v = some r := by
  unfold own_bd at h
  cases x with
  | none => cases h
  | some v => exact ⟨v, rfl, h⟩
abbrev own_inb {α : Type} (bs : List α) (j : Int32) : Prop := ¬ j < 0 ∧ j.toNatClampNeg < bs.length
def own_rd {α : Type} [OfNat α 0] (bs : List α) (j : Int32) : α := bs.getD j.toNatClampNeg 0
def own_wr {α : Type} (bs : List α) (j : Int32) (v : α) : List α := bs.set j.toNatClampNeg v
def own_sz {α : Type} (bs : List α) : Int32 := bs.length.toInt32
/-! 2. a run that comes to an end as Q says -/
def own_Goes (p : Program) (e : Env) (below : List Frame) (s : State) (Q : Option Value → Heap → List Loc → Prop) (ce sl : Nat) (A : State) : Prop :=
  ∃ s₂ o, Steps p.tables e below A s₂ ∧ s₂.status = .running ∧ Ended s₂ below o ∧ ∃ v L, o = .returned v ∧ Q v s₂.heap L ∧ FrameEnd s o s₂ L ce sl
section Own
variable {p : Program} {l : Launch} {e : Env} {R : Room} {s : State} {m : MethodId} {args : Array Value} {below : List Frame} {meth : Method} {c : Code} {T : State} {locs : List Loc} {cells slots : Nat} {Z : State} {h h' : Heap} {Q : Option Value → Heap → List Loc → Prop} {ce sl : Nat}
theorem own_Goes.via {A B : State} (q : ∀ t, Steps p.tables e below B t → Steps p.tables e below A t) (g : own_Goes p e below s Q ce sl B) : own_Goes p e below s Q ce sl A := by
  obtain ⟨s₂, o, h1, r⟩ := g
  exact ⟨s₂, o, q _ h1, r⟩
theorem own_Goes.tr {A B : State} (q : Steps p.tables e below A B) (g : own_Goes p e below s Q ce sl B) : own_Goes p e below s Q ce sl A := g.via fun _ k => q.trans k
theorem own_retV (X : Stand p l e R s m args below meth c T locs cells slots) (hx : p.tables.exec = Jvm.exec) {pc : Nat} {Ls : Array Slot} (hret : meth.sig.returnType = none) (hlk : meth.locks = false) (hd : decode c.code pc = .ok (.return_, 1)) (eT : T.heap = h) (hQ : Q none h locs) (hc : cells ≤ ce) (hs : slots ≤ sl) :
    own_Goes p e below s Q ce sl (T.setTop (mkF m pc Ls [])) := by
  obtain ⟨fs, hr, hrun, hended, hW, hsame⟩ := X.leave (v := none) (fun _ => rfl) hlk
  refine ⟨_, _, ?_, hrun, hended, _, _, rfl, ?_, ⟨_, rfl⟩, hW, hsame.mono hc hs⟩
  · exact X.returnOut hx hret hd hr
  · show Q none T.heap locs
    rw [eT]; exact hQ
theorem own_retI (X : Stand p l e R s m args below meth c T locs cells slots) (hx : p.tables.exec = Jvm.exec) {pc : Nat} {Ls : Array Slot} {z : Int32} {rest : List Value} (hret : meth.sig.returnType = some .int) (hlk : meth.locks = false) (hd : decode c.code pc = .ok (.ireturn, 1)) (eT : T.heap = h) (hQ : Q (some (.int z)) h locs) (hc : cells ≤ ce) (hs : slots ≤ sl) :
    own_Goes p e below s Q ce sl (T.setTop (mkF m pc Ls (.int z :: rest))) := by
  obtain ⟨fs, hr, hrun, hended, hW, hsame⟩ := X.leave (v := some (.int z)) (fun h => by rw [hret] at h; cases h) hlk
  refine ⟨_, _, ?_, hrun, hended, _, _, rfl, ?_, ⟨_, rfl⟩, hW, hsame.mono hc hs⟩
  · exact retOut X hx hret rfl (Or.inl ⟨rfl, Or.inl rfl, z, rfl⟩) hd hr
  · show Q _ T.heap locs
    rw [eT]; exact hQ
theorem own_retJ (X : Stand p l e R s m args below meth c T locs cells slots) (hx : p.tables.exec = Jvm.exec) {pc : Nat} {Ls : Array Slot} {z : Int64} {rest : List Value} (hret : meth.sig.returnType = some .long) (hlk : meth.locks = false) (hd : decode c.code pc = .ok (.lreturn, 1)) (eT : T.heap = h) (hQ : Q (some (.long z)) h locs) (hc : cells ≤ ce) (hs : slots ≤ sl) :
    own_Goes p e below s Q ce sl (T.setTop (mkF m pc Ls (.long z :: rest))) := by
  obtain ⟨fs, hr, hrun, hended, hW, hsame⟩ := X.leave (v := some (.long z)) (fun h => by rw [hret] at h; cases h) hlk
  refine ⟨_, _, ?_, hrun, hended, _, _, rfl, ?_, ⟨_, rfl⟩, hW, hsame.mono hc hs⟩
  · exact retOut X hx hret rfl (Or.inr (Or.inl ⟨rfl, rfl, z, rfl⟩)) hd hr
  · show Q _ T.heap locs
    rw [eT]; exact hQ
theorem own_retR (X : Stand p l e R s m args below meth c T locs cells slots) (hx : p.tables.exec = Jvm.exec) {pc : Nat} {Ls : Array Slot} {t : FieldType} {w : Value} {rest : List Value} (hret : meth.sig.returnType = some t) (hlk : meth.locks = false) (hd : decode c.code pc = .ok (.areturn, 1)) (ht : t.isReference = true) (eT : T.heap = h) (hw : w.isRef = true) (hQ : Q (some w) h locs) (hc : cells ≤ ce) (hs : slots ≤ sl) :
    own_Goes p e below s Q ce sl (T.setTop (mkF m pc Ls (w :: rest))) := by
  obtain ⟨fs, hr, hrun, hended, hW, hsame⟩ := X.leave (v := some w) (fun h => by rw [hret] at h; cases h) hlk
  refine ⟨_, _, ?_, hrun, hended, _, _, rfl, ?_, ⟨_, rfl⟩, hW, hsame.mono hc hs⟩
  · exact retOut X hx hret (by cases t <;> first | (cases ht; done) | rfl) (Or.inr (Or.inr (Or.inr (Or.inr ⟨rfl, ht, hw⟩)))) hd hr
  · show Q _ T.heap locs
    rw [eT]; exact hQ
theorem own_retN (X : Stand p l e R s m args below meth c T locs cells slots) (hx : p.tables.exec = Jvm.exec) {pc : Nat} {Ls : Array Slot} {z v : Int32} {t : FieldType} {rest : List Value} (hret : meth.sig.returnType = some t) (hlk : meth.locks = false) (ht : t = .boolean ∨ t = .byte ∨ t = .char ∨ t = .short) (hd : decode c.code pc = .ok (.ireturn, 1)) (eT : T.heap = h) (hv : nar t z = v) (hQ : Q (some (.int v)) h locs) (hc : cells ≤ ce) (hs : slots ≤ sl) :
    own_Goes p e below s Q ce sl (T.setTop (mkF m pc Ls (.int z :: rest))) := by
  subst hv
  obtain ⟨fs, hr, hrun, hended, hW, hsame⟩ := X.leave (v := some (.int (nar t z))) (fun h => by rw [hret] at h; cases h) hlk
  refine ⟨_, _, ?_, hrun, hended, _, _, rfl, ?_, ⟨_, rfl⟩, hW, hsame.mono hc hs⟩
  · exact retN X hx hret ht hd hr
  · show Q _ T.heap locs
    rw [eT]; exact hQ
/-! 3. single steps -/
theorem own_irem {g : JFrame} {target : State} (X : Stand p l e R s m args below meth c T locs cells slots) (hx : p.tables.exec = Jvm.exec) (hg : g.method = m) {x y : Int32} {rest : List Value} (hd : decode c.code g.pc = .ok (.irem, 1)) (hs : g.stack = .int y :: .int x :: rest) (hy : y ≠ 0)
    (hr : Steps p.tables e below (T.setTop { g with pc := g.pc + 1, stack := .int (x % y) :: rest }) target) : Steps p.tables e below (T.setTop g) target := iremM X hx hg hd hs hy hr
theorem own_lrem {g : JFrame} {target : State} (X : Stand p l e R s m args below meth c T locs cells slots) (hx : p.tables.exec = Jvm.exec) (hg : g.method = m) {x y : Int64} {rest : List Value} (hd : decode c.code g.pc = .ok (.lrem, 1)) (hs : g.stack = .long y :: .long x :: rest) (hy : y ≠ 0)
    (hr : Steps p.tables e below (T.setTop { g with pc := g.pc + 1, stack := .long (x % y) :: rest }) target) : Steps p.tables e below (T.setTop g) target :=
  XS.lrem X.here hx hg hd hs hy (by rw [lrem_mod]; exact hr)
theorem own_tltL {x y : Int64} (q : x < y) : ifCond.holds .lt (lcmpW x y) = true ∧ ifCond.holds .ge (lcmpW x y) = false := by
  rw [if0, if0]; exact ⟨(tlt ((lw_lt x y).mpr q)).1, (tlt ((lw_lt x y).mpr q)).2.1⟩
theorem own_fltL {x y : Int64} (q : ¬ x < y) : ifCond.holds .lt (lcmpW x y) = false ∧ ifCond.holds .ge (lcmpW x y) = true := by
  rw [if0, if0]; exact ⟨(flt fun z => q ((lw_lt x y).mp z)).1, (flt fun z => q ((lw_lt x y).mp z)).2.1⟩
theorem own_tgtL {x y : Int64} (q : y < x) : ifCond.holds .gt (lcmpW x y) = true ∧ ifCond.holds .le (lcmpW x y) = false := by
  rw [if0, if0]; exact ⟨(tlt ((lw_gt x y).mpr q)).2.2.1, (tlt ((lw_gt x y).mpr q)).2.2.2⟩
theorem own_fgtL {x y : Int64} (q : ¬ y < x) : ifCond.holds .gt (lcmpW x y) = false ∧ ifCond.holds .le (lcmpW x y) = true := by
  rw [if0, if0]; exact ⟨(flt fun z => q ((lw_gt x y).mp z)).2.2.1, (flt fun z => q ((lw_gt x y).mp z)).2.2.2⟩
theorem own_teqL {x y : Int64} (q : x = y) : ifCond.holds .eq (lcmpW x y) = true ∧ ifCond.holds .ne (lcmpW x y) = false := by
  rw [if0, if0]; exact ⟨(teq ((lw_eq x y).mpr q)).1, (teq ((lw_eq x y).mpr q)).2⟩
theorem own_feqL {x y : Int64} (q : ¬ x = y) : ifCond.holds .eq (lcmpW x y) = false ∧ ifCond.holds .ne (lcmpW x y) = true := by
  rw [if0, if0]; exact ⟨(feq fun z => q ((lw_eq x y).mp z)).1, (feq fun z => q ((lw_eq x y).mp z)).2⟩
theorem own_st1 {L : Array Slot} {i : Nat} {v : Value} {o : Slot} {L' : Array Slot} (hold : L[i]? = some o) (ho : One o) (hv : v.category = 1) (hL : L.setIfInBounds i (.val v) = L' := by rfl) : storeLocals L i v = some L' := hL ▸ XS.store1 hold ho hv
theorem own_privSel {s : State} {args : Array Value} {y : MethodName} {n : Nat} (wi : (Cond.instantiable y.cls n).before args s = true) (hp : s.PrivateAt y) (hinst : (Cond.instanceMethod y).before args s = true) (hy : y.cls ≠ "java/lang/invoke/MethodHandle" ∧ y.cls ≠ "java/lang/invoke/VarHandle") : (Cond.selects y.cls y y).before args s = true := by
  obtain ⟨c, k, h1, h2, -, h3, -⟩ := Cond.instantiable_spec wi
  exact selects_self_of_private h1 h2 (Bool.or_eq_false_iff.mp h3).1 hp hinst hy
theorem own_st2 {L L' : Array Slot} {i : Nat} {x : Int64} {o1 o2 : Slot} (h1 : L[i]? = some o1) (h2 : L[i + 1]? = some o2) (q1 : One o1) (q2 : One o2) (hL : (L.setIfInBounds i (.val (.long x))).setIfInBounds (i + 1) .second = L' := by rfl) : storeLocals L i (.long x) = some L' := by
  subst hL
  obtain ⟨b1, g1⟩ := Array.getElem?_eq_some_iff.mp h1
  obtain ⟨b2, g2⟩ := Array.getElem?_eq_some_iff.mp h2
  have hc : (Value.long x).category = 2 := rfl
  rcases q1 with rfl | ⟨w, rfl, hw⟩ <;> rcases q2 with rfl | ⟨w', rfl, hw'⟩ <;> simp [storeLocals, storeSelf, setAt, hc, *]
/-! 4. arrays: what lies in them, as a list -/
def own_Ar (Z : State) (h : Heap) (a : Addr) (ty : FieldType) (vs : List Value) : Prop := ∃ c : Cell, Arr Z h a c ty ∧ c.slots.toList = vs ∧ vs.length < 2 ^ 31 ∧ ∀ v ∈ vs, fits ty v = true
variable {a b : Addr} {ty : FieldType} {vs : List Value}
theorem own_Ar.lt (F : own_Ar Z h a ty vs) : a < h.size := by obtain ⟨c, A, -⟩ := F; exact A.lt
theorem own_Ar.ext (F : own_Ar Z h a ty vs) (E : Ext h h') : own_Ar Z h' a ty vs := by obtain ⟨c, A, r⟩ := F; exact ⟨c, A.ext E, r⟩
theorem own_Ar.other {k : Nat} {v : Value} (F : own_Ar Z h b ty vs) (W : Wr h h' a k v) (q : b ≠ a) : own_Ar Z h' b ty vs := by obtain ⟨c, A, r⟩ := F; exact ⟨c, A.other W q, r⟩
theorem own_Ar.keep {ws : List Addr} (F : own_Ar Z h a ty vs) (K : Keep h h' ws) (q : a ∉ ws) : own_Ar Z h' a ty vs := by obtain ⟨c, A, r⟩ := F; exact ⟨c, ⟨K.2.1 a c A.1 q, A.2⟩, r⟩
theorem own_Ar.size {c : Cell} (q : c.slots.toList = vs) : c.slots.size = vs.length := by rw [← q]; simp
theorem own_in {c : Cell} {j : Int32} (q : c.slots.toList = vs) (hj : own_inb vs j) : ¬ (j < 0 ∨ c.slots.size ≤ j.toNatClampNeg) := by
  rw [own_Ar.size q]
  rintro (r | r)
  · exact hj.1 r
  · exact absurd hj.2 (Nat.not_lt.mpr r)
theorem own_get {c : Cell} {i : Nat} (q : c.slots.toList = vs) (d : Value) (hi : i < vs.length) : c.slots[i]? = some (vs.getD i d) := by
  have e : c.slots = vs.toArray := by rw [← q]
  rw [e]
  simp [List.getD, hi]
theorem own_set {c : Cell} {i : Nat} {v : Value} (q : c.slots.toList = vs) : (c.setSlot i v).slots.toList = vs.set i v := by
  have e : c.slots = vs.toArray := by rw [← q]
  simp [Cell.setSlot, e]
theorem own_fits {i : Nat} {v : Value} (q : ∀ v ∈ vs, fits ty v = true) (hv : fits ty v = true) : ∀ u ∈ vs.set i v, fits ty u = true := fun u hu => by
  rcases List.mem_or_eq_of_mem_set hu with r | r
  · exact q u r
  · rw [r]; exact hv
theorem own_mapGet {bs : List Int32} {i : Nat} (hi : i < bs.length) : (bs.map Value.int).getD i (.int 0) = .int (bs.getD i 0) := by simp [List.getD, hi]
theorem own_mapGetJ {bs : List Int64} {i : Nat} (hi : i < bs.length) : (bs.map Value.long).getD i (.long 0) = .long (bs.getD i 0) := by simp [List.getD, hi]
theorem own_mapSet {bs : List Int32} {i : Nat} {v : Int32} : (bs.map Value.int).set i (.int v) = (bs.set i v).map Value.int := by simp
theorem own_mapSetJ {bs : List Int64} {i : Nat} {v : Int64} : (bs.map Value.long).set i (.long v) = (bs.set i v).map Value.long := by simp
theorem own_inbM {α : Type} {f : α → Value} {bs : List α} {j : Int32} (q : own_inb bs j) : own_inb (bs.map f) j := ⟨q.1, by rw [List.length_map]; exact q.2⟩
theorem own_wrk {α : Type} {bs : List α} {j : Int32} {v : α} (k : Nat) (hk : j.toNatClampNeg = k) : own_wr bs j v = bs.set k v := by rw [own_wr, hk]
theorem own_rdk {α : Type} [OfNat α 0] {bs : List α} {j : Int32} (k : Nat) (hk : j.toNatClampNeg = k) : own_rd bs j = bs.getD k 0 := by rw [own_rd, hk]
theorem own_inbk {α : Type} {bs : List α} {j : Int32} (k n : Nat) (h0 : ¬ j < 0) (hk : j.toNatClampNeg = k) (hl : bs.length = n) (hkn : k < n) : own_inb bs j := ⟨h0, by rw [hk, hl]; exact hkn⟩
theorem own_len {α : Type} {f : α → Value} {bs : List α} (X : Stand p l e R s m args below meth c T locs cells slots) (hx : p.tables.exec = Jvm.exec) (hZ : Z.Warmed39 s.vm) (eT : T.heap = h) (A : own_Ar Z h a ty (bs.map f)) {g : JFrame} (hg : g.method = m) {rest : List Value} (hs : g.stack = .ref a :: rest) (hd : decode c.code g.pc = .ok (.arraylength, 1)) {target : State}
    (hr : Steps p.tables e below (T.setTop { g with pc := g.pc + 1, stack := .int (own_sz bs) :: rest }) target) : Steps p.tables e below (T.setTop g) target := by
  obtain ⟨cl, A, q, -⟩ := A
  refine X.arraylength hx (by rw [eT]; exact A.1) (State.isArrayOf_alike hZ.alike A.2.1) hg hs hd _ ?_
  rw [own_Ar.size q, List.length_map]; exact hr
theorem own_ldI {bs : List Int32} {j v : Int32} (X : Stand p l e R s m args below meth c T locs cells slots) (hx : p.tables.exec = Jvm.exec) (hZ : Z.Warmed39 s.vm) (eT : T.heap = h) (A : own_Ar Z h a .int (bs.map Value.int)) (hj : own_inb bs j) (hv : own_rd bs j = v) {g : JFrame} (hg : g.method = m) {rest : List Value} (hs : g.stack = .int j :: .ref a :: rest) (hd : decode c.code g.pc = .ok (.iaload, 1)) {target : State}
    (hr : Steps p.tables e below (T.setTop { g with pc := g.pc + 1, stack := .int v :: rest }) target) : Steps p.tables e below (T.setTop g) target := by
  subst hv
  obtain ⟨cl, A, q, -⟩ := A
  exact X.iaload hx (by rw [eT]; exact A.1) (State.isArrayOf_alike hZ.alike A.2.1) A.2.2 (own_in q (own_inbM hj)) ((own_get q (.int 0) (own_inbM hj).2).trans (congrArg some (own_mapGet hj.2))) hg hs hd _ hr
theorem own_ldB {bs : List Int32} {j v : Int32} (X : Stand p l e R s m args below meth c T locs cells slots) (hx : p.tables.exec = Jvm.exec) (hZ : Z.Warmed39 s.vm) (eT : T.heap = h) (A : own_Ar Z h a .byte (bs.map Value.int)) (hj : own_inb bs j) (hv : own_rd bs j = v) {g : JFrame} (hg : g.method = m) {rest : List Value} (hs : g.stack = .int j :: .ref a :: rest) (hd : decode c.code g.pc = .ok (.baload, 1)) {target : State}
    (hr : Steps p.tables e below (T.setTop { g with pc := g.pc + 1, stack := .int v :: rest }) target) : Steps p.tables e below (T.setTop g) target := by
  subst hv
  obtain ⟨cl, A, q, -⟩ := A
  exact X.baloadBytes hx (by rw [eT]; exact A.1) (State.isArrayOf_alike hZ.alike A.2.1) A.2.2 (own_in q (own_inbM hj)) ((own_get q (.int 0) (own_inbM hj).2).trans (congrArg some (own_mapGet hj.2))) hg hs hd _ hr
theorem own_ldZ {bs : List Int32} {j v : Int32} (X : Stand p l e R s m args below meth c T locs cells slots) (hx : p.tables.exec = Jvm.exec) (hZ : Z.Warmed39 s.vm) (eT : T.heap = h) (A : own_Ar Z h a .boolean (bs.map Value.int)) (hj : own_inb bs j) (hv : own_rd bs j = v) {g : JFrame} (hg : g.method = m) {rest : List Value} (hs : g.stack = .int j :: .ref a :: rest) (hd : decode c.code g.pc = .ok (.baload, 1)) {target : State}
    (hr : Steps p.tables e below (T.setTop { g with pc := g.pc + 1, stack := .int v :: rest }) target) : Steps p.tables e below (T.setTop g) target := by
  subst hv
  obtain ⟨cl, A, q, -⟩ := A
  exact X.baloadBooleans hx (by rw [eT]; exact A.1) (State.isArrayOf_alike hZ.alike A.2.1) A.2.2 (own_in q (own_inbM hj)) ((own_get q (.int 0) (own_inbM hj).2).trans (congrArg some (own_mapGet hj.2))) hg hs hd _ hr
theorem own_ldJ {bs : List Int64} {j : Int32} {v : Int64} (X : Stand p l e R s m args below meth c T locs cells slots) (hx : p.tables.exec = Jvm.exec) (hZ : Z.Warmed39 s.vm) (eT : T.heap = h) (A : own_Ar Z h a .long (bs.map Value.long)) (hj : own_inb bs j) (hv : own_rd bs j = v) {g : JFrame} (hg : g.method = m) {rest : List Value} (hs : g.stack = .int j :: .ref a :: rest) (hd : decode c.code g.pc = .ok (.laload, 1)) {target : State}
    (hr : Steps p.tables e below (T.setTop { g with pc := g.pc + 1, stack := .long v :: rest }) target) : Steps p.tables e below (T.setTop g) target := by
  subst hv
  obtain ⟨cl, A, q, -⟩ := A
  exact X.laload hx (by rw [eT]; exact A.1) (State.isArrayOf_alike hZ.alike A.2.1) A.2.2 (own_in q (own_inbM hj)) ((own_get q (.long 0) (own_inbM hj).2).trans (congrArg some (own_mapGetJ hj.2))) hg hs hd _ hr
theorem own_stI {bs : List Int32} {j x : Int32} (X : Stand p l e R s m args below meth c T locs cells slots) (hx : p.tables.exec = Jvm.exec) (hZ : Z.Warmed39 s.vm) (eT : T.heap = h) (A : own_Ar Z h a .int (bs.map Value.int)) (hj : own_inb bs j) {g : JFrame} (hg : g.method = m) {rest : List Value} (hs : g.stack = .int x :: .int j :: .ref a :: rest) (hd : decode c.code g.pc = .ok (.iastore, 1)) :
    ∃ T' h', Stand p l e R s m args below meth c T' (locs ++ [⟨a, j.toNatClampNeg⟩]) cells slots ∧ T'.heap = h' ∧ Wr h h' a j.toNatClampNeg (.int x) ∧ own_Ar Z h' a .int ((own_wr bs j x).map Value.int) ∧ ∀ target, Steps p.tables e below (T'.setTop { g with pc := g.pc + 1, stack := rest }) target → Steps p.tables e below (T.setTop g) target := by
  obtain ⟨cl, A, q, r, ft⟩ := A
  obtain ⟨T', h', X', e', W, st⟩ := stI X hx hZ eT A (own_in q (own_inbM hj)) hg hs hd
  exact ⟨T', h', X', e', W, ⟨_, A.same W, (own_set q).trans own_mapSet, by simpa [own_wr] using r, own_mapSet ▸ own_fits ft rfl⟩, st⟩
theorem own_stB {bs : List Int32} {j x : Int32} (X : Stand p l e R s m args below meth c T locs cells slots) (hx : p.tables.exec = Jvm.exec) (hZ : Z.Warmed39 s.vm) (eT : T.heap = h) (A : own_Ar Z h a .byte (bs.map Value.int)) (hj : own_inb bs j) {g : JFrame} (hg : g.method = m) {rest : List Value} (hs : g.stack = .int x :: .int j :: .ref a :: rest) (hd : decode c.code g.pc = .ok (.bastore, 1)) :
    ∃ T' h', Stand p l e R s m args below meth c T' (locs ++ [⟨a, j.toNatClampNeg⟩]) cells slots ∧ T'.heap = h' ∧ Wr h h' a j.toNatClampNeg (.int x.toInt8.toInt32) ∧ own_Ar Z h' a .byte ((own_wr bs j x.toInt8.toInt32).map Value.int) ∧ ∀ target, Steps p.tables e below (T'.setTop { g with pc := g.pc + 1, stack := rest }) target → Steps p.tables e below (T.setTop g) target := by
  obtain ⟨cl, A, q, r, ft⟩ := A
  obtain ⟨T', h', X', e', W, st⟩ := stB X hx hZ eT A (own_in q (own_inbM hj)) hg hs hd
  exact ⟨T', h', X', e', W, ⟨_, A.same W, (own_set q).trans own_mapSet, by simpa [own_wr] using r, own_mapSet ▸ own_fits ft (fits_nar_byte _)⟩, st⟩
theorem own_stZ {bs : List Int32} {j x : Int32} (X : Stand p l e R s m args below meth c T locs cells slots) (hx : p.tables.exec = Jvm.exec) (hZ : Z.Warmed39 s.vm) (eT : T.heap = h) (A : own_Ar Z h a .boolean (bs.map Value.int)) (hj : own_inb bs j) {g : JFrame} (hg : g.method = m) {rest : List Value} (hs : g.stack = .int x :: .int j :: .ref a :: rest) (hd : decode c.code g.pc = .ok (.bastore, 1)) :
    ∃ T' h', Stand p l e R s m args below meth c T' (locs ++ [⟨a, j.toNatClampNeg⟩]) cells slots ∧ T'.heap = h' ∧ Wr h h' a j.toNatClampNeg (.int (x &&& 1)) ∧ own_Ar Z h' a .boolean ((own_wr bs j (x &&& 1)).map Value.int) ∧ ∀ target, Steps p.tables e below (T'.setTop { g with pc := g.pc + 1, stack := rest }) target → Steps p.tables e below (T.setTop g) target := by
  obtain ⟨cl, A, q, r, ft⟩ := A
  obtain ⟨T', h', X', e', W, st⟩ := stZ X hx hZ eT A (own_in q (own_inbM hj)) hg hs hd
  exact ⟨T', h', X', e', W, ⟨_, A.same W, (own_set q).trans own_mapSet, by simpa [own_wr] using r, own_mapSet ▸ own_fits ft (fits_nar_bool _)⟩, st⟩
theorem own_stJ {bs : List Int64} {j : Int32} {x : Int64} (X : Stand p l e R s m args below meth c T locs cells slots) (hx : p.tables.exec = Jvm.exec) (hZ : Z.Warmed39 s.vm) (eT : T.heap = h) (A : own_Ar Z h a .long (bs.map Value.long)) (hj : own_inb bs j) {g : JFrame} (hg : g.method = m) {rest : List Value} (hs : g.stack = .long x :: .int j :: .ref a :: rest) (hd : decode c.code g.pc = .ok (.lastore, 1)) :
    ∃ T' h', Stand p l e R s m args below meth c T' (locs ++ [⟨a, j.toNatClampNeg⟩]) cells slots ∧ T'.heap = h' ∧ Wr h h' a j.toNatClampNeg (.long x) ∧ own_Ar Z h' a .long ((own_wr bs j x).map Value.long) ∧ ∀ target, Steps p.tables e below (T'.setTop { g with pc := g.pc + 1, stack := rest }) target → Steps p.tables e below (T.setTop g) target := by
  obtain ⟨cl, A, q, r, ft⟩ := A
  obtain ⟨T', h', X', e', W, st⟩ := stJ X hx hZ eT A (own_in q (own_inbM hj)) hg hs hd
  exact ⟨T', h', X', e', W, ⟨_, A.same W, (own_set q).trans own_mapSetJ, by simpa [own_wr] using r, own_mapSetJ ▸ own_fits ft rfl⟩, st⟩
theorem own_newI {k : ClassId} {n : Int32} {kk : Nat} (A : Arr Z h a (newA k ty n) ty) (q : ¬ n < 0) (hd : defaultValue ty = .int 0) (hk : n.toNatClampNeg = kk) : own_Ar Z h a ty ((List.replicate kk (0 : Int32)).map Value.int) := hk ▸
  ⟨_, A, by simp [newA, hd], by rw [List.length_map, List.length_replicate]; exact (back32 q).2, fun v hv => by
    rw [List.map_replicate] at hv
    rw [(List.mem_replicate.mp hv).2, ← hd]; cases ty <;> rfl⟩
theorem own_newJ {k : ClassId} {n : Int32} {kk : Nat} (A : Arr Z h a (newA k ty n) ty) (q : ¬ n < 0) (hd : defaultValue ty = .long 0) (hk : n.toNatClampNeg = kk) : own_Ar Z h a ty ((List.replicate kk (0 : Int64)).map Value.long) := hk ▸
  ⟨_, A, by simp [newA, hd], by rw [List.length_map, List.length_replicate]; exact (back32 q).2, fun v hv => by
    rw [List.map_replicate] at hv
    rw [(List.mem_replicate.mp hv).2, ← hd]; cases ty <;> rfl⟩
end Own
theorem w0 {a0 : Array Value} {Z : State} (hw : ∀ d ∈ tables_1, d.before a0 Z = true) : ((Jvm.Cond.constantLong "com/example/keyslate/keyslate/card/UInt256IsBelowPinLaw" (7 : Nat) (31 : Int64))).before a0 Z = true := hw _ (List.mem_of_getElem? (i := 0) rfl)
theorem w1 {a0 : Array Value} {Z : State} (hw : ∀ d ∈ tables_1, d.before a0 Z = true) : ((Jvm.Cond.constantLong "com/example/keyslate/keyslate/card/UInt256IsBelowPinLaw" (9 : Nat) (7 : Int64))).before a0 Z = true := hw _ (List.mem_of_getElem? (i := 1) rfl)
theorem w2 {a0 : Array Value} {Z : State} (hw : ∀ d ∈ tables_1, d.before a0 Z = true) : ((Jvm.Cond.arrayClass Jvm.ClassFile.FieldType.byte)).before a0 Z = true := hw _ (List.mem_of_getElem? (i := 2) rfl)
theorem w3 {a0 : Array Value} {Z : State} (hw : ∀ d ∈ tables_1, d.before a0 Z = true) : ((Jvm.Cond.methodLink "com/example/keyslate/keyslate/card/UInt256IsBelowPinLaw" (11 : Nat) ({ cls := "java/lang/Math", name := "min", desc := "(II)I" } : Jvm.MethodName))).before a0 Z = true := hw _ (List.mem_of_getElem? (i := 3) rfl)
theorem w4 {a0 : Array Value} {Z : State} (hw : ∀ d ∈ tables_1, d.before a0 Z = true) : ((Jvm.Cond.static ({ cls := "java/lang/Math", name := "min", desc := "(II)I" } : Jvm.MethodName))).before a0 Z = true := hw _ (List.mem_of_getElem? (i := 4) rfl)
theorem w5 {a0 : Array Value} {Z : State} (hw : ∀ d ∈ tables_1, d.before a0 Z = true) : ((Jvm.Cond.initialized "java/lang/Math")).before a0 Z = true := hw _ (List.mem_of_getElem? (i := 5) rfl)
theorem w6 {a0 : Array Value} {Z : State} (hw : ∀ d ∈ tables_1, d.before a0 Z = true) : ((Jvm.Cond.code ({ cls := "java/lang/Math", name := "min", desc := "(II)I" } : Jvm.MethodName) jdk_29_method_69_code (2 : Nat) (Option.some Jvm.ClassFile.FieldType.int))).before a0 Z = true := hw _ (List.mem_of_getElem? (i := 6) rfl)
theorem w7 {a0 : Array Value} {Z : State} (hw : ∀ d ∈ tables_1, d.before a0 Z = true) : ((Jvm.Cond.methodLink "com/example/keyslate/keyslate/card/UInt256IsBelowPinLaw" (17 : Nat) ({ cls := "java/lang/Math", name := "max", desc := "(II)I" } : Jvm.MethodName))).before a0 Z = true := hw _ (List.mem_of_getElem? (i := 7) rfl)
theorem w8 {a0 : Array Value} {Z : State} (hw : ∀ d ∈ tables_1, d.before a0 Z = true) : ((Jvm.Cond.static ({ cls := "java/lang/Math", name := "max", desc := "(II)I" } : Jvm.MethodName))).before a0 Z = true := hw _ (List.mem_of_getElem? (i := 8) rfl)
theorem w9 {a0 : Array Value} {Z : State} (hw : ∀ d ∈ tables_1, d.before a0 Z = true) : ((Jvm.Cond.code ({ cls := "java/lang/Math", name := "max", desc := "(II)I" } : Jvm.MethodName) jdk_29_method_65_code (2 : Nat) (Option.some Jvm.ClassFile.FieldType.int))).before a0 Z = true := hw _ (List.mem_of_getElem? (i := 9) rfl)
theorem w10 {a0 : Array Value} {Z : State} (hw : ∀ d ∈ tables_1, d.before a0 Z = true) : ((Jvm.Cond.methodLink "com/example/keyslate/keyslate/card/UInt256IsBelowPinLaw" (20 : Nat) ({ cls := "com/example/keyslate/keyslate/card/UInt256", name := "isBelow", desc := "([BS[BS)Z" } : Jvm.MethodName))).before a0 Z = true := hw _ (List.mem_of_getElem? (i := 10) rfl)
theorem w11 {a0 : Array Value} {Z : State} (hw : ∀ d ∈ tables_1, d.before a0 Z = true) : ((Jvm.Cond.static ({ cls := "com/example/keyslate/keyslate/card/UInt256", name := "isBelow", desc := "([BS[BS)Z" } : Jvm.MethodName))).before a0 Z = true := hw _ (List.mem_of_getElem? (i := 11) rfl)
theorem w12 {a0 : Array Value} {Z : State} (hw : ∀ d ∈ tables_1, d.before a0 Z = true) : ((Jvm.Cond.initialized "com/example/keyslate/keyslate/card/UInt256")).before a0 Z = true := hw _ (List.mem_of_getElem? (i := 12) rfl)
theorem w13 {a0 : Array Value} {Z : State} (hw : ∀ d ∈ tables_1, d.before a0 Z = true) : ((Jvm.Cond.code ({ cls := "com/example/keyslate/keyslate/card/UInt256", name := "isBelow", desc := "([BS[BS)Z" } : Jvm.MethodName) prog_1_method_2_code (7 : Nat) (Option.some Jvm.ClassFile.FieldType.boolean))).before a0 Z = true := hw _ (List.mem_of_getElem? (i := 13) rfl)
theorem pn_com_example_keyslate_keyslate_card_UInt256 : plainName "com/example/keyslate/keyslate/card/UInt256" = true := by first | (simp [plainName, overriddenIn]; done) | decide +kernel
theorem pn_com_example_keyslate_keyslate_card_UInt256IsBelowPinLaw : plainName "com/example/keyslate/keyslate/card/UInt256IsBelowPinLaw" = true := by first | (simp [plainName, overriddenIn]; done) | decide +kernel
theorem pd_0 : parseMethodDescriptor "(II)I" = some ⟨[.int, .int], some .int⟩ := by decide +kernel
theorem pd_1 : parseMethodDescriptor "([BS[BS)Z" = some ⟨[(.array .byte), .short, (.array .byte), .short], some .boolean⟩ := by decide +kernel
theorem dMath_min_0 : decode jdk_29_method_69_code 0 = .ok (.iload_n 0, 1) := by decide +kernel
theorem dMath_min_1 : decode jdk_29_method_69_code 1 = .ok (.iload_n 1, 1) := by decide +kernel
theorem dMath_min_2 : decode jdk_29_method_69_code 2 = .ok (.if_icmp .gt 7, 3) := by decide +kernel
theorem dMath_min_5 : decode jdk_29_method_69_code 5 = .ok (.iload_n 0, 1) := by decide +kernel
theorem dMath_min_6 : decode jdk_29_method_69_code 6 = .ok (.goto 4, 3) := by decide +kernel
theorem dMath_min_9 : decode jdk_29_method_69_code 9 = .ok (.iload_n 1, 1) := by decide +kernel
theorem dMath_min_10 : decode jdk_29_method_69_code 10 = .ok (.ireturn, 1) := by decide +kernel
theorem dMath_max_0 : decode jdk_29_method_65_code 0 = .ok (.iload_n 0, 1) := by decide +kernel
theorem dMath_max_1 : decode jdk_29_method_65_code 1 = .ok (.iload_n 1, 1) := by decide +kernel
theorem dMath_max_2 : decode jdk_29_method_65_code 2 = .ok (.if_icmp .lt 7, 3) := by decide +kernel
theorem dMath_max_5 : decode jdk_29_method_65_code 5 = .ok (.iload_n 0, 1) := by decide +kernel
theorem dMath_max_6 : decode jdk_29_method_65_code 6 = .ok (.goto 4, 3) := by decide +kernel
theorem dMath_max_9 : decode jdk_29_method_65_code 9 = .ok (.iload_n 1, 1) := by decide +kernel
theorem dMath_max_10 : decode jdk_29_method_65_code 10 = .ok (.ireturn, 1) := by decide +kernel
theorem dUInt256_isBelow_0 : decode prog_1_method_2_code 0 = .ok (.iconst 0, 1) := by decide +kernel
theorem dUInt256_isBelow_1 : decode prog_1_method_2_code 1 = .ok (.istore 4, 2) := by decide +kernel
theorem dUInt256_isBelow_3 : decode prog_1_method_2_code 3 = .ok (.iload 4, 2) := by decide +kernel
theorem dUInt256_isBelow_5 : decode prog_1_method_2_code 5 = .ok (.bipush 32, 2) := by decide +kernel
theorem dUInt256_isBelow_7 : decode prog_1_method_2_code 7 = .ok (.if_icmp .ge 61, 3) := by decide +kernel
theorem dUInt256_isBelow_10 : decode prog_1_method_2_code 10 = .ok (.aload_n 0, 1) := by decide +kernel
theorem dUInt256_isBelow_11 : decode prog_1_method_2_code 11 = .ok (.iload_n 1, 1) := by decide +kernel
theorem dUInt256_isBelow_12 : decode prog_1_method_2_code 12 = .ok (.iload 4, 2) := by decide +kernel
theorem dUInt256_isBelow_14 : decode prog_1_method_2_code 14 = .ok (.iadd, 1) := by decide +kernel
theorem dUInt256_isBelow_15 : decode prog_1_method_2_code 15 = .ok (.i2s, 1) := by decide +kernel
theorem dUInt256_isBelow_16 : decode prog_1_method_2_code 16 = .ok (.baload, 1) := by decide +kernel
theorem dUInt256_isBelow_17 : decode prog_1_method_2_code 17 = .ok (.sipush 255, 3) := by decide +kernel
theorem dUInt256_isBelow_20 : decode prog_1_method_2_code 20 = .ok (.iand, 1) := by decide +kernel
theorem dUInt256_isBelow_21 : decode prog_1_method_2_code 21 = .ok (.i2s, 1) := by decide +kernel
theorem dUInt256_isBelow_22 : decode prog_1_method_2_code 22 = .ok (.istore 5, 2) := by decide +kernel
theorem dUInt256_isBelow_24 : decode prog_1_method_2_code 24 = .ok (.aload_n 2, 1) := by decide +kernel
theorem dUInt256_isBelow_25 : decode prog_1_method_2_code 25 = .ok (.iload_n 3, 1) := by decide +kernel
theorem dUInt256_isBelow_26 : decode prog_1_method_2_code 26 = .ok (.iload 4, 2) := by decide +kernel
theorem dUInt256_isBelow_28 : decode prog_1_method_2_code 28 = .ok (.iadd, 1) := by decide +kernel
theorem dUInt256_isBelow_29 : decode prog_1_method_2_code 29 = .ok (.i2s, 1) := by decide +kernel
theorem dUInt256_isBelow_30 : decode prog_1_method_2_code 30 = .ok (.baload, 1) := by decide +kernel
theorem dUInt256_isBelow_31 : decode prog_1_method_2_code 31 = .ok (.sipush 255, 3) := by decide +kernel
theorem dUInt256_isBelow_34 : decode prog_1_method_2_code 34 = .ok (.iand, 1) := by decide +kernel
theorem dUInt256_isBelow_35 : decode prog_1_method_2_code 35 = .ok (.i2s, 1) := by decide +kernel
theorem dUInt256_isBelow_36 : decode prog_1_method_2_code 36 = .ok (.istore 6, 2) := by decide +kernel
theorem dUInt256_isBelow_38 : decode prog_1_method_2_code 38 = .ok (.iload 5, 2) := by decide +kernel
theorem dUInt256_isBelow_40 : decode prog_1_method_2_code 40 = .ok (.iload 6, 2) := by decide +kernel
theorem dUInt256_isBelow_42 : decode prog_1_method_2_code 42 = .ok (.if_icmp .eq 16, 3) := by decide +kernel
theorem dUInt256_isBelow_45 : decode prog_1_method_2_code 45 = .ok (.iload 5, 2) := by decide +kernel
theorem dUInt256_isBelow_47 : decode prog_1_method_2_code 47 = .ok (.iload 6, 2) := by decide +kernel
theorem dUInt256_isBelow_49 : decode prog_1_method_2_code 49 = .ok (.if_icmp .ge 7, 3) := by decide +kernel
theorem dUInt256_isBelow_52 : decode prog_1_method_2_code 52 = .ok (.iconst 1, 1) := by decide +kernel
theorem dUInt256_isBelow_53 : decode prog_1_method_2_code 53 = .ok (.goto 4, 3) := by decide +kernel
theorem dUInt256_isBelow_56 : decode prog_1_method_2_code 56 = .ok (.iconst 0, 1) := by decide +kernel
theorem dUInt256_isBelow_57 : decode prog_1_method_2_code 57 = .ok (.ireturn, 1) := by decide +kernel
theorem dUInt256_isBelow_58 : decode prog_1_method_2_code 58 = .ok (.iload 4, 2) := by decide +kernel
theorem dUInt256_isBelow_60 : decode prog_1_method_2_code 60 = .ok (.iconst 1, 1) := by decide +kernel
theorem dUInt256_isBelow_61 : decode prog_1_method_2_code 61 = .ok (.iadd, 1) := by decide +kernel
theorem dUInt256_isBelow_62 : decode prog_1_method_2_code 62 = .ok (.i2s, 1) := by decide +kernel
theorem dUInt256_isBelow_63 : decode prog_1_method_2_code 63 = .ok (.istore 4, 2) := by decide +kernel
theorem dUInt256_isBelow_65 : decode prog_1_method_2_code 65 = .ok (.goto (-62), 3) := by decide +kernel
theorem dUInt256_isBelow_68 : decode prog_1_method_2_code 68 = .ok (.iconst 0, 1) := by decide +kernel
theorem dUInt256_isBelow_69 : decode prog_1_method_2_code 69 = .ok (.ireturn, 1) := by decide +kernel
/-! java/lang/Math.min:(II)I -/
def f_Math_min (v0 : Int32) (v1 : Int32) : Option (Int32) :=
  if v1 < v0 then
    some v1
  else
    some v0
def Q_Math_min (Z : State) (hE : Heap) (n0 : Nat)  (r : Int32) (v : Option Value) (h : Heap) (L : List Loc) : Prop := v = some (.int r) ∧ Fr n0 L ∧ h = hE
def Cx_Math_min (p : Program) (s : State) (m : MethodId) (meth : Method) (c : Code) (Z : State) (a0 : Array Value) : Prop := p.tables.exec = Jvm.exec ∧ Z.Warmed39 s.vm ∧ (∀ d ∈ tables_1, d.before a0 Z = true) ∧ c.code = jdk_29_method_69_code ∧ c.maxLocals = 2 ∧ s.vm.findClass "java/lang/Math" = some m.cls ∧ meth.sig.returnType = some .int ∧ meth.locks = false ∧ meth.name = "min"
set_option maxRecDepth 65536 in
set_option maxHeartbeats 4000000 in
theorem b_Math_min {p : Program} {l : Launch} {e : Env} {s : State} {m : MethodId} {args : Array Value} {below : List Frame} {meth : Method} {c : Code} {Z : State} {a0 : Array Value} {n0 : Nat} {hE : Heap} (cx : Cx_Math_min p s m meth c Z a0) :
    ∀ {T : State} {locs : List Loc} (X : Stand p l e ({ frames := 0, cells := 0, slots := 0, locals := 0 } : Room) s m args below meth c T locs 0 0) (eT : T.heap = hE) (N : Fr n0 locs) (z : n0 ≤ hE.size) (v0 : Int32) (v1 : Int32) (r : Int32), f_Math_min v0 v1 = some r → own_Goes p e below s (Q_Math_min Z hE n0 r) 0 0 (T.setTop (mkF m 0 #[.val (.int v0), .val (.int v1)] [])) := by
  have cx' := cx
  obtain ⟨hx, hZ, hw, hby, hml, hown, hret, hlk, hnm⟩ := cx'
  intro T locs X eT N z v0 v1 r hF
  unfold f_Math_min at hF
  refine own_Goes.via (B := T.setTop (mkF m 2 #[.val (.int v0), .val (.int v1)] [(.int v1), (.int v0)])) (fun t k => ?_) ?_
  · show Steps p.tables e below (T.setTop (mkF m 0 #[.val (.int v0), .val (.int v1)] [])) t
    refine XS.iloadN X.here hx rfl (hb hby dMath_min_0) rfl ?_
    show Steps p.tables e below (T.setTop (mkF m 1 #[.val (.int v0), .val (.int v1)] [(.int v0)])) t
    refine XS.iloadN X.here hx rfl (hb hby dMath_min_1) rfl ?_
    exact k
  by_cases hc2 : v1 < v0
  · rw [if_pos hc2] at hF
    refine own_Goes.via (B := T.setTop (mkF m 10 #[.val (.int v0), .val (.int v1)] [(.int v1)])) (fun t k => ?_) ?_
    · show Steps p.tables e below (T.setTop (mkF m 2 #[.val (.int v0), .val (.int v1)] [(.int v1), (.int v0)])) t
      refine XS.icmpYes X.here hx rfl (pc0 := 2) (pc' := 9) rfl (hb hby dMath_min_2) rfl (tlt hc2).2.2.1 (by decide) (by decide) ?_
      show Steps p.tables e below (T.setTop (mkF m 9 #[.val (.int v0), .val (.int v1)] [])) t
      refine XS.iloadN X.here hx rfl (hb hby dMath_min_9) rfl ?_
      exact k
    obtain rfl : v1 = r := Option.some.inj hF
    exact own_retI X hx hret hlk (hb hby dMath_min_10) eT ⟨rfl, N, rfl⟩ (by decide) (by decide)
  · rw [if_neg hc2] at hF
    refine own_Goes.via (B := T.setTop (mkF m 10 #[.val (.int v0), .val (.int v1)] [(.int v0)])) (fun t k => ?_) ?_
    · show Steps p.tables e below (T.setTop (mkF m 2 #[.val (.int v0), .val (.int v1)] [(.int v1), (.int v0)])) t
      refine XS.icmpNo X.here hx rfl (hb hby dMath_min_2) rfl (flt hc2).2.2.1 ?_
      show Steps p.tables e below (T.setTop (mkF m 5 #[.val (.int v0), .val (.int v1)] [])) t
      refine XS.iloadN X.here hx rfl (hb hby dMath_min_5) rfl ?_
      show Steps p.tables e below (T.setTop (mkF m 6 #[.val (.int v0), .val (.int v1)] [(.int v0)])) t
      refine XS.goto X.here hx rfl (pc0 := 6) (pc' := 10) rfl (hb hby dMath_min_6) (by decide) (by decide) ?_
      exact k
    obtain rfl : v0 = r := Option.some.inj hF
    exact own_retI X hx hret hlk (hb hby dMath_min_10) eT ⟨rfl, N, rfl⟩ (by decide) (by decide)
theorem ef_Math_min (m : MethodId) (x0 : Int32) (x1 : Int32) : entryFrame m #[(.int x0), (.int x1)] 2 = mkF m 0 #[.val (.int x0), .val (.int x1)] [] := by first | (simp [entryFrame, mkF, argsToLocals, Value.category]; done) | rfl
set_option maxRecDepth 65536 in
set_option maxHeartbeats 4000000 in
theorem rm_Math_min (l : Launch) (Z : State) (a0 : Array Value) (hw : ∀ d ∈ tables_1, d.before a0 Z = true) (ws : List Jvm.Cond) (hE : Heap) (n0 : Nat) (z : n0 ≤ hE.size)  (v0 : Int32) (v1 : Int32) (r : Int32) (hF : (f_Math_min v0 v1) = some r) :
    MetFree l (⟨"java/lang/Math", "min", "(II)I"⟩ : MethodName) (head1 (Jvm.Cond.code (⟨"java/lang/Math", "min", "(II)I"⟩ : MethodName) jdk_29_method_69_code 2 (some .int) :: ws) ({ frames := 0, cells := 0, slots := 0, locals := 0 } : Room)) (fun a U => a = #[(.int v0), (.int v1)] ∧ Z.Warmed39 U.vm ∧ U.heap = hE) (fun _ _ _ _ _ => True) (fun _ U o U' => ∃ v L, o = .returned v ∧ (Q_Math_min Z hE n0 r) v U'.heap L ∧ FrameEnd U o U' L ({ frames := 0, cells := 0, slots := 0, locals := 0 } : Room).cells ({ frames := 0, cells := 0, slots := 0, locals := 0 } : Room).slots) := by
  refine MetFree.of_bodySF (Jvm.Free.JP.mathPlain rfl (by decide +kernel)) hisR ?_
  intro p e s m args below meth c s₁ Bd hml0 hP hK
  obtain ⟨rfl, hZ, hh⟩ := hP
  have X0 : Stand p l e ({ frames := 0, cells := 0, slots := 0, locals := 0 } : Room) s m #[(.int v0), (.int v1)] below meth c s₁ [] 0 0 := Stand.of_body Bd
  have e0 : s₁.heap = hE := by rw [← hh, Bd.state]; rfl
  have cx : Cx_Math_min p s m meth c Z a0 := ⟨Bd.exec, hZ, hw, Bd.bytes, hml0, findClass_of_methodNamed Bd.named, Bd.returns, Bd.notSynchronized, (name_of_methodNamed Bd.named Bd.method).1⟩
  show own_Goes p e below s (Q_Math_min Z hE n0 r) ({ frames := 0, cells := 0, slots := 0, locals := 0 } : Room).cells ({ frames := 0, cells := 0, slots := 0, locals := 0 } : Room).slots (s₁.setTop (entryFrame m #[(.int v0), (.int v1)] 2))
  rw [ef_Math_min]
  exact b_Math_min cx X0 e0 (Fr.nil n0) z v0 v1 _ hF
/-! java/lang/Math.max:(II)I -/
def f_Math_max (v0 : Int32) (v1 : Int32) : Option (Int32) :=
  if v0 < v1 then
    some v1
  else
    some v0
def Q_Math_max (Z : State) (hE : Heap) (n0 : Nat)  (r : Int32) (v : Option Value) (h : Heap) (L : List Loc) : Prop := v = some (.int r) ∧ Fr n0 L ∧ h = hE
def Cx_Math_max (p : Program) (s : State) (m : MethodId) (meth : Method) (c : Code) (Z : State) (a0 : Array Value) : Prop := p.tables.exec = Jvm.exec ∧ Z.Warmed39 s.vm ∧ (∀ d ∈ tables_1, d.before a0 Z = true) ∧ c.code = jdk_29_method_65_code ∧ c.maxLocals = 2 ∧ s.vm.findClass "java/lang/Math" = some m.cls ∧ meth.sig.returnType = some .int ∧ meth.locks = false ∧ meth.name = "max"
set_option maxRecDepth 65536 in
set_option maxHeartbeats 4000000 in
theorem b_Math_max {p : Program} {l : Launch} {e : Env} {s : State} {m : MethodId} {args : Array Value} {below : List Frame} {meth : Method} {c : Code} {Z : State} {a0 : Array Value} {n0 : Nat} {hE : Heap} (cx : Cx_Math_max p s m meth c Z a0) :
    ∀ {T : State} {locs : List Loc} (X : Stand p l e ({ frames := 0, cells := 0, slots := 0, locals := 0 } : Room) s m args below meth c T locs 0 0) (eT : T.heap = hE) (N : Fr n0 locs) (z : n0 ≤ hE.size) (v0 : Int32) (v1 : Int32) (r : Int32), f_Math_max v0 v1 = some r → own_Goes p e below s (Q_Math_max Z hE n0 r) 0 0 (T.setTop (mkF m 0 #[.val (.int v0), .val (.int v1)] [])) := by
  have cx' := cx
  obtain ⟨hx, hZ, hw, hby, hml, hown, hret, hlk, hnm⟩ := cx'
  intro T locs X eT N z v0 v1 r hF
  unfold f_Math_max at hF
  refine own_Goes.via (B := T.setTop (mkF m 2 #[.val (.int v0), .val (.int v1)] [(.int v1), (.int v0)])) (fun t k => ?_) ?_
  · show Steps p.tables e below (T.setTop (mkF m 0 #[.val (.int v0), .val (.int v1)] [])) t
    refine XS.iloadN X.here hx rfl (hb hby dMath_max_0) rfl ?_
    show Steps p.tables e below (T.setTop (mkF m 1 #[.val (.int v0), .val (.int v1)] [(.int v0)])) t
    refine XS.iloadN X.here hx rfl (hb hby dMath_max_1) rfl ?_
    exact k
  by_cases hc2 : v0 < v1
  · rw [if_pos hc2] at hF
    refine own_Goes.via (B := T.setTop (mkF m 10 #[.val (.int v0), .val (.int v1)] [(.int v1)])) (fun t k => ?_) ?_
    · show Steps p.tables e below (T.setTop (mkF m 2 #[.val (.int v0), .val (.int v1)] [(.int v1), (.int v0)])) t
      refine XS.icmpYes X.here hx rfl (pc0 := 2) (pc' := 9) rfl (hb hby dMath_max_2) rfl (tlt hc2).1 (by decide) (by decide) ?_
      show Steps p.tables e below (T.setTop (mkF m 9 #[.val (.int v0), .val (.int v1)] [])) t
      refine XS.iloadN X.here hx rfl (hb hby dMath_max_9) rfl ?_
      exact k
    obtain rfl : v1 = r := Option.some.inj hF
    exact own_retI X hx hret hlk (hb hby dMath_max_10) eT ⟨rfl, N, rfl⟩ (by decide) (by decide)
  · rw [if_neg hc2] at hF
    refine own_Goes.via (B := T.setTop (mkF m 10 #[.val (.int v0), .val (.int v1)] [(.int v0)])) (fun t k => ?_) ?_
    · show Steps p.tables e below (T.setTop (mkF m 2 #[.val (.int v0), .val (.int v1)] [(.int v1), (.int v0)])) t
      refine XS.icmpNo X.here hx rfl (hb hby dMath_max_2) rfl (flt hc2).1 ?_
      show Steps p.tables e below (T.setTop (mkF m 5 #[.val (.int v0), .val (.int v1)] [])) t
      refine XS.iloadN X.here hx rfl (hb hby dMath_max_5) rfl ?_
      show Steps p.tables e below (T.setTop (mkF m 6 #[.val (.int v0), .val (.int v1)] [(.int v0)])) t
      refine XS.goto X.here hx rfl (pc0 := 6) (pc' := 10) rfl (hb hby dMath_max_6) (by decide) (by decide) ?_
      exact k
    obtain rfl : v0 = r := Option.some.inj hF
    exact own_retI X hx hret hlk (hb hby dMath_max_10) eT ⟨rfl, N, rfl⟩ (by decide) (by decide)
theorem ef_Math_max (m : MethodId) (x0 : Int32) (x1 : Int32) : entryFrame m #[(.int x0), (.int x1)] 2 = mkF m 0 #[.val (.int x0), .val (.int x1)] [] := by first | (simp [entryFrame, mkF, argsToLocals, Value.category]; done) | rfl
set_option maxRecDepth 65536 in
set_option maxHeartbeats 4000000 in
theorem rm_Math_max (l : Launch) (Z : State) (a0 : Array Value) (hw : ∀ d ∈ tables_1, d.before a0 Z = true) (ws : List Jvm.Cond) (hE : Heap) (n0 : Nat) (z : n0 ≤ hE.size)  (v0 : Int32) (v1 : Int32) (r : Int32) (hF : (f_Math_max v0 v1) = some r) :
    MetFree l (⟨"java/lang/Math", "max", "(II)I"⟩ : MethodName) (head1 (Jvm.Cond.code (⟨"java/lang/Math", "max", "(II)I"⟩ : MethodName) jdk_29_method_65_code 2 (some .int) :: ws) ({ frames := 0, cells := 0, slots := 0, locals := 0 } : Room)) (fun a U => a = #[(.int v0), (.int v1)] ∧ Z.Warmed39 U.vm ∧ U.heap = hE) (fun _ _ _ _ _ => True) (fun _ U o U' => ∃ v L, o = .returned v ∧ (Q_Math_max Z hE n0 r) v U'.heap L ∧ FrameEnd U o U' L ({ frames := 0, cells := 0, slots := 0, locals := 0 } : Room).cells ({ frames := 0, cells := 0, slots := 0, locals := 0 } : Room).slots) := by
  refine MetFree.of_bodySF (Jvm.Free.JP.mathPlain rfl (by decide +kernel)) hisR ?_
  intro p e s m args below meth c s₁ Bd hml0 hP hK
  obtain ⟨rfl, hZ, hh⟩ := hP
  have X0 : Stand p l e ({ frames := 0, cells := 0, slots := 0, locals := 0 } : Room) s m #[(.int v0), (.int v1)] below meth c s₁ [] 0 0 := Stand.of_body Bd
  have e0 : s₁.heap = hE := by rw [← hh, Bd.state]; rfl
  have cx : Cx_Math_max p s m meth c Z a0 := ⟨Bd.exec, hZ, hw, Bd.bytes, hml0, findClass_of_methodNamed Bd.named, Bd.returns, Bd.notSynchronized, (name_of_methodNamed Bd.named Bd.method).1⟩
  show own_Goes p e below s (Q_Math_max Z hE n0 r) ({ frames := 0, cells := 0, slots := 0, locals := 0 } : Room).cells ({ frames := 0, cells := 0, slots := 0, locals := 0 } : Room).slots (s₁.setTop (entryFrame m #[(.int v0), (.int v1)] 2))
  rw [ef_Math_max]
  exact b_Math_max cx X0 e0 (Fr.nil n0) z v0 v1 _ hF
/-! com/example/keyslate/keyslate/card/UInt256.isBelow:([BS[BS)Z -/
def f_UInt256_isBelow_3 : Nat → Int32 → Int32 → Int32 → (List Int32) → (List Int32) → Option (Int32)
  | 0, _, _, _, _, _ => none
  | n + 1, v1, v3, v4, bs_a1, bs_a2 =>
    if v4 < (32 : Int32) then
      own_lt ((v1 + v4).toInt16.toInt32) fun x60 =>
      own_ck (own_inb bs_a1 x60) <|
      own_lt (((own_rd bs_a1 x60) &&& (255 : Int32)).toInt16.toInt32) fun x61 =>
      own_lt ((v3 + v4).toInt16.toInt32) fun x62 =>
      own_ck (own_inb bs_a2 x62) <|
      own_lt (((own_rd bs_a2 x62) &&& (255 : Int32)).toInt16.toInt32) fun x63 =>
      if x61 = x63 then
        own_lt ((v4 + (1 : Int32)).toInt16.toInt32) fun x64 =>
        (f_UInt256_isBelow_3 n) v1 v3 x64 bs_a1 bs_a2
      else
        if x61 < x63 then
          some (1 : Int32)
        else
          some (0 : Int32)
    else
      some (0 : Int32)
def f_UInt256_isBelow (v1 : Int32) (v3 : Int32) (bs_a1 : List Int32) (bs_a2 : List Int32) : Option (Int32) :=
  (f_UInt256_isBelow_3 100 v1 v3 (0 : Int32) bs_a1 bs_a2)
def Q_UInt256_isBelow (Z : State) (hE : Heap) (n0 : Nat) (a1 : Addr) (a2 : Addr) (r : Int32) (v : Option Value) (h : Heap) (L : List Loc) : Prop := v = some (.int r) ∧ Fr n0 L ∧ h = hE
def Cx_UInt256_isBelow (p : Program) (s : State) (m : MethodId) (meth : Method) (c : Code) (Z : State) (a0 : Array Value) : Prop := p.tables.exec = Jvm.exec ∧ Z.Warmed39 s.vm ∧ (∀ d ∈ tables_1, d.before a0 Z = true) ∧ c.code = prog_1_method_2_code ∧ c.maxLocals = 7 ∧ s.vm.findClass "com/example/keyslate/keyslate/card/UInt256" = some m.cls ∧ meth.sig.returnType = some .boolean ∧ meth.locks = false ∧ meth.name = "isBelow"
set_option maxRecDepth 65536 in
set_option maxHeartbeats 4000000 in
theorem b_UInt256_isBelow_3 {p : Program} {l : Launch} {e : Env} {s : State} {m : MethodId} {args : Array Value} {below : List Frame} {meth : Method} {c : Code} {Z : State} {a0 : Array Value} {n0 : Nat} {hE : Heap} (cx : Cx_UInt256_isBelow p s m meth c Z a0) (a1 : Addr) (a2 : Addr) (n : Nat) :
    ∀ {T : State} {locs : List Loc} (X : Stand p l e ({ frames := 0, cells := 0, slots := 0, locals := 0 } : Room) s m args below meth c T locs 0 0) (eT : T.heap = hE) (N : Fr n0 locs) (z : n0 ≤ hE.size) (v1 : Int32) (v3 : Int32) (v4 : Int32) (bs_a1 : List Int32) (bs_a2 : List Int32) (d5 : Slot) (d6 : Slot) (o_d5 : One d5) (o_d6 : One d6) (A_a1 : own_Ar Z hE a1 .byte (bs_a1.map Value.int)) (g_a1 : n0 ≤ a1) (A_a2 : own_Ar Z hE a2 .byte (bs_a2.map Value.int)) (g_a2 : n0 ≤ a2) (ne_a1_a2 : a1 ≠ a2) (r : Int32), f_UInt256_isBelow_3 n v1 v3 v4 bs_a1 bs_a2 = some r → own_Goes p e below s (Q_UInt256_isBelow Z hE n0 a1 a2 r) 0 0 (T.setTop (mkF m 3 #[.val (.ref a1), .val (.int v1), .val (.ref a2), .val (.int v3), .val (.int v4), d5, d6] [])) := by
  have cx' := cx
  obtain ⟨hx, hZ, hw, hby, hml, hown, hret, hlk, hnm⟩ := cx'
  induction n with
  | zero =>
    intro T locs X eT N z v1 v3 v4 bs_a1 bs_a2 d5 d6 o_d5 o_d6 A_a1 g_a1 A_a2 g_a2 ne_a1_a2 r hF
    cases hF
  | succ n ih =>
    intro T locs X eT N z v1 v3 v4 bs_a1 bs_a2 d5 d6 o_d5 o_d6 A_a1 g_a1 A_a2 g_a2 ne_a1_a2 r hF
    rw [f_UInt256_isBelow_3] at hF
    refine own_Goes.via (B := T.setTop (mkF m 7 #[.val (.ref a1), .val (.int v1), .val (.ref a2), .val (.int v3), .val (.int v4), d5, d6] [(.int (32 : Int32)), (.int v4)])) (fun t k => ?_) ?_
    · show Steps p.tables e below (T.setTop (mkF m 3 #[.val (.ref a1), .val (.int v1), .val (.ref a2), .val (.int v3), .val (.int v4), d5, d6] [])) t
      refine XS.iload X.here hx rfl (hb hby dUInt256_isBelow_3) rfl ?_
      show Steps p.tables e below (T.setTop (mkF m 5 #[.val (.ref a1), .val (.int v1), .val (.ref a2), .val (.int v3), .val (.int v4), d5, d6] [(.int v4)])) t
      refine XS.bipush X.here hx rfl (hb hby dUInt256_isBelow_5) ?_
      exact k
    by_cases hc7 : v4 < (32 : Int32)
    · rw [if_pos hc7] at hF
      refine own_Goes.via (B := T.setTop (mkF m 16 #[.val (.ref a1), .val (.int v1), .val (.ref a2), .val (.int v3), .val (.int v4), d5, d6] [(.int ((v1 + v4).toInt16.toInt32)), (.ref a1)])) (fun t k => ?_) ?_
      · show Steps p.tables e below (T.setTop (mkF m 7 #[.val (.ref a1), .val (.int v1), .val (.ref a2), .val (.int v3), .val (.int v4), d5, d6] [(.int (32 : Int32)), (.int v4)])) t
        refine XS.icmpNo X.here hx rfl (hb hby dUInt256_isBelow_7) rfl (tlt hc7).2.1 ?_
        show Steps p.tables e below (T.setTop (mkF m 10 #[.val (.ref a1), .val (.int v1), .val (.ref a2), .val (.int v3), .val (.int v4), d5, d6] [])) t
        refine XS.aloadN X.here hx rfl (hb hby dUInt256_isBelow_10) rfl rfl ?_
        show Steps p.tables e below (T.setTop (mkF m 11 #[.val (.ref a1), .val (.int v1), .val (.ref a2), .val (.int v3), .val (.int v4), d5, d6] [(.ref a1)])) t
        refine XS.iloadN X.here hx rfl (hb hby dUInt256_isBelow_11) rfl ?_
        show Steps p.tables e below (T.setTop (mkF m 12 #[.val (.ref a1), .val (.int v1), .val (.ref a2), .val (.int v3), .val (.int v4), d5, d6] [(.int v1), (.ref a1)])) t
        refine XS.iload X.here hx rfl (hb hby dUInt256_isBelow_12) rfl ?_
        show Steps p.tables e below (T.setTop (mkF m 14 #[.val (.ref a1), .val (.int v1), .val (.ref a2), .val (.int v3), .val (.int v4), d5, d6] [(.int v4), (.int v1), (.ref a1)])) t
        refine XS.iadd X.here hx rfl (hb hby dUInt256_isBelow_14) rfl ?_
        show Steps p.tables e below (T.setTop (mkF m 15 #[.val (.ref a1), .val (.int v1), .val (.ref a2), .val (.int v3), .val (.int v4), d5, d6] [(.int (v1 + v4)), (.ref a1)])) t
        refine XS.i2s X.here hx rfl (hb hby dUInt256_isBelow_15) rfl ?_
        exact k
      obtain ⟨x60, hx60, hF⟩ := own_lt_e hF
      rw [← hx60]
      obtain ⟨hi16, hF⟩ := own_ck_e hF
      refine own_Goes.via (B := T.setTop (mkF m 22 #[.val (.ref a1), .val (.int v1), .val (.ref a2), .val (.int v3), .val (.int v4), d5, d6] [(.int (((own_rd bs_a1 x60) &&& (255 : Int32)).toInt16.toInt32))])) (fun t k => ?_) ?_
      · show Steps p.tables e below (T.setTop (mkF m 16 #[.val (.ref a1), .val (.int v1), .val (.ref a2), .val (.int v3), .val (.int v4), d5, d6] [(.int x60), (.ref a1)])) t
        refine own_ldB X hx hZ eT A_a1 hi16 rfl (g := (mkF m 16 #[.val (.ref a1), .val (.int v1), .val (.ref a2), .val (.int v3), .val (.int v4), d5, d6] [(.int x60), (.ref a1)])) rfl rfl (hb hby dUInt256_isBelow_16) ?_
        show Steps p.tables e below (T.setTop (mkF m 17 #[.val (.ref a1), .val (.int v1), .val (.ref a2), .val (.int v3), .val (.int v4), d5, d6] [(.int (own_rd bs_a1 x60))])) t
        refine XS.sipush X.here hx rfl (hb hby dUInt256_isBelow_17) ?_
        show Steps p.tables e below (T.setTop (mkF m 20 #[.val (.ref a1), .val (.int v1), .val (.ref a2), .val (.int v3), .val (.int v4), d5, d6] [(.int (255 : Int32)), (.int (own_rd bs_a1 x60))])) t
        refine XS.iand X.here hx rfl (hb hby dUInt256_isBelow_20) rfl ?_
        show Steps p.tables e below (T.setTop (mkF m 21 #[.val (.ref a1), .val (.int v1), .val (.ref a2), .val (.int v3), .val (.int v4), d5, d6] [(.int ((own_rd bs_a1 x60) &&& (255 : Int32)))])) t
        refine XS.i2s X.here hx rfl (hb hby dUInt256_isBelow_21) rfl ?_
        exact k
      obtain ⟨x61, hx61, hF⟩ := own_lt_e hF
      rw [← hx61]
      refine own_Goes.via (B := T.setTop (mkF m 30 #[.val (.ref a1), .val (.int v1), .val (.ref a2), .val (.int v3), .val (.int v4), .val (.int x61), d6] [(.int ((v3 + v4).toInt16.toInt32)), (.ref a2)])) (fun t k => ?_) ?_
      · show Steps p.tables e below (T.setTop (mkF m 22 #[.val (.ref a1), .val (.int v1), .val (.ref a2), .val (.int v3), .val (.int v4), d5, d6] [(.int x61)])) t
        refine XS.istoreS X.here hx rfl (hb hby dUInt256_isBelow_22) rfl rfl o_d5 ?_
        show Steps p.tables e below (T.setTop (mkF m 24 #[.val (.ref a1), .val (.int v1), .val (.ref a2), .val (.int v3), .val (.int v4), .val (.int x61), d6] [])) t
        refine XS.aloadN X.here hx rfl (hb hby dUInt256_isBelow_24) rfl rfl ?_
        show Steps p.tables e below (T.setTop (mkF m 25 #[.val (.ref a1), .val (.int v1), .val (.ref a2), .val (.int v3), .val (.int v4), .val (.int x61), d6] [(.ref a2)])) t
        refine XS.iloadN X.here hx rfl (hb hby dUInt256_isBelow_25) rfl ?_
        show Steps p.tables e below (T.setTop (mkF m 26 #[.val (.ref a1), .val (.int v1), .val (.ref a2), .val (.int v3), .val (.int v4), .val (.int x61), d6] [(.int v3), (.ref a2)])) t
        refine XS.iload X.here hx rfl (hb hby dUInt256_isBelow_26) rfl ?_
        show Steps p.tables e below (T.setTop (mkF m 28 #[.val (.ref a1), .val (.int v1), .val (.ref a2), .val (.int v3), .val (.int v4), .val (.int x61), d6] [(.int v4), (.int v3), (.ref a2)])) t
        refine XS.iadd X.here hx rfl (hb hby dUInt256_isBelow_28) rfl ?_
        show Steps p.tables e below (T.setTop (mkF m 29 #[.val (.ref a1), .val (.int v1), .val (.ref a2), .val (.int v3), .val (.int v4), .val (.int x61), d6] [(.int (v3 + v4)), (.ref a2)])) t
        refine XS.i2s X.here hx rfl (hb hby dUInt256_isBelow_29) rfl ?_
        exact k
      obtain ⟨x62, hx62, hF⟩ := own_lt_e hF
      rw [← hx62]
      obtain ⟨hi30, hF⟩ := own_ck_e hF
      refine own_Goes.via (B := T.setTop (mkF m 36 #[.val (.ref a1), .val (.int v1), .val (.ref a2), .val (.int v3), .val (.int v4), .val (.int x61), d6] [(.int (((own_rd bs_a2 x62) &&& (255 : Int32)).toInt16.toInt32))])) (fun t k => ?_) ?_
      · show Steps p.tables e below (T.setTop (mkF m 30 #[.val (.ref a1), .val (.int v1), .val (.ref a2), .val (.int v3), .val (.int v4), .val (.int x61), d6] [(.int x62), (.ref a2)])) t
        refine own_ldB X hx hZ eT A_a2 hi30 rfl (g := (mkF m 30 #[.val (.ref a1), .val (.int v1), .val (.ref a2), .val (.int v3), .val (.int v4), .val (.int x61), d6] [(.int x62), (.ref a2)])) rfl rfl (hb hby dUInt256_isBelow_30) ?_
        show Steps p.tables e below (T.setTop (mkF m 31 #[.val (.ref a1), .val (.int v1), .val (.ref a2), .val (.int v3), .val (.int v4), .val (.int x61), d6] [(.int (own_rd bs_a2 x62))])) t
        refine XS.sipush X.here hx rfl (hb hby dUInt256_isBelow_31) ?_
        show Steps p.tables e below (T.setTop (mkF m 34 #[.val (.ref a1), .val (.int v1), .val (.ref a2), .val (.int v3), .val (.int v4), .val (.int x61), d6] [(.int (255 : Int32)), (.int (own_rd bs_a2 x62))])) t
        refine XS.iand X.here hx rfl (hb hby dUInt256_isBelow_34) rfl ?_
        show Steps p.tables e below (T.setTop (mkF m 35 #[.val (.ref a1), .val (.int v1), .val (.ref a2), .val (.int v3), .val (.int v4), .val (.int x61), d6] [(.int ((own_rd bs_a2 x62) &&& (255 : Int32)))])) t
        refine XS.i2s X.here hx rfl (hb hby dUInt256_isBelow_35) rfl ?_
        exact k
      obtain ⟨x63, hx63, hF⟩ := own_lt_e hF
      rw [← hx63]
      refine own_Goes.via (B := T.setTop (mkF m 42 #[.val (.ref a1), .val (.int v1), .val (.ref a2), .val (.int v3), .val (.int v4), .val (.int x61), .val (.int x63)] [(.int x63), (.int x61)])) (fun t k => ?_) ?_
      · show Steps p.tables e below (T.setTop (mkF m 36 #[.val (.ref a1), .val (.int v1), .val (.ref a2), .val (.int v3), .val (.int v4), .val (.int x61), d6] [(.int x63)])) t
        refine XS.istoreS X.here hx rfl (hb hby dUInt256_isBelow_36) rfl rfl o_d6 ?_
        show Steps p.tables e below (T.setTop (mkF m 38 #[.val (.ref a1), .val (.int v1), .val (.ref a2), .val (.int v3), .val (.int v4), .val (.int x61), .val (.int x63)] [])) t
        refine XS.iload X.here hx rfl (hb hby dUInt256_isBelow_38) rfl ?_
        show Steps p.tables e below (T.setTop (mkF m 40 #[.val (.ref a1), .val (.int v1), .val (.ref a2), .val (.int v3), .val (.int v4), .val (.int x61), .val (.int x63)] [(.int x61)])) t
        refine XS.iload X.here hx rfl (hb hby dUInt256_isBelow_40) rfl ?_
        exact k
      by_cases hc42 : x61 = x63
      · rw [if_pos hc42] at hF
        refine own_Goes.via (B := T.setTop (mkF m 63 #[.val (.ref a1), .val (.int v1), .val (.ref a2), .val (.int v3), .val (.int v4), .val (.int x61), .val (.int x63)] [(.int ((v4 + (1 : Int32)).toInt16.toInt32))])) (fun t k => ?_) ?_
        · show Steps p.tables e below (T.setTop (mkF m 42 #[.val (.ref a1), .val (.int v1), .val (.ref a2), .val (.int v3), .val (.int v4), .val (.int x61), .val (.int x63)] [(.int x63), (.int x61)])) t
          refine XS.icmpYes X.here hx rfl (pc0 := 42) (pc' := 58) rfl (hb hby dUInt256_isBelow_42) rfl (teq hc42).1 (by decide) (by decide) ?_
          show Steps p.tables e below (T.setTop (mkF m 58 #[.val (.ref a1), .val (.int v1), .val (.ref a2), .val (.int v3), .val (.int v4), .val (.int x61), .val (.int x63)] [])) t
          refine XS.iload X.here hx rfl (hb hby dUInt256_isBelow_58) rfl ?_
          show Steps p.tables e below (T.setTop (mkF m 60 #[.val (.ref a1), .val (.int v1), .val (.ref a2), .val (.int v3), .val (.int v4), .val (.int x61), .val (.int x63)] [(.int v4)])) t
          refine XS.iconst X.here hx rfl (hb hby dUInt256_isBelow_60) ?_
          show Steps p.tables e below (T.setTop (mkF m 61 #[.val (.ref a1), .val (.int v1), .val (.ref a2), .val (.int v3), .val (.int v4), .val (.int x61), .val (.int x63)] [(.int (1 : Int32)), (.int v4)])) t
          refine XS.iadd X.here hx rfl (hb hby dUInt256_isBelow_61) rfl ?_
          show Steps p.tables e below (T.setTop (mkF m 62 #[.val (.ref a1), .val (.int v1), .val (.ref a2), .val (.int v3), .val (.int v4), .val (.int x61), .val (.int x63)] [(.int (v4 + (1 : Int32)))])) t
          refine XS.i2s X.here hx rfl (hb hby dUInt256_isBelow_62) rfl ?_
          exact k
        obtain ⟨x64, hx64, hF⟩ := own_lt_e hF
        rw [← hx64]
        refine own_Goes.via (B := T.setTop (mkF m 3 #[.val (.ref a1), .val (.int v1), .val (.ref a2), .val (.int v3), .val (.int x64), .val (.int x61), .val (.int x63)] [])) (fun t k => ?_) ?_
        · show Steps p.tables e below (T.setTop (mkF m 63 #[.val (.ref a1), .val (.int v1), .val (.ref a2), .val (.int v3), .val (.int v4), .val (.int x61), .val (.int x63)] [(.int x64)])) t
          refine XS.istore X.here hx rfl (hb hby dUInt256_isBelow_63) rfl (l' := #[.val (.ref a1), .val (.int v1), .val (.ref a2), .val (.int v3), .val (.int x64), .val (.int x61), .val (.int x63)]) rfl ?_
          show Steps p.tables e below (T.setTop (mkF m 65 #[.val (.ref a1), .val (.int v1), .val (.ref a2), .val (.int v3), .val (.int x64), .val (.int x61), .val (.int x63)] [])) t
          refine XS.goto X.here hx rfl (pc0 := 65) (pc' := 3) rfl (hb hby dUInt256_isBelow_65) (by decide) (by decide) ?_
          exact k
        exact ih X eT N z v1 v3 x64 bs_a1 bs_a2 (.val (.int x61)) (.val (.int x63)) (One.val rfl) (One.val rfl) A_a1 g_a1 A_a2 g_a2 ne_a1_a2 _ hF
      · rw [if_neg hc42] at hF
        refine own_Goes.via (B := T.setTop (mkF m 49 #[.val (.ref a1), .val (.int v1), .val (.ref a2), .val (.int v3), .val (.int v4), .val (.int x61), .val (.int x63)] [(.int x63), (.int x61)])) (fun t k => ?_) ?_
        · show Steps p.tables e below (T.setTop (mkF m 42 #[.val (.ref a1), .val (.int v1), .val (.ref a2), .val (.int v3), .val (.int v4), .val (.int x61), .val (.int x63)] [(.int x63), (.int x61)])) t
          refine XS.icmpNo X.here hx rfl (hb hby dUInt256_isBelow_42) rfl (feq hc42).1 ?_
          show Steps p.tables e below (T.setTop (mkF m 45 #[.val (.ref a1), .val (.int v1), .val (.ref a2), .val (.int v3), .val (.int v4), .val (.int x61), .val (.int x63)] [])) t
          refine XS.iload X.here hx rfl (hb hby dUInt256_isBelow_45) rfl ?_
          show Steps p.tables e below (T.setTop (mkF m 47 #[.val (.ref a1), .val (.int v1), .val (.ref a2), .val (.int v3), .val (.int v4), .val (.int x61), .val (.int x63)] [(.int x61)])) t
          refine XS.iload X.here hx rfl (hb hby dUInt256_isBelow_47) rfl ?_
          exact k
        by_cases hc49 : x61 < x63
        · rw [if_pos hc49] at hF
          refine own_Goes.via (B := T.setTop (mkF m 57 #[.val (.ref a1), .val (.int v1), .val (.ref a2), .val (.int v3), .val (.int v4), .val (.int x61), .val (.int x63)] [(.int (1 : Int32))])) (fun t k => ?_) ?_
          · show Steps p.tables e below (T.setTop (mkF m 49 #[.val (.ref a1), .val (.int v1), .val (.ref a2), .val (.int v3), .val (.int v4), .val (.int x61), .val (.int x63)] [(.int x63), (.int x61)])) t
            refine XS.icmpNo X.here hx rfl (hb hby dUInt256_isBelow_49) rfl (tlt hc49).2.1 ?_
            show Steps p.tables e below (T.setTop (mkF m 52 #[.val (.ref a1), .val (.int v1), .val (.ref a2), .val (.int v3), .val (.int v4), .val (.int x61), .val (.int x63)] [])) t
            refine XS.iconst X.here hx rfl (hb hby dUInt256_isBelow_52) ?_
            show Steps p.tables e below (T.setTop (mkF m 53 #[.val (.ref a1), .val (.int v1), .val (.ref a2), .val (.int v3), .val (.int v4), .val (.int x61), .val (.int x63)] [(.int (1 : Int32))])) t
            refine XS.goto X.here hx rfl (pc0 := 53) (pc' := 57) rfl (hb hby dUInt256_isBelow_53) (by decide) (by decide) ?_
            exact k
          obtain rfl : (1 : Int32) = r := Option.some.inj hF
          exact own_retN X hx (t := .boolean) hret hlk (by simp) (hb hby dUInt256_isBelow_57) eT (v := (1 : Int32)) (by decide) ⟨rfl, N, rfl⟩ (by decide) (by decide)
        · rw [if_neg hc49] at hF
          refine own_Goes.via (B := T.setTop (mkF m 57 #[.val (.ref a1), .val (.int v1), .val (.ref a2), .val (.int v3), .val (.int v4), .val (.int x61), .val (.int x63)] [(.int (0 : Int32))])) (fun t k => ?_) ?_
          · show Steps p.tables e below (T.setTop (mkF m 49 #[.val (.ref a1), .val (.int v1), .val (.ref a2), .val (.int v3), .val (.int v4), .val (.int x61), .val (.int x63)] [(.int x63), (.int x61)])) t
            refine XS.icmpYes X.here hx rfl (pc0 := 49) (pc' := 56) rfl (hb hby dUInt256_isBelow_49) rfl (flt hc49).2.1 (by decide) (by decide) ?_
            show Steps p.tables e below (T.setTop (mkF m 56 #[.val (.ref a1), .val (.int v1), .val (.ref a2), .val (.int v3), .val (.int v4), .val (.int x61), .val (.int x63)] [])) t
            refine XS.iconst X.here hx rfl (hb hby dUInt256_isBelow_56) ?_
            exact k
          obtain rfl : (0 : Int32) = r := Option.some.inj hF
          exact own_retN X hx (t := .boolean) hret hlk (by simp) (hb hby dUInt256_isBelow_57) eT (v := (0 : Int32)) (by decide) ⟨rfl, N, rfl⟩ (by decide) (by decide)
    · rw [if_neg hc7] at hF
      refine own_Goes.via (B := T.setTop (mkF m 69 #[.val (.ref a1), .val (.int v1), .val (.ref a2), .val (.int v3), .val (.int v4), d5, d6] [(.int (0 : Int32))])) (fun t k => ?_) ?_
      · show Steps p.tables e below (T.setTop (mkF m 7 #[.val (.ref a1), .val (.int v1), .val (.ref a2), .val (.int v3), .val (.int v4), d5, d6] [(.int (32 : Int32)), (.int v4)])) t
        refine XS.icmpYes X.here hx rfl (pc0 := 7) (pc' := 68) rfl (hb hby dUInt256_isBelow_7) rfl (flt hc7).2.1 (by decide) (by decide) ?_
        show Steps p.tables e below (T.setTop (mkF m 68 #[.val (.ref a1), .val (.int v1), .val (.ref a2), .val (.int v3), .val (.int v4), d5, d6] [])) t
        refine XS.iconst X.here hx rfl (hb hby dUInt256_isBelow_68) ?_
        exact k
      obtain rfl : (0 : Int32) = r := Option.some.inj hF
      exact own_retN X hx (t := .boolean) hret hlk (by simp) (hb hby dUInt256_isBelow_69) eT (v := (0 : Int32)) (by decide) ⟨rfl, N, rfl⟩ (by decide) (by decide)
set_option maxRecDepth 65536 in
set_option maxHeartbeats 4000000 in
theorem b_UInt256_isBelow {p : Program} {l : Launch} {e : Env} {s : State} {m : MethodId} {args : Array Value} {below : List Frame} {meth : Method} {c : Code} {Z : State} {a0 : Array Value} {n0 : Nat} {hE : Heap} (cx : Cx_UInt256_isBelow p s m meth c Z a0) (a1 : Addr) (a2 : Addr) :
    ∀ {T : State} {locs : List Loc} (X : Stand p l e ({ frames := 0, cells := 0, slots := 0, locals := 0 } : Room) s m args below meth c T locs 0 0) (eT : T.heap = hE) (N : Fr n0 locs) (z : n0 ≤ hE.size) (v1 : Int32) (v3 : Int32) (bs_a1 : List Int32) (bs_a2 : List Int32) (A_a1 : own_Ar Z hE a1 .byte (bs_a1.map Value.int)) (g_a1 : n0 ≤ a1) (A_a2 : own_Ar Z hE a2 .byte (bs_a2.map Value.int)) (g_a2 : n0 ≤ a2) (ne_a1_a2 : a1 ≠ a2) (r : Int32), f_UInt256_isBelow v1 v3 bs_a1 bs_a2 = some r → own_Goes p e below s (Q_UInt256_isBelow Z hE n0 a1 a2 r) 0 0 (T.setTop (mkF m 0 #[.val (.ref a1), .val (.int v1), .val (.ref a2), .val (.int v3), .unset, .unset, .unset] [])) := by
  have cx' := cx
  obtain ⟨hx, hZ, hw, hby, hml, hown, hret, hlk, hnm⟩ := cx'
  intro T locs X eT N z v1 v3 bs_a1 bs_a2 A_a1 g_a1 A_a2 g_a2 ne_a1_a2 r hF
  unfold f_UInt256_isBelow at hF
  refine own_Goes.via (B := T.setTop (mkF m 3 #[.val (.ref a1), .val (.int v1), .val (.ref a2), .val (.int v3), .val (.int (0 : Int32)), .unset, .unset] [])) (fun t k => ?_) ?_
  · show Steps p.tables e below (T.setTop (mkF m 0 #[.val (.ref a1), .val (.int v1), .val (.ref a2), .val (.int v3), .unset, .unset, .unset] [])) t
    refine XS.iconst X.here hx rfl (hb hby dUInt256_isBelow_0) ?_
    show Steps p.tables e below (T.setTop (mkF m 1 #[.val (.ref a1), .val (.int v1), .val (.ref a2), .val (.int v3), .unset, .unset, .unset] [(.int (0 : Int32))])) t
    refine XS.istore X.here hx rfl (hb hby dUInt256_isBelow_1) rfl (l' := #[.val (.ref a1), .val (.int v1), .val (.ref a2), .val (.int v3), .val (.int (0 : Int32)), .unset, .unset]) rfl ?_
    exact k
  exact b_UInt256_isBelow_3 cx a1 a2 _ X eT N z v1 v3 (0 : Int32) bs_a1 bs_a2 (.unset) (.unset) One.u One.u A_a1 g_a1 A_a2 g_a2 ne_a1_a2 _ hF
theorem ef_UInt256_isBelow (m : MethodId) (x0 : Addr) (x1 : Int32) (x2 : Addr) (x3 : Int32) : entryFrame m #[(.ref x0), (.int x1), (.ref x2), (.int x3)] 7 = mkF m 0 #[.val (.ref x0), .val (.int x1), .val (.ref x2), .val (.int x3), .unset, .unset, .unset] [] := by first | (simp [entryFrame, mkF, argsToLocals, Value.category]; done) | rfl
set_option maxRecDepth 65536 in
set_option maxHeartbeats 4000000 in
theorem rm_UInt256_isBelow (l : Launch) (Z : State) (a0 : Array Value) (hw : ∀ d ∈ tables_1, d.before a0 Z = true) (ws : List Jvm.Cond) (hE : Heap) (n0 : Nat) (z : n0 ≤ hE.size) (a1 : Addr) (a2 : Addr) (v1 : Int32) (v3 : Int32) (bs_a1 : List Int32) (bs_a2 : List Int32) (A_a1 : own_Ar Z hE a1 .byte (bs_a1.map Value.int)) (g_a1 : n0 ≤ a1) (A_a2 : own_Ar Z hE a2 .byte (bs_a2.map Value.int)) (g_a2 : n0 ≤ a2) (ne_a1_a2 : a1 ≠ a2) (r : Int32) (hF : (f_UInt256_isBelow v1 v3 bs_a1 bs_a2) = some r) :
    MetFree l (⟨"com/example/keyslate/keyslate/card/UInt256", "isBelow", "([BS[BS)Z"⟩ : MethodName) (head1 (Jvm.Cond.code (⟨"com/example/keyslate/keyslate/card/UInt256", "isBelow", "([BS[BS)Z"⟩ : MethodName) prog_1_method_2_code 7 (some .boolean) :: ws) ({ frames := 0, cells := 0, slots := 0, locals := 0 } : Room)) (fun a U => a = #[(.ref a1), (.int v1), (.ref a2), (.int v3)] ∧ Z.Warmed39 U.vm ∧ U.heap = hE) (fun _ _ _ _ _ => True) (fun _ U o U' => ∃ v L, o = .returned v ∧ (Q_UInt256_isBelow Z hE n0 a1 a2 r) v U'.heap L ∧ FrameEnd U o U' L ({ frames := 0, cells := 0, slots := 0, locals := 0 } : Room).cells ({ frames := 0, cells := 0, slots := 0, locals := 0 } : Room).slots) := by
  refine MetFree.of_bodySF (plainFor_of_name pn_com_example_keyslate_keyslate_card_UInt256) hisR ?_
  intro p e s m args below meth c s₁ Bd hml0 hP hK
  obtain ⟨rfl, hZ, hh⟩ := hP
  have X0 : Stand p l e ({ frames := 0, cells := 0, slots := 0, locals := 0 } : Room) s m #[(.ref a1), (.int v1), (.ref a2), (.int v3)] below meth c s₁ [] 0 0 := Stand.of_body Bd
  have e0 : s₁.heap = hE := by rw [← hh, Bd.state]; rfl
  have cx : Cx_UInt256_isBelow p s m meth c Z a0 := ⟨Bd.exec, hZ, hw, Bd.bytes, hml0, findClass_of_methodNamed Bd.named, Bd.returns, Bd.notSynchronized, (name_of_methodNamed Bd.named Bd.method).1⟩
  show own_Goes p e below s (Q_UInt256_isBelow Z hE n0 a1 a2 r) ({ frames := 0, cells := 0, slots := 0, locals := 0 } : Room).cells ({ frames := 0, cells := 0, slots := 0, locals := 0 } : Room).slots (s₁.setTop (entryFrame m #[(.ref a1), (.int v1), (.ref a2), (.int v3)] 7))
  rw [ef_UInt256_isBelow]
  exact b_UInt256_isBelow cx a1 a2 X0 e0 (Fr.nil n0) z v1 v3 bs_a1 bs_a2 A_a1 g_a1 A_a2 g_a2 ne_a1_a2 _ hF
/-! com/example/keyslate/keyslate/card/UInt256IsBelowPinLaw.law:(JIIIII)Z -/
def f_law_323 (v9 : Int32) (v10 : Int32) (v19 : Int32) (bs_b1 : List Int32) (bs_b2 : List Int32) : Option (Int32) :=
  own_lt (v10.toInt16.toInt32) fun x168 =>
  own_lt (v9.toInt16.toInt32) fun x169 =>
  own_bd (f_UInt256_isBelow x169 x168 bs_b1 bs_b2) fun r170 =>
  if r170 = v19 then
    some (1 : Int32)
  else
    some (0 : Int32)
def f_law_263 (v9 : Int32) (v10 : Int32) (v13 : Int32) (v14 : Int32) (v15 : Int32) (v16 : Int32) (v17 : Int32) (t0 : Int32) (bs_b1 : List Int32) (bs_b2 : List Int32) : Option (Int32) :=
  if v15 = v16 then
    if v14 = v13 then
      (f_law_323 v9 v10 (0 : Int32) bs_b1 bs_b2)
    else
      if v17 = t0 then
        (f_law_323 v9 v10 (0 : Int32) bs_b1 bs_b2)
      else
        if v17 < t0 then
          (f_law_323 v9 v10 (1 : Int32) bs_b1 bs_b2)
        else
          (f_law_323 v9 v10 (0 : Int32) bs_b1 bs_b2)
  else
    if v15 < v16 then
      (f_law_323 v9 v10 (1 : Int32) bs_b1 bs_b2)
    else
      (f_law_323 v9 v10 (0 : Int32) bs_b1 bs_b2)
def f_law_217 (v2 : Int32) (v3 : Int32) (v4 : Int32) (v5 : Int32) (v7 : Int32) (v9 : Int32) (v10 : Int32) (v13 : Int32) (v14 : Int32) (v15 : Int32) (t0 : Int32) (bs_b1 : List Int32) (bs_b2 : List Int32) : Option (Int32) :=
  if v14 = v7 then
    own_lt (v2 &&& (255 : Int32)) fun x172 =>
    if v14 = v7 then
      (f_law_263 v9 v10 v13 v14 v15 t0 x172 (v3 &&& (255 : Int32)) bs_b1 bs_b2)
    else
      (f_law_263 v9 v10 v13 v14 v15 t0 x172 (v5 &&& (255 : Int32)) bs_b1 bs_b2)
  else
    own_lt (v4 &&& (255 : Int32)) fun x173 =>
    if v14 = v7 then
      (f_law_263 v9 v10 v13 v14 v15 t0 x173 (v3 &&& (255 : Int32)) bs_b1 bs_b2)
    else
      (f_law_263 v9 v10 v13 v14 v15 t0 x173 (v5 &&& (255 : Int32)) bs_b1 bs_b2)
def f_law_113 (v2 : Int32) (v3 : Int32) (v4 : Int32) (v5 : Int32) (v7 : Int32) (v8 : Int32) (v9 : Int32) (v10 : Int32) (bs_b1 : List Int32) (bs_b2 : List Int32) : Option (Int32) :=
  own_lt (v4.toInt8.toInt32) fun x175 =>
  own_lt (v9 + v8) fun x176 =>
  own_ck (own_inb bs_b1 x176) <|
  own_lt (own_wr bs_b1 x176 (x175.toInt8.toInt32)) fun bs178 =>
  own_lt (v5.toInt8.toInt32) fun x179 =>
  own_lt (v10 + v8) fun x180 =>
  own_ck (own_inb bs_b2 x180) <|
  own_lt (own_wr bs_b2 x180 (x179.toInt8.toInt32)) fun bs182 =>
  own_lt (v2.toInt8.toInt32) fun x183 =>
  own_lt (v9 + v7) fun x184 =>
  own_ck (own_inb bs178 x184) <|
  own_lt (own_wr bs178 x184 (x183.toInt8.toInt32)) fun bs186 =>
  own_lt (v3.toInt8.toInt32) fun x187 =>
  own_lt (v10 + v7) fun x188 =>
  own_ck (own_inb bs182 x188) <|
  own_lt (own_wr bs182 x188 (x187.toInt8.toInt32)) fun bs190 =>
  own_bd (f_Math_min v7 v8) fun r191 =>
  own_bd (f_Math_max v7 v8) fun r192 =>
  if r191 = v7 then
    own_lt (v2 &&& (255 : Int32)) fun x193 =>
    if r191 = v7 then
      (f_law_217 v2 v3 v4 v5 v7 v9 v10 r191 r192 x193 (v3 &&& (255 : Int32)) bs186 bs190)
    else
      (f_law_217 v2 v3 v4 v5 v7 v9 v10 r191 r192 x193 (v5 &&& (255 : Int32)) bs186 bs190)
  else
    own_lt (v4 &&& (255 : Int32)) fun x194 =>
    if r191 = v7 then
      (f_law_217 v2 v3 v4 v5 v7 v9 v10 r191 r192 x194 (v3 &&& (255 : Int32)) bs186 bs190)
    else
      (f_law_217 v2 v3 v4 v5 v7 v9 v10 r191 r192 x194 (v5 &&& (255 : Int32)) bs186 bs190)
def f_law (v0 : Int64) (v2 : Int32) (v3 : Int32) (v4 : Int32) (v5 : Int32) (v6 : Int32) : Option (Int32) :=
  own_lt ((v0 &&& (31 : Int64)).toInt32) fun x199 =>
  own_lt ((((v0.toUInt64 >>> ((5 : Int32) &&& 0x3f).toInt64.toUInt64).toInt64) &&& (31 : Int64)).toInt32) fun x200 =>
  own_lt ((((v0.toUInt64 >>> ((10 : Int32) &&& 0x3f).toInt64.toUInt64).toInt64) &&& (7 : Int64)).toInt32) fun x201 =>
  own_lt ((((v0.toUInt64 >>> ((13 : Int32) &&& 0x3f).toInt64.toUInt64).toInt64) &&& (7 : Int64)).toInt32) fun x202 =>
  own_lt (v6.toInt8.toInt32) fun x205 =>
  own_lt (x201 + (32 : Int32)) fun x206 =>
  own_ck (own_inb (List.replicate 41 (0 : Int32)) x206) <|
  own_lt (own_wr (List.replicate 41 (0 : Int32)) x206 (x205.toInt8.toInt32)) fun bs208 =>
  own_lt ((v6 >>> ((8 : Int32) &&& 31)).toInt8.toInt32) fun x209 =>
  own_lt (x202 + (32 : Int32)) fun x210 =>
  own_ck (own_inb (List.replicate 41 (0 : Int32)) x210) <|
  own_lt (own_wr (List.replicate 41 (0 : Int32)) x210 (x209.toInt8.toInt32)) fun bs212 =>
  if (0 : Int32) < x201 then
    own_lt ((v6 >>> ((16 : Int32) &&& 31)).toInt8.toInt32) fun x213 =>
    own_lt (x201 - (1 : Int32)) fun x214 =>
    own_ck (own_inb bs208 x214) <|
    own_lt (own_wr bs208 x214 (x213.toInt8.toInt32)) fun bs216 =>
    if (0 : Int32) < x202 then
      own_lt ((v6 >>> ((24 : Int32) &&& 31)).toInt8.toInt32) fun x217 =>
      own_lt (x202 - (1 : Int32)) fun x218 =>
      own_ck (own_inb bs212 x218) <|
      own_lt (own_wr bs212 x218 (x217.toInt8.toInt32)) fun bs220 =>
      (f_law_113 v2 v3 v4 v5 x199 x200 x201 x202 bs216 bs220)
    else
      (f_law_113 v2 v3 v4 v5 x199 x200 x201 x202 bs216 bs212)
  else
    if (0 : Int32) < x202 then
      own_lt ((v6 >>> ((24 : Int32) &&& 31)).toInt8.toInt32) fun x221 =>
      own_lt (x202 - (1 : Int32)) fun x222 =>
      own_ck (own_inb bs212 x222) <|
      own_lt (own_wr bs212 x222 (x221.toInt8.toInt32)) fun bs224 =>
      (f_law_113 v2 v3 v4 v5 x199 x200 x201 x202 bs208 bs224)
    else
      (f_law_113 v2 v3 v4 v5 x199 x200 x201 x202 bs208 bs212)
def Q_law (Z : State) (hE : Heap) (n0 : Nat)  (r : Int32) (v : Option Value) (h : Heap) (L : List Loc) : Prop := v = some (.int r) ∧ Fr n0 L ∧ Keep hE h []
def Cx_law (p : Program) (s : State) (m : MethodId) (meth : Method) (c : Code) (Z : State) (a0 : Array Value) : Prop := p.tables.exec = Jvm.exec ∧ Z.Warmed39 s.vm ∧ (∀ d ∈ tables_1, d.before a0 Z = true) ∧ c.code = code ∧ c.maxLocals = 21 ∧ s.vm.findClass "com/example/keyslate/keyslate/card/UInt256IsBelowPinLaw" = some m.cls ∧ meth.sig.returnType = some .boolean ∧ meth.locks = false ∧ meth.name = "law"
set_option maxRecDepth 65536 in
set_option maxHeartbeats 4000000 in
theorem b_law_323 {p : Program} {l : Launch} {e : Env} {s : State} {m : MethodId} {args : Array Value} {below : List Frame} {meth : Method} {c : Code} {Z : State} {a0 : Array Value} {n0 : Nat} {hE : Heap} (cx : Cx_law p s m meth c Z a0) :
    ∀ {T : State} {locs : List Loc} {h : Heap} (X : Stand p l e room_1 s m args below meth c T locs 2 82) (eT : T.heap = h) (N : Fr n0 locs) (K : Keep hE h []) (z : n0 ≤ h.size) (b1 : Addr) (b2 : Addr) (v9 : Int32) (v10 : Int32) (v19 : Int32) (bs_b1 : List Int32) (bs_b2 : List Int32) (v0 : Int64) (d2 : Slot) (d3 : Slot) (d4 : Slot) (d5 : Slot) (d6 : Slot) (d7 : Slot) (d8 : Slot) (d13 : Slot) (d14 : Slot) (d15 : Slot) (d16 : Slot) (d17 : Slot) (d18 : Slot) (d20 : Slot) (o_d2 : One d2) (o_d3 : One d3) (o_d4 : One d4) (o_d5 : One d5) (o_d6 : One d6) (o_d7 : One d7) (o_d8 : One d8) (o_d13 : One d13) (o_d14 : One d14) (o_d15 : One d15) (o_d16 : One d16) (o_d17 : One d17) (o_d18 : One d18) (o_d20 : One d20) (A_b1 : own_Ar Z h b1 .byte (bs_b1.map Value.int)) (g_b1 : n0 ≤ b1) (nE_b1 : hE.size ≤ b1) (A_b2 : own_Ar Z h b2 .byte (bs_b2.map Value.int)) (g_b2 : n0 ≤ b2) (nE_b2 : hE.size ≤ b2) (ne_b1_b2 : b1 ≠ b2) (r : Int32), f_law_323 v9 v10 v19 bs_b1 bs_b2 = some r → own_Goes p e below s (Q_law Z hE n0 r) 2 82 (T.setTop (mkF m 323 #[.val (.long v0), .second, d2, d3, d4, d5, d6, d7, d8, .val (.int v9), .val (.int v10), .val (.ref b1), .val (.ref b2), d13, d14, d15, d16, d17, d18, .val (.int v19), d20] [])) := by
  have cx' := cx
  obtain ⟨hx, hZ, hw, hby, hml, hown, hret, hlk, hnm⟩ := cx'
  intro T locs h X eT N K z b1 b2 v9 v10 v19 bs_b1 bs_b2 v0 d2 d3 d4 d5 d6 d7 d8 d13 d14 d15 d16 d17 d18 d20 o_d2 o_d3 o_d4 o_d5 o_d6 o_d7 o_d8 o_d13 o_d14 o_d15 o_d16 o_d17 o_d18 o_d20 A_b1 g_b1 nE_b1 A_b2 g_b2 nE_b2 ne_b1_b2 r hF
  unfold f_law_323 at hF
  refine own_Goes.via (B := T.setTop (mkF m 333 #[.val (.long v0), .second, d2, d3, d4, d5, d6, d7, d8, .val (.int v9), .val (.int v10), .val (.ref b1), .val (.ref b2), d13, d14, d15, d16, d17, d18, .val (.int v19), d20] [(.int (v10.toInt16.toInt32)), (.ref b2), (.int (v9.toInt16.toInt32)), (.ref b1)])) (fun t k => ?_) ?_
  · show Steps p.tables e below (T.setTop (mkF m 323 #[.val (.long v0), .second, d2, d3, d4, d5, d6, d7, d8, .val (.int v9), .val (.int v10), .val (.ref b1), .val (.ref b2), d13, d14, d15, d16, d17, d18, .val (.int v19), d20] [])) t
    refine XS.aload X.here hx rfl (hb hby at_323) rfl rfl ?_
    show Steps p.tables e below (T.setTop (mkF m 325 #[.val (.long v0), .second, d2, d3, d4, d5, d6, d7, d8, .val (.int v9), .val (.int v10), .val (.ref b1), .val (.ref b2), d13, d14, d15, d16, d17, d18, .val (.int v19), d20] [(.ref b1)])) t
    refine XS.iload X.here hx rfl (hb hby at_325) rfl ?_
    show Steps p.tables e below (T.setTop (mkF m 327 #[.val (.long v0), .second, d2, d3, d4, d5, d6, d7, d8, .val (.int v9), .val (.int v10), .val (.ref b1), .val (.ref b2), d13, d14, d15, d16, d17, d18, .val (.int v19), d20] [(.int v9), (.ref b1)])) t
    refine XS.i2s X.here hx rfl (hb hby at_327) rfl ?_
    show Steps p.tables e below (T.setTop (mkF m 328 #[.val (.long v0), .second, d2, d3, d4, d5, d6, d7, d8, .val (.int v9), .val (.int v10), .val (.ref b1), .val (.ref b2), d13, d14, d15, d16, d17, d18, .val (.int v19), d20] [(.int (v9.toInt16.toInt32)), (.ref b1)])) t
    refine XS.aload X.here hx rfl (hb hby at_328) rfl rfl ?_
    show Steps p.tables e below (T.setTop (mkF m 330 #[.val (.long v0), .second, d2, d3, d4, d5, d6, d7, d8, .val (.int v9), .val (.int v10), .val (.ref b1), .val (.ref b2), d13, d14, d15, d16, d17, d18, .val (.int v19), d20] [(.ref b2), (.int (v9.toInt16.toInt32)), (.ref b1)])) t
    refine XS.iload X.here hx rfl (hb hby at_330) rfl ?_
    show Steps p.tables e below (T.setTop (mkF m 332 #[.val (.long v0), .second, d2, d3, d4, d5, d6, d7, d8, .val (.int v9), .val (.int v10), .val (.ref b1), .val (.ref b2), d13, d14, d15, d16, d17, d18, .val (.int v19), d20] [(.int v10), (.ref b2), (.int (v9.toInt16.toInt32)), (.ref b1)])) t
    refine XS.i2s X.here hx rfl (hb hby at_332) rfl ?_
    exact k
  obtain ⟨x168, hx168, hF⟩ := own_lt_e hF
  rw [← hx168]
  obtain ⟨x169, hx169, hF⟩ := own_lt_e hF
  rw [← hx169]
  obtain ⟨r170, hr170, hF⟩ := own_bd_e hF
  obtain ⟨_, _, ⟨T170, L170, k170, n170⟩, -, X170, ⟨Lc170, hQ170, l170, y170, z170⟩, st170⟩ := Jvm.LawKit.callS X hx (y := (⟨"com/example/keyslate/keyslate/card/UInt256", "isBelow", "([BS[BS)Z"⟩ : MethodName)) hown (mvT hZ (w10 hw)) (mvT hZ (w11 hw)) (mvT hZ (w12 hw)) (mvT hZ (w13 hw)) (by decide) (backOf (W := 0) (rm_UInt256_isBelow l Z a0 hw [] h n0 z b1 b2 x169 x168 bs_b1 bs_b2 A_b1 g_b1 A_b2 g_b2 ne_b1_b2 r170 hr170) hZ (w13 hw) (w12 hw) (by decide) (by decide)) (g := (mkF m 333 #[.val (.long v0), .second, d2, d3, d4, d5, d6, d7, d8, .val (.int v9), .val (.int v10), .val (.ref b1), .val (.ref b2), d13, d14, d15, d16, d17, d18, .val (.int v19), d20] [(.int x168), (.ref b2), (.int x169), (.ref b1)])) rfl (by rw [hml]; rfl) (argsL := [(.ref b1), (.int x169), (.ref b2), (.int x168)]) (rest := []) (lenOf pd_1 rfl) rfl (by show 2 * 0 + _ ≤ _; exact Nat.le_of_eq rfl) (hb hby at_333) (fun _ _ => ⟨rfl, eT, (by decide : 2 + 0 ≤ _), (by decide : 82 + 0 ≤ _)⟩)
  dsimp only [Pt.U, Pt.locs, Pt.cells, Pt.slots] at X170 l170 y170 z170 st170 hQ170
  subst l170 y170 z170
  obtain ⟨rfl, N170q, e170⟩ := hQ170
  have N170 := Fr.app N N170q
  refine own_Goes.via st170 ?_
  show own_Goes _ _ _ _ _ _ _ (T170.setTop (mkF m 336 #[.val (.long v0), .second, d2, d3, d4, d5, d6, d7, d8, .val (.int v9), .val (.int v10), .val (.ref b1), .val (.ref b2), d13, d14, d15, d16, d17, d18, .val (.int v19), d20] [(.int r170)]))
  refine own_Goes.via (B := T170.setTop (mkF m 342 #[.val (.long v0), .second, d2, d3, d4, d5, d6, d7, d8, .val (.int v9), .val (.int v10), .val (.ref b1), .val (.ref b2), d13, d14, d15, d16, d17, d18, .val (.int v19), .val (.int r170)] [(.int v19), (.int r170)])) (fun t k => ?_) ?_
  · show Steps p.tables e below (T170.setTop (mkF m 336 #[.val (.long v0), .second, d2, d3, d4, d5, d6, d7, d8, .val (.int v9), .val (.int v10), .val (.ref b1), .val (.ref b2), d13, d14, d15, d16, d17, d18, .val (.int v19), d20] [(.int r170)])) t
    refine XS.istoreS X170.here hx rfl (hb hby at_336) rfl rfl o_d20 ?_
    show Steps p.tables e below (T170.setTop (mkF m 338 #[.val (.long v0), .second, d2, d3, d4, d5, d6, d7, d8, .val (.int v9), .val (.int v10), .val (.ref b1), .val (.ref b2), d13, d14, d15, d16, d17, d18, .val (.int v19), .val (.int r170)] [])) t
    refine XS.iload X170.here hx rfl (hb hby at_338) rfl ?_
    show Steps p.tables e below (T170.setTop (mkF m 340 #[.val (.long v0), .second, d2, d3, d4, d5, d6, d7, d8, .val (.int v9), .val (.int v10), .val (.ref b1), .val (.ref b2), d13, d14, d15, d16, d17, d18, .val (.int v19), .val (.int r170)] [(.int r170)])) t
    refine XS.iload X170.here hx rfl (hb hby at_340) rfl ?_
    exact k
  by_cases hc342 : r170 = v19
  · rw [if_pos hc342] at hF
    refine own_Goes.via (B := T170.setTop (mkF m 350 #[.val (.long v0), .second, d2, d3, d4, d5, d6, d7, d8, .val (.int v9), .val (.int v10), .val (.ref b1), .val (.ref b2), d13, d14, d15, d16, d17, d18, .val (.int v19), .val (.int r170)] [(.int (1 : Int32))])) (fun t k => ?_) ?_
    · show Steps p.tables e below (T170.setTop (mkF m 342 #[.val (.long v0), .second, d2, d3, d4, d5, d6, d7, d8, .val (.int v9), .val (.int v10), .val (.ref b1), .val (.ref b2), d13, d14, d15, d16, d17, d18, .val (.int v19), .val (.int r170)] [(.int v19), (.int r170)])) t
      refine XS.icmpNo X170.here hx rfl (hb hby at_342) rfl (teq hc342).2 ?_
      show Steps p.tables e below (T170.setTop (mkF m 345 #[.val (.long v0), .second, d2, d3, d4, d5, d6, d7, d8, .val (.int v9), .val (.int v10), .val (.ref b1), .val (.ref b2), d13, d14, d15, d16, d17, d18, .val (.int v19), .val (.int r170)] [])) t
      refine XS.iconst X170.here hx rfl (hb hby at_345) ?_
      show Steps p.tables e below (T170.setTop (mkF m 346 #[.val (.long v0), .second, d2, d3, d4, d5, d6, d7, d8, .val (.int v9), .val (.int v10), .val (.ref b1), .val (.ref b2), d13, d14, d15, d16, d17, d18, .val (.int v19), .val (.int r170)] [(.int (1 : Int32))])) t
      refine XS.goto X170.here hx rfl (pc0 := 346) (pc' := 350) rfl (hb hby at_346) (by decide) (by decide) ?_
      exact k
    obtain rfl : (1 : Int32) = r := Option.some.inj hF
    exact own_retN X170 hx (t := .boolean) hret hlk (by simp) (hb hby at_350) e170 (v := (1 : Int32)) (by decide) ⟨rfl, N170, K⟩ (by decide) (by decide)
  · rw [if_neg hc342] at hF
    refine own_Goes.via (B := T170.setTop (mkF m 350 #[.val (.long v0), .second, d2, d3, d4, d5, d6, d7, d8, .val (.int v9), .val (.int v10), .val (.ref b1), .val (.ref b2), d13, d14, d15, d16, d17, d18, .val (.int v19), .val (.int r170)] [(.int (0 : Int32))])) (fun t k => ?_) ?_
    · show Steps p.tables e below (T170.setTop (mkF m 342 #[.val (.long v0), .second, d2, d3, d4, d5, d6, d7, d8, .val (.int v9), .val (.int v10), .val (.ref b1), .val (.ref b2), d13, d14, d15, d16, d17, d18, .val (.int v19), .val (.int r170)] [(.int v19), (.int r170)])) t
      refine XS.icmpYes X170.here hx rfl (pc0 := 342) (pc' := 349) rfl (hb hby at_342) rfl (feq hc342).2 (by decide) (by decide) ?_
      show Steps p.tables e below (T170.setTop (mkF m 349 #[.val (.long v0), .second, d2, d3, d4, d5, d6, d7, d8, .val (.int v9), .val (.int v10), .val (.ref b1), .val (.ref b2), d13, d14, d15, d16, d17, d18, .val (.int v19), .val (.int r170)] [])) t
      refine XS.iconst X170.here hx rfl (hb hby at_349) ?_
      exact k
    obtain rfl : (0 : Int32) = r := Option.some.inj hF
    exact own_retN X170 hx (t := .boolean) hret hlk (by simp) (hb hby at_350) e170 (v := (0 : Int32)) (by decide) ⟨rfl, N170, K⟩ (by decide) (by decide)
set_option maxRecDepth 65536 in
set_option maxHeartbeats 4000000 in
theorem b_law_263 {p : Program} {l : Launch} {e : Env} {s : State} {m : MethodId} {args : Array Value} {below : List Frame} {meth : Method} {c : Code} {Z : State} {a0 : Array Value} {n0 : Nat} {hE : Heap} (cx : Cx_law p s m meth c Z a0) :
    ∀ {T : State} {locs : List Loc} {h : Heap} (X : Stand p l e room_1 s m args below meth c T locs 2 82) (eT : T.heap = h) (N : Fr n0 locs) (K : Keep hE h []) (z : n0 ≤ h.size) (b1 : Addr) (b2 : Addr) (v9 : Int32) (v10 : Int32) (v13 : Int32) (v14 : Int32) (v15 : Int32) (v16 : Int32) (v17 : Int32) (t0 : Int32) (bs_b1 : List Int32) (bs_b2 : List Int32) (v0 : Int64) (d2 : Slot) (d3 : Slot) (d4 : Slot) (d5 : Slot) (d6 : Slot) (d7 : Slot) (d8 : Slot) (d18 : Slot) (d19 : Slot) (d20 : Slot) (o_d2 : One d2) (o_d3 : One d3) (o_d4 : One d4) (o_d5 : One d5) (o_d6 : One d6) (o_d7 : One d7) (o_d8 : One d8) (o_d18 : One d18) (o_d19 : One d19) (o_d20 : One d20) (A_b1 : own_Ar Z h b1 .byte (bs_b1.map Value.int)) (g_b1 : n0 ≤ b1) (nE_b1 : hE.size ≤ b1) (A_b2 : own_Ar Z h b2 .byte (bs_b2.map Value.int)) (g_b2 : n0 ≤ b2) (nE_b2 : hE.size ≤ b2) (ne_b1_b2 : b1 ≠ b2) (r : Int32), f_law_263 v9 v10 v13 v14 v15 v16 v17 t0 bs_b1 bs_b2 = some r → own_Goes p e below s (Q_law Z hE n0 r) 2 82 (T.setTop (mkF m 263 #[.val (.long v0), .second, d2, d3, d4, d5, d6, d7, d8, .val (.int v9), .val (.int v10), .val (.ref b1), .val (.ref b2), .val (.int v13), .val (.int v14), .val (.int v15), .val (.int v16), .val (.int v17), d18, d19, d20] [(.int t0)])) := by
  have cx' := cx
  obtain ⟨hx, hZ, hw, hby, hml, hown, hret, hlk, hnm⟩ := cx'
  intro T locs h X eT N K z b1 b2 v9 v10 v13 v14 v15 v16 v17 t0 bs_b1 bs_b2 v0 d2 d3 d4 d5 d6 d7 d8 d18 d19 d20 o_d2 o_d3 o_d4 o_d5 o_d6 o_d7 o_d8 o_d18 o_d19 o_d20 A_b1 g_b1 nE_b1 A_b2 g_b2 nE_b2 ne_b1_b2 r hF
  unfold f_law_263 at hF
  refine own_Goes.via (B := T.setTop (mkF m 269 #[.val (.long v0), .second, d2, d3, d4, d5, d6, d7, d8, .val (.int v9), .val (.int v10), .val (.ref b1), .val (.ref b2), .val (.int v13), .val (.int v14), .val (.int v15), .val (.int v16), .val (.int v17), .val (.int t0), d19, d20] [(.int v16), (.int v15)])) (fun t k => ?_) ?_
  · show Steps p.tables e below (T.setTop (mkF m 263 #[.val (.long v0), .second, d2, d3, d4, d5, d6, d7, d8, .val (.int v9), .val (.int v10), .val (.ref b1), .val (.ref b2), .val (.int v13), .val (.int v14), .val (.int v15), .val (.int v16), .val (.int v17), d18, d19, d20] [(.int t0)])) t
    refine XS.istoreS X.here hx rfl (hb hby at_263) rfl rfl o_d18 ?_
    show Steps p.tables e below (T.setTop (mkF m 265 #[.val (.long v0), .second, d2, d3, d4, d5, d6, d7, d8, .val (.int v9), .val (.int v10), .val (.ref b1), .val (.ref b2), .val (.int v13), .val (.int v14), .val (.int v15), .val (.int v16), .val (.int v17), .val (.int t0), d19, d20] [])) t
    refine XS.iload X.here hx rfl (hb hby at_265) rfl ?_
    show Steps p.tables e below (T.setTop (mkF m 267 #[.val (.long v0), .second, d2, d3, d4, d5, d6, d7, d8, .val (.int v9), .val (.int v10), .val (.ref b1), .val (.ref b2), .val (.int v13), .val (.int v14), .val (.int v15), .val (.int v16), .val (.int v17), .val (.int t0), d19, d20] [(.int v15)])) t
    refine XS.iload X.here hx rfl (hb hby at_267) rfl ?_
    exact k
  by_cases hc269 : v15 = v16
  · rw [if_pos hc269] at hF
    refine own_Goes.via (B := T.setTop (mkF m 293 #[.val (.long v0), .second, d2, d3, d4, d5, d6, d7, d8, .val (.int v9), .val (.int v10), .val (.ref b1), .val (.ref b2), .val (.int v13), .val (.int v14), .val (.int v15), .val (.int v16), .val (.int v17), .val (.int t0), d19, d20] [(.int v13), (.int v14)])) (fun t k => ?_) ?_
    · show Steps p.tables e below (T.setTop (mkF m 269 #[.val (.long v0), .second, d2, d3, d4, d5, d6, d7, d8, .val (.int v9), .val (.int v10), .val (.ref b1), .val (.ref b2), .val (.int v13), .val (.int v14), .val (.int v15), .val (.int v16), .val (.int v17), .val (.int t0), d19, d20] [(.int v16), (.int v15)])) t
      refine XS.icmpYes X.here hx rfl (pc0 := 269) (pc' := 289) rfl (hb hby at_269) rfl (teq hc269).1 (by decide) (by decide) ?_
      show Steps p.tables e below (T.setTop (mkF m 289 #[.val (.long v0), .second, d2, d3, d4, d5, d6, d7, d8, .val (.int v9), .val (.int v10), .val (.ref b1), .val (.ref b2), .val (.int v13), .val (.int v14), .val (.int v15), .val (.int v16), .val (.int v17), .val (.int t0), d19, d20] [])) t
      refine XS.iload X.here hx rfl (hb hby at_289) rfl ?_
      show Steps p.tables e below (T.setTop (mkF m 291 #[.val (.long v0), .second, d2, d3, d4, d5, d6, d7, d8, .val (.int v9), .val (.int v10), .val (.ref b1), .val (.ref b2), .val (.int v13), .val (.int v14), .val (.int v15), .val (.int v16), .val (.int v17), .val (.int t0), d19, d20] [(.int v14)])) t
      refine XS.iload X.here hx rfl (hb hby at_291) rfl ?_
      exact k
    by_cases hc293 : v14 = v13
    · rw [if_pos hc293] at hF
      refine own_Goes.via (B := T.setTop (mkF m 323 #[.val (.long v0), .second, d2, d3, d4, d5, d6, d7, d8, .val (.int v9), .val (.int v10), .val (.ref b1), .val (.ref b2), .val (.int v13), .val (.int v14), .val (.int v15), .val (.int v16), .val (.int v17), .val (.int t0), .val (.int (0 : Int32)), d20] [])) (fun t k => ?_) ?_
      · show Steps p.tables e below (T.setTop (mkF m 293 #[.val (.long v0), .second, d2, d3, d4, d5, d6, d7, d8, .val (.int v9), .val (.int v10), .val (.ref b1), .val (.ref b2), .val (.int v13), .val (.int v14), .val (.int v15), .val (.int v16), .val (.int v17), .val (.int t0), d19, d20] [(.int v13), (.int v14)])) t
        refine XS.icmpYes X.here hx rfl (pc0 := 293) (pc' := 320) rfl (hb hby at_293) rfl (teq hc293).1 (by decide) (by decide) ?_
        show Steps p.tables e below (T.setTop (mkF m 320 #[.val (.long v0), .second, d2, d3, d4, d5, d6, d7, d8, .val (.int v9), .val (.int v10), .val (.ref b1), .val (.ref b2), .val (.int v13), .val (.int v14), .val (.int v15), .val (.int v16), .val (.int v17), .val (.int t0), d19, d20] [])) t
        refine XS.iconst X.here hx rfl (hb hby at_320) ?_
        show Steps p.tables e below (T.setTop (mkF m 321 #[.val (.long v0), .second, d2, d3, d4, d5, d6, d7, d8, .val (.int v9), .val (.int v10), .val (.ref b1), .val (.ref b2), .val (.int v13), .val (.int v14), .val (.int v15), .val (.int v16), .val (.int v17), .val (.int t0), d19, d20] [(.int (0 : Int32))])) t
        refine XS.istoreS X.here hx rfl (hb hby at_321) rfl rfl o_d19 ?_
        exact k
      exact b_law_323 cx X eT N K z b1 b2 v9 v10 (0 : Int32) bs_b1 bs_b2 v0 d2 d3 d4 d5 d6 d7 d8 (.val (.int v13)) (.val (.int v14)) (.val (.int v15)) (.val (.int v16)) (.val (.int v17)) (.val (.int t0)) d20 o_d2 o_d3 o_d4 o_d5 o_d6 o_d7 o_d8 (One.val rfl) (One.val rfl) (One.val rfl) (One.val rfl) (One.val rfl) (One.val rfl) o_d20 A_b1 g_b1 nE_b1 A_b2 g_b2 nE_b2 ne_b1_b2 _ hF
    · rw [if_neg hc293] at hF
      refine own_Goes.via (B := T.setTop (mkF m 300 #[.val (.long v0), .second, d2, d3, d4, d5, d6, d7, d8, .val (.int v9), .val (.int v10), .val (.ref b1), .val (.ref b2), .val (.int v13), .val (.int v14), .val (.int v15), .val (.int v16), .val (.int v17), .val (.int t0), d19, d20] [(.int t0), (.int v17)])) (fun t k => ?_) ?_
      · show Steps p.tables e below (T.setTop (mkF m 293 #[.val (.long v0), .second, d2, d3, d4, d5, d6, d7, d8, .val (.int v9), .val (.int v10), .val (.ref b1), .val (.ref b2), .val (.int v13), .val (.int v14), .val (.int v15), .val (.int v16), .val (.int v17), .val (.int t0), d19, d20] [(.int v13), (.int v14)])) t
        refine XS.icmpNo X.here hx rfl (hb hby at_293) rfl (feq hc293).1 ?_
        show Steps p.tables e below (T.setTop (mkF m 296 #[.val (.long v0), .second, d2, d3, d4, d5, d6, d7, d8, .val (.int v9), .val (.int v10), .val (.ref b1), .val (.ref b2), .val (.int v13), .val (.int v14), .val (.int v15), .val (.int v16), .val (.int v17), .val (.int t0), d19, d20] [])) t
        refine XS.iload X.here hx rfl (hb hby at_296) rfl ?_
        show Steps p.tables e below (T.setTop (mkF m 298 #[.val (.long v0), .second, d2, d3, d4, d5, d6, d7, d8, .val (.int v9), .val (.int v10), .val (.ref b1), .val (.ref b2), .val (.int v13), .val (.int v14), .val (.int v15), .val (.int v16), .val (.int v17), .val (.int t0), d19, d20] [(.int v17)])) t
        refine XS.iload X.here hx rfl (hb hby at_298) rfl ?_
        exact k
      by_cases hc300 : v17 = t0
      · rw [if_pos hc300] at hF
        refine own_Goes.via (B := T.setTop (mkF m 323 #[.val (.long v0), .second, d2, d3, d4, d5, d6, d7, d8, .val (.int v9), .val (.int v10), .val (.ref b1), .val (.ref b2), .val (.int v13), .val (.int v14), .val (.int v15), .val (.int v16), .val (.int v17), .val (.int t0), .val (.int (0 : Int32)), d20] [])) (fun t k => ?_) ?_
        · show Steps p.tables e below (T.setTop (mkF m 300 #[.val (.long v0), .second, d2, d3, d4, d5, d6, d7, d8, .val (.int v9), .val (.int v10), .val (.ref b1), .val (.ref b2), .val (.int v13), .val (.int v14), .val (.int v15), .val (.int v16), .val (.int v17), .val (.int t0), d19, d20] [(.int t0), (.int v17)])) t
          refine XS.icmpYes X.here hx rfl (pc0 := 300) (pc' := 320) rfl (hb hby at_300) rfl (teq hc300).1 (by decide) (by decide) ?_
          show Steps p.tables e below (T.setTop (mkF m 320 #[.val (.long v0), .second, d2, d3, d4, d5, d6, d7, d8, .val (.int v9), .val (.int v10), .val (.ref b1), .val (.ref b2), .val (.int v13), .val (.int v14), .val (.int v15), .val (.int v16), .val (.int v17), .val (.int t0), d19, d20] [])) t
          refine XS.iconst X.here hx rfl (hb hby at_320) ?_
          show Steps p.tables e below (T.setTop (mkF m 321 #[.val (.long v0), .second, d2, d3, d4, d5, d6, d7, d8, .val (.int v9), .val (.int v10), .val (.ref b1), .val (.ref b2), .val (.int v13), .val (.int v14), .val (.int v15), .val (.int v16), .val (.int v17), .val (.int t0), d19, d20] [(.int (0 : Int32))])) t
          refine XS.istoreS X.here hx rfl (hb hby at_321) rfl rfl o_d19 ?_
          exact k
        exact b_law_323 cx X eT N K z b1 b2 v9 v10 (0 : Int32) bs_b1 bs_b2 v0 d2 d3 d4 d5 d6 d7 d8 (.val (.int v13)) (.val (.int v14)) (.val (.int v15)) (.val (.int v16)) (.val (.int v17)) (.val (.int t0)) d20 o_d2 o_d3 o_d4 o_d5 o_d6 o_d7 o_d8 (One.val rfl) (One.val rfl) (One.val rfl) (One.val rfl) (One.val rfl) (One.val rfl) o_d20 A_b1 g_b1 nE_b1 A_b2 g_b2 nE_b2 ne_b1_b2 _ hF
      · rw [if_neg hc300] at hF
        refine own_Goes.via (B := T.setTop (mkF m 307 #[.val (.long v0), .second, d2, d3, d4, d5, d6, d7, d8, .val (.int v9), .val (.int v10), .val (.ref b1), .val (.ref b2), .val (.int v13), .val (.int v14), .val (.int v15), .val (.int v16), .val (.int v17), .val (.int t0), d19, d20] [(.int t0), (.int v17)])) (fun t k => ?_) ?_
        · show Steps p.tables e below (T.setTop (mkF m 300 #[.val (.long v0), .second, d2, d3, d4, d5, d6, d7, d8, .val (.int v9), .val (.int v10), .val (.ref b1), .val (.ref b2), .val (.int v13), .val (.int v14), .val (.int v15), .val (.int v16), .val (.int v17), .val (.int t0), d19, d20] [(.int t0), (.int v17)])) t
          refine XS.icmpNo X.here hx rfl (hb hby at_300) rfl (feq hc300).1 ?_
          show Steps p.tables e below (T.setTop (mkF m 303 #[.val (.long v0), .second, d2, d3, d4, d5, d6, d7, d8, .val (.int v9), .val (.int v10), .val (.ref b1), .val (.ref b2), .val (.int v13), .val (.int v14), .val (.int v15), .val (.int v16), .val (.int v17), .val (.int t0), d19, d20] [])) t
          refine XS.iload X.here hx rfl (hb hby at_303) rfl ?_
          show Steps p.tables e below (T.setTop (mkF m 305 #[.val (.long v0), .second, d2, d3, d4, d5, d6, d7, d8, .val (.int v9), .val (.int v10), .val (.ref b1), .val (.ref b2), .val (.int v13), .val (.int v14), .val (.int v15), .val (.int v16), .val (.int v17), .val (.int t0), d19, d20] [(.int v17)])) t
          refine XS.iload X.here hx rfl (hb hby at_305) rfl ?_
          exact k
        by_cases hc307 : v17 < t0
        · rw [if_pos hc307] at hF
          refine own_Goes.via (B := T.setTop (mkF m 323 #[.val (.long v0), .second, d2, d3, d4, d5, d6, d7, d8, .val (.int v9), .val (.int v10), .val (.ref b1), .val (.ref b2), .val (.int v13), .val (.int v14), .val (.int v15), .val (.int v16), .val (.int v17), .val (.int t0), .val (.int (1 : Int32)), d20] [])) (fun t k => ?_) ?_
          · show Steps p.tables e below (T.setTop (mkF m 307 #[.val (.long v0), .second, d2, d3, d4, d5, d6, d7, d8, .val (.int v9), .val (.int v10), .val (.ref b1), .val (.ref b2), .val (.int v13), .val (.int v14), .val (.int v15), .val (.int v16), .val (.int v17), .val (.int t0), d19, d20] [(.int t0), (.int v17)])) t
            refine XS.icmpNo X.here hx rfl (hb hby at_307) rfl (tlt hc307).2.1 ?_
            show Steps p.tables e below (T.setTop (mkF m 310 #[.val (.long v0), .second, d2, d3, d4, d5, d6, d7, d8, .val (.int v9), .val (.int v10), .val (.ref b1), .val (.ref b2), .val (.int v13), .val (.int v14), .val (.int v15), .val (.int v16), .val (.int v17), .val (.int t0), d19, d20] [])) t
            refine XS.iconst X.here hx rfl (hb hby at_310) ?_
            show Steps p.tables e below (T.setTop (mkF m 311 #[.val (.long v0), .second, d2, d3, d4, d5, d6, d7, d8, .val (.int v9), .val (.int v10), .val (.ref b1), .val (.ref b2), .val (.int v13), .val (.int v14), .val (.int v15), .val (.int v16), .val (.int v17), .val (.int t0), d19, d20] [(.int (1 : Int32))])) t
            refine XS.goto X.here hx rfl (pc0 := 311) (pc' := 315) rfl (hb hby at_311) (by decide) (by decide) ?_
            show Steps p.tables e below (T.setTop (mkF m 315 #[.val (.long v0), .second, d2, d3, d4, d5, d6, d7, d8, .val (.int v9), .val (.int v10), .val (.ref b1), .val (.ref b2), .val (.int v13), .val (.int v14), .val (.int v15), .val (.int v16), .val (.int v17), .val (.int t0), d19, d20] [(.int (1 : Int32))])) t
            refine XS.istoreS X.here hx rfl (hb hby at_315) rfl rfl o_d19 ?_
            show Steps p.tables e below (T.setTop (mkF m 317 #[.val (.long v0), .second, d2, d3, d4, d5, d6, d7, d8, .val (.int v9), .val (.int v10), .val (.ref b1), .val (.ref b2), .val (.int v13), .val (.int v14), .val (.int v15), .val (.int v16), .val (.int v17), .val (.int t0), .val (.int (1 : Int32)), d20] [])) t
            refine XS.goto X.here hx rfl (pc0 := 317) (pc' := 323) rfl (hb hby at_317) (by decide) (by decide) ?_
            exact k
          exact b_law_323 cx X eT N K z b1 b2 v9 v10 (1 : Int32) bs_b1 bs_b2 v0 d2 d3 d4 d5 d6 d7 d8 (.val (.int v13)) (.val (.int v14)) (.val (.int v15)) (.val (.int v16)) (.val (.int v17)) (.val (.int t0)) d20 o_d2 o_d3 o_d4 o_d5 o_d6 o_d7 o_d8 (One.val rfl) (One.val rfl) (One.val rfl) (One.val rfl) (One.val rfl) (One.val rfl) o_d20 A_b1 g_b1 nE_b1 A_b2 g_b2 nE_b2 ne_b1_b2 _ hF
        · rw [if_neg hc307] at hF
          refine own_Goes.via (B := T.setTop (mkF m 323 #[.val (.long v0), .second, d2, d3, d4, d5, d6, d7, d8, .val (.int v9), .val (.int v10), .val (.ref b1), .val (.ref b2), .val (.int v13), .val (.int v14), .val (.int v15), .val (.int v16), .val (.int v17), .val (.int t0), .val (.int (0 : Int32)), d20] [])) (fun t k => ?_) ?_
          · show Steps p.tables e below (T.setTop (mkF m 307 #[.val (.long v0), .second, d2, d3, d4, d5, d6, d7, d8, .val (.int v9), .val (.int v10), .val (.ref b1), .val (.ref b2), .val (.int v13), .val (.int v14), .val (.int v15), .val (.int v16), .val (.int v17), .val (.int t0), d19, d20] [(.int t0), (.int v17)])) t
            refine XS.icmpYes X.here hx rfl (pc0 := 307) (pc' := 314) rfl (hb hby at_307) rfl (flt hc307).2.1 (by decide) (by decide) ?_
            show Steps p.tables e below (T.setTop (mkF m 314 #[.val (.long v0), .second, d2, d3, d4, d5, d6, d7, d8, .val (.int v9), .val (.int v10), .val (.ref b1), .val (.ref b2), .val (.int v13), .val (.int v14), .val (.int v15), .val (.int v16), .val (.int v17), .val (.int t0), d19, d20] [])) t
            refine XS.iconst X.here hx rfl (hb hby at_314) ?_
            show Steps p.tables e below (T.setTop (mkF m 315 #[.val (.long v0), .second, d2, d3, d4, d5, d6, d7, d8, .val (.int v9), .val (.int v10), .val (.ref b1), .val (.ref b2), .val (.int v13), .val (.int v14), .val (.int v15), .val (.int v16), .val (.int v17), .val (.int t0), d19, d20] [(.int (0 : Int32))])) t
            refine XS.istoreS X.here hx rfl (hb hby at_315) rfl rfl o_d19 ?_
            show Steps p.tables e below (T.setTop (mkF m 317 #[.val (.long v0), .second, d2, d3, d4, d5, d6, d7, d8, .val (.int v9), .val (.int v10), .val (.ref b1), .val (.ref b2), .val (.int v13), .val (.int v14), .val (.int v15), .val (.int v16), .val (.int v17), .val (.int t0), .val (.int (0 : Int32)), d20] [])) t
            refine XS.goto X.here hx rfl (pc0 := 317) (pc' := 323) rfl (hb hby at_317) (by decide) (by decide) ?_
            exact k
          exact b_law_323 cx X eT N K z b1 b2 v9 v10 (0 : Int32) bs_b1 bs_b2 v0 d2 d3 d4 d5 d6 d7 d8 (.val (.int v13)) (.val (.int v14)) (.val (.int v15)) (.val (.int v16)) (.val (.int v17)) (.val (.int t0)) d20 o_d2 o_d3 o_d4 o_d5 o_d6 o_d7 o_d8 (One.val rfl) (One.val rfl) (One.val rfl) (One.val rfl) (One.val rfl) (One.val rfl) o_d20 A_b1 g_b1 nE_b1 A_b2 g_b2 nE_b2 ne_b1_b2 _ hF
  · rw [if_neg hc269] at hF
    refine own_Goes.via (B := T.setTop (mkF m 276 #[.val (.long v0), .second, d2, d3, d4, d5, d6, d7, d8, .val (.int v9), .val (.int v10), .val (.ref b1), .val (.ref b2), .val (.int v13), .val (.int v14), .val (.int v15), .val (.int v16), .val (.int v17), .val (.int t0), d19, d20] [(.int v16), (.int v15)])) (fun t k => ?_) ?_
    · show Steps p.tables e below (T.setTop (mkF m 269 #[.val (.long v0), .second, d2, d3, d4, d5, d6, d7, d8, .val (.int v9), .val (.int v10), .val (.ref b1), .val (.ref b2), .val (.int v13), .val (.int v14), .val (.int v15), .val (.int v16), .val (.int v17), .val (.int t0), d19, d20] [(.int v16), (.int v15)])) t
      refine XS.icmpNo X.here hx rfl (hb hby at_269) rfl (feq hc269).1 ?_
      show Steps p.tables e below (T.setTop (mkF m 272 #[.val (.long v0), .second, d2, d3, d4, d5, d6, d7, d8, .val (.int v9), .val (.int v10), .val (.ref b1), .val (.ref b2), .val (.int v13), .val (.int v14), .val (.int v15), .val (.int v16), .val (.int v17), .val (.int t0), d19, d20] [])) t
      refine XS.iload X.here hx rfl (hb hby at_272) rfl ?_
      show Steps p.tables e below (T.setTop (mkF m 274 #[.val (.long v0), .second, d2, d3, d4, d5, d6, d7, d8, .val (.int v9), .val (.int v10), .val (.ref b1), .val (.ref b2), .val (.int v13), .val (.int v14), .val (.int v15), .val (.int v16), .val (.int v17), .val (.int t0), d19, d20] [(.int v15)])) t
      refine XS.iload X.here hx rfl (hb hby at_274) rfl ?_
      exact k
    by_cases hc276 : v15 < v16
    · rw [if_pos hc276] at hF
      refine own_Goes.via (B := T.setTop (mkF m 323 #[.val (.long v0), .second, d2, d3, d4, d5, d6, d7, d8, .val (.int v9), .val (.int v10), .val (.ref b1), .val (.ref b2), .val (.int v13), .val (.int v14), .val (.int v15), .val (.int v16), .val (.int v17), .val (.int t0), .val (.int (1 : Int32)), d20] [])) (fun t k => ?_) ?_
      · show Steps p.tables e below (T.setTop (mkF m 276 #[.val (.long v0), .second, d2, d3, d4, d5, d6, d7, d8, .val (.int v9), .val (.int v10), .val (.ref b1), .val (.ref b2), .val (.int v13), .val (.int v14), .val (.int v15), .val (.int v16), .val (.int v17), .val (.int t0), d19, d20] [(.int v16), (.int v15)])) t
        refine XS.icmpNo X.here hx rfl (hb hby at_276) rfl (tlt hc276).2.1 ?_
        show Steps p.tables e below (T.setTop (mkF m 279 #[.val (.long v0), .second, d2, d3, d4, d5, d6, d7, d8, .val (.int v9), .val (.int v10), .val (.ref b1), .val (.ref b2), .val (.int v13), .val (.int v14), .val (.int v15), .val (.int v16), .val (.int v17), .val (.int t0), d19, d20] [])) t
        refine XS.iconst X.here hx rfl (hb hby at_279) ?_
        show Steps p.tables e below (T.setTop (mkF m 280 #[.val (.long v0), .second, d2, d3, d4, d5, d6, d7, d8, .val (.int v9), .val (.int v10), .val (.ref b1), .val (.ref b2), .val (.int v13), .val (.int v14), .val (.int v15), .val (.int v16), .val (.int v17), .val (.int t0), d19, d20] [(.int (1 : Int32))])) t
        refine XS.goto X.here hx rfl (pc0 := 280) (pc' := 284) rfl (hb hby at_280) (by decide) (by decide) ?_
        show Steps p.tables e below (T.setTop (mkF m 284 #[.val (.long v0), .second, d2, d3, d4, d5, d6, d7, d8, .val (.int v9), .val (.int v10), .val (.ref b1), .val (.ref b2), .val (.int v13), .val (.int v14), .val (.int v15), .val (.int v16), .val (.int v17), .val (.int t0), d19, d20] [(.int (1 : Int32))])) t
        refine XS.istoreS X.here hx rfl (hb hby at_284) rfl rfl o_d19 ?_
        show Steps p.tables e below (T.setTop (mkF m 286 #[.val (.long v0), .second, d2, d3, d4, d5, d6, d7, d8, .val (.int v9), .val (.int v10), .val (.ref b1), .val (.ref b2), .val (.int v13), .val (.int v14), .val (.int v15), .val (.int v16), .val (.int v17), .val (.int t0), .val (.int (1 : Int32)), d20] [])) t
        refine XS.goto X.here hx rfl (pc0 := 286) (pc' := 323) rfl (hb hby at_286) (by decide) (by decide) ?_
        exact k
      exact b_law_323 cx X eT N K z b1 b2 v9 v10 (1 : Int32) bs_b1 bs_b2 v0 d2 d3 d4 d5 d6 d7 d8 (.val (.int v13)) (.val (.int v14)) (.val (.int v15)) (.val (.int v16)) (.val (.int v17)) (.val (.int t0)) d20 o_d2 o_d3 o_d4 o_d5 o_d6 o_d7 o_d8 (One.val rfl) (One.val rfl) (One.val rfl) (One.val rfl) (One.val rfl) (One.val rfl) o_d20 A_b1 g_b1 nE_b1 A_b2 g_b2 nE_b2 ne_b1_b2 _ hF
    · rw [if_neg hc276] at hF
      refine own_Goes.via (B := T.setTop (mkF m 323 #[.val (.long v0), .second, d2, d3, d4, d5, d6, d7, d8, .val (.int v9), .val (.int v10), .val (.ref b1), .val (.ref b2), .val (.int v13), .val (.int v14), .val (.int v15), .val (.int v16), .val (.int v17), .val (.int t0), .val (.int (0 : Int32)), d20] [])) (fun t k => ?_) ?_
      · show Steps p.tables e below (T.setTop (mkF m 276 #[.val (.long v0), .second, d2, d3, d4, d5, d6, d7, d8, .val (.int v9), .val (.int v10), .val (.ref b1), .val (.ref b2), .val (.int v13), .val (.int v14), .val (.int v15), .val (.int v16), .val (.int v17), .val (.int t0), d19, d20] [(.int v16), (.int v15)])) t
        refine XS.icmpYes X.here hx rfl (pc0 := 276) (pc' := 283) rfl (hb hby at_276) rfl (flt hc276).2.1 (by decide) (by decide) ?_
        show Steps p.tables e below (T.setTop (mkF m 283 #[.val (.long v0), .second, d2, d3, d4, d5, d6, d7, d8, .val (.int v9), .val (.int v10), .val (.ref b1), .val (.ref b2), .val (.int v13), .val (.int v14), .val (.int v15), .val (.int v16), .val (.int v17), .val (.int t0), d19, d20] [])) t
        refine XS.iconst X.here hx rfl (hb hby at_283) ?_
        show Steps p.tables e below (T.setTop (mkF m 284 #[.val (.long v0), .second, d2, d3, d4, d5, d6, d7, d8, .val (.int v9), .val (.int v10), .val (.ref b1), .val (.ref b2), .val (.int v13), .val (.int v14), .val (.int v15), .val (.int v16), .val (.int v17), .val (.int t0), d19, d20] [(.int (0 : Int32))])) t
        refine XS.istoreS X.here hx rfl (hb hby at_284) rfl rfl o_d19 ?_
        show Steps p.tables e below (T.setTop (mkF m 286 #[.val (.long v0), .second, d2, d3, d4, d5, d6, d7, d8, .val (.int v9), .val (.int v10), .val (.ref b1), .val (.ref b2), .val (.int v13), .val (.int v14), .val (.int v15), .val (.int v16), .val (.int v17), .val (.int t0), .val (.int (0 : Int32)), d20] [])) t
        refine XS.goto X.here hx rfl (pc0 := 286) (pc' := 323) rfl (hb hby at_286) (by decide) (by decide) ?_
        exact k
      exact b_law_323 cx X eT N K z b1 b2 v9 v10 (0 : Int32) bs_b1 bs_b2 v0 d2 d3 d4 d5 d6 d7 d8 (.val (.int v13)) (.val (.int v14)) (.val (.int v15)) (.val (.int v16)) (.val (.int v17)) (.val (.int t0)) d20 o_d2 o_d3 o_d4 o_d5 o_d6 o_d7 o_d8 (One.val rfl) (One.val rfl) (One.val rfl) (One.val rfl) (One.val rfl) (One.val rfl) o_d20 A_b1 g_b1 nE_b1 A_b2 g_b2 nE_b2 ne_b1_b2 _ hF
set_option maxRecDepth 65536 in
set_option maxHeartbeats 4000000 in
theorem b_law_217 {p : Program} {l : Launch} {e : Env} {s : State} {m : MethodId} {args : Array Value} {below : List Frame} {meth : Method} {c : Code} {Z : State} {a0 : Array Value} {n0 : Nat} {hE : Heap} (cx : Cx_law p s m meth c Z a0) :
    ∀ {T : State} {locs : List Loc} {h : Heap} (X : Stand p l e room_1 s m args below meth c T locs 2 82) (eT : T.heap = h) (N : Fr n0 locs) (K : Keep hE h []) (z : n0 ≤ h.size) (b1 : Addr) (b2 : Addr) (v2 : Int32) (v3 : Int32) (v4 : Int32) (v5 : Int32) (v7 : Int32) (v9 : Int32) (v10 : Int32) (v13 : Int32) (v14 : Int32) (v15 : Int32) (t0 : Int32) (bs_b1 : List Int32) (bs_b2 : List Int32) (v0 : Int64) (d6 : Slot) (d8 : Slot) (d16 : Slot) (d17 : Slot) (d18 : Slot) (d19 : Slot) (d20 : Slot) (o_d6 : One d6) (o_d8 : One d8) (o_d16 : One d16) (o_d17 : One d17) (o_d18 : One d18) (o_d19 : One d19) (o_d20 : One d20) (A_b1 : own_Ar Z h b1 .byte (bs_b1.map Value.int)) (g_b1 : n0 ≤ b1) (nE_b1 : hE.size ≤ b1) (A_b2 : own_Ar Z h b2 .byte (bs_b2.map Value.int)) (g_b2 : n0 ≤ b2) (nE_b2 : hE.size ≤ b2) (ne_b1_b2 : b1 ≠ b2) (r : Int32), f_law_217 v2 v3 v4 v5 v7 v9 v10 v13 v14 v15 t0 bs_b1 bs_b2 = some r → own_Goes p e below s (Q_law Z hE n0 r) 2 82 (T.setTop (mkF m 217 #[.val (.long v0), .second, .val (.int v2), .val (.int v3), .val (.int v4), .val (.int v5), d6, .val (.int v7), d8, .val (.int v9), .val (.int v10), .val (.ref b1), .val (.ref b2), .val (.int v13), .val (.int v14), .val (.int v15), d16, d17, d18, d19, d20] [(.int t0)])) := by
  have cx' := cx
  obtain ⟨hx, hZ, hw, hby, hml, hown, hret, hlk, hnm⟩ := cx'
  intro T locs h X eT N K z b1 b2 v2 v3 v4 v5 v7 v9 v10 v13 v14 v15 t0 bs_b1 bs_b2 v0 d6 d8 d16 d17 d18 d19 d20 o_d6 o_d8 o_d16 o_d17 o_d18 o_d19 o_d20 A_b1 g_b1 nE_b1 A_b2 g_b2 nE_b2 ne_b1_b2 r hF
  unfold f_law_217 at hF
  refine own_Goes.via (B := T.setTop (mkF m 223 #[.val (.long v0), .second, .val (.int v2), .val (.int v3), .val (.int v4), .val (.int v5), d6, .val (.int v7), d8, .val (.int v9), .val (.int v10), .val (.ref b1), .val (.ref b2), .val (.int v13), .val (.int v14), .val (.int v15), .val (.int t0), d17, d18, d19, d20] [(.int v7), (.int v14)])) (fun t k => ?_) ?_
  · show Steps p.tables e below (T.setTop (mkF m 217 #[.val (.long v0), .second, .val (.int v2), .val (.int v3), .val (.int v4), .val (.int v5), d6, .val (.int v7), d8, .val (.int v9), .val (.int v10), .val (.ref b1), .val (.ref b2), .val (.int v13), .val (.int v14), .val (.int v15), d16, d17, d18, d19, d20] [(.int t0)])) t
    refine XS.istoreS X.here hx rfl (hb hby at_217) rfl rfl o_d16 ?_
    show Steps p.tables e below (T.setTop (mkF m 219 #[.val (.long v0), .second, .val (.int v2), .val (.int v3), .val (.int v4), .val (.int v5), d6, .val (.int v7), d8, .val (.int v9), .val (.int v10), .val (.ref b1), .val (.ref b2), .val (.int v13), .val (.int v14), .val (.int v15), .val (.int t0), d17, d18, d19, d20] [])) t
    refine XS.iload X.here hx rfl (hb hby at_219) rfl ?_
    show Steps p.tables e below (T.setTop (mkF m 221 #[.val (.long v0), .second, .val (.int v2), .val (.int v3), .val (.int v4), .val (.int v5), d6, .val (.int v7), d8, .val (.int v9), .val (.int v10), .val (.ref b1), .val (.ref b2), .val (.int v13), .val (.int v14), .val (.int v15), .val (.int t0), d17, d18, d19, d20] [(.int v14)])) t
    refine XS.iload X.here hx rfl (hb hby at_221) rfl ?_
    exact k
  by_cases hc223 : v14 = v7
  · rw [if_pos hc223] at hF
    refine own_Goes.via (B := T.setTop (mkF m 240 #[.val (.long v0), .second, .val (.int v2), .val (.int v3), .val (.int v4), .val (.int v5), d6, .val (.int v7), d8, .val (.int v9), .val (.int v10), .val (.ref b1), .val (.ref b2), .val (.int v13), .val (.int v14), .val (.int v15), .val (.int t0), d17, d18, d19, d20] [(.int (v2 &&& (255 : Int32)))])) (fun t k => ?_) ?_
    · show Steps p.tables e below (T.setTop (mkF m 223 #[.val (.long v0), .second, .val (.int v2), .val (.int v3), .val (.int v4), .val (.int v5), d6, .val (.int v7), d8, .val (.int v9), .val (.int v10), .val (.ref b1), .val (.ref b2), .val (.int v13), .val (.int v14), .val (.int v15), .val (.int t0), d17, d18, d19, d20] [(.int v7), (.int v14)])) t
      refine XS.icmpNo X.here hx rfl (hb hby at_223) rfl (teq hc223).2 ?_
      show Steps p.tables e below (T.setTop (mkF m 226 #[.val (.long v0), .second, .val (.int v2), .val (.int v3), .val (.int v4), .val (.int v5), d6, .val (.int v7), d8, .val (.int v9), .val (.int v10), .val (.ref b1), .val (.ref b2), .val (.int v13), .val (.int v14), .val (.int v15), .val (.int t0), d17, d18, d19, d20] [])) t
      refine XS.iloadN X.here hx rfl (hb hby at_226) rfl ?_
      show Steps p.tables e below (T.setTop (mkF m 227 #[.val (.long v0), .second, .val (.int v2), .val (.int v3), .val (.int v4), .val (.int v5), d6, .val (.int v7), d8, .val (.int v9), .val (.int v10), .val (.ref b1), .val (.ref b2), .val (.int v13), .val (.int v14), .val (.int v15), .val (.int t0), d17, d18, d19, d20] [(.int v2)])) t
      refine XS.sipush X.here hx rfl (hb hby at_227) ?_
      show Steps p.tables e below (T.setTop (mkF m 230 #[.val (.long v0), .second, .val (.int v2), .val (.int v3), .val (.int v4), .val (.int v5), d6, .val (.int v7), d8, .val (.int v9), .val (.int v10), .val (.ref b1), .val (.ref b2), .val (.int v13), .val (.int v14), .val (.int v15), .val (.int t0), d17, d18, d19, d20] [(.int (255 : Int32)), (.int v2)])) t
      refine XS.iand X.here hx rfl (hb hby at_230) rfl ?_
      show Steps p.tables e below (T.setTop (mkF m 231 #[.val (.long v0), .second, .val (.int v2), .val (.int v3), .val (.int v4), .val (.int v5), d6, .val (.int v7), d8, .val (.int v9), .val (.int v10), .val (.ref b1), .val (.ref b2), .val (.int v13), .val (.int v14), .val (.int v15), .val (.int t0), d17, d18, d19, d20] [(.int (v2 &&& (255 : Int32)))])) t
      refine XS.goto X.here hx rfl (pc0 := 231) (pc' := 240) rfl (hb hby at_231) (by decide) (by decide) ?_
      exact k
    obtain ⟨x172, hx172, hF⟩ := own_lt_e hF
    rw [← hx172]
    refine own_Goes.via (B := T.setTop (mkF m 246 #[.val (.long v0), .second, .val (.int v2), .val (.int v3), .val (.int v4), .val (.int v5), d6, .val (.int v7), d8, .val (.int v9), .val (.int v10), .val (.ref b1), .val (.ref b2), .val (.int v13), .val (.int v14), .val (.int v15), .val (.int t0), .val (.int x172), d18, d19, d20] [(.int v7), (.int v14)])) (fun t k => ?_) ?_
    · show Steps p.tables e below (T.setTop (mkF m 240 #[.val (.long v0), .second, .val (.int v2), .val (.int v3), .val (.int v4), .val (.int v5), d6, .val (.int v7), d8, .val (.int v9), .val (.int v10), .val (.ref b1), .val (.ref b2), .val (.int v13), .val (.int v14), .val (.int v15), .val (.int t0), d17, d18, d19, d20] [(.int x172)])) t
      refine XS.istoreS X.here hx rfl (hb hby at_240) rfl rfl o_d17 ?_
      show Steps p.tables e below (T.setTop (mkF m 242 #[.val (.long v0), .second, .val (.int v2), .val (.int v3), .val (.int v4), .val (.int v5), d6, .val (.int v7), d8, .val (.int v9), .val (.int v10), .val (.ref b1), .val (.ref b2), .val (.int v13), .val (.int v14), .val (.int v15), .val (.int t0), .val (.int x172), d18, d19, d20] [])) t
      refine XS.iload X.here hx rfl (hb hby at_242) rfl ?_
      show Steps p.tables e below (T.setTop (mkF m 244 #[.val (.long v0), .second, .val (.int v2), .val (.int v3), .val (.int v4), .val (.int v5), d6, .val (.int v7), d8, .val (.int v9), .val (.int v10), .val (.ref b1), .val (.ref b2), .val (.int v13), .val (.int v14), .val (.int v15), .val (.int t0), .val (.int x172), d18, d19, d20] [(.int v14)])) t
      refine XS.iload X.here hx rfl (hb hby at_244) rfl ?_
      exact k
    by_cases hc246 : v14 = v7
    · rw [if_pos hc246] at hF
      refine own_Goes.via (B := T.setTop (mkF m 263 #[.val (.long v0), .second, .val (.int v2), .val (.int v3), .val (.int v4), .val (.int v5), d6, .val (.int v7), d8, .val (.int v9), .val (.int v10), .val (.ref b1), .val (.ref b2), .val (.int v13), .val (.int v14), .val (.int v15), .val (.int t0), .val (.int x172), d18, d19, d20] [(.int (v3 &&& (255 : Int32)))])) (fun t k => ?_) ?_
      · show Steps p.tables e below (T.setTop (mkF m 246 #[.val (.long v0), .second, .val (.int v2), .val (.int v3), .val (.int v4), .val (.int v5), d6, .val (.int v7), d8, .val (.int v9), .val (.int v10), .val (.ref b1), .val (.ref b2), .val (.int v13), .val (.int v14), .val (.int v15), .val (.int t0), .val (.int x172), d18, d19, d20] [(.int v7), (.int v14)])) t
        refine XS.icmpNo X.here hx rfl (hb hby at_246) rfl (teq hc246).2 ?_
        show Steps p.tables e below (T.setTop (mkF m 249 #[.val (.long v0), .second, .val (.int v2), .val (.int v3), .val (.int v4), .val (.int v5), d6, .val (.int v7), d8, .val (.int v9), .val (.int v10), .val (.ref b1), .val (.ref b2), .val (.int v13), .val (.int v14), .val (.int v15), .val (.int t0), .val (.int x172), d18, d19, d20] [])) t
        refine XS.iloadN X.here hx rfl (hb hby at_249) rfl ?_
        show Steps p.tables e below (T.setTop (mkF m 250 #[.val (.long v0), .second, .val (.int v2), .val (.int v3), .val (.int v4), .val (.int v5), d6, .val (.int v7), d8, .val (.int v9), .val (.int v10), .val (.ref b1), .val (.ref b2), .val (.int v13), .val (.int v14), .val (.int v15), .val (.int t0), .val (.int x172), d18, d19, d20] [(.int v3)])) t
        refine XS.sipush X.here hx rfl (hb hby at_250) ?_
        show Steps p.tables e below (T.setTop (mkF m 253 #[.val (.long v0), .second, .val (.int v2), .val (.int v3), .val (.int v4), .val (.int v5), d6, .val (.int v7), d8, .val (.int v9), .val (.int v10), .val (.ref b1), .val (.ref b2), .val (.int v13), .val (.int v14), .val (.int v15), .val (.int t0), .val (.int x172), d18, d19, d20] [(.int (255 : Int32)), (.int v3)])) t
        refine XS.iand X.here hx rfl (hb hby at_253) rfl ?_
        show Steps p.tables e below (T.setTop (mkF m 254 #[.val (.long v0), .second, .val (.int v2), .val (.int v3), .val (.int v4), .val (.int v5), d6, .val (.int v7), d8, .val (.int v9), .val (.int v10), .val (.ref b1), .val (.ref b2), .val (.int v13), .val (.int v14), .val (.int v15), .val (.int t0), .val (.int x172), d18, d19, d20] [(.int (v3 &&& (255 : Int32)))])) t
        refine XS.goto X.here hx rfl (pc0 := 254) (pc' := 263) rfl (hb hby at_254) (by decide) (by decide) ?_
        exact k
      exact b_law_263 cx X eT N K z b1 b2 v9 v10 v13 v14 v15 t0 x172 (v3 &&& (255 : Int32)) bs_b1 bs_b2 v0 (.val (.int v2)) (.val (.int v3)) (.val (.int v4)) (.val (.int v5)) d6 (.val (.int v7)) d8 d18 d19 d20 (One.val rfl) (One.val rfl) (One.val rfl) (One.val rfl) o_d6 (One.val rfl) o_d8 o_d18 o_d19 o_d20 A_b1 g_b1 nE_b1 A_b2 g_b2 nE_b2 ne_b1_b2 _ hF
    · rw [if_neg hc246] at hF
      refine own_Goes.via (B := T.setTop (mkF m 263 #[.val (.long v0), .second, .val (.int v2), .val (.int v3), .val (.int v4), .val (.int v5), d6, .val (.int v7), d8, .val (.int v9), .val (.int v10), .val (.ref b1), .val (.ref b2), .val (.int v13), .val (.int v14), .val (.int v15), .val (.int t0), .val (.int x172), d18, d19, d20] [(.int (v5 &&& (255 : Int32)))])) (fun t k => ?_) ?_
      · show Steps p.tables e below (T.setTop (mkF m 246 #[.val (.long v0), .second, .val (.int v2), .val (.int v3), .val (.int v4), .val (.int v5), d6, .val (.int v7), d8, .val (.int v9), .val (.int v10), .val (.ref b1), .val (.ref b2), .val (.int v13), .val (.int v14), .val (.int v15), .val (.int t0), .val (.int x172), d18, d19, d20] [(.int v7), (.int v14)])) t
        refine XS.icmpYes X.here hx rfl (pc0 := 246) (pc' := 257) rfl (hb hby at_246) rfl (feq hc246).2 (by decide) (by decide) ?_
        show Steps p.tables e below (T.setTop (mkF m 257 #[.val (.long v0), .second, .val (.int v2), .val (.int v3), .val (.int v4), .val (.int v5), d6, .val (.int v7), d8, .val (.int v9), .val (.int v10), .val (.ref b1), .val (.ref b2), .val (.int v13), .val (.int v14), .val (.int v15), .val (.int t0), .val (.int x172), d18, d19, d20] [])) t
        refine XS.iload X.here hx rfl (hb hby at_257) rfl ?_
        show Steps p.tables e below (T.setTop (mkF m 259 #[.val (.long v0), .second, .val (.int v2), .val (.int v3), .val (.int v4), .val (.int v5), d6, .val (.int v7), d8, .val (.int v9), .val (.int v10), .val (.ref b1), .val (.ref b2), .val (.int v13), .val (.int v14), .val (.int v15), .val (.int t0), .val (.int x172), d18, d19, d20] [(.int v5)])) t
        refine XS.sipush X.here hx rfl (hb hby at_259) ?_
        show Steps p.tables e below (T.setTop (mkF m 262 #[.val (.long v0), .second, .val (.int v2), .val (.int v3), .val (.int v4), .val (.int v5), d6, .val (.int v7), d8, .val (.int v9), .val (.int v10), .val (.ref b1), .val (.ref b2), .val (.int v13), .val (.int v14), .val (.int v15), .val (.int t0), .val (.int x172), d18, d19, d20] [(.int (255 : Int32)), (.int v5)])) t
        refine XS.iand X.here hx rfl (hb hby at_262) rfl ?_
        exact k
      exact b_law_263 cx X eT N K z b1 b2 v9 v10 v13 v14 v15 t0 x172 (v5 &&& (255 : Int32)) bs_b1 bs_b2 v0 (.val (.int v2)) (.val (.int v3)) (.val (.int v4)) (.val (.int v5)) d6 (.val (.int v7)) d8 d18 d19 d20 (One.val rfl) (One.val rfl) (One.val rfl) (One.val rfl) o_d6 (One.val rfl) o_d8 o_d18 o_d19 o_d20 A_b1 g_b1 nE_b1 A_b2 g_b2 nE_b2 ne_b1_b2 _ hF
  · rw [if_neg hc223] at hF
    refine own_Goes.via (B := T.setTop (mkF m 240 #[.val (.long v0), .second, .val (.int v2), .val (.int v3), .val (.int v4), .val (.int v5), d6, .val (.int v7), d8, .val (.int v9), .val (.int v10), .val (.ref b1), .val (.ref b2), .val (.int v13), .val (.int v14), .val (.int v15), .val (.int t0), d17, d18, d19, d20] [(.int (v4 &&& (255 : Int32)))])) (fun t k => ?_) ?_
    · show Steps p.tables e below (T.setTop (mkF m 223 #[.val (.long v0), .second, .val (.int v2), .val (.int v3), .val (.int v4), .val (.int v5), d6, .val (.int v7), d8, .val (.int v9), .val (.int v10), .val (.ref b1), .val (.ref b2), .val (.int v13), .val (.int v14), .val (.int v15), .val (.int t0), d17, d18, d19, d20] [(.int v7), (.int v14)])) t
      refine XS.icmpYes X.here hx rfl (pc0 := 223) (pc' := 234) rfl (hb hby at_223) rfl (feq hc223).2 (by decide) (by decide) ?_
      show Steps p.tables e below (T.setTop (mkF m 234 #[.val (.long v0), .second, .val (.int v2), .val (.int v3), .val (.int v4), .val (.int v5), d6, .val (.int v7), d8, .val (.int v9), .val (.int v10), .val (.ref b1), .val (.ref b2), .val (.int v13), .val (.int v14), .val (.int v15), .val (.int t0), d17, d18, d19, d20] [])) t
      refine XS.iload X.here hx rfl (hb hby at_234) rfl ?_
      show Steps p.tables e below (T.setTop (mkF m 236 #[.val (.long v0), .second, .val (.int v2), .val (.int v3), .val (.int v4), .val (.int v5), d6, .val (.int v7), d8, .val (.int v9), .val (.int v10), .val (.ref b1), .val (.ref b2), .val (.int v13), .val (.int v14), .val (.int v15), .val (.int t0), d17, d18, d19, d20] [(.int v4)])) t
      refine XS.sipush X.here hx rfl (hb hby at_236) ?_
      show Steps p.tables e below (T.setTop (mkF m 239 #[.val (.long v0), .second, .val (.int v2), .val (.int v3), .val (.int v4), .val (.int v5), d6, .val (.int v7), d8, .val (.int v9), .val (.int v10), .val (.ref b1), .val (.ref b2), .val (.int v13), .val (.int v14), .val (.int v15), .val (.int t0), d17, d18, d19, d20] [(.int (255 : Int32)), (.int v4)])) t
      refine XS.iand X.here hx rfl (hb hby at_239) rfl ?_
      exact k
    obtain ⟨x173, hx173, hF⟩ := own_lt_e hF
    rw [← hx173]
    refine own_Goes.via (B := T.setTop (mkF m 246 #[.val (.long v0), .second, .val (.int v2), .val (.int v3), .val (.int v4), .val (.int v5), d6, .val (.int v7), d8, .val (.int v9), .val (.int v10), .val (.ref b1), .val (.ref b2), .val (.int v13), .val (.int v14), .val (.int v15), .val (.int t0), .val (.int x173), d18, d19, d20] [(.int v7), (.int v14)])) (fun t k => ?_) ?_
    · show Steps p.tables e below (T.setTop (mkF m 240 #[.val (.long v0), .second, .val (.int v2), .val (.int v3), .val (.int v4), .val (.int v5), d6, .val (.int v7), d8, .val (.int v9), .val (.int v10), .val (.ref b1), .val (.ref b2), .val (.int v13), .val (.int v14), .val (.int v15), .val (.int t0), d17, d18, d19, d20] [(.int x173)])) t
      refine XS.istoreS X.here hx rfl (hb hby at_240) rfl rfl o_d17 ?_
      show Steps p.tables e below (T.setTop (mkF m 242 #[.val (.long v0), .second, .val (.int v2), .val (.int v3), .val (.int v4), .val (.int v5), d6, .val (.int v7), d8, .val (.int v9), .val (.int v10), .val (.ref b1), .val (.ref b2), .val (.int v13), .val (.int v14), .val (.int v15), .val (.int t0), .val (.int x173), d18, d19, d20] [])) t
      refine XS.iload X.here hx rfl (hb hby at_242) rfl ?_
      show Steps p.tables e below (T.setTop (mkF m 244 #[.val (.long v0), .second, .val (.int v2), .val (.int v3), .val (.int v4), .val (.int v5), d6, .val (.int v7), d8, .val (.int v9), .val (.int v10), .val (.ref b1), .val (.ref b2), .val (.int v13), .val (.int v14), .val (.int v15), .val (.int t0), .val (.int x173), d18, d19, d20] [(.int v14)])) t
      refine XS.iload X.here hx rfl (hb hby at_244) rfl ?_
      exact k
    by_cases hc246 : v14 = v7
    · rw [if_pos hc246] at hF
      refine own_Goes.via (B := T.setTop (mkF m 263 #[.val (.long v0), .second, .val (.int v2), .val (.int v3), .val (.int v4), .val (.int v5), d6, .val (.int v7), d8, .val (.int v9), .val (.int v10), .val (.ref b1), .val (.ref b2), .val (.int v13), .val (.int v14), .val (.int v15), .val (.int t0), .val (.int x173), d18, d19, d20] [(.int (v3 &&& (255 : Int32)))])) (fun t k => ?_) ?_
      · show Steps p.tables e below (T.setTop (mkF m 246 #[.val (.long v0), .second, .val (.int v2), .val (.int v3), .val (.int v4), .val (.int v5), d6, .val (.int v7), d8, .val (.int v9), .val (.int v10), .val (.ref b1), .val (.ref b2), .val (.int v13), .val (.int v14), .val (.int v15), .val (.int t0), .val (.int x173), d18, d19, d20] [(.int v7), (.int v14)])) t
        refine XS.icmpNo X.here hx rfl (hb hby at_246) rfl (teq hc246).2 ?_
        show Steps p.tables e below (T.setTop (mkF m 249 #[.val (.long v0), .second, .val (.int v2), .val (.int v3), .val (.int v4), .val (.int v5), d6, .val (.int v7), d8, .val (.int v9), .val (.int v10), .val (.ref b1), .val (.ref b2), .val (.int v13), .val (.int v14), .val (.int v15), .val (.int t0), .val (.int x173), d18, d19, d20] [])) t
        refine XS.iloadN X.here hx rfl (hb hby at_249) rfl ?_
        show Steps p.tables e below (T.setTop (mkF m 250 #[.val (.long v0), .second, .val (.int v2), .val (.int v3), .val (.int v4), .val (.int v5), d6, .val (.int v7), d8, .val (.int v9), .val (.int v10), .val (.ref b1), .val (.ref b2), .val (.int v13), .val (.int v14), .val (.int v15), .val (.int t0), .val (.int x173), d18, d19, d20] [(.int v3)])) t
        refine XS.sipush X.here hx rfl (hb hby at_250) ?_
        show Steps p.tables e below (T.setTop (mkF m 253 #[.val (.long v0), .second, .val (.int v2), .val (.int v3), .val (.int v4), .val (.int v5), d6, .val (.int v7), d8, .val (.int v9), .val (.int v10), .val (.ref b1), .val (.ref b2), .val (.int v13), .val (.int v14), .val (.int v15), .val (.int t0), .val (.int x173), d18, d19, d20] [(.int (255 : Int32)), (.int v3)])) t
        refine XS.iand X.here hx rfl (hb hby at_253) rfl ?_
        show Steps p.tables e below (T.setTop (mkF m 254 #[.val (.long v0), .second, .val (.int v2), .val (.int v3), .val (.int v4), .val (.int v5), d6, .val (.int v7), d8, .val (.int v9), .val (.int v10), .val (.ref b1), .val (.ref b2), .val (.int v13), .val (.int v14), .val (.int v15), .val (.int t0), .val (.int x173), d18, d19, d20] [(.int (v3 &&& (255 : Int32)))])) t
        refine XS.goto X.here hx rfl (pc0 := 254) (pc' := 263) rfl (hb hby at_254) (by decide) (by decide) ?_
        exact k
      exact b_law_263 cx X eT N K z b1 b2 v9 v10 v13 v14 v15 t0 x173 (v3 &&& (255 : Int32)) bs_b1 bs_b2 v0 (.val (.int v2)) (.val (.int v3)) (.val (.int v4)) (.val (.int v5)) d6 (.val (.int v7)) d8 d18 d19 d20 (One.val rfl) (One.val rfl) (One.val rfl) (One.val rfl) o_d6 (One.val rfl) o_d8 o_d18 o_d19 o_d20 A_b1 g_b1 nE_b1 A_b2 g_b2 nE_b2 ne_b1_b2 _ hF
    · rw [if_neg hc246] at hF
      refine own_Goes.via (B := T.setTop (mkF m 263 #[.val (.long v0), .second, .val (.int v2), .val (.int v3), .val (.int v4), .val (.int v5), d6, .val (.int v7), d8, .val (.int v9), .val (.int v10), .val (.ref b1), .val (.ref b2), .val (.int v13), .val (.int v14), .val (.int v15), .val (.int t0), .val (.int x173), d18, d19, d20] [(.int (v5 &&& (255 : Int32)))])) (fun t k => ?_) ?_
      · show Steps p.tables e below (T.setTop (mkF m 246 #[.val (.long v0), .second, .val (.int v2), .val (.int v3), .val (.int v4), .val (.int v5), d6, .val (.int v7), d8, .val (.int v9), .val (.int v10), .val (.ref b1), .val (.ref b2), .val (.int v13), .val (.int v14), .val (.int v15), .val (.int t0), .val (.int x173), d18, d19, d20] [(.int v7), (.int v14)])) t
        refine XS.icmpYes X.here hx rfl (pc0 := 246) (pc' := 257) rfl (hb hby at_246) rfl (feq hc246).2 (by decide) (by decide) ?_
        show Steps p.tables e below (T.setTop (mkF m 257 #[.val (.long v0), .second, .val (.int v2), .val (.int v3), .val (.int v4), .val (.int v5), d6, .val (.int v7), d8, .val (.int v9), .val (.int v10), .val (.ref b1), .val (.ref b2), .val (.int v13), .val (.int v14), .val (.int v15), .val (.int t0), .val (.int x173), d18, d19, d20] [])) t
        refine XS.iload X.here hx rfl (hb hby at_257) rfl ?_
        show Steps p.tables e below (T.setTop (mkF m 259 #[.val (.long v0), .second, .val (.int v2), .val (.int v3), .val (.int v4), .val (.int v5), d6, .val (.int v7), d8, .val (.int v9), .val (.int v10), .val (.ref b1), .val (.ref b2), .val (.int v13), .val (.int v14), .val (.int v15), .val (.int t0), .val (.int x173), d18, d19, d20] [(.int v5)])) t
        refine XS.sipush X.here hx rfl (hb hby at_259) ?_
        show Steps p.tables e below (T.setTop (mkF m 262 #[.val (.long v0), .second, .val (.int v2), .val (.int v3), .val (.int v4), .val (.int v5), d6, .val (.int v7), d8, .val (.int v9), .val (.int v10), .val (.ref b1), .val (.ref b2), .val (.int v13), .val (.int v14), .val (.int v15), .val (.int t0), .val (.int x173), d18, d19, d20] [(.int (255 : Int32)), (.int v5)])) t
        refine XS.iand X.here hx rfl (hb hby at_262) rfl ?_
        exact k
      exact b_law_263 cx X eT N K z b1 b2 v9 v10 v13 v14 v15 t0 x173 (v5 &&& (255 : Int32)) bs_b1 bs_b2 v0 (.val (.int v2)) (.val (.int v3)) (.val (.int v4)) (.val (.int v5)) d6 (.val (.int v7)) d8 d18 d19 d20 (One.val rfl) (One.val rfl) (One.val rfl) (One.val rfl) o_d6 (One.val rfl) o_d8 o_d18 o_d19 o_d20 A_b1 g_b1 nE_b1 A_b2 g_b2 nE_b2 ne_b1_b2 _ hF
set_option maxRecDepth 65536 in
set_option maxHeartbeats 4000000 in
theorem b_law_113 {p : Program} {l : Launch} {e : Env} {s : State} {m : MethodId} {args : Array Value} {below : List Frame} {meth : Method} {c : Code} {Z : State} {a0 : Array Value} {n0 : Nat} {hE : Heap} (cx : Cx_law p s m meth c Z a0) :
    ∀ {T : State} {locs : List Loc} {h : Heap} (X : Stand p l e room_1 s m args below meth c T locs 2 82) (eT : T.heap = h) (N : Fr n0 locs) (K : Keep hE h []) (z : n0 ≤ h.size) (b1 : Addr) (b2 : Addr) (v2 : Int32) (v3 : Int32) (v4 : Int32) (v5 : Int32) (v7 : Int32) (v8 : Int32) (v9 : Int32) (v10 : Int32) (bs_b1 : List Int32) (bs_b2 : List Int32) (v0 : Int64) (d6 : Slot) (d13 : Slot) (d14 : Slot) (d15 : Slot) (d16 : Slot) (d17 : Slot) (d18 : Slot) (d19 : Slot) (d20 : Slot) (o_d6 : One d6) (o_d13 : One d13) (o_d14 : One d14) (o_d15 : One d15) (o_d16 : One d16) (o_d17 : One d17) (o_d18 : One d18) (o_d19 : One d19) (o_d20 : One d20) (A_b1 : own_Ar Z h b1 .byte (bs_b1.map Value.int)) (g_b1 : n0 ≤ b1) (nE_b1 : hE.size ≤ b1) (A_b2 : own_Ar Z h b2 .byte (bs_b2.map Value.int)) (g_b2 : n0 ≤ b2) (nE_b2 : hE.size ≤ b2) (ne_b1_b2 : b1 ≠ b2) (r : Int32), f_law_113 v2 v3 v4 v5 v7 v8 v9 v10 bs_b1 bs_b2 = some r → own_Goes p e below s (Q_law Z hE n0 r) 2 82 (T.setTop (mkF m 113 #[.val (.long v0), .second, .val (.int v2), .val (.int v3), .val (.int v4), .val (.int v5), d6, .val (.int v7), .val (.int v8), .val (.int v9), .val (.int v10), .val (.ref b1), .val (.ref b2), d13, d14, d15, d16, d17, d18, d19, d20] [])) := by
  have cx' := cx
  obtain ⟨hx, hZ, hw, hby, hml, hown, hret, hlk, hnm⟩ := cx'
  intro T locs h X eT N K z b1 b2 v2 v3 v4 v5 v7 v8 v9 v10 bs_b1 bs_b2 v0 d6 d13 d14 d15 d16 d17 d18 d19 d20 o_d6 o_d13 o_d14 o_d15 o_d16 o_d17 o_d18 o_d19 o_d20 A_b1 g_b1 nE_b1 A_b2 g_b2 nE_b2 ne_b1_b2 r hF
  unfold f_law_113 at hF
  refine own_Goes.via (B := T.setTop (mkF m 123 #[.val (.long v0), .second, .val (.int v2), .val (.int v3), .val (.int v4), .val (.int v5), d6, .val (.int v7), .val (.int v8), .val (.int v9), .val (.int v10), .val (.ref b1), .val (.ref b2), d13, d14, d15, d16, d17, d18, d19, d20] [(.int (v4.toInt8.toInt32)), (.int (v9 + v8)), (.ref b1)])) (fun t k => ?_) ?_
  · show Steps p.tables e below (T.setTop (mkF m 113 #[.val (.long v0), .second, .val (.int v2), .val (.int v3), .val (.int v4), .val (.int v5), d6, .val (.int v7), .val (.int v8), .val (.int v9), .val (.int v10), .val (.ref b1), .val (.ref b2), d13, d14, d15, d16, d17, d18, d19, d20] [])) t
    refine XS.aload X.here hx rfl (hb hby at_113) rfl rfl ?_
    show Steps p.tables e below (T.setTop (mkF m 115 #[.val (.long v0), .second, .val (.int v2), .val (.int v3), .val (.int v4), .val (.int v5), d6, .val (.int v7), .val (.int v8), .val (.int v9), .val (.int v10), .val (.ref b1), .val (.ref b2), d13, d14, d15, d16, d17, d18, d19, d20] [(.ref b1)])) t
    refine XS.iload X.here hx rfl (hb hby at_115) rfl ?_
    show Steps p.tables e below (T.setTop (mkF m 117 #[.val (.long v0), .second, .val (.int v2), .val (.int v3), .val (.int v4), .val (.int v5), d6, .val (.int v7), .val (.int v8), .val (.int v9), .val (.int v10), .val (.ref b1), .val (.ref b2), d13, d14, d15, d16, d17, d18, d19, d20] [(.int v9), (.ref b1)])) t
    refine XS.iload X.here hx rfl (hb hby at_117) rfl ?_
    show Steps p.tables e below (T.setTop (mkF m 119 #[.val (.long v0), .second, .val (.int v2), .val (.int v3), .val (.int v4), .val (.int v5), d6, .val (.int v7), .val (.int v8), .val (.int v9), .val (.int v10), .val (.ref b1), .val (.ref b2), d13, d14, d15, d16, d17, d18, d19, d20] [(.int v8), (.int v9), (.ref b1)])) t
    refine XS.iadd X.here hx rfl (hb hby at_119) rfl ?_
    show Steps p.tables e below (T.setTop (mkF m 120 #[.val (.long v0), .second, .val (.int v2), .val (.int v3), .val (.int v4), .val (.int v5), d6, .val (.int v7), .val (.int v8), .val (.int v9), .val (.int v10), .val (.ref b1), .val (.ref b2), d13, d14, d15, d16, d17, d18, d19, d20] [(.int (v9 + v8)), (.ref b1)])) t
    refine XS.iload X.here hx rfl (hb hby at_120) rfl ?_
    show Steps p.tables e below (T.setTop (mkF m 122 #[.val (.long v0), .second, .val (.int v2), .val (.int v3), .val (.int v4), .val (.int v5), d6, .val (.int v7), .val (.int v8), .val (.int v9), .val (.int v10), .val (.ref b1), .val (.ref b2), d13, d14, d15, d16, d17, d18, d19, d20] [(.int v4), (.int (v9 + v8)), (.ref b1)])) t
    refine XS.i2b X.here hx rfl (hb hby at_122) rfl ?_
    exact k
  obtain ⟨x175, hx175, hF⟩ := own_lt_e hF
  rw [← hx175]
  obtain ⟨x176, hx176, hF⟩ := own_lt_e hF
  rw [← hx176]
  obtain ⟨hi123, hF⟩ := own_ck_e hF
  obtain ⟨T177, h177, X177, e177, W177, A177_b1, st177⟩ := own_stB X hx hZ eT A_b1 hi123 (g := (mkF m 123 #[.val (.long v0), .second, .val (.int v2), .val (.int v3), .val (.int v4), .val (.int v5), d6, .val (.int v7), .val (.int v8), .val (.int v9), .val (.int v10), .val (.ref b1), .val (.ref b2), d13, d14, d15, d16, d17, d18, d19, d20] [(.int x175), (.int x176), (.ref b1)])) rfl rfl (hb hby at_123)
  refine own_Goes.via st177 ?_
  have A177_b2 := A_b2.other W177 (Ne.symm ne_b1_b2)
  have z177 := Nat.le_trans z (Keep.of_wr W177).1
  have K177_ := K.wr W177 (Or.inr nE_b1)
  have N177 := Fr.snoc X177 N g_b1
  have A177_b1 : own_Ar Z h177 b1 .byte ((own_wr bs_b1 x176 (x175.toInt8.toInt32)).map Value.int) := A177_b1
  show own_Goes _ _ _ _ _ _ _ (T177.setTop (mkF m 124 #[.val (.long v0), .second, .val (.int v2), .val (.int v3), .val (.int v4), .val (.int v5), d6, .val (.int v7), .val (.int v8), .val (.int v9), .val (.int v10), .val (.ref b1), .val (.ref b2), d13, d14, d15, d16, d17, d18, d19, d20] []))
  obtain ⟨bs178, hbs178, hF⟩ := own_lt_e hF
  rw [← hbs178] at A177_b1
  refine own_Goes.via (B := T177.setTop (mkF m 134 #[.val (.long v0), .second, .val (.int v2), .val (.int v3), .val (.int v4), .val (.int v5), d6, .val (.int v7), .val (.int v8), .val (.int v9), .val (.int v10), .val (.ref b1), .val (.ref b2), d13, d14, d15, d16, d17, d18, d19, d20] [(.int (v5.toInt8.toInt32)), (.int (v10 + v8)), (.ref b2)])) (fun t k => ?_) ?_
  · show Steps p.tables e below (T177.setTop (mkF m 124 #[.val (.long v0), .second, .val (.int v2), .val (.int v3), .val (.int v4), .val (.int v5), d6, .val (.int v7), .val (.int v8), .val (.int v9), .val (.int v10), .val (.ref b1), .val (.ref b2), d13, d14, d15, d16, d17, d18, d19, d20] [])) t
    refine XS.aload X177.here hx rfl (hb hby at_124) rfl rfl ?_
    show Steps p.tables e below (T177.setTop (mkF m 126 #[.val (.long v0), .second, .val (.int v2), .val (.int v3), .val (.int v4), .val (.int v5), d6, .val (.int v7), .val (.int v8), .val (.int v9), .val (.int v10), .val (.ref b1), .val (.ref b2), d13, d14, d15, d16, d17, d18, d19, d20] [(.ref b2)])) t
    refine XS.iload X177.here hx rfl (hb hby at_126) rfl ?_
    show Steps p.tables e below (T177.setTop (mkF m 128 #[.val (.long v0), .second, .val (.int v2), .val (.int v3), .val (.int v4), .val (.int v5), d6, .val (.int v7), .val (.int v8), .val (.int v9), .val (.int v10), .val (.ref b1), .val (.ref b2), d13, d14, d15, d16, d17, d18, d19, d20] [(.int v10), (.ref b2)])) t
    refine XS.iload X177.here hx rfl (hb hby at_128) rfl ?_
    show Steps p.tables e below (T177.setTop (mkF m 130 #[.val (.long v0), .second, .val (.int v2), .val (.int v3), .val (.int v4), .val (.int v5), d6, .val (.int v7), .val (.int v8), .val (.int v9), .val (.int v10), .val (.ref b1), .val (.ref b2), d13, d14, d15, d16, d17, d18, d19, d20] [(.int v8), (.int v10), (.ref b2)])) t
    refine XS.iadd X177.here hx rfl (hb hby at_130) rfl ?_
    show Steps p.tables e below (T177.setTop (mkF m 131 #[.val (.long v0), .second, .val (.int v2), .val (.int v3), .val (.int v4), .val (.int v5), d6, .val (.int v7), .val (.int v8), .val (.int v9), .val (.int v10), .val (.ref b1), .val (.ref b2), d13, d14, d15, d16, d17, d18, d19, d20] [(.int (v10 + v8)), (.ref b2)])) t
    refine XS.iload X177.here hx rfl (hb hby at_131) rfl ?_
    show Steps p.tables e below (T177.setTop (mkF m 133 #[.val (.long v0), .second, .val (.int v2), .val (.int v3), .val (.int v4), .val (.int v5), d6, .val (.int v7), .val (.int v8), .val (.int v9), .val (.int v10), .val (.ref b1), .val (.ref b2), d13, d14, d15, d16, d17, d18, d19, d20] [(.int v5), (.int (v10 + v8)), (.ref b2)])) t
    refine XS.i2b X177.here hx rfl (hb hby at_133) rfl ?_
    exact k
  obtain ⟨x179, hx179, hF⟩ := own_lt_e hF
  rw [← hx179]
  obtain ⟨x180, hx180, hF⟩ := own_lt_e hF
  rw [← hx180]
  obtain ⟨hi134, hF⟩ := own_ck_e hF
  obtain ⟨T181, h181, X181, e181, W181, A181_b2, st181⟩ := own_stB X177 hx hZ e177 A177_b2 hi134 (g := (mkF m 134 #[.val (.long v0), .second, .val (.int v2), .val (.int v3), .val (.int v4), .val (.int v5), d6, .val (.int v7), .val (.int v8), .val (.int v9), .val (.int v10), .val (.ref b1), .val (.ref b2), d13, d14, d15, d16, d17, d18, d19, d20] [(.int x179), (.int x180), (.ref b2)])) rfl rfl (hb hby at_134)
  refine own_Goes.via st181 ?_
  have A181_b1 := A177_b1.other W181 ne_b1_b2
  have z181 := Nat.le_trans z177 (Keep.of_wr W181).1
  have K181_ := K177_.wr W181 (Or.inr nE_b2)
  have N181 := Fr.snoc X181 N177 g_b2
  have A181_b2 : own_Ar Z h181 b2 .byte ((own_wr bs_b2 x180 (x179.toInt8.toInt32)).map Value.int) := A181_b2
  show own_Goes _ _ _ _ _ _ _ (T181.setTop (mkF m 135 #[.val (.long v0), .second, .val (.int v2), .val (.int v3), .val (.int v4), .val (.int v5), d6, .val (.int v7), .val (.int v8), .val (.int v9), .val (.int v10), .val (.ref b1), .val (.ref b2), d13, d14, d15, d16, d17, d18, d19, d20] []))
  obtain ⟨bs182, hbs182, hF⟩ := own_lt_e hF
  rw [← hbs182] at A181_b2
  refine own_Goes.via (B := T181.setTop (mkF m 144 #[.val (.long v0), .second, .val (.int v2), .val (.int v3), .val (.int v4), .val (.int v5), d6, .val (.int v7), .val (.int v8), .val (.int v9), .val (.int v10), .val (.ref b1), .val (.ref b2), d13, d14, d15, d16, d17, d18, d19, d20] [(.int (v2.toInt8.toInt32)), (.int (v9 + v7)), (.ref b1)])) (fun t k => ?_) ?_
  · show Steps p.tables e below (T181.setTop (mkF m 135 #[.val (.long v0), .second, .val (.int v2), .val (.int v3), .val (.int v4), .val (.int v5), d6, .val (.int v7), .val (.int v8), .val (.int v9), .val (.int v10), .val (.ref b1), .val (.ref b2), d13, d14, d15, d16, d17, d18, d19, d20] [])) t
    refine XS.aload X181.here hx rfl (hb hby at_135) rfl rfl ?_
    show Steps p.tables e below (T181.setTop (mkF m 137 #[.val (.long v0), .second, .val (.int v2), .val (.int v3), .val (.int v4), .val (.int v5), d6, .val (.int v7), .val (.int v8), .val (.int v9), .val (.int v10), .val (.ref b1), .val (.ref b2), d13, d14, d15, d16, d17, d18, d19, d20] [(.ref b1)])) t
    refine XS.iload X181.here hx rfl (hb hby at_137) rfl ?_
    show Steps p.tables e below (T181.setTop (mkF m 139 #[.val (.long v0), .second, .val (.int v2), .val (.int v3), .val (.int v4), .val (.int v5), d6, .val (.int v7), .val (.int v8), .val (.int v9), .val (.int v10), .val (.ref b1), .val (.ref b2), d13, d14, d15, d16, d17, d18, d19, d20] [(.int v9), (.ref b1)])) t
    refine XS.iload X181.here hx rfl (hb hby at_139) rfl ?_
    show Steps p.tables e below (T181.setTop (mkF m 141 #[.val (.long v0), .second, .val (.int v2), .val (.int v3), .val (.int v4), .val (.int v5), d6, .val (.int v7), .val (.int v8), .val (.int v9), .val (.int v10), .val (.ref b1), .val (.ref b2), d13, d14, d15, d16, d17, d18, d19, d20] [(.int v7), (.int v9), (.ref b1)])) t
    refine XS.iadd X181.here hx rfl (hb hby at_141) rfl ?_
    show Steps p.tables e below (T181.setTop (mkF m 142 #[.val (.long v0), .second, .val (.int v2), .val (.int v3), .val (.int v4), .val (.int v5), d6, .val (.int v7), .val (.int v8), .val (.int v9), .val (.int v10), .val (.ref b1), .val (.ref b2), d13, d14, d15, d16, d17, d18, d19, d20] [(.int (v9 + v7)), (.ref b1)])) t
    refine XS.iloadN X181.here hx rfl (hb hby at_142) rfl ?_
    show Steps p.tables e below (T181.setTop (mkF m 143 #[.val (.long v0), .second, .val (.int v2), .val (.int v3), .val (.int v4), .val (.int v5), d6, .val (.int v7), .val (.int v8), .val (.int v9), .val (.int v10), .val (.ref b1), .val (.ref b2), d13, d14, d15, d16, d17, d18, d19, d20] [(.int v2), (.int (v9 + v7)), (.ref b1)])) t
    refine XS.i2b X181.here hx rfl (hb hby at_143) rfl ?_
    exact k
  obtain ⟨x183, hx183, hF⟩ := own_lt_e hF
  rw [← hx183]
  obtain ⟨x184, hx184, hF⟩ := own_lt_e hF
  rw [← hx184]
  obtain ⟨hi144, hF⟩ := own_ck_e hF
  obtain ⟨T185, h185, X185, e185, W185, A185_b1, st185⟩ := own_stB X181 hx hZ e181 A181_b1 hi144 (g := (mkF m 144 #[.val (.long v0), .second, .val (.int v2), .val (.int v3), .val (.int v4), .val (.int v5), d6, .val (.int v7), .val (.int v8), .val (.int v9), .val (.int v10), .val (.ref b1), .val (.ref b2), d13, d14, d15, d16, d17, d18, d19, d20] [(.int x183), (.int x184), (.ref b1)])) rfl rfl (hb hby at_144)
  refine own_Goes.via st185 ?_
  have A185_b2 := A181_b2.other W185 (Ne.symm ne_b1_b2)
  have z185 := Nat.le_trans z181 (Keep.of_wr W185).1
  have K185_ := K181_.wr W185 (Or.inr nE_b1)
  have N185 := Fr.snoc X185 N181 g_b1
  have A185_b1 : own_Ar Z h185 b1 .byte ((own_wr bs178 x184 (x183.toInt8.toInt32)).map Value.int) := A185_b1
  show own_Goes _ _ _ _ _ _ _ (T185.setTop (mkF m 145 #[.val (.long v0), .second, .val (.int v2), .val (.int v3), .val (.int v4), .val (.int v5), d6, .val (.int v7), .val (.int v8), .val (.int v9), .val (.int v10), .val (.ref b1), .val (.ref b2), d13, d14, d15, d16, d17, d18, d19, d20] []))
  obtain ⟨bs186, hbs186, hF⟩ := own_lt_e hF
  rw [← hbs186] at A185_b1
  refine own_Goes.via (B := T185.setTop (mkF m 154 #[.val (.long v0), .second, .val (.int v2), .val (.int v3), .val (.int v4), .val (.int v5), d6, .val (.int v7), .val (.int v8), .val (.int v9), .val (.int v10), .val (.ref b1), .val (.ref b2), d13, d14, d15, d16, d17, d18, d19, d20] [(.int (v3.toInt8.toInt32)), (.int (v10 + v7)), (.ref b2)])) (fun t k => ?_) ?_
  · show Steps p.tables e below (T185.setTop (mkF m 145 #[.val (.long v0), .second, .val (.int v2), .val (.int v3), .val (.int v4), .val (.int v5), d6, .val (.int v7), .val (.int v8), .val (.int v9), .val (.int v10), .val (.ref b1), .val (.ref b2), d13, d14, d15, d16, d17, d18, d19, d20] [])) t
    refine XS.aload X185.here hx rfl (hb hby at_145) rfl rfl ?_
    show Steps p.tables e below (T185.setTop (mkF m 147 #[.val (.long v0), .second, .val (.int v2), .val (.int v3), .val (.int v4), .val (.int v5), d6, .val (.int v7), .val (.int v8), .val (.int v9), .val (.int v10), .val (.ref b1), .val (.ref b2), d13, d14, d15, d16, d17, d18, d19, d20] [(.ref b2)])) t
    refine XS.iload X185.here hx rfl (hb hby at_147) rfl ?_
    show Steps p.tables e below (T185.setTop (mkF m 149 #[.val (.long v0), .second, .val (.int v2), .val (.int v3), .val (.int v4), .val (.int v5), d6, .val (.int v7), .val (.int v8), .val (.int v9), .val (.int v10), .val (.ref b1), .val (.ref b2), d13, d14, d15, d16, d17, d18, d19, d20] [(.int v10), (.ref b2)])) t
    refine XS.iload X185.here hx rfl (hb hby at_149) rfl ?_
    show Steps p.tables e below (T185.setTop (mkF m 151 #[.val (.long v0), .second, .val (.int v2), .val (.int v3), .val (.int v4), .val (.int v5), d6, .val (.int v7), .val (.int v8), .val (.int v9), .val (.int v10), .val (.ref b1), .val (.ref b2), d13, d14, d15, d16, d17, d18, d19, d20] [(.int v7), (.int v10), (.ref b2)])) t
    refine XS.iadd X185.here hx rfl (hb hby at_151) rfl ?_
    show Steps p.tables e below (T185.setTop (mkF m 152 #[.val (.long v0), .second, .val (.int v2), .val (.int v3), .val (.int v4), .val (.int v5), d6, .val (.int v7), .val (.int v8), .val (.int v9), .val (.int v10), .val (.ref b1), .val (.ref b2), d13, d14, d15, d16, d17, d18, d19, d20] [(.int (v10 + v7)), (.ref b2)])) t
    refine XS.iloadN X185.here hx rfl (hb hby at_152) rfl ?_
    show Steps p.tables e below (T185.setTop (mkF m 153 #[.val (.long v0), .second, .val (.int v2), .val (.int v3), .val (.int v4), .val (.int v5), d6, .val (.int v7), .val (.int v8), .val (.int v9), .val (.int v10), .val (.ref b1), .val (.ref b2), d13, d14, d15, d16, d17, d18, d19, d20] [(.int v3), (.int (v10 + v7)), (.ref b2)])) t
    refine XS.i2b X185.here hx rfl (hb hby at_153) rfl ?_
    exact k
  obtain ⟨x187, hx187, hF⟩ := own_lt_e hF
  rw [← hx187]
  obtain ⟨x188, hx188, hF⟩ := own_lt_e hF
  rw [← hx188]
  obtain ⟨hi154, hF⟩ := own_ck_e hF
  obtain ⟨T189, h189, X189, e189, W189, A189_b2, st189⟩ := own_stB X185 hx hZ e185 A185_b2 hi154 (g := (mkF m 154 #[.val (.long v0), .second, .val (.int v2), .val (.int v3), .val (.int v4), .val (.int v5), d6, .val (.int v7), .val (.int v8), .val (.int v9), .val (.int v10), .val (.ref b1), .val (.ref b2), d13, d14, d15, d16, d17, d18, d19, d20] [(.int x187), (.int x188), (.ref b2)])) rfl rfl (hb hby at_154)
  refine own_Goes.via st189 ?_
  have A189_b1 := A185_b1.other W189 ne_b1_b2
  have z189 := Nat.le_trans z185 (Keep.of_wr W189).1
  have K189_ := K185_.wr W189 (Or.inr nE_b2)
  have N189 := Fr.snoc X189 N185 g_b2
  have A189_b2 : own_Ar Z h189 b2 .byte ((own_wr bs182 x188 (x187.toInt8.toInt32)).map Value.int) := A189_b2
  show own_Goes _ _ _ _ _ _ _ (T189.setTop (mkF m 155 #[.val (.long v0), .second, .val (.int v2), .val (.int v3), .val (.int v4), .val (.int v5), d6, .val (.int v7), .val (.int v8), .val (.int v9), .val (.int v10), .val (.ref b1), .val (.ref b2), d13, d14, d15, d16, d17, d18, d19, d20] []))
  obtain ⟨bs190, hbs190, hF⟩ := own_lt_e hF
  rw [← hbs190] at A189_b2
  refine own_Goes.via (B := T189.setTop (mkF m 159 #[.val (.long v0), .second, .val (.int v2), .val (.int v3), .val (.int v4), .val (.int v5), d6, .val (.int v7), .val (.int v8), .val (.int v9), .val (.int v10), .val (.ref b1), .val (.ref b2), d13, d14, d15, d16, d17, d18, d19, d20] [(.int v8), (.int v7)])) (fun t k => ?_) ?_
  · show Steps p.tables e below (T189.setTop (mkF m 155 #[.val (.long v0), .second, .val (.int v2), .val (.int v3), .val (.int v4), .val (.int v5), d6, .val (.int v7), .val (.int v8), .val (.int v9), .val (.int v10), .val (.ref b1), .val (.ref b2), d13, d14, d15, d16, d17, d18, d19, d20] [])) t
    refine XS.iload X189.here hx rfl (hb hby at_155) rfl ?_
    show Steps p.tables e below (T189.setTop (mkF m 157 #[.val (.long v0), .second, .val (.int v2), .val (.int v3), .val (.int v4), .val (.int v5), d6, .val (.int v7), .val (.int v8), .val (.int v9), .val (.int v10), .val (.ref b1), .val (.ref b2), d13, d14, d15, d16, d17, d18, d19, d20] [(.int v7)])) t
    refine XS.iload X189.here hx rfl (hb hby at_157) rfl ?_
    exact k
  obtain ⟨r191, hr191, hF⟩ := own_bd_e hF
  obtain ⟨_, _, ⟨T191, L191, k191, n191⟩, -, X191, ⟨Lc191, hQ191, l191, y191, z191⟩, st191⟩ := Jvm.LawKit.callS X189 hx (y := (⟨"java/lang/Math", "min", "(II)I"⟩ : MethodName)) hown (mvT hZ (w3 hw)) (mvT hZ (w4 hw)) (mvT hZ (w5 hw)) (mvT hZ (w6 hw)) (by decide) (backOf (W := 0) (rm_Math_min l Z a0 hw [] h189 n0 z189 v7 v8 r191 hr191) hZ (w6 hw) (w5 hw) (by decide) (by decide)) (g := (mkF m 159 #[.val (.long v0), .second, .val (.int v2), .val (.int v3), .val (.int v4), .val (.int v5), d6, .val (.int v7), .val (.int v8), .val (.int v9), .val (.int v10), .val (.ref b1), .val (.ref b2), d13, d14, d15, d16, d17, d18, d19, d20] [(.int v8), (.int v7)])) rfl (by rw [hml]; rfl) (argsL := [(.int v7), (.int v8)]) (rest := []) (lenOf pd_0 rfl) rfl (by show 2 * 0 + _ ≤ _; exact Nat.le_of_eq rfl) (hb hby at_159) (fun _ _ => ⟨rfl, e189, (by decide : 2 + 0 ≤ _), (by decide : 82 + 0 ≤ _)⟩)
  dsimp only [Pt.U, Pt.locs, Pt.cells, Pt.slots] at X191 l191 y191 z191 st191 hQ191
  subst l191 y191 z191
  obtain ⟨rfl, N191q, e191⟩ := hQ191
  have N191 := Fr.app N189 N191q
  refine own_Goes.via st191 ?_
  show own_Goes _ _ _ _ _ _ _ (T191.setTop (mkF m 162 #[.val (.long v0), .second, .val (.int v2), .val (.int v3), .val (.int v4), .val (.int v5), d6, .val (.int v7), .val (.int v8), .val (.int v9), .val (.int v10), .val (.ref b1), .val (.ref b2), d13, d14, d15, d16, d17, d18, d19, d20] [(.int r191)]))
  refine own_Goes.via (B := T191.setTop (mkF m 168 #[.val (.long v0), .second, .val (.int v2), .val (.int v3), .val (.int v4), .val (.int v5), d6, .val (.int v7), .val (.int v8), .val (.int v9), .val (.int v10), .val (.ref b1), .val (.ref b2), .val (.int r191), d14, d15, d16, d17, d18, d19, d20] [(.int v8), (.int v7)])) (fun t k => ?_) ?_
  · show Steps p.tables e below (T191.setTop (mkF m 162 #[.val (.long v0), .second, .val (.int v2), .val (.int v3), .val (.int v4), .val (.int v5), d6, .val (.int v7), .val (.int v8), .val (.int v9), .val (.int v10), .val (.ref b1), .val (.ref b2), d13, d14, d15, d16, d17, d18, d19, d20] [(.int r191)])) t
    refine XS.istoreS X191.here hx rfl (hb hby at_162) rfl rfl o_d13 ?_
    show Steps p.tables e below (T191.setTop (mkF m 164 #[.val (.long v0), .second, .val (.int v2), .val (.int v3), .val (.int v4), .val (.int v5), d6, .val (.int v7), .val (.int v8), .val (.int v9), .val (.int v10), .val (.ref b1), .val (.ref b2), .val (.int r191), d14, d15, d16, d17, d18, d19, d20] [])) t
    refine XS.iload X191.here hx rfl (hb hby at_164) rfl ?_
    show Steps p.tables e below (T191.setTop (mkF m 166 #[.val (.long v0), .second, .val (.int v2), .val (.int v3), .val (.int v4), .val (.int v5), d6, .val (.int v7), .val (.int v8), .val (.int v9), .val (.int v10), .val (.ref b1), .val (.ref b2), .val (.int r191), d14, d15, d16, d17, d18, d19, d20] [(.int v7)])) t
    refine XS.iload X191.here hx rfl (hb hby at_166) rfl ?_
    exact k
  obtain ⟨r192, hr192, hF⟩ := own_bd_e hF
  obtain ⟨_, _, ⟨T192, L192, k192, n192⟩, -, X192, ⟨Lc192, hQ192, l192, y192, z192⟩, st192⟩ := Jvm.LawKit.callS X191 hx (y := (⟨"java/lang/Math", "max", "(II)I"⟩ : MethodName)) hown (mvT hZ (w7 hw)) (mvT hZ (w8 hw)) (mvT hZ (w5 hw)) (mvT hZ (w9 hw)) (by decide) (backOf (W := 0) (rm_Math_max l Z a0 hw [] h189 n0 z189 v7 v8 r192 hr192) hZ (w9 hw) (w5 hw) (by decide) (by decide)) (g := (mkF m 168 #[.val (.long v0), .second, .val (.int v2), .val (.int v3), .val (.int v4), .val (.int v5), d6, .val (.int v7), .val (.int v8), .val (.int v9), .val (.int v10), .val (.ref b1), .val (.ref b2), .val (.int r191), d14, d15, d16, d17, d18, d19, d20] [(.int v8), (.int v7)])) rfl (by rw [hml]; rfl) (argsL := [(.int v7), (.int v8)]) (rest := []) (lenOf pd_0 rfl) rfl (by show 2 * 0 + _ ≤ _; exact Nat.le_of_eq rfl) (hb hby at_168) (fun _ _ => ⟨rfl, e191, (by decide : 2 + 0 ≤ _), (by decide : 82 + 0 ≤ _)⟩)
  dsimp only [Pt.U, Pt.locs, Pt.cells, Pt.slots] at X192 l192 y192 z192 st192 hQ192
  subst l192 y192 z192
  obtain ⟨rfl, N192q, e192⟩ := hQ192
  have N192 := Fr.app N191 N192q
  refine own_Goes.via st192 ?_
  show own_Goes _ _ _ _ _ _ _ (T192.setTop (mkF m 171 #[.val (.long v0), .second, .val (.int v2), .val (.int v3), .val (.int v4), .val (.int v5), d6, .val (.int v7), .val (.int v8), .val (.int v9), .val (.int v10), .val (.ref b1), .val (.ref b2), .val (.int r191), d14, d15, d16, d17, d18, d19, d20] [(.int r192)]))
  refine own_Goes.via (B := T192.setTop (mkF m 177 #[.val (.long v0), .second, .val (.int v2), .val (.int v3), .val (.int v4), .val (.int v5), d6, .val (.int v7), .val (.int v8), .val (.int v9), .val (.int v10), .val (.ref b1), .val (.ref b2), .val (.int r191), .val (.int r192), d15, d16, d17, d18, d19, d20] [(.int v7), (.int r191)])) (fun t k => ?_) ?_
  · show Steps p.tables e below (T192.setTop (mkF m 171 #[.val (.long v0), .second, .val (.int v2), .val (.int v3), .val (.int v4), .val (.int v5), d6, .val (.int v7), .val (.int v8), .val (.int v9), .val (.int v10), .val (.ref b1), .val (.ref b2), .val (.int r191), d14, d15, d16, d17, d18, d19, d20] [(.int r192)])) t
    refine XS.istoreS X192.here hx rfl (hb hby at_171) rfl rfl o_d14 ?_
    show Steps p.tables e below (T192.setTop (mkF m 173 #[.val (.long v0), .second, .val (.int v2), .val (.int v3), .val (.int v4), .val (.int v5), d6, .val (.int v7), .val (.int v8), .val (.int v9), .val (.int v10), .val (.ref b1), .val (.ref b2), .val (.int r191), .val (.int r192), d15, d16, d17, d18, d19, d20] [])) t
    refine XS.iload X192.here hx rfl (hb hby at_173) rfl ?_
    show Steps p.tables e below (T192.setTop (mkF m 175 #[.val (.long v0), .second, .val (.int v2), .val (.int v3), .val (.int v4), .val (.int v5), d6, .val (.int v7), .val (.int v8), .val (.int v9), .val (.int v10), .val (.ref b1), .val (.ref b2), .val (.int r191), .val (.int r192), d15, d16, d17, d18, d19, d20] [(.int r191)])) t
    refine XS.iload X192.here hx rfl (hb hby at_175) rfl ?_
    exact k
  by_cases hc177 : r191 = v7
  · rw [if_pos hc177] at hF
    refine own_Goes.via (B := T192.setTop (mkF m 194 #[.val (.long v0), .second, .val (.int v2), .val (.int v3), .val (.int v4), .val (.int v5), d6, .val (.int v7), .val (.int v8), .val (.int v9), .val (.int v10), .val (.ref b1), .val (.ref b2), .val (.int r191), .val (.int r192), d15, d16, d17, d18, d19, d20] [(.int (v2 &&& (255 : Int32)))])) (fun t k => ?_) ?_
    · show Steps p.tables e below (T192.setTop (mkF m 177 #[.val (.long v0), .second, .val (.int v2), .val (.int v3), .val (.int v4), .val (.int v5), d6, .val (.int v7), .val (.int v8), .val (.int v9), .val (.int v10), .val (.ref b1), .val (.ref b2), .val (.int r191), .val (.int r192), d15, d16, d17, d18, d19, d20] [(.int v7), (.int r191)])) t
      refine XS.icmpNo X192.here hx rfl (hb hby at_177) rfl (teq hc177).2 ?_
      show Steps p.tables e below (T192.setTop (mkF m 180 #[.val (.long v0), .second, .val (.int v2), .val (.int v3), .val (.int v4), .val (.int v5), d6, .val (.int v7), .val (.int v8), .val (.int v9), .val (.int v10), .val (.ref b1), .val (.ref b2), .val (.int r191), .val (.int r192), d15, d16, d17, d18, d19, d20] [])) t
      refine XS.iloadN X192.here hx rfl (hb hby at_180) rfl ?_
      show Steps p.tables e below (T192.setTop (mkF m 181 #[.val (.long v0), .second, .val (.int v2), .val (.int v3), .val (.int v4), .val (.int v5), d6, .val (.int v7), .val (.int v8), .val (.int v9), .val (.int v10), .val (.ref b1), .val (.ref b2), .val (.int r191), .val (.int r192), d15, d16, d17, d18, d19, d20] [(.int v2)])) t
      refine XS.sipush X192.here hx rfl (hb hby at_181) ?_
      show Steps p.tables e below (T192.setTop (mkF m 184 #[.val (.long v0), .second, .val (.int v2), .val (.int v3), .val (.int v4), .val (.int v5), d6, .val (.int v7), .val (.int v8), .val (.int v9), .val (.int v10), .val (.ref b1), .val (.ref b2), .val (.int r191), .val (.int r192), d15, d16, d17, d18, d19, d20] [(.int (255 : Int32)), (.int v2)])) t
      refine XS.iand X192.here hx rfl (hb hby at_184) rfl ?_
      show Steps p.tables e below (T192.setTop (mkF m 185 #[.val (.long v0), .second, .val (.int v2), .val (.int v3), .val (.int v4), .val (.int v5), d6, .val (.int v7), .val (.int v8), .val (.int v9), .val (.int v10), .val (.ref b1), .val (.ref b2), .val (.int r191), .val (.int r192), d15, d16, d17, d18, d19, d20] [(.int (v2 &&& (255 : Int32)))])) t
      refine XS.goto X192.here hx rfl (pc0 := 185) (pc' := 194) rfl (hb hby at_185) (by decide) (by decide) ?_
      exact k
    obtain ⟨x193, hx193, hF⟩ := own_lt_e hF
    rw [← hx193]
    refine own_Goes.via (B := T192.setTop (mkF m 200 #[.val (.long v0), .second, .val (.int v2), .val (.int v3), .val (.int v4), .val (.int v5), d6, .val (.int v7), .val (.int v8), .val (.int v9), .val (.int v10), .val (.ref b1), .val (.ref b2), .val (.int r191), .val (.int r192), .val (.int x193), d16, d17, d18, d19, d20] [(.int v7), (.int r191)])) (fun t k => ?_) ?_
    · show Steps p.tables e below (T192.setTop (mkF m 194 #[.val (.long v0), .second, .val (.int v2), .val (.int v3), .val (.int v4), .val (.int v5), d6, .val (.int v7), .val (.int v8), .val (.int v9), .val (.int v10), .val (.ref b1), .val (.ref b2), .val (.int r191), .val (.int r192), d15, d16, d17, d18, d19, d20] [(.int x193)])) t
      refine XS.istoreS X192.here hx rfl (hb hby at_194) rfl rfl o_d15 ?_
      show Steps p.tables e below (T192.setTop (mkF m 196 #[.val (.long v0), .second, .val (.int v2), .val (.int v3), .val (.int v4), .val (.int v5), d6, .val (.int v7), .val (.int v8), .val (.int v9), .val (.int v10), .val (.ref b1), .val (.ref b2), .val (.int r191), .val (.int r192), .val (.int x193), d16, d17, d18, d19, d20] [])) t
      refine XS.iload X192.here hx rfl (hb hby at_196) rfl ?_
      show Steps p.tables e below (T192.setTop (mkF m 198 #[.val (.long v0), .second, .val (.int v2), .val (.int v3), .val (.int v4), .val (.int v5), d6, .val (.int v7), .val (.int v8), .val (.int v9), .val (.int v10), .val (.ref b1), .val (.ref b2), .val (.int r191), .val (.int r192), .val (.int x193), d16, d17, d18, d19, d20] [(.int r191)])) t
      refine XS.iload X192.here hx rfl (hb hby at_198) rfl ?_
      exact k
    by_cases hc200 : r191 = v7
    · rw [if_pos hc200] at hF
      refine own_Goes.via (B := T192.setTop (mkF m 217 #[.val (.long v0), .second, .val (.int v2), .val (.int v3), .val (.int v4), .val (.int v5), d6, .val (.int v7), .val (.int v8), .val (.int v9), .val (.int v10), .val (.ref b1), .val (.ref b2), .val (.int r191), .val (.int r192), .val (.int x193), d16, d17, d18, d19, d20] [(.int (v3 &&& (255 : Int32)))])) (fun t k => ?_) ?_
      · show Steps p.tables e below (T192.setTop (mkF m 200 #[.val (.long v0), .second, .val (.int v2), .val (.int v3), .val (.int v4), .val (.int v5), d6, .val (.int v7), .val (.int v8), .val (.int v9), .val (.int v10), .val (.ref b1), .val (.ref b2), .val (.int r191), .val (.int r192), .val (.int x193), d16, d17, d18, d19, d20] [(.int v7), (.int r191)])) t
        refine XS.icmpNo X192.here hx rfl (hb hby at_200) rfl (teq hc200).2 ?_
        show Steps p.tables e below (T192.setTop (mkF m 203 #[.val (.long v0), .second, .val (.int v2), .val (.int v3), .val (.int v4), .val (.int v5), d6, .val (.int v7), .val (.int v8), .val (.int v9), .val (.int v10), .val (.ref b1), .val (.ref b2), .val (.int r191), .val (.int r192), .val (.int x193), d16, d17, d18, d19, d20] [])) t
        refine XS.iloadN X192.here hx rfl (hb hby at_203) rfl ?_
        show Steps p.tables e below (T192.setTop (mkF m 204 #[.val (.long v0), .second, .val (.int v2), .val (.int v3), .val (.int v4), .val (.int v5), d6, .val (.int v7), .val (.int v8), .val (.int v9), .val (.int v10), .val (.ref b1), .val (.ref b2), .val (.int r191), .val (.int r192), .val (.int x193), d16, d17, d18, d19, d20] [(.int v3)])) t
        refine XS.sipush X192.here hx rfl (hb hby at_204) ?_
        show Steps p.tables e below (T192.setTop (mkF m 207 #[.val (.long v0), .second, .val (.int v2), .val (.int v3), .val (.int v4), .val (.int v5), d6, .val (.int v7), .val (.int v8), .val (.int v9), .val (.int v10), .val (.ref b1), .val (.ref b2), .val (.int r191), .val (.int r192), .val (.int x193), d16, d17, d18, d19, d20] [(.int (255 : Int32)), (.int v3)])) t
        refine XS.iand X192.here hx rfl (hb hby at_207) rfl ?_
        show Steps p.tables e below (T192.setTop (mkF m 208 #[.val (.long v0), .second, .val (.int v2), .val (.int v3), .val (.int v4), .val (.int v5), d6, .val (.int v7), .val (.int v8), .val (.int v9), .val (.int v10), .val (.ref b1), .val (.ref b2), .val (.int r191), .val (.int r192), .val (.int x193), d16, d17, d18, d19, d20] [(.int (v3 &&& (255 : Int32)))])) t
        refine XS.goto X192.here hx rfl (pc0 := 208) (pc' := 217) rfl (hb hby at_208) (by decide) (by decide) ?_
        exact k
      exact b_law_217 cx X192 e192 N192 K189_ z189 b1 b2 v2 v3 v4 v5 v7 v9 v10 r191 r192 x193 (v3 &&& (255 : Int32)) bs186 bs190 v0 d6 (.val (.int v8)) d16 d17 d18 d19 d20 o_d6 (One.val rfl) o_d16 o_d17 o_d18 o_d19 o_d20 A189_b1 g_b1 nE_b1 A189_b2 g_b2 nE_b2 ne_b1_b2 _ hF
    · rw [if_neg hc200] at hF
      refine own_Goes.via (B := T192.setTop (mkF m 217 #[.val (.long v0), .second, .val (.int v2), .val (.int v3), .val (.int v4), .val (.int v5), d6, .val (.int v7), .val (.int v8), .val (.int v9), .val (.int v10), .val (.ref b1), .val (.ref b2), .val (.int r191), .val (.int r192), .val (.int x193), d16, d17, d18, d19, d20] [(.int (v5 &&& (255 : Int32)))])) (fun t k => ?_) ?_
      · show Steps p.tables e below (T192.setTop (mkF m 200 #[.val (.long v0), .second, .val (.int v2), .val (.int v3), .val (.int v4), .val (.int v5), d6, .val (.int v7), .val (.int v8), .val (.int v9), .val (.int v10), .val (.ref b1), .val (.ref b2), .val (.int r191), .val (.int r192), .val (.int x193), d16, d17, d18, d19, d20] [(.int v7), (.int r191)])) t
        refine XS.icmpYes X192.here hx rfl (pc0 := 200) (pc' := 211) rfl (hb hby at_200) rfl (feq hc200).2 (by decide) (by decide) ?_
        show Steps p.tables e below (T192.setTop (mkF m 211 #[.val (.long v0), .second, .val (.int v2), .val (.int v3), .val (.int v4), .val (.int v5), d6, .val (.int v7), .val (.int v8), .val (.int v9), .val (.int v10), .val (.ref b1), .val (.ref b2), .val (.int r191), .val (.int r192), .val (.int x193), d16, d17, d18, d19, d20] [])) t
        refine XS.iload X192.here hx rfl (hb hby at_211) rfl ?_
        show Steps p.tables e below (T192.setTop (mkF m 213 #[.val (.long v0), .second, .val (.int v2), .val (.int v3), .val (.int v4), .val (.int v5), d6, .val (.int v7), .val (.int v8), .val (.int v9), .val (.int v10), .val (.ref b1), .val (.ref b2), .val (.int r191), .val (.int r192), .val (.int x193), d16, d17, d18, d19, d20] [(.int v5)])) t
        refine XS.sipush X192.here hx rfl (hb hby at_213) ?_
        show Steps p.tables e below (T192.setTop (mkF m 216 #[.val (.long v0), .second, .val (.int v2), .val (.int v3), .val (.int v4), .val (.int v5), d6, .val (.int v7), .val (.int v8), .val (.int v9), .val (.int v10), .val (.ref b1), .val (.ref b2), .val (.int r191), .val (.int r192), .val (.int x193), d16, d17, d18, d19, d20] [(.int (255 : Int32)), (.int v5)])) t
        refine XS.iand X192.here hx rfl (hb hby at_216) rfl ?_
        exact k
      exact b_law_217 cx X192 e192 N192 K189_ z189 b1 b2 v2 v3 v4 v5 v7 v9 v10 r191 r192 x193 (v5 &&& (255 : Int32)) bs186 bs190 v0 d6 (.val (.int v8)) d16 d17 d18 d19 d20 o_d6 (One.val rfl) o_d16 o_d17 o_d18 o_d19 o_d20 A189_b1 g_b1 nE_b1 A189_b2 g_b2 nE_b2 ne_b1_b2 _ hF
  · rw [if_neg hc177] at hF
    refine own_Goes.via (B := T192.setTop (mkF m 194 #[.val (.long v0), .second, .val (.int v2), .val (.int v3), .val (.int v4), .val (.int v5), d6, .val (.int v7), .val (.int v8), .val (.int v9), .val (.int v10), .val (.ref b1), .val (.ref b2), .val (.int r191), .val (.int r192), d15, d16, d17, d18, d19, d20] [(.int (v4 &&& (255 : Int32)))])) (fun t k => ?_) ?_
    · show Steps p.tables e below (T192.setTop (mkF m 177 #[.val (.long v0), .second, .val (.int v2), .val (.int v3), .val (.int v4), .val (.int v5), d6, .val (.int v7), .val (.int v8), .val (.int v9), .val (.int v10), .val (.ref b1), .val (.ref b2), .val (.int r191), .val (.int r192), d15, d16, d17, d18, d19, d20] [(.int v7), (.int r191)])) t
      refine XS.icmpYes X192.here hx rfl (pc0 := 177) (pc' := 188) rfl (hb hby at_177) rfl (feq hc177).2 (by decide) (by decide) ?_
      show Steps p.tables e below (T192.setTop (mkF m 188 #[.val (.long v0), .second, .val (.int v2), .val (.int v3), .val (.int v4), .val (.int v5), d6, .val (.int v7), .val (.int v8), .val (.int v9), .val (.int v10), .val (.ref b1), .val (.ref b2), .val (.int r191), .val (.int r192), d15, d16, d17, d18, d19, d20] [])) t
      refine XS.iload X192.here hx rfl (hb hby at_188) rfl ?_
      show Steps p.tables e below (T192.setTop (mkF m 190 #[.val (.long v0), .second, .val (.int v2), .val (.int v3), .val (.int v4), .val (.int v5), d6, .val (.int v7), .val (.int v8), .val (.int v9), .val (.int v10), .val (.ref b1), .val (.ref b2), .val (.int r191), .val (.int r192), d15, d16, d17, d18, d19, d20] [(.int v4)])) t
      refine XS.sipush X192.here hx rfl (hb hby at_190) ?_
      show Steps p.tables e below (T192.setTop (mkF m 193 #[.val (.long v0), .second, .val (.int v2), .val (.int v3), .val (.int v4), .val (.int v5), d6, .val (.int v7), .val (.int v8), .val (.int v9), .val (.int v10), .val (.ref b1), .val (.ref b2), .val (.int r191), .val (.int r192), d15, d16, d17, d18, d19, d20] [(.int (255 : Int32)), (.int v4)])) t
      refine XS.iand X192.here hx rfl (hb hby at_193) rfl ?_
      exact k
    obtain ⟨x194, hx194, hF⟩ := own_lt_e hF
    rw [← hx194]
    refine own_Goes.via (B := T192.setTop (mkF m 200 #[.val (.long v0), .second, .val (.int v2), .val (.int v3), .val (.int v4), .val (.int v5), d6, .val (.int v7), .val (.int v8), .val (.int v9), .val (.int v10), .val (.ref b1), .val (.ref b2), .val (.int r191), .val (.int r192), .val (.int x194), d16, d17, d18, d19, d20] [(.int v7), (.int r191)])) (fun t k => ?_) ?_
    · show Steps p.tables e below (T192.setTop (mkF m 194 #[.val (.long v0), .second, .val (.int v2), .val (.int v3), .val (.int v4), .val (.int v5), d6, .val (.int v7), .val (.int v8), .val (.int v9), .val (.int v10), .val (.ref b1), .val (.ref b2), .val (.int r191), .val (.int r192), d15, d16, d17, d18, d19, d20] [(.int x194)])) t
      refine XS.istoreS X192.here hx rfl (hb hby at_194) rfl rfl o_d15 ?_
      show Steps p.tables e below (T192.setTop (mkF m 196 #[.val (.long v0), .second, .val (.int v2), .val (.int v3), .val (.int v4), .val (.int v5), d6, .val (.int v7), .val (.int v8), .val (.int v9), .val (.int v10), .val (.ref b1), .val (.ref b2), .val (.int r191), .val (.int r192), .val (.int x194), d16, d17, d18, d19, d20] [])) t
      refine XS.iload X192.here hx rfl (hb hby at_196) rfl ?_
      show Steps p.tables e below (T192.setTop (mkF m 198 #[.val (.long v0), .second, .val (.int v2), .val (.int v3), .val (.int v4), .val (.int v5), d6, .val (.int v7), .val (.int v8), .val (.int v9), .val (.int v10), .val (.ref b1), .val (.ref b2), .val (.int r191), .val (.int r192), .val (.int x194), d16, d17, d18, d19, d20] [(.int r191)])) t
      refine XS.iload X192.here hx rfl (hb hby at_198) rfl ?_
      exact k
    by_cases hc200 : r191 = v7
    · rw [if_pos hc200] at hF
      refine own_Goes.via (B := T192.setTop (mkF m 217 #[.val (.long v0), .second, .val (.int v2), .val (.int v3), .val (.int v4), .val (.int v5), d6, .val (.int v7), .val (.int v8), .val (.int v9), .val (.int v10), .val (.ref b1), .val (.ref b2), .val (.int r191), .val (.int r192), .val (.int x194), d16, d17, d18, d19, d20] [(.int (v3 &&& (255 : Int32)))])) (fun t k => ?_) ?_
      · show Steps p.tables e below (T192.setTop (mkF m 200 #[.val (.long v0), .second, .val (.int v2), .val (.int v3), .val (.int v4), .val (.int v5), d6, .val (.int v7), .val (.int v8), .val (.int v9), .val (.int v10), .val (.ref b1), .val (.ref b2), .val (.int r191), .val (.int r192), .val (.int x194), d16, d17, d18, d19, d20] [(.int v7), (.int r191)])) t
        refine XS.icmpNo X192.here hx rfl (hb hby at_200) rfl (teq hc200).2 ?_
        show Steps p.tables e below (T192.setTop (mkF m 203 #[.val (.long v0), .second, .val (.int v2), .val (.int v3), .val (.int v4), .val (.int v5), d6, .val (.int v7), .val (.int v8), .val (.int v9), .val (.int v10), .val (.ref b1), .val (.ref b2), .val (.int r191), .val (.int r192), .val (.int x194), d16, d17, d18, d19, d20] [])) t
        refine XS.iloadN X192.here hx rfl (hb hby at_203) rfl ?_
        show Steps p.tables e below (T192.setTop (mkF m 204 #[.val (.long v0), .second, .val (.int v2), .val (.int v3), .val (.int v4), .val (.int v5), d6, .val (.int v7), .val (.int v8), .val (.int v9), .val (.int v10), .val (.ref b1), .val (.ref b2), .val (.int r191), .val (.int r192), .val (.int x194), d16, d17, d18, d19, d20] [(.int v3)])) t
        refine XS.sipush X192.here hx rfl (hb hby at_204) ?_
        show Steps p.tables e below (T192.setTop (mkF m 207 #[.val (.long v0), .second, .val (.int v2), .val (.int v3), .val (.int v4), .val (.int v5), d6, .val (.int v7), .val (.int v8), .val (.int v9), .val (.int v10), .val (.ref b1), .val (.ref b2), .val (.int r191), .val (.int r192), .val (.int x194), d16, d17, d18, d19, d20] [(.int (255 : Int32)), (.int v3)])) t
        refine XS.iand X192.here hx rfl (hb hby at_207) rfl ?_
        show Steps p.tables e below (T192.setTop (mkF m 208 #[.val (.long v0), .second, .val (.int v2), .val (.int v3), .val (.int v4), .val (.int v5), d6, .val (.int v7), .val (.int v8), .val (.int v9), .val (.int v10), .val (.ref b1), .val (.ref b2), .val (.int r191), .val (.int r192), .val (.int x194), d16, d17, d18, d19, d20] [(.int (v3 &&& (255 : Int32)))])) t
        refine XS.goto X192.here hx rfl (pc0 := 208) (pc' := 217) rfl (hb hby at_208) (by decide) (by decide) ?_
        exact k
      exact b_law_217 cx X192 e192 N192 K189_ z189 b1 b2 v2 v3 v4 v5 v7 v9 v10 r191 r192 x194 (v3 &&& (255 : Int32)) bs186 bs190 v0 d6 (.val (.int v8)) d16 d17 d18 d19 d20 o_d6 (One.val rfl) o_d16 o_d17 o_d18 o_d19 o_d20 A189_b1 g_b1 nE_b1 A189_b2 g_b2 nE_b2 ne_b1_b2 _ hF
    · rw [if_neg hc200] at hF
      refine own_Goes.via (B := T192.setTop (mkF m 217 #[.val (.long v0), .second, .val (.int v2), .val (.int v3), .val (.int v4), .val (.int v5), d6, .val (.int v7), .val (.int v8), .val (.int v9), .val (.int v10), .val (.ref b1), .val (.ref b2), .val (.int r191), .val (.int r192), .val (.int x194), d16, d17, d18, d19, d20] [(.int (v5 &&& (255 : Int32)))])) (fun t k => ?_) ?_
      · show Steps p.tables e below (T192.setTop (mkF m 200 #[.val (.long v0), .second, .val (.int v2), .val (.int v3), .val (.int v4), .val (.int v5), d6, .val (.int v7), .val (.int v8), .val (.int v9), .val (.int v10), .val (.ref b1), .val (.ref b2), .val (.int r191), .val (.int r192), .val (.int x194), d16, d17, d18, d19, d20] [(.int v7), (.int r191)])) t
        refine XS.icmpYes X192.here hx rfl (pc0 := 200) (pc' := 211) rfl (hb hby at_200) rfl (feq hc200).2 (by decide) (by decide) ?_
        show Steps p.tables e below (T192.setTop (mkF m 211 #[.val (.long v0), .second, .val (.int v2), .val (.int v3), .val (.int v4), .val (.int v5), d6, .val (.int v7), .val (.int v8), .val (.int v9), .val (.int v10), .val (.ref b1), .val (.ref b2), .val (.int r191), .val (.int r192), .val (.int x194), d16, d17, d18, d19, d20] [])) t
        refine XS.iload X192.here hx rfl (hb hby at_211) rfl ?_
        show Steps p.tables e below (T192.setTop (mkF m 213 #[.val (.long v0), .second, .val (.int v2), .val (.int v3), .val (.int v4), .val (.int v5), d6, .val (.int v7), .val (.int v8), .val (.int v9), .val (.int v10), .val (.ref b1), .val (.ref b2), .val (.int r191), .val (.int r192), .val (.int x194), d16, d17, d18, d19, d20] [(.int v5)])) t
        refine XS.sipush X192.here hx rfl (hb hby at_213) ?_
        show Steps p.tables e below (T192.setTop (mkF m 216 #[.val (.long v0), .second, .val (.int v2), .val (.int v3), .val (.int v4), .val (.int v5), d6, .val (.int v7), .val (.int v8), .val (.int v9), .val (.int v10), .val (.ref b1), .val (.ref b2), .val (.int r191), .val (.int r192), .val (.int x194), d16, d17, d18, d19, d20] [(.int (255 : Int32)), (.int v5)])) t
        refine XS.iand X192.here hx rfl (hb hby at_216) rfl ?_
        exact k
      exact b_law_217 cx X192 e192 N192 K189_ z189 b1 b2 v2 v3 v4 v5 v7 v9 v10 r191 r192 x194 (v5 &&& (255 : Int32)) bs186 bs190 v0 d6 (.val (.int v8)) d16 d17 d18 d19 d20 o_d6 (One.val rfl) o_d16 o_d17 o_d18 o_d19 o_d20 A189_b1 g_b1 nE_b1 A189_b2 g_b2 nE_b2 ne_b1_b2 _ hF
set_option maxRecDepth 65536 in
set_option maxHeartbeats 4000000 in
theorem b_law {p : Program} {l : Launch} {e : Env} {s : State} {m : MethodId} {args : Array Value} {below : List Frame} {meth : Method} {c : Code} {Z : State} {a0 : Array Value} {n0 : Nat} {hE : Heap} (cx : Cx_law p s m meth c Z a0) :
    ∀ {T : State} {locs : List Loc} {h : Heap} (X : Stand p l e room_1 s m args below meth c T locs 0 0) (eT : T.heap = h) (N : Fr n0 locs) (K : Keep hE h []) (z : n0 ≤ h.size) (v0 : Int64) (v2 : Int32) (v3 : Int32) (v4 : Int32) (v5 : Int32) (v6 : Int32) (r : Int32), f_law v0 v2 v3 v4 v5 v6 = some r → own_Goes p e below s (Q_law Z hE n0 r) 2 82 (T.setTop (mkF m 0 #[.val (.long v0), .second, .val (.int v2), .val (.int v3), .val (.int v4), .val (.int v5), .val (.int v6), .unset, .unset, .unset, .unset, .unset, .unset, .unset, .unset, .unset, .unset, .unset, .unset, .unset, .unset] [])) := by
  have cx' := cx
  obtain ⟨hx, hZ, hw, hby, hml, hown, hret, hlk, hnm⟩ := cx'
  intro T locs h X eT N K z v0 v2 v3 v4 v5 v6 r hF
  unfold f_law at hF
  refine own_Goes.via (B := T.setTop (mkF m 6 #[.val (.long v0), .second, .val (.int v2), .val (.int v3), .val (.int v4), .val (.int v5), .val (.int v6), .unset, .unset, .unset, .unset, .unset, .unset, .unset, .unset, .unset, .unset, .unset, .unset, .unset, .unset] [(.int ((v0 &&& (31 : Int64)).toInt32))])) (fun t k => ?_) ?_
  · show Steps p.tables e below (T.setTop (mkF m 0 #[.val (.long v0), .second, .val (.int v2), .val (.int v3), .val (.int v4), .val (.int v5), .val (.int v6), .unset, .unset, .unset, .unset, .unset, .unset, .unset, .unset, .unset, .unset, .unset, .unset, .unset, .unset] [])) t
    refine XS.lloadN X.here hx rfl (hb hby at_0) rfl ?_
    show Steps p.tables e below (T.setTop (mkF m 1 #[.val (.long v0), .second, .val (.int v2), .val (.int v3), .val (.int v4), .val (.int v5), .val (.int v6), .unset, .unset, .unset, .unset, .unset, .unset, .unset, .unset, .unset, .unset, .unset, .unset, .unset, .unset] [(.long v0)])) t
    refine X.ldc2Long hx hown (mvT hZ (w0 hw)) (g := (mkF m 1 #[.val (.long v0), .second, .val (.int v2), .val (.int v3), .val (.int v4), .val (.int v5), .val (.int v6), .unset, .unset, .unset, .unset, .unset, .unset, .unset, .unset, .unset, .unset, .unset, .unset, .unset, .unset] [(.long v0)])) rfl (hb hby at_1) _ ?_
    show Steps p.tables e below (T.setTop (mkF m 4 #[.val (.long v0), .second, .val (.int v2), .val (.int v3), .val (.int v4), .val (.int v5), .val (.int v6), .unset, .unset, .unset, .unset, .unset, .unset, .unset, .unset, .unset, .unset, .unset, .unset, .unset, .unset] [(.long (31 : Int64)), (.long v0)])) t
    refine XS.land X.here hx rfl (hb hby at_4) rfl ?_
    show Steps p.tables e below (T.setTop (mkF m 5 #[.val (.long v0), .second, .val (.int v2), .val (.int v3), .val (.int v4), .val (.int v5), .val (.int v6), .unset, .unset, .unset, .unset, .unset, .unset, .unset, .unset, .unset, .unset, .unset, .unset, .unset, .unset] [(.long (v0 &&& (31 : Int64)))])) t
    refine XS.l2i X.here hx rfl (hb hby at_5) rfl ?_
    exact k
  obtain ⟨x199, hx199, hF⟩ := own_lt_e hF
  rw [← hx199]
  refine own_Goes.via (B := T.setTop (mkF m 16 #[.val (.long v0), .second, .val (.int v2), .val (.int v3), .val (.int v4), .val (.int v5), .val (.int v6), .val (.int x199), .unset, .unset, .unset, .unset, .unset, .unset, .unset, .unset, .unset, .unset, .unset, .unset, .unset] [(.int ((((v0.toUInt64 >>> ((5 : Int32) &&& 0x3f).toInt64.toUInt64).toInt64) &&& (31 : Int64)).toInt32))])) (fun t k => ?_) ?_
  · show Steps p.tables e below (T.setTop (mkF m 6 #[.val (.long v0), .second, .val (.int v2), .val (.int v3), .val (.int v4), .val (.int v5), .val (.int v6), .unset, .unset, .unset, .unset, .unset, .unset, .unset, .unset, .unset, .unset, .unset, .unset, .unset, .unset] [(.int x199)])) t
    refine XS.istore X.here hx rfl (hb hby at_6) rfl (l' := #[.val (.long v0), .second, .val (.int v2), .val (.int v3), .val (.int v4), .val (.int v5), .val (.int v6), .val (.int x199), .unset, .unset, .unset, .unset, .unset, .unset, .unset, .unset, .unset, .unset, .unset, .unset, .unset]) rfl ?_
    show Steps p.tables e below (T.setTop (mkF m 8 #[.val (.long v0), .second, .val (.int v2), .val (.int v3), .val (.int v4), .val (.int v5), .val (.int v6), .val (.int x199), .unset, .unset, .unset, .unset, .unset, .unset, .unset, .unset, .unset, .unset, .unset, .unset, .unset] [])) t
    refine XS.lloadN X.here hx rfl (hb hby at_8) rfl ?_
    show Steps p.tables e below (T.setTop (mkF m 9 #[.val (.long v0), .second, .val (.int v2), .val (.int v3), .val (.int v4), .val (.int v5), .val (.int v6), .val (.int x199), .unset, .unset, .unset, .unset, .unset, .unset, .unset, .unset, .unset, .unset, .unset, .unset, .unset] [(.long v0)])) t
    refine XS.iconst X.here hx rfl (hb hby at_9) ?_
    show Steps p.tables e below (T.setTop (mkF m 10 #[.val (.long v0), .second, .val (.int v2), .val (.int v3), .val (.int v4), .val (.int v5), .val (.int v6), .val (.int x199), .unset, .unset, .unset, .unset, .unset, .unset, .unset, .unset, .unset, .unset, .unset, .unset, .unset] [(.int (5 : Int32)), (.long v0)])) t
    refine XS.lushr X.here hx rfl (hb hby at_10) rfl ?_
    show Steps p.tables e below (T.setTop (mkF m 11 #[.val (.long v0), .second, .val (.int v2), .val (.int v3), .val (.int v4), .val (.int v5), .val (.int v6), .val (.int x199), .unset, .unset, .unset, .unset, .unset, .unset, .unset, .unset, .unset, .unset, .unset, .unset, .unset] [(.long ((v0.toUInt64 >>> ((5 : Int32) &&& 0x3f).toInt64.toUInt64).toInt64))])) t
    refine X.ldc2Long hx hown (mvT hZ (w0 hw)) (g := (mkF m 11 #[.val (.long v0), .second, .val (.int v2), .val (.int v3), .val (.int v4), .val (.int v5), .val (.int v6), .val (.int x199), .unset, .unset, .unset, .unset, .unset, .unset, .unset, .unset, .unset, .unset, .unset, .unset, .unset] [(.long ((v0.toUInt64 >>> ((5 : Int32) &&& 0x3f).toInt64.toUInt64).toInt64))])) rfl (hb hby at_11) _ ?_
    show Steps p.tables e below (T.setTop (mkF m 14 #[.val (.long v0), .second, .val (.int v2), .val (.int v3), .val (.int v4), .val (.int v5), .val (.int v6), .val (.int x199), .unset, .unset, .unset, .unset, .unset, .unset, .unset, .unset, .unset, .unset, .unset, .unset, .unset] [(.long (31 : Int64)), (.long ((v0.toUInt64 >>> ((5 : Int32) &&& 0x3f).toInt64.toUInt64).toInt64))])) t
    refine XS.land X.here hx rfl (hb hby at_14) rfl ?_
    show Steps p.tables e below (T.setTop (mkF m 15 #[.val (.long v0), .second, .val (.int v2), .val (.int v3), .val (.int v4), .val (.int v5), .val (.int v6), .val (.int x199), .unset, .unset, .unset, .unset, .unset, .unset, .unset, .unset, .unset, .unset, .unset, .unset, .unset] [(.long (((v0.toUInt64 >>> ((5 : Int32) &&& 0x3f).toInt64.toUInt64).toInt64) &&& (31 : Int64)))])) t
    refine XS.l2i X.here hx rfl (hb hby at_15) rfl ?_
    exact k
  obtain ⟨x200, hx200, hF⟩ := own_lt_e hF
  rw [← hx200]
  refine own_Goes.via (B := T.setTop (mkF m 27 #[.val (.long v0), .second, .val (.int v2), .val (.int v3), .val (.int v4), .val (.int v5), .val (.int v6), .val (.int x199), .val (.int x200), .unset, .unset, .unset, .unset, .unset, .unset, .unset, .unset, .unset, .unset, .unset, .unset] [(.int ((((v0.toUInt64 >>> ((10 : Int32) &&& 0x3f).toInt64.toUInt64).toInt64) &&& (7 : Int64)).toInt32))])) (fun t k => ?_) ?_
  · show Steps p.tables e below (T.setTop (mkF m 16 #[.val (.long v0), .second, .val (.int v2), .val (.int v3), .val (.int v4), .val (.int v5), .val (.int v6), .val (.int x199), .unset, .unset, .unset, .unset, .unset, .unset, .unset, .unset, .unset, .unset, .unset, .unset, .unset] [(.int x200)])) t
    refine XS.istore X.here hx rfl (hb hby at_16) rfl (l' := #[.val (.long v0), .second, .val (.int v2), .val (.int v3), .val (.int v4), .val (.int v5), .val (.int v6), .val (.int x199), .val (.int x200), .unset, .unset, .unset, .unset, .unset, .unset, .unset, .unset, .unset, .unset, .unset, .unset]) rfl ?_
    show Steps p.tables e below (T.setTop (mkF m 18 #[.val (.long v0), .second, .val (.int v2), .val (.int v3), .val (.int v4), .val (.int v5), .val (.int v6), .val (.int x199), .val (.int x200), .unset, .unset, .unset, .unset, .unset, .unset, .unset, .unset, .unset, .unset, .unset, .unset] [])) t
    refine XS.lloadN X.here hx rfl (hb hby at_18) rfl ?_
    show Steps p.tables e below (T.setTop (mkF m 19 #[.val (.long v0), .second, .val (.int v2), .val (.int v3), .val (.int v4), .val (.int v5), .val (.int v6), .val (.int x199), .val (.int x200), .unset, .unset, .unset, .unset, .unset, .unset, .unset, .unset, .unset, .unset, .unset, .unset] [(.long v0)])) t
    refine XS.bipush X.here hx rfl (hb hby at_19) ?_
    show Steps p.tables e below (T.setTop (mkF m 21 #[.val (.long v0), .second, .val (.int v2), .val (.int v3), .val (.int v4), .val (.int v5), .val (.int v6), .val (.int x199), .val (.int x200), .unset, .unset, .unset, .unset, .unset, .unset, .unset, .unset, .unset, .unset, .unset, .unset] [(.int (10 : Int32)), (.long v0)])) t
    refine XS.lushr X.here hx rfl (hb hby at_21) rfl ?_
    show Steps p.tables e below (T.setTop (mkF m 22 #[.val (.long v0), .second, .val (.int v2), .val (.int v3), .val (.int v4), .val (.int v5), .val (.int v6), .val (.int x199), .val (.int x200), .unset, .unset, .unset, .unset, .unset, .unset, .unset, .unset, .unset, .unset, .unset, .unset] [(.long ((v0.toUInt64 >>> ((10 : Int32) &&& 0x3f).toInt64.toUInt64).toInt64))])) t
    refine X.ldc2Long hx hown (mvT hZ (w1 hw)) (g := (mkF m 22 #[.val (.long v0), .second, .val (.int v2), .val (.int v3), .val (.int v4), .val (.int v5), .val (.int v6), .val (.int x199), .val (.int x200), .unset, .unset, .unset, .unset, .unset, .unset, .unset, .unset, .unset, .unset, .unset, .unset] [(.long ((v0.toUInt64 >>> ((10 : Int32) &&& 0x3f).toInt64.toUInt64).toInt64))])) rfl (hb hby at_22) _ ?_
    show Steps p.tables e below (T.setTop (mkF m 25 #[.val (.long v0), .second, .val (.int v2), .val (.int v3), .val (.int v4), .val (.int v5), .val (.int v6), .val (.int x199), .val (.int x200), .unset, .unset, .unset, .unset, .unset, .unset, .unset, .unset, .unset, .unset, .unset, .unset] [(.long (7 : Int64)), (.long ((v0.toUInt64 >>> ((10 : Int32) &&& 0x3f).toInt64.toUInt64).toInt64))])) t
    refine XS.land X.here hx rfl (hb hby at_25) rfl ?_
    show Steps p.tables e below (T.setTop (mkF m 26 #[.val (.long v0), .second, .val (.int v2), .val (.int v3), .val (.int v4), .val (.int v5), .val (.int v6), .val (.int x199), .val (.int x200), .unset, .unset, .unset, .unset, .unset, .unset, .unset, .unset, .unset, .unset, .unset, .unset] [(.long (((v0.toUInt64 >>> ((10 : Int32) &&& 0x3f).toInt64.toUInt64).toInt64) &&& (7 : Int64)))])) t
    refine XS.l2i X.here hx rfl (hb hby at_26) rfl ?_
    exact k
  obtain ⟨x201, hx201, hF⟩ := own_lt_e hF
  rw [← hx201]
  refine own_Goes.via (B := T.setTop (mkF m 38 #[.val (.long v0), .second, .val (.int v2), .val (.int v3), .val (.int v4), .val (.int v5), .val (.int v6), .val (.int x199), .val (.int x200), .val (.int x201), .unset, .unset, .unset, .unset, .unset, .unset, .unset, .unset, .unset, .unset, .unset] [(.int ((((v0.toUInt64 >>> ((13 : Int32) &&& 0x3f).toInt64.toUInt64).toInt64) &&& (7 : Int64)).toInt32))])) (fun t k => ?_) ?_
  · show Steps p.tables e below (T.setTop (mkF m 27 #[.val (.long v0), .second, .val (.int v2), .val (.int v3), .val (.int v4), .val (.int v5), .val (.int v6), .val (.int x199), .val (.int x200), .unset, .unset, .unset, .unset, .unset, .unset, .unset, .unset, .unset, .unset, .unset, .unset] [(.int x201)])) t
    refine XS.istore X.here hx rfl (hb hby at_27) rfl (l' := #[.val (.long v0), .second, .val (.int v2), .val (.int v3), .val (.int v4), .val (.int v5), .val (.int v6), .val (.int x199), .val (.int x200), .val (.int x201), .unset, .unset, .unset, .unset, .unset, .unset, .unset, .unset, .unset, .unset, .unset]) rfl ?_
    show Steps p.tables e below (T.setTop (mkF m 29 #[.val (.long v0), .second, .val (.int v2), .val (.int v3), .val (.int v4), .val (.int v5), .val (.int v6), .val (.int x199), .val (.int x200), .val (.int x201), .unset, .unset, .unset, .unset, .unset, .unset, .unset, .unset, .unset, .unset, .unset] [])) t
    refine XS.lloadN X.here hx rfl (hb hby at_29) rfl ?_
    show Steps p.tables e below (T.setTop (mkF m 30 #[.val (.long v0), .second, .val (.int v2), .val (.int v3), .val (.int v4), .val (.int v5), .val (.int v6), .val (.int x199), .val (.int x200), .val (.int x201), .unset, .unset, .unset, .unset, .unset, .unset, .unset, .unset, .unset, .unset, .unset] [(.long v0)])) t
    refine XS.bipush X.here hx rfl (hb hby at_30) ?_
    show Steps p.tables e below (T.setTop (mkF m 32 #[.val (.long v0), .second, .val (.int v2), .val (.int v3), .val (.int v4), .val (.int v5), .val (.int v6), .val (.int x199), .val (.int x200), .val (.int x201), .unset, .unset, .unset, .unset, .unset, .unset, .unset, .unset, .unset, .unset, .unset] [(.int (13 : Int32)), (.long v0)])) t
    refine XS.lushr X.here hx rfl (hb hby at_32) rfl ?_
    show Steps p.tables e below (T.setTop (mkF m 33 #[.val (.long v0), .second, .val (.int v2), .val (.int v3), .val (.int v4), .val (.int v5), .val (.int v6), .val (.int x199), .val (.int x200), .val (.int x201), .unset, .unset, .unset, .unset, .unset, .unset, .unset, .unset, .unset, .unset, .unset] [(.long ((v0.toUInt64 >>> ((13 : Int32) &&& 0x3f).toInt64.toUInt64).toInt64))])) t
    refine X.ldc2Long hx hown (mvT hZ (w1 hw)) (g := (mkF m 33 #[.val (.long v0), .second, .val (.int v2), .val (.int v3), .val (.int v4), .val (.int v5), .val (.int v6), .val (.int x199), .val (.int x200), .val (.int x201), .unset, .unset, .unset, .unset, .unset, .unset, .unset, .unset, .unset, .unset, .unset] [(.long ((v0.toUInt64 >>> ((13 : Int32) &&& 0x3f).toInt64.toUInt64).toInt64))])) rfl (hb hby at_33) _ ?_
    show Steps p.tables e below (T.setTop (mkF m 36 #[.val (.long v0), .second, .val (.int v2), .val (.int v3), .val (.int v4), .val (.int v5), .val (.int v6), .val (.int x199), .val (.int x200), .val (.int x201), .unset, .unset, .unset, .unset, .unset, .unset, .unset, .unset, .unset, .unset, .unset] [(.long (7 : Int64)), (.long ((v0.toUInt64 >>> ((13 : Int32) &&& 0x3f).toInt64.toUInt64).toInt64))])) t
    refine XS.land X.here hx rfl (hb hby at_36) rfl ?_
    show Steps p.tables e below (T.setTop (mkF m 37 #[.val (.long v0), .second, .val (.int v2), .val (.int v3), .val (.int v4), .val (.int v5), .val (.int v6), .val (.int x199), .val (.int x200), .val (.int x201), .unset, .unset, .unset, .unset, .unset, .unset, .unset, .unset, .unset, .unset, .unset] [(.long (((v0.toUInt64 >>> ((13 : Int32) &&& 0x3f).toInt64.toUInt64).toInt64) &&& (7 : Int64)))])) t
    refine XS.l2i X.here hx rfl (hb hby at_37) rfl ?_
    exact k
  obtain ⟨x202, hx202, hF⟩ := own_lt_e hF
  rw [← hx202]
  refine own_Goes.via (B := T.setTop (mkF m 42 #[.val (.long v0), .second, .val (.int v2), .val (.int v3), .val (.int v4), .val (.int v5), .val (.int v6), .val (.int x199), .val (.int x200), .val (.int x201), .val (.int x202), .unset, .unset, .unset, .unset, .unset, .unset, .unset, .unset, .unset, .unset] [(.int (41 : Int32))])) (fun t k => ?_) ?_
  · show Steps p.tables e below (T.setTop (mkF m 38 #[.val (.long v0), .second, .val (.int v2), .val (.int v3), .val (.int v4), .val (.int v5), .val (.int v6), .val (.int x199), .val (.int x200), .val (.int x201), .unset, .unset, .unset, .unset, .unset, .unset, .unset, .unset, .unset, .unset, .unset] [(.int x202)])) t
    refine XS.istore X.here hx rfl (hb hby at_38) rfl (l' := #[.val (.long v0), .second, .val (.int v2), .val (.int v3), .val (.int v4), .val (.int v5), .val (.int v6), .val (.int x199), .val (.int x200), .val (.int x201), .val (.int x202), .unset, .unset, .unset, .unset, .unset, .unset, .unset, .unset, .unset, .unset]) rfl ?_
    show Steps p.tables e below (T.setTop (mkF m 40 #[.val (.long v0), .second, .val (.int v2), .val (.int v3), .val (.int v4), .val (.int v5), .val (.int v6), .val (.int x199), .val (.int x200), .val (.int x201), .val (.int x202), .unset, .unset, .unset, .unset, .unset, .unset, .unset, .unset, .unset, .unset] [])) t
    refine XS.bipush X.here hx rfl (hb hby at_40) ?_
    exact k
  obtain ⟨T203, h203, k203, X203, e203, E203, A203, st203⟩ := newP X hx hZ (aty := .byte) (w2 hw) eT (g := (mkF m 42 #[.val (.long v0), .second, .val (.int v2), .val (.int v3), .val (.int v4), .val (.int v5), .val (.int v6), .val (.int x199), .val (.int x200), .val (.int x201), .val (.int x202), .unset, .unset, .unset, .unset, .unset, .unset, .unset, .unset, .unset, .unset] [(.int (41 : Int32))])) rfl (hb hby at_42) rfl (by decide) (cap := 41) (by decide) (by decide) (by decide) (by decide)
  obtain ⟨c203, q203⟩ : ∃ z, z = h.size := ⟨_, rfl⟩
  rw [← q203] at A203 st203
  have A203_c203 : own_Ar Z h203 c203 .byte ((List.replicate 41 (0 : Int32)).map Value.int) := own_newI A203 (by decide) rfl (kk := 41) (by decide)
  have g203_c203 : n0 ≤ c203 := Nat.le_trans z (Nat.le_of_eq q203.symm)
  have nE203_c203 : hE.size ≤ c203 := Nat.le_trans K.1 (Nat.le_of_eq q203.symm)
  have z203 := Nat.le_trans z E203.1
  have K203_ := K.ext E203
  refine own_Goes.via st203 ?_
  show own_Goes _ _ _ _ _ _ _ (T203.setTop (mkF m 44 #[.val (.long v0), .second, .val (.int v2), .val (.int v3), .val (.int v4), .val (.int v5), .val (.int v6), .val (.int x199), .val (.int x200), .val (.int x201), .val (.int x202), .unset, .unset, .unset, .unset, .unset, .unset, .unset, .unset, .unset, .unset] [(.ref c203)]))
  refine own_Goes.via (B := T203.setTop (mkF m 48 #[.val (.long v0), .second, .val (.int v2), .val (.int v3), .val (.int v4), .val (.int v5), .val (.int v6), .val (.int x199), .val (.int x200), .val (.int x201), .val (.int x202), .val (.ref c203), .unset, .unset, .unset, .unset, .unset, .unset, .unset, .unset, .unset] [(.int (41 : Int32))])) (fun t k => ?_) ?_
  · show Steps p.tables e below (T203.setTop (mkF m 44 #[.val (.long v0), .second, .val (.int v2), .val (.int v3), .val (.int v4), .val (.int v5), .val (.int v6), .val (.int x199), .val (.int x200), .val (.int x201), .val (.int x202), .unset, .unset, .unset, .unset, .unset, .unset, .unset, .unset, .unset, .unset] [(.ref c203)])) t
    refine XS.astore X203.here hx rfl (hb hby at_44) rfl rfl (l' := #[.val (.long v0), .second, .val (.int v2), .val (.int v3), .val (.int v4), .val (.int v5), .val (.int v6), .val (.int x199), .val (.int x200), .val (.int x201), .val (.int x202), .val (.ref c203), .unset, .unset, .unset, .unset, .unset, .unset, .unset, .unset, .unset]) rfl ?_
    show Steps p.tables e below (T203.setTop (mkF m 46 #[.val (.long v0), .second, .val (.int v2), .val (.int v3), .val (.int v4), .val (.int v5), .val (.int v6), .val (.int x199), .val (.int x200), .val (.int x201), .val (.int x202), .val (.ref c203), .unset, .unset, .unset, .unset, .unset, .unset, .unset, .unset, .unset] [])) t
    refine XS.bipush X203.here hx rfl (hb hby at_46) ?_
    exact k
  obtain ⟨T204, h204, k204, X204, e204, E204, A204, st204⟩ := newP X203 hx hZ (aty := .byte) (w2 hw) e203 (g := (mkF m 48 #[.val (.long v0), .second, .val (.int v2), .val (.int v3), .val (.int v4), .val (.int v5), .val (.int v6), .val (.int x199), .val (.int x200), .val (.int x201), .val (.int x202), .val (.ref c203), .unset, .unset, .unset, .unset, .unset, .unset, .unset, .unset, .unset] [(.int (41 : Int32))])) rfl (hb hby at_48) rfl (by decide) (cap := 41) (by decide) (by decide) (by decide) (by decide)
  obtain ⟨c204, q204⟩ : ∃ z, z = h203.size := ⟨_, rfl⟩
  rw [← q204] at A204 st204
  have A204_c204 : own_Ar Z h204 c204 .byte ((List.replicate 41 (0 : Int32)).map Value.int) := own_newI A204 (by decide) rfl (kk := 41) (by decide)
  have g204_c204 : n0 ≤ c204 := Nat.le_trans z203 (Nat.le_of_eq q204.symm)
  have nE204_c204 : hE.size ≤ c204 := Nat.le_trans K203_.1 (Nat.le_of_eq q204.symm)
  have ne_c203_c204 : c203 ≠ c204 := Nat.ne_of_lt (Nat.lt_of_lt_of_le A203_c203.lt (Nat.le_of_eq q204.symm))
  have A204_c203 := A203_c203.ext E204
  have z204 := Nat.le_trans z203 E204.1
  have K204_ := K203_.ext E204
  refine own_Goes.via st204 ?_
  show own_Goes _ _ _ _ _ _ _ (T204.setTop (mkF m 50 #[.val (.long v0), .second, .val (.int v2), .val (.int v3), .val (.int v4), .val (.int v5), .val (.int v6), .val (.int x199), .val (.int x200), .val (.int x201), .val (.int x202), .val (.ref c203), .unset, .unset, .unset, .unset, .unset, .unset, .unset, .unset, .unset] [(.ref c204)]))
  refine own_Goes.via (B := T204.setTop (mkF m 62 #[.val (.long v0), .second, .val (.int v2), .val (.int v3), .val (.int v4), .val (.int v5), .val (.int v6), .val (.int x199), .val (.int x200), .val (.int x201), .val (.int x202), .val (.ref c203), .val (.ref c204), .unset, .unset, .unset, .unset, .unset, .unset, .unset, .unset] [(.int (v6.toInt8.toInt32)), (.int (x201 + (32 : Int32))), (.ref c203)])) (fun t k => ?_) ?_
  · show Steps p.tables e below (T204.setTop (mkF m 50 #[.val (.long v0), .second, .val (.int v2), .val (.int v3), .val (.int v4), .val (.int v5), .val (.int v6), .val (.int x199), .val (.int x200), .val (.int x201), .val (.int x202), .val (.ref c203), .unset, .unset, .unset, .unset, .unset, .unset, .unset, .unset, .unset] [(.ref c204)])) t
    refine XS.astore X204.here hx rfl (hb hby at_50) rfl rfl (l' := #[.val (.long v0), .second, .val (.int v2), .val (.int v3), .val (.int v4), .val (.int v5), .val (.int v6), .val (.int x199), .val (.int x200), .val (.int x201), .val (.int x202), .val (.ref c203), .val (.ref c204), .unset, .unset, .unset, .unset, .unset, .unset, .unset, .unset]) rfl ?_
    show Steps p.tables e below (T204.setTop (mkF m 52 #[.val (.long v0), .second, .val (.int v2), .val (.int v3), .val (.int v4), .val (.int v5), .val (.int v6), .val (.int x199), .val (.int x200), .val (.int x201), .val (.int x202), .val (.ref c203), .val (.ref c204), .unset, .unset, .unset, .unset, .unset, .unset, .unset, .unset] [])) t
    refine XS.aload X204.here hx rfl (hb hby at_52) rfl rfl ?_
    show Steps p.tables e below (T204.setTop (mkF m 54 #[.val (.long v0), .second, .val (.int v2), .val (.int v3), .val (.int v4), .val (.int v5), .val (.int v6), .val (.int x199), .val (.int x200), .val (.int x201), .val (.int x202), .val (.ref c203), .val (.ref c204), .unset, .unset, .unset, .unset, .unset, .unset, .unset, .unset] [(.ref c203)])) t
    refine XS.iload X204.here hx rfl (hb hby at_54) rfl ?_
    show Steps p.tables e below (T204.setTop (mkF m 56 #[.val (.long v0), .second, .val (.int v2), .val (.int v3), .val (.int v4), .val (.int v5), .val (.int v6), .val (.int x199), .val (.int x200), .val (.int x201), .val (.int x202), .val (.ref c203), .val (.ref c204), .unset, .unset, .unset, .unset, .unset, .unset, .unset, .unset] [(.int x201), (.ref c203)])) t
    refine XS.bipush X204.here hx rfl (hb hby at_56) ?_
    show Steps p.tables e below (T204.setTop (mkF m 58 #[.val (.long v0), .second, .val (.int v2), .val (.int v3), .val (.int v4), .val (.int v5), .val (.int v6), .val (.int x199), .val (.int x200), .val (.int x201), .val (.int x202), .val (.ref c203), .val (.ref c204), .unset, .unset, .unset, .unset, .unset, .unset, .unset, .unset] [(.int (32 : Int32)), (.int x201), (.ref c203)])) t
    refine XS.iadd X204.here hx rfl (hb hby at_58) rfl ?_
    show Steps p.tables e below (T204.setTop (mkF m 59 #[.val (.long v0), .second, .val (.int v2), .val (.int v3), .val (.int v4), .val (.int v5), .val (.int v6), .val (.int x199), .val (.int x200), .val (.int x201), .val (.int x202), .val (.ref c203), .val (.ref c204), .unset, .unset, .unset, .unset, .unset, .unset, .unset, .unset] [(.int (x201 + (32 : Int32))), (.ref c203)])) t
    refine XS.iload X204.here hx rfl (hb hby at_59) rfl ?_
    show Steps p.tables e below (T204.setTop (mkF m 61 #[.val (.long v0), .second, .val (.int v2), .val (.int v3), .val (.int v4), .val (.int v5), .val (.int v6), .val (.int x199), .val (.int x200), .val (.int x201), .val (.int x202), .val (.ref c203), .val (.ref c204), .unset, .unset, .unset, .unset, .unset, .unset, .unset, .unset] [(.int v6), (.int (x201 + (32 : Int32))), (.ref c203)])) t
    refine XS.i2b X204.here hx rfl (hb hby at_61) rfl ?_
    exact k
  obtain ⟨x205, hx205, hF⟩ := own_lt_e hF
  rw [← hx205]
  obtain ⟨x206, hx206, hF⟩ := own_lt_e hF
  rw [← hx206]
  obtain ⟨hi62, hF⟩ := own_ck_e hF
  obtain ⟨T207, h207, X207, e207, W207, A207_c203, st207⟩ := own_stB X204 hx hZ e204 A204_c203 hi62 (g := (mkF m 62 #[.val (.long v0), .second, .val (.int v2), .val (.int v3), .val (.int v4), .val (.int v5), .val (.int v6), .val (.int x199), .val (.int x200), .val (.int x201), .val (.int x202), .val (.ref c203), .val (.ref c204), .unset, .unset, .unset, .unset, .unset, .unset, .unset, .unset] [(.int x205), (.int x206), (.ref c203)])) rfl rfl (hb hby at_62)
  refine own_Goes.via st207 ?_
  have A207_c204 := A204_c204.other W207 (Ne.symm ne_c203_c204)
  have z207 := Nat.le_trans z204 (Keep.of_wr W207).1
  have K207_ := K204_.wr W207 (Or.inr nE203_c203)
  have N207 := Fr.snoc X207 N g203_c203
  have A207_c203 : own_Ar Z h207 c203 .byte ((own_wr (List.replicate 41 (0 : Int32)) x206 (x205.toInt8.toInt32)).map Value.int) := A207_c203
  show own_Goes _ _ _ _ _ _ _ (T207.setTop (mkF m 63 #[.val (.long v0), .second, .val (.int v2), .val (.int v3), .val (.int v4), .val (.int v5), .val (.int v6), .val (.int x199), .val (.int x200), .val (.int x201), .val (.int x202), .val (.ref c203), .val (.ref c204), .unset, .unset, .unset, .unset, .unset, .unset, .unset, .unset] []))
  obtain ⟨bs208, hbs208, hF⟩ := own_lt_e hF
  rw [← hbs208] at A207_c203
  refine own_Goes.via (B := T207.setTop (mkF m 76 #[.val (.long v0), .second, .val (.int v2), .val (.int v3), .val (.int v4), .val (.int v5), .val (.int v6), .val (.int x199), .val (.int x200), .val (.int x201), .val (.int x202), .val (.ref c203), .val (.ref c204), .unset, .unset, .unset, .unset, .unset, .unset, .unset, .unset] [(.int ((v6 >>> ((8 : Int32) &&& 31)).toInt8.toInt32)), (.int (x202 + (32 : Int32))), (.ref c204)])) (fun t k => ?_) ?_
  · show Steps p.tables e below (T207.setTop (mkF m 63 #[.val (.long v0), .second, .val (.int v2), .val (.int v3), .val (.int v4), .val (.int v5), .val (.int v6), .val (.int x199), .val (.int x200), .val (.int x201), .val (.int x202), .val (.ref c203), .val (.ref c204), .unset, .unset, .unset, .unset, .unset, .unset, .unset, .unset] [])) t
    refine XS.aload X207.here hx rfl (hb hby at_63) rfl rfl ?_
    show Steps p.tables e below (T207.setTop (mkF m 65 #[.val (.long v0), .second, .val (.int v2), .val (.int v3), .val (.int v4), .val (.int v5), .val (.int v6), .val (.int x199), .val (.int x200), .val (.int x201), .val (.int x202), .val (.ref c203), .val (.ref c204), .unset, .unset, .unset, .unset, .unset, .unset, .unset, .unset] [(.ref c204)])) t
    refine XS.iload X207.here hx rfl (hb hby at_65) rfl ?_
    show Steps p.tables e below (T207.setTop (mkF m 67 #[.val (.long v0), .second, .val (.int v2), .val (.int v3), .val (.int v4), .val (.int v5), .val (.int v6), .val (.int x199), .val (.int x200), .val (.int x201), .val (.int x202), .val (.ref c203), .val (.ref c204), .unset, .unset, .unset, .unset, .unset, .unset, .unset, .unset] [(.int x202), (.ref c204)])) t
    refine XS.bipush X207.here hx rfl (hb hby at_67) ?_
    show Steps p.tables e below (T207.setTop (mkF m 69 #[.val (.long v0), .second, .val (.int v2), .val (.int v3), .val (.int v4), .val (.int v5), .val (.int v6), .val (.int x199), .val (.int x200), .val (.int x201), .val (.int x202), .val (.ref c203), .val (.ref c204), .unset, .unset, .unset, .unset, .unset, .unset, .unset, .unset] [(.int (32 : Int32)), (.int x202), (.ref c204)])) t
    refine XS.iadd X207.here hx rfl (hb hby at_69) rfl ?_
    show Steps p.tables e below (T207.setTop (mkF m 70 #[.val (.long v0), .second, .val (.int v2), .val (.int v3), .val (.int v4), .val (.int v5), .val (.int v6), .val (.int x199), .val (.int x200), .val (.int x201), .val (.int x202), .val (.ref c203), .val (.ref c204), .unset, .unset, .unset, .unset, .unset, .unset, .unset, .unset] [(.int (x202 + (32 : Int32))), (.ref c204)])) t
    refine XS.iload X207.here hx rfl (hb hby at_70) rfl ?_
    show Steps p.tables e below (T207.setTop (mkF m 72 #[.val (.long v0), .second, .val (.int v2), .val (.int v3), .val (.int v4), .val (.int v5), .val (.int v6), .val (.int x199), .val (.int x200), .val (.int x201), .val (.int x202), .val (.ref c203), .val (.ref c204), .unset, .unset, .unset, .unset, .unset, .unset, .unset, .unset] [(.int v6), (.int (x202 + (32 : Int32))), (.ref c204)])) t
    refine XS.bipush X207.here hx rfl (hb hby at_72) ?_
    show Steps p.tables e below (T207.setTop (mkF m 74 #[.val (.long v0), .second, .val (.int v2), .val (.int v3), .val (.int v4), .val (.int v5), .val (.int v6), .val (.int x199), .val (.int x200), .val (.int x201), .val (.int x202), .val (.ref c203), .val (.ref c204), .unset, .unset, .unset, .unset, .unset, .unset, .unset, .unset] [(.int (8 : Int32)), (.int v6), (.int (x202 + (32 : Int32))), (.ref c204)])) t
    refine XS.ishr X207.here hx rfl (hb hby at_74) rfl ?_
    show Steps p.tables e below (T207.setTop (mkF m 75 #[.val (.long v0), .second, .val (.int v2), .val (.int v3), .val (.int v4), .val (.int v5), .val (.int v6), .val (.int x199), .val (.int x200), .val (.int x201), .val (.int x202), .val (.ref c203), .val (.ref c204), .unset, .unset, .unset, .unset, .unset, .unset, .unset, .unset] [(.int (v6 >>> ((8 : Int32) &&& 31))), (.int (x202 + (32 : Int32))), (.ref c204)])) t
    refine XS.i2b X207.here hx rfl (hb hby at_75) rfl ?_
    exact k
  obtain ⟨x209, hx209, hF⟩ := own_lt_e hF
  rw [← hx209]
  obtain ⟨x210, hx210, hF⟩ := own_lt_e hF
  rw [← hx210]
  obtain ⟨hi76, hF⟩ := own_ck_e hF
  obtain ⟨T211, h211, X211, e211, W211, A211_c204, st211⟩ := own_stB X207 hx hZ e207 A207_c204 hi76 (g := (mkF m 76 #[.val (.long v0), .second, .val (.int v2), .val (.int v3), .val (.int v4), .val (.int v5), .val (.int v6), .val (.int x199), .val (.int x200), .val (.int x201), .val (.int x202), .val (.ref c203), .val (.ref c204), .unset, .unset, .unset, .unset, .unset, .unset, .unset, .unset] [(.int x209), (.int x210), (.ref c204)])) rfl rfl (hb hby at_76)
  refine own_Goes.via st211 ?_
  have A211_c203 := A207_c203.other W211 ne_c203_c204
  have z211 := Nat.le_trans z207 (Keep.of_wr W211).1
  have K211_ := K207_.wr W211 (Or.inr nE204_c204)
  have N211 := Fr.snoc X211 N207 g204_c204
  have A211_c204 : own_Ar Z h211 c204 .byte ((own_wr (List.replicate 41 (0 : Int32)) x210 (x209.toInt8.toInt32)).map Value.int) := A211_c204
  show own_Goes _ _ _ _ _ _ _ (T211.setTop (mkF m 77 #[.val (.long v0), .second, .val (.int v2), .val (.int v3), .val (.int v4), .val (.int v5), .val (.int v6), .val (.int x199), .val (.int x200), .val (.int x201), .val (.int x202), .val (.ref c203), .val (.ref c204), .unset, .unset, .unset, .unset, .unset, .unset, .unset, .unset] []))
  obtain ⟨bs212, hbs212, hF⟩ := own_lt_e hF
  rw [← hbs212] at A211_c204
  refine own_Goes.via (B := T211.setTop (mkF m 79 #[.val (.long v0), .second, .val (.int v2), .val (.int v3), .val (.int v4), .val (.int v5), .val (.int v6), .val (.int x199), .val (.int x200), .val (.int x201), .val (.int x202), .val (.ref c203), .val (.ref c204), .unset, .unset, .unset, .unset, .unset, .unset, .unset, .unset] [(.int x201)])) (fun t k => ?_) ?_
  · show Steps p.tables e below (T211.setTop (mkF m 77 #[.val (.long v0), .second, .val (.int v2), .val (.int v3), .val (.int v4), .val (.int v5), .val (.int v6), .val (.int x199), .val (.int x200), .val (.int x201), .val (.int x202), .val (.ref c203), .val (.ref c204), .unset, .unset, .unset, .unset, .unset, .unset, .unset, .unset] [])) t
    refine XS.iload X211.here hx rfl (hb hby at_77) rfl ?_
    exact k
  by_cases hc79 : (0 : Int32) < x201
  · rw [if_pos hc79] at hF
    refine own_Goes.via (B := T211.setTop (mkF m 94 #[.val (.long v0), .second, .val (.int v2), .val (.int v3), .val (.int v4), .val (.int v5), .val (.int v6), .val (.int x199), .val (.int x200), .val (.int x201), .val (.int x202), .val (.ref c203), .val (.ref c204), .unset, .unset, .unset, .unset, .unset, .unset, .unset, .unset] [(.int ((v6 >>> ((16 : Int32) &&& 31)).toInt8.toInt32)), (.int (x201 - (1 : Int32))), (.ref c203)])) (fun t k => ?_) ?_
    · show Steps p.tables e below (T211.setTop (mkF m 79 #[.val (.long v0), .second, .val (.int v2), .val (.int v3), .val (.int v4), .val (.int v5), .val (.int v6), .val (.int x199), .val (.int x200), .val (.int x201), .val (.int x202), .val (.ref c203), .val (.ref c204), .unset, .unset, .unset, .unset, .unset, .unset, .unset, .unset] [(.int x201)])) t
      refine XS.ifNo X211.here hx rfl (hb hby at_79) rfl ((if0 _ _).trans (tlt hc79).2.2.2) ?_
      show Steps p.tables e below (T211.setTop (mkF m 82 #[.val (.long v0), .second, .val (.int v2), .val (.int v3), .val (.int v4), .val (.int v5), .val (.int v6), .val (.int x199), .val (.int x200), .val (.int x201), .val (.int x202), .val (.ref c203), .val (.ref c204), .unset, .unset, .unset, .unset, .unset, .unset, .unset, .unset] [])) t
      refine XS.aload X211.here hx rfl (hb hby at_82) rfl rfl ?_
      show Steps p.tables e below (T211.setTop (mkF m 84 #[.val (.long v0), .second, .val (.int v2), .val (.int v3), .val (.int v4), .val (.int v5), .val (.int v6), .val (.int x199), .val (.int x200), .val (.int x201), .val (.int x202), .val (.ref c203), .val (.ref c204), .unset, .unset, .unset, .unset, .unset, .unset, .unset, .unset] [(.ref c203)])) t
      refine XS.iload X211.here hx rfl (hb hby at_84) rfl ?_
      show Steps p.tables e below (T211.setTop (mkF m 86 #[.val (.long v0), .second, .val (.int v2), .val (.int v3), .val (.int v4), .val (.int v5), .val (.int v6), .val (.int x199), .val (.int x200), .val (.int x201), .val (.int x202), .val (.ref c203), .val (.ref c204), .unset, .unset, .unset, .unset, .unset, .unset, .unset, .unset] [(.int x201), (.ref c203)])) t
      refine XS.iconst X211.here hx rfl (hb hby at_86) ?_
      show Steps p.tables e below (T211.setTop (mkF m 87 #[.val (.long v0), .second, .val (.int v2), .val (.int v3), .val (.int v4), .val (.int v5), .val (.int v6), .val (.int x199), .val (.int x200), .val (.int x201), .val (.int x202), .val (.ref c203), .val (.ref c204), .unset, .unset, .unset, .unset, .unset, .unset, .unset, .unset] [(.int (1 : Int32)), (.int x201), (.ref c203)])) t
      refine XS.isub X211.here hx rfl (hb hby at_87) rfl ?_
      show Steps p.tables e below (T211.setTop (mkF m 88 #[.val (.long v0), .second, .val (.int v2), .val (.int v3), .val (.int v4), .val (.int v5), .val (.int v6), .val (.int x199), .val (.int x200), .val (.int x201), .val (.int x202), .val (.ref c203), .val (.ref c204), .unset, .unset, .unset, .unset, .unset, .unset, .unset, .unset] [(.int (x201 - (1 : Int32))), (.ref c203)])) t
      refine XS.iload X211.here hx rfl (hb hby at_88) rfl ?_
      show Steps p.tables e below (T211.setTop (mkF m 90 #[.val (.long v0), .second, .val (.int v2), .val (.int v3), .val (.int v4), .val (.int v5), .val (.int v6), .val (.int x199), .val (.int x200), .val (.int x201), .val (.int x202), .val (.ref c203), .val (.ref c204), .unset, .unset, .unset, .unset, .unset, .unset, .unset, .unset] [(.int v6), (.int (x201 - (1 : Int32))), (.ref c203)])) t
      refine XS.bipush X211.here hx rfl (hb hby at_90) ?_
      show Steps p.tables e below (T211.setTop (mkF m 92 #[.val (.long v0), .second, .val (.int v2), .val (.int v3), .val (.int v4), .val (.int v5), .val (.int v6), .val (.int x199), .val (.int x200), .val (.int x201), .val (.int x202), .val (.ref c203), .val (.ref c204), .unset, .unset, .unset, .unset, .unset, .unset, .unset, .unset] [(.int (16 : Int32)), (.int v6), (.int (x201 - (1 : Int32))), (.ref c203)])) t
      refine XS.ishr X211.here hx rfl (hb hby at_92) rfl ?_
      show Steps p.tables e below (T211.setTop (mkF m 93 #[.val (.long v0), .second, .val (.int v2), .val (.int v3), .val (.int v4), .val (.int v5), .val (.int v6), .val (.int x199), .val (.int x200), .val (.int x201), .val (.int x202), .val (.ref c203), .val (.ref c204), .unset, .unset, .unset, .unset, .unset, .unset, .unset, .unset] [(.int (v6 >>> ((16 : Int32) &&& 31))), (.int (x201 - (1 : Int32))), (.ref c203)])) t
      refine XS.i2b X211.here hx rfl (hb hby at_93) rfl ?_
      exact k
    obtain ⟨x213, hx213, hF⟩ := own_lt_e hF
    rw [← hx213]
    obtain ⟨x214, hx214, hF⟩ := own_lt_e hF
    rw [← hx214]
    obtain ⟨hi94, hF⟩ := own_ck_e hF
    obtain ⟨T215, h215, X215, e215, W215, A215_c203, st215⟩ := own_stB X211 hx hZ e211 A211_c203 hi94 (g := (mkF m 94 #[.val (.long v0), .second, .val (.int v2), .val (.int v3), .val (.int v4), .val (.int v5), .val (.int v6), .val (.int x199), .val (.int x200), .val (.int x201), .val (.int x202), .val (.ref c203), .val (.ref c204), .unset, .unset, .unset, .unset, .unset, .unset, .unset, .unset] [(.int x213), (.int x214), (.ref c203)])) rfl rfl (hb hby at_94)
    refine own_Goes.via st215 ?_
    have A215_c204 := A211_c204.other W215 (Ne.symm ne_c203_c204)
    have z215 := Nat.le_trans z211 (Keep.of_wr W215).1
    have K215_ := K211_.wr W215 (Or.inr nE203_c203)
    have N215 := Fr.snoc X215 N211 g203_c203
    have A215_c203 : own_Ar Z h215 c203 .byte ((own_wr bs208 x214 (x213.toInt8.toInt32)).map Value.int) := A215_c203
    show own_Goes _ _ _ _ _ _ _ (T215.setTop (mkF m 95 #[.val (.long v0), .second, .val (.int v2), .val (.int v3), .val (.int v4), .val (.int v5), .val (.int v6), .val (.int x199), .val (.int x200), .val (.int x201), .val (.int x202), .val (.ref c203), .val (.ref c204), .unset, .unset, .unset, .unset, .unset, .unset, .unset, .unset] []))
    obtain ⟨bs216, hbs216, hF⟩ := own_lt_e hF
    rw [← hbs216] at A215_c203
    refine own_Goes.via (B := T215.setTop (mkF m 97 #[.val (.long v0), .second, .val (.int v2), .val (.int v3), .val (.int v4), .val (.int v5), .val (.int v6), .val (.int x199), .val (.int x200), .val (.int x201), .val (.int x202), .val (.ref c203), .val (.ref c204), .unset, .unset, .unset, .unset, .unset, .unset, .unset, .unset] [(.int x202)])) (fun t k => ?_) ?_
    · show Steps p.tables e below (T215.setTop (mkF m 95 #[.val (.long v0), .second, .val (.int v2), .val (.int v3), .val (.int v4), .val (.int v5), .val (.int v6), .val (.int x199), .val (.int x200), .val (.int x201), .val (.int x202), .val (.ref c203), .val (.ref c204), .unset, .unset, .unset, .unset, .unset, .unset, .unset, .unset] [])) t
      refine XS.iload X215.here hx rfl (hb hby at_95) rfl ?_
      exact k
    by_cases hc97 : (0 : Int32) < x202
    · rw [if_pos hc97] at hF
      refine own_Goes.via (B := T215.setTop (mkF m 112 #[.val (.long v0), .second, .val (.int v2), .val (.int v3), .val (.int v4), .val (.int v5), .val (.int v6), .val (.int x199), .val (.int x200), .val (.int x201), .val (.int x202), .val (.ref c203), .val (.ref c204), .unset, .unset, .unset, .unset, .unset, .unset, .unset, .unset] [(.int ((v6 >>> ((24 : Int32) &&& 31)).toInt8.toInt32)), (.int (x202 - (1 : Int32))), (.ref c204)])) (fun t k => ?_) ?_
      · show Steps p.tables e below (T215.setTop (mkF m 97 #[.val (.long v0), .second, .val (.int v2), .val (.int v3), .val (.int v4), .val (.int v5), .val (.int v6), .val (.int x199), .val (.int x200), .val (.int x201), .val (.int x202), .val (.ref c203), .val (.ref c204), .unset, .unset, .unset, .unset, .unset, .unset, .unset, .unset] [(.int x202)])) t
        refine XS.ifNo X215.here hx rfl (hb hby at_97) rfl ((if0 _ _).trans (tlt hc97).2.2.2) ?_
        show Steps p.tables e below (T215.setTop (mkF m 100 #[.val (.long v0), .second, .val (.int v2), .val (.int v3), .val (.int v4), .val (.int v5), .val (.int v6), .val (.int x199), .val (.int x200), .val (.int x201), .val (.int x202), .val (.ref c203), .val (.ref c204), .unset, .unset, .unset, .unset, .unset, .unset, .unset, .unset] [])) t
        refine XS.aload X215.here hx rfl (hb hby at_100) rfl rfl ?_
        show Steps p.tables e below (T215.setTop (mkF m 102 #[.val (.long v0), .second, .val (.int v2), .val (.int v3), .val (.int v4), .val (.int v5), .val (.int v6), .val (.int x199), .val (.int x200), .val (.int x201), .val (.int x202), .val (.ref c203), .val (.ref c204), .unset, .unset, .unset, .unset, .unset, .unset, .unset, .unset] [(.ref c204)])) t
        refine XS.iload X215.here hx rfl (hb hby at_102) rfl ?_
        show Steps p.tables e below (T215.setTop (mkF m 104 #[.val (.long v0), .second, .val (.int v2), .val (.int v3), .val (.int v4), .val (.int v5), .val (.int v6), .val (.int x199), .val (.int x200), .val (.int x201), .val (.int x202), .val (.ref c203), .val (.ref c204), .unset, .unset, .unset, .unset, .unset, .unset, .unset, .unset] [(.int x202), (.ref c204)])) t
        refine XS.iconst X215.here hx rfl (hb hby at_104) ?_
        show Steps p.tables e below (T215.setTop (mkF m 105 #[.val (.long v0), .second, .val (.int v2), .val (.int v3), .val (.int v4), .val (.int v5), .val (.int v6), .val (.int x199), .val (.int x200), .val (.int x201), .val (.int x202), .val (.ref c203), .val (.ref c204), .unset, .unset, .unset, .unset, .unset, .unset, .unset, .unset] [(.int (1 : Int32)), (.int x202), (.ref c204)])) t
        refine XS.isub X215.here hx rfl (hb hby at_105) rfl ?_
        show Steps p.tables e below (T215.setTop (mkF m 106 #[.val (.long v0), .second, .val (.int v2), .val (.int v3), .val (.int v4), .val (.int v5), .val (.int v6), .val (.int x199), .val (.int x200), .val (.int x201), .val (.int x202), .val (.ref c203), .val (.ref c204), .unset, .unset, .unset, .unset, .unset, .unset, .unset, .unset] [(.int (x202 - (1 : Int32))), (.ref c204)])) t
        refine XS.iload X215.here hx rfl (hb hby at_106) rfl ?_
        show Steps p.tables e below (T215.setTop (mkF m 108 #[.val (.long v0), .second, .val (.int v2), .val (.int v3), .val (.int v4), .val (.int v5), .val (.int v6), .val (.int x199), .val (.int x200), .val (.int x201), .val (.int x202), .val (.ref c203), .val (.ref c204), .unset, .unset, .unset, .unset, .unset, .unset, .unset, .unset] [(.int v6), (.int (x202 - (1 : Int32))), (.ref c204)])) t
        refine XS.bipush X215.here hx rfl (hb hby at_108) ?_
        show Steps p.tables e below (T215.setTop (mkF m 110 #[.val (.long v0), .second, .val (.int v2), .val (.int v3), .val (.int v4), .val (.int v5), .val (.int v6), .val (.int x199), .val (.int x200), .val (.int x201), .val (.int x202), .val (.ref c203), .val (.ref c204), .unset, .unset, .unset, .unset, .unset, .unset, .unset, .unset] [(.int (24 : Int32)), (.int v6), (.int (x202 - (1 : Int32))), (.ref c204)])) t
        refine XS.ishr X215.here hx rfl (hb hby at_110) rfl ?_
        show Steps p.tables e below (T215.setTop (mkF m 111 #[.val (.long v0), .second, .val (.int v2), .val (.int v3), .val (.int v4), .val (.int v5), .val (.int v6), .val (.int x199), .val (.int x200), .val (.int x201), .val (.int x202), .val (.ref c203), .val (.ref c204), .unset, .unset, .unset, .unset, .unset, .unset, .unset, .unset] [(.int (v6 >>> ((24 : Int32) &&& 31))), (.int (x202 - (1 : Int32))), (.ref c204)])) t
        refine XS.i2b X215.here hx rfl (hb hby at_111) rfl ?_
        exact k
      obtain ⟨x217, hx217, hF⟩ := own_lt_e hF
      rw [← hx217]
      obtain ⟨x218, hx218, hF⟩ := own_lt_e hF
      rw [← hx218]
      obtain ⟨hi112, hF⟩ := own_ck_e hF
      obtain ⟨T219, h219, X219, e219, W219, A219_c204, st219⟩ := own_stB X215 hx hZ e215 A215_c204 hi112 (g := (mkF m 112 #[.val (.long v0), .second, .val (.int v2), .val (.int v3), .val (.int v4), .val (.int v5), .val (.int v6), .val (.int x199), .val (.int x200), .val (.int x201), .val (.int x202), .val (.ref c203), .val (.ref c204), .unset, .unset, .unset, .unset, .unset, .unset, .unset, .unset] [(.int x217), (.int x218), (.ref c204)])) rfl rfl (hb hby at_112)
      refine own_Goes.via st219 ?_
      have A219_c203 := A215_c203.other W219 ne_c203_c204
      have z219 := Nat.le_trans z215 (Keep.of_wr W219).1
      have K219_ := K215_.wr W219 (Or.inr nE204_c204)
      have N219 := Fr.snoc X219 N215 g204_c204
      have A219_c204 : own_Ar Z h219 c204 .byte ((own_wr bs212 x218 (x217.toInt8.toInt32)).map Value.int) := A219_c204
      show own_Goes _ _ _ _ _ _ _ (T219.setTop (mkF m 113 #[.val (.long v0), .second, .val (.int v2), .val (.int v3), .val (.int v4), .val (.int v5), .val (.int v6), .val (.int x199), .val (.int x200), .val (.int x201), .val (.int x202), .val (.ref c203), .val (.ref c204), .unset, .unset, .unset, .unset, .unset, .unset, .unset, .unset] []))
      obtain ⟨bs220, hbs220, hF⟩ := own_lt_e hF
      rw [← hbs220] at A219_c204
      exact b_law_113 cx X219 e219 N219 K219_ z219 c203 c204 v2 v3 v4 v5 x199 x200 x201 x202 bs216 bs220 v0 (.val (.int v6)) (.unset) (.unset) (.unset) (.unset) (.unset) (.unset) (.unset) (.unset) (One.val rfl) One.u One.u One.u One.u One.u One.u One.u One.u A219_c203 g203_c203 nE203_c203 A219_c204 g204_c204 nE204_c204 ne_c203_c204 _ hF
    · rw [if_neg hc97] at hF
      refine own_Goes.via (B := T215.setTop (mkF m 113 #[.val (.long v0), .second, .val (.int v2), .val (.int v3), .val (.int v4), .val (.int v5), .val (.int v6), .val (.int x199), .val (.int x200), .val (.int x201), .val (.int x202), .val (.ref c203), .val (.ref c204), .unset, .unset, .unset, .unset, .unset, .unset, .unset, .unset] [])) (fun t k => ?_) ?_
      · show Steps p.tables e below (T215.setTop (mkF m 97 #[.val (.long v0), .second, .val (.int v2), .val (.int v3), .val (.int v4), .val (.int v5), .val (.int v6), .val (.int x199), .val (.int x200), .val (.int x201), .val (.int x202), .val (.ref c203), .val (.ref c204), .unset, .unset, .unset, .unset, .unset, .unset, .unset, .unset] [(.int x202)])) t
        refine XS.ifYes X215.here hx rfl (pc0 := 97) (pc' := 113) rfl (hb hby at_97) rfl ((if0 _ _).trans (flt hc97).2.2.2) (by decide) (by decide) ?_
        exact k
      exact b_law_113 cx X215 e215 N215 K215_ z215 c203 c204 v2 v3 v4 v5 x199 x200 x201 x202 bs216 bs212 v0 (.val (.int v6)) (.unset) (.unset) (.unset) (.unset) (.unset) (.unset) (.unset) (.unset) (One.val rfl) One.u One.u One.u One.u One.u One.u One.u One.u A215_c203 g203_c203 nE203_c203 A215_c204 g204_c204 nE204_c204 ne_c203_c204 _ hF
  · rw [if_neg hc79] at hF
    refine own_Goes.via (B := T211.setTop (mkF m 97 #[.val (.long v0), .second, .val (.int v2), .val (.int v3), .val (.int v4), .val (.int v5), .val (.int v6), .val (.int x199), .val (.int x200), .val (.int x201), .val (.int x202), .val (.ref c203), .val (.ref c204), .unset, .unset, .unset, .unset, .unset, .unset, .unset, .unset] [(.int x202)])) (fun t k => ?_) ?_
    · show Steps p.tables e below (T211.setTop (mkF m 79 #[.val (.long v0), .second, .val (.int v2), .val (.int v3), .val (.int v4), .val (.int v5), .val (.int v6), .val (.int x199), .val (.int x200), .val (.int x201), .val (.int x202), .val (.ref c203), .val (.ref c204), .unset, .unset, .unset, .unset, .unset, .unset, .unset, .unset] [(.int x201)])) t
      refine XS.ifYes X211.here hx rfl (pc0 := 79) (pc' := 95) rfl (hb hby at_79) rfl ((if0 _ _).trans (flt hc79).2.2.2) (by decide) (by decide) ?_
      show Steps p.tables e below (T211.setTop (mkF m 95 #[.val (.long v0), .second, .val (.int v2), .val (.int v3), .val (.int v4), .val (.int v5), .val (.int v6), .val (.int x199), .val (.int x200), .val (.int x201), .val (.int x202), .val (.ref c203), .val (.ref c204), .unset, .unset, .unset, .unset, .unset, .unset, .unset, .unset] [])) t
      refine XS.iload X211.here hx rfl (hb hby at_95) rfl ?_
      exact k
    by_cases hc97 : (0 : Int32) < x202
    · rw [if_pos hc97] at hF
      refine own_Goes.via (B := T211.setTop (mkF m 112 #[.val (.long v0), .second, .val (.int v2), .val (.int v3), .val (.int v4), .val (.int v5), .val (.int v6), .val (.int x199), .val (.int x200), .val (.int x201), .val (.int x202), .val (.ref c203), .val (.ref c204), .unset, .unset, .unset, .unset, .unset, .unset, .unset, .unset] [(.int ((v6 >>> ((24 : Int32) &&& 31)).toInt8.toInt32)), (.int (x202 - (1 : Int32))), (.ref c204)])) (fun t k => ?_) ?_
      · show Steps p.tables e below (T211.setTop (mkF m 97 #[.val (.long v0), .second, .val (.int v2), .val (.int v3), .val (.int v4), .val (.int v5), .val (.int v6), .val (.int x199), .val (.int x200), .val (.int x201), .val (.int x202), .val (.ref c203), .val (.ref c204), .unset, .unset, .unset, .unset, .unset, .unset, .unset, .unset] [(.int x202)])) t
        refine XS.ifNo X211.here hx rfl (hb hby at_97) rfl ((if0 _ _).trans (tlt hc97).2.2.2) ?_
        show Steps p.tables e below (T211.setTop (mkF m 100 #[.val (.long v0), .second, .val (.int v2), .val (.int v3), .val (.int v4), .val (.int v5), .val (.int v6), .val (.int x199), .val (.int x200), .val (.int x201), .val (.int x202), .val (.ref c203), .val (.ref c204), .unset, .unset, .unset, .unset, .unset, .unset, .unset, .unset] [])) t
        refine XS.aload X211.here hx rfl (hb hby at_100) rfl rfl ?_
        show Steps p.tables e below (T211.setTop (mkF m 102 #[.val (.long v0), .second, .val (.int v2), .val (.int v3), .val (.int v4), .val (.int v5), .val (.int v6), .val (.int x199), .val (.int x200), .val (.int x201), .val (.int x202), .val (.ref c203), .val (.ref c204), .unset, .unset, .unset, .unset, .unset, .unset, .unset, .unset] [(.ref c204)])) t
        refine XS.iload X211.here hx rfl (hb hby at_102) rfl ?_
        show Steps p.tables e below (T211.setTop (mkF m 104 #[.val (.long v0), .second, .val (.int v2), .val (.int v3), .val (.int v4), .val (.int v5), .val (.int v6), .val (.int x199), .val (.int x200), .val (.int x201), .val (.int x202), .val (.ref c203), .val (.ref c204), .unset, .unset, .unset, .unset, .unset, .unset, .unset, .unset] [(.int x202), (.ref c204)])) t
        refine XS.iconst X211.here hx rfl (hb hby at_104) ?_
        show Steps p.tables e below (T211.setTop (mkF m 105 #[.val (.long v0), .second, .val (.int v2), .val (.int v3), .val (.int v4), .val (.int v5), .val (.int v6), .val (.int x199), .val (.int x200), .val (.int x201), .val (.int x202), .val (.ref c203), .val (.ref c204), .unset, .unset, .unset, .unset, .unset, .unset, .unset, .unset] [(.int (1 : Int32)), (.int x202), (.ref c204)])) t
        refine XS.isub X211.here hx rfl (hb hby at_105) rfl ?_
        show Steps p.tables e below (T211.setTop (mkF m 106 #[.val (.long v0), .second, .val (.int v2), .val (.int v3), .val (.int v4), .val (.int v5), .val (.int v6), .val (.int x199), .val (.int x200), .val (.int x201), .val (.int x202), .val (.ref c203), .val (.ref c204), .unset, .unset, .unset, .unset, .unset, .unset, .unset, .unset] [(.int (x202 - (1 : Int32))), (.ref c204)])) t
        refine XS.iload X211.here hx rfl (hb hby at_106) rfl ?_
        show Steps p.tables e below (T211.setTop (mkF m 108 #[.val (.long v0), .second, .val (.int v2), .val (.int v3), .val (.int v4), .val (.int v5), .val (.int v6), .val (.int x199), .val (.int x200), .val (.int x201), .val (.int x202), .val (.ref c203), .val (.ref c204), .unset, .unset, .unset, .unset, .unset, .unset, .unset, .unset] [(.int v6), (.int (x202 - (1 : Int32))), (.ref c204)])) t
        refine XS.bipush X211.here hx rfl (hb hby at_108) ?_
        show Steps p.tables e below (T211.setTop (mkF m 110 #[.val (.long v0), .second, .val (.int v2), .val (.int v3), .val (.int v4), .val (.int v5), .val (.int v6), .val (.int x199), .val (.int x200), .val (.int x201), .val (.int x202), .val (.ref c203), .val (.ref c204), .unset, .unset, .unset, .unset, .unset, .unset, .unset, .unset] [(.int (24 : Int32)), (.int v6), (.int (x202 - (1 : Int32))), (.ref c204)])) t
        refine XS.ishr X211.here hx rfl (hb hby at_110) rfl ?_
        show Steps p.tables e below (T211.setTop (mkF m 111 #[.val (.long v0), .second, .val (.int v2), .val (.int v3), .val (.int v4), .val (.int v5), .val (.int v6), .val (.int x199), .val (.int x200), .val (.int x201), .val (.int x202), .val (.ref c203), .val (.ref c204), .unset, .unset, .unset, .unset, .unset, .unset, .unset, .unset] [(.int (v6 >>> ((24 : Int32) &&& 31))), (.int (x202 - (1 : Int32))), (.ref c204)])) t
        refine XS.i2b X211.here hx rfl (hb hby at_111) rfl ?_
        exact k
      obtain ⟨x221, hx221, hF⟩ := own_lt_e hF
      rw [← hx221]
      obtain ⟨x222, hx222, hF⟩ := own_lt_e hF
      rw [← hx222]
      obtain ⟨hi112, hF⟩ := own_ck_e hF
      obtain ⟨T223, h223, X223, e223, W223, A223_c204, st223⟩ := own_stB X211 hx hZ e211 A211_c204 hi112 (g := (mkF m 112 #[.val (.long v0), .second, .val (.int v2), .val (.int v3), .val (.int v4), .val (.int v5), .val (.int v6), .val (.int x199), .val (.int x200), .val (.int x201), .val (.int x202), .val (.ref c203), .val (.ref c204), .unset, .unset, .unset, .unset, .unset, .unset, .unset, .unset] [(.int x221), (.int x222), (.ref c204)])) rfl rfl (hb hby at_112)
      refine own_Goes.via st223 ?_
      have A223_c203 := A211_c203.other W223 ne_c203_c204
      have z223 := Nat.le_trans z211 (Keep.of_wr W223).1
      have K223_ := K211_.wr W223 (Or.inr nE204_c204)
      have N223 := Fr.snoc X223 N211 g204_c204
      have A223_c204 : own_Ar Z h223 c204 .byte ((own_wr bs212 x222 (x221.toInt8.toInt32)).map Value.int) := A223_c204
      show own_Goes _ _ _ _ _ _ _ (T223.setTop (mkF m 113 #[.val (.long v0), .second, .val (.int v2), .val (.int v3), .val (.int v4), .val (.int v5), .val (.int v6), .val (.int x199), .val (.int x200), .val (.int x201), .val (.int x202), .val (.ref c203), .val (.ref c204), .unset, .unset, .unset, .unset, .unset, .unset, .unset, .unset] []))
      obtain ⟨bs224, hbs224, hF⟩ := own_lt_e hF
      rw [← hbs224] at A223_c204
      exact b_law_113 cx X223 e223 N223 K223_ z223 c203 c204 v2 v3 v4 v5 x199 x200 x201 x202 bs208 bs224 v0 (.val (.int v6)) (.unset) (.unset) (.unset) (.unset) (.unset) (.unset) (.unset) (.unset) (One.val rfl) One.u One.u One.u One.u One.u One.u One.u One.u A223_c203 g203_c203 nE203_c203 A223_c204 g204_c204 nE204_c204 ne_c203_c204 _ hF
    · rw [if_neg hc97] at hF
      refine own_Goes.via (B := T211.setTop (mkF m 113 #[.val (.long v0), .second, .val (.int v2), .val (.int v3), .val (.int v4), .val (.int v5), .val (.int v6), .val (.int x199), .val (.int x200), .val (.int x201), .val (.int x202), .val (.ref c203), .val (.ref c204), .unset, .unset, .unset, .unset, .unset, .unset, .unset, .unset] [])) (fun t k => ?_) ?_
      · show Steps p.tables e below (T211.setTop (mkF m 97 #[.val (.long v0), .second, .val (.int v2), .val (.int v3), .val (.int v4), .val (.int v5), .val (.int v6), .val (.int x199), .val (.int x200), .val (.int x201), .val (.int x202), .val (.ref c203), .val (.ref c204), .unset, .unset, .unset, .unset, .unset, .unset, .unset, .unset] [(.int x202)])) t
        refine XS.ifYes X211.here hx rfl (pc0 := 97) (pc' := 113) rfl (hb hby at_97) rfl ((if0 _ _).trans (flt hc97).2.2.2) (by decide) (by decide) ?_
        exact k
      exact b_law_113 cx X211 e211 N211 K211_ z211 c203 c204 v2 v3 v4 v5 x199 x200 x201 x202 bs208 bs212 v0 (.val (.int v6)) (.unset) (.unset) (.unset) (.unset) (.unset) (.unset) (.unset) (.unset) (One.val rfl) One.u One.u One.u One.u One.u One.u One.u One.u A211_c203 g203_c203 nE203_c203 A211_c204 g204_c204 nE204_c204 ne_c203_c204 _ hF
theorem ef_law (m : MethodId) (x0 : Int64) (x1 : Int32) (x2 : Int32) (x3 : Int32) (x4 : Int32) (x5 : Int32) : entryFrame m #[(.long x0), (.int x1), (.int x2), (.int x3), (.int x4), (.int x5)] maxLocals = mkF m 0 #[.val (.long x0), .second, .val (.int x1), .val (.int x2), .val (.int x3), .val (.int x4), .val (.int x5), .unset, .unset, .unset, .unset, .unset, .unset, .unset, .unset, .unset, .unset, .unset, .unset, .unset, .unset] [] := by first | (simp [entryFrame, mkF, argsToLocals, Value.category, maxLocals]; done) | rfl
set_option maxRecDepth 65536 in
set_option maxHeartbeats 4000000 in
theorem rm_law (l : Launch) (Z : State) (a0 : Array Value) (hw : ∀ d ∈ tables_1, d.before a0 Z = true) (ws : List Jvm.Cond) (hE : Heap) (n0 : Nat) (z : n0 ≤ hE.size)  (v0 : Int64) (v2 : Int32) (v3 : Int32) (v4 : Int32) (v5 : Int32) (v6 : Int32) (r : Int32) (hF : (f_law v0 v2 v3 v4 v5 v6) = some r) :
    MetFree l x (head1 (Jvm.Cond.code x code maxLocals ret :: ws) room_1) (fun a U => a = #[(.long v0), (.int v2), (.int v3), (.int v4), (.int v5), (.int v6)] ∧ Z.Warmed39 U.vm ∧ U.heap = hE) (fun _ _ _ _ _ => True) (fun _ U o U' => ∃ v L, o = .returned v ∧ (Q_law Z hE n0 r) v U'.heap L ∧ FrameEnd U o U' L 2 82) := by
  refine MetFree.of_bodySF (plainFor_of_name pn_com_example_keyslate_keyslate_card_UInt256IsBelowPinLaw) hisR ?_
  intro p e s m args below meth c s₁ Bd hml0 hP hK
  obtain ⟨rfl, hZ, hh⟩ := hP
  have X0 : Stand p l e room_1 s m #[(.long v0), (.int v2), (.int v3), (.int v4), (.int v5), (.int v6)] below meth c s₁ [] 0 0 := Stand.of_body Bd
  have e0 : s₁.heap = hE := by rw [← hh, Bd.state]; rfl
  have cx : Cx_law p s m meth c Z a0 := ⟨Bd.exec, hZ, hw, Bd.bytes, hml0, findClass_of_methodNamed Bd.named, Bd.returns, Bd.notSynchronized, (name_of_methodNamed Bd.named Bd.method).1⟩
  show own_Goes p e below s (Q_law Z hE n0 r) 2 82 (s₁.setTop (entryFrame m #[(.long v0), (.int v2), (.int v3), (.int v4), (.int v5), (.int v6)] maxLocals))
  rw [ef_law]
  exact b_law cx X0 e0 (Fr.nil n0) (Keep.refl _ _) z v0 v2 v3 v4 v5 v6 _ hF
/-! the words of the mirrors -/
theorem own_bs {α β : Type} (x : α) (f : α → Option β) : own_bd (some x) f = f x := by unfold own_bd; exact rfl
theorem own_ls {α β : Type} (x : α) (f : α → Option β) : own_lt x f = f x := by unfold own_lt; exact rfl
theorem own_bn {α : Type} (x : Option α) : own_bd x (fun y => some y) = x := by cases x <;> exact rfl
theorem own_ct {β : Type} {P : Prop} [Decidable P] (x : Option β) (h : P) : own_ck P x = x := by unfold own_ck; exact if_pos h
/-! numbers: ints and longs as integers -/
theorem own_i1 (x : Int32) : -2147483648 ≤ x.toInt := Int32.le_toInt x
theorem own_i2 (x : Int32) : x.toInt < 2147483648 := Int32.toInt_lt x
theorem own_j1 (x : Int64) : -9223372036854775808 ≤ x.toInt := Int64.le_toInt x
theorem own_j2 (x : Int64) : x.toInt < 9223372036854775808 := Int64.toInt_lt x
theorem own_iadd {a b : Int32} (h1 : -2147483648 ≤ a.toInt + b.toInt) (h2 : a.toInt + b.toInt < 2147483648) : (a + b).toInt = a.toInt + b.toInt := by
  rw [Int32.toInt_add]; exact Int.bmod_eq_of_le (by omega) (by omega)
theorem own_isub {a b : Int32} (h1 : -2147483648 ≤ a.toInt - b.toInt) (h2 : a.toInt - b.toInt < 2147483648) : (a - b).toInt = a.toInt - b.toInt := by
  rw [Int32.toInt_sub]; exact Int.bmod_eq_of_le (by omega) (by omega)
theorem own_imul {a b : Int32} (h1 : -2147483648 ≤ a.toInt * b.toInt) (h2 : a.toInt * b.toInt < 2147483648) : (a * b).toInt = a.toInt * b.toInt := by
  rw [Int32.toInt_mul]; exact Int.bmod_eq_of_le (by omega) (by omega)
theorem own_ladd {a b : Int64} (h1 : -9223372036854775808 ≤ a.toInt + b.toInt) (h2 : a.toInt + b.toInt < 9223372036854775808) : (a + b).toInt = a.toInt + b.toInt := by
  rw [Int64.toInt_add]; exact Int.bmod_eq_of_le (by omega) (by omega)
theorem own_lsub {a b : Int64} (h1 : -9223372036854775808 ≤ a.toInt - b.toInt) (h2 : a.toInt - b.toInt < 9223372036854775808) : (a - b).toInt = a.toInt - b.toInt := by
  rw [Int64.toInt_sub]; exact Int.bmod_eq_of_le (by omega) (by omega)
theorem own_lmul {a b : Int64} (h1 : -9223372036854775808 ≤ a.toInt * b.toInt) (h2 : a.toInt * b.toInt < 9223372036854775808) : (a * b).toInt = a.toInt * b.toInt := by
  rw [Int64.toInt_mul]; exact Int.bmod_eq_of_le (by omega) (by omega)
theorem own_imask {x m : Int32} (k : Nat) (hk : k ≤ 31) (hm : m.toBitVec.toNat = 2 ^ k - 1) : (x &&& m).toInt = x.toInt % 2 ^ k := by
  have h1 : (x &&& m).toBitVec.toNat = x.toBitVec.toNat % 2 ^ k := by rw [Int32.toBitVec_and, BitVec.toNat_and, hm, Nat.and_two_pow_sub_one_eq_mod]
  have h3 : x.toBitVec.toNat % 2 ^ k < 2 ^ k := Nat.mod_lt _ (Nat.pow_pos (by decide))
  have h4 : (2 : Nat) ^ k ≤ 2 ^ 31 := Nat.pow_le_pow_right (by decide) hk
  have h2 : (x &&& m).toInt = ((x.toBitVec.toNat % 2 ^ k : Nat) : Int) := by
    show (x &&& m).toBitVec.toInt = _
    rw [BitVec.toInt_eq_toNat_of_lt (by rw [h1]; omega), h1]
  rw [h2]
  have h5 : x.toInt = x.toBitVec.toInt := rfl
  have h6 : ((2 : Int) ^ k) ∣ 4294967296 := by
    have : (4294967296 : Int) = 2 ^ k * 2 ^ (32 - k) := by rw [← Int.pow_add, show k + (32 - k) = 32 by omega]; rfl
    exact ⟨_, this⟩
  rw [h5, BitVec.toInt_eq_toNat_cond]
  split
  · exact Int.natCast_emod _ _
  · rw [Int.natCast_emod, show (((2 ^ 32 : Nat) : Int)) = 4294967296 from rfl, Int.sub_emod, Int.emod_eq_zero_of_dvd h6]; simp
theorem own_lmask {x m : Int64} (k : Nat) (hk : k ≤ 63) (hm : m.toBitVec.toNat = 2 ^ k - 1) : (x &&& m).toInt = x.toInt % 2 ^ k := by
  have h1 : (x &&& m).toBitVec.toNat = x.toBitVec.toNat % 2 ^ k := by rw [Int64.toBitVec_and, BitVec.toNat_and, hm, Nat.and_two_pow_sub_one_eq_mod]
  have h3 : x.toBitVec.toNat % 2 ^ k < 2 ^ k := Nat.mod_lt _ (Nat.pow_pos (by decide))
  have h4 : (2 : Nat) ^ k ≤ 2 ^ 63 := Nat.pow_le_pow_right (by decide) hk
  have h2 : (x &&& m).toInt = ((x.toBitVec.toNat % 2 ^ k : Nat) : Int) := by
    show (x &&& m).toBitVec.toInt = _
    rw [BitVec.toInt_eq_toNat_of_lt (by rw [h1]; omega), h1]
  rw [h2]
  have h5 : x.toInt = x.toBitVec.toInt := rfl
  have h6 : ((2 : Int) ^ k) ∣ 18446744073709551616 := by
    have : (18446744073709551616 : Int) = 2 ^ k * 2 ^ (64 - k) := by rw [← Int.pow_add, show k + (64 - k) = 64 by omega]; rfl
    exact ⟨_, this⟩
  rw [h5, BitVec.toInt_eq_toNat_cond]
  split
  · exact Int.natCast_emod _ _
  · rw [Int.natCast_emod, show (((2 ^ 64 : Nat) : Int)) = 18446744073709551616 from rfl, Int.sub_emod, Int.emod_eq_zero_of_dvd h6]; simp
theorem own_bm32 (x : Int) : x.bmod 4294967296 = (x + 2147483648) % 4294967296 - 2147483648 := by
  unfold Int.bmod; dsimp only; split <;> omega
theorem own_bm64 (x : Int) : x.bmod 18446744073709551616 = (x + 9223372036854775808) % 18446744073709551616 - 9223372036854775808 := by
  unfold Int.bmod; dsimp only; split <;> omega
theorem own_bm8 (x : Int) : x.bmod 256 = (x + 128) % 256 - 128 := by
  unfold Int.bmod; dsimp only; split <;> omega
theorem own_bm16 (x : Int) : x.bmod 65536 = (x + 32768) % 65536 - 32768 := by
  unfold Int.bmod; dsimp only; split <;> omega
theorem own_b8 (x : Int32) : x.toInt8.toInt32.toInt = (x.toInt + 128) % 256 - 128 := by rw [Int8.toInt_toInt32, Int32.toInt_toInt8]; exact own_bm8 _
theorem own_s16 (x : Int32) : x.toInt16.toInt32.toInt = (x.toInt + 32768) % 65536 - 32768 := by rw [Int16.toInt_toInt32, Int32.toInt_toInt16]; exact own_bm16 _
theorem own_l2i (x : Int64) : x.toInt32.toInt = (x.toInt + 2147483648) % 4294967296 - 2147483648 := by rw [Int64.toInt_toInt32]; exact own_bm32 _
theorem own_i2l (x : Int32) : x.toInt64.toInt = x.toInt := Int32.toInt_toInt64 x
theorem own_idiv {a b : Int32} (h1 : 0 ≤ a.toInt) (h2 : 0 < b.toInt) : (a / b).toInt = a.toInt / b.toInt := by
  rw [Int32.toInt_div_of_ne_right a b (fun q => by rw [q] at h2; exact absurd h2 (by decide)), Int.tdiv_eq_ediv_of_nonneg h1]
theorem own_ldiv {a b : Int64} (h1 : 0 ≤ a.toInt) (h2 : 0 < b.toInt) : (a / b).toInt = a.toInt / b.toInt := by
  rw [Int64.toInt_div_of_ne_right a b (fun q => by rw [q] at h2; exact absurd h2 (by decide)), Int.tdiv_eq_ediv_of_nonneg h1]
theorem own_imod {a b : Int32} (h1 : 0 ≤ a.toInt) : (a % b).toInt = a.toInt % b.toInt := by rw [Int32.toInt_mod, Int.tmod_eq_emod_of_nonneg h1]
theorem own_lmod {a b : Int64} (h1 : 0 ≤ a.toInt) : (a % b).toInt = a.toInt % b.toInt := by rw [Int64.toInt_mod, Int.tmod_eq_emod_of_nonneg h1]
theorem own_uI (x : Int32) : (x.toUInt32.toNat : Int) = x.toInt % 4294967296 := by
  have h : x.toInt = x.toBitVec.toInt := rfl
  have q : x.toUInt32.toNat = x.toBitVec.toNat := rfl
  have b := x.toBitVec.isLt
  rw [h, q, BitVec.toInt_eq_toNat_cond]
  split <;> omega
theorem own_uJ (x : Int64) : (x.toUInt64.toNat : Int) = x.toInt % 18446744073709551616 := by
  have h : x.toInt = x.toBitVec.toInt := rfl
  have q : x.toUInt64.toNat = x.toBitVec.toNat := rfl
  have b := x.toBitVec.isLt
  rw [h, q, BitVec.toInt_eq_toNat_cond]
  split <;> omega
theorem own_ofU (u : UInt32) (h : u.toNat < 2147483648) : u.toInt32.toInt = u.toNat := by
  show u.toBitVec.toInt = _
  exact BitVec.toInt_eq_toNat_of_lt (by show 2 * u.toNat < 2 ^ 32; omega)
theorem own_ofUJ (u : UInt64) (h : u.toNat < 9223372036854775808) : u.toInt64.toInt = u.toNat := by
  show u.toBitVec.toInt = _
  exact BitVec.toInt_eq_toNat_of_lt (by show 2 * u.toNat < 2 ^ 64; omega)
/-- Java's >>> on ints by a constant from 1 to 31 -/
theorem own_iushr (x s : Int32) (n : Nat) (h0 : 1 ≤ n) (hn : n < 32) (hs : (s &&& 31).toUInt32.toNat = n) : ((x.toUInt32 >>> (s &&& 31).toUInt32).toInt32).toInt = (x.toInt % 4294967296) / (2 ^ n : Nat) := by
  have e : (x.toUInt32 >>> (s &&& 31).toUInt32).toNat = x.toUInt32.toNat / 2 ^ n := by rw [UInt32.toNat_shiftRight, hs, Nat.mod_eq_of_lt hn, Nat.shiftRight_eq_div_pow]
  have b : x.toUInt32.toNat < 4294967296 := x.toUInt32.toNat_lt
  have c : x.toUInt32.toNat / 2 ^ n ≤ x.toUInt32.toNat / 2 ^ 1 := Nat.div_le_div_left (Nat.pow_le_pow_right (by decide) h0) (by decide)
  rw [own_ofU _ (by rw [e]; omega), e, Int.natCast_ediv, own_uI]
theorem own_lushr (x : Int64) (s : Int32) (n : Nat) (h0 : 1 ≤ n) (hn : n < 64) (hs : (s &&& 0x3f).toInt64.toUInt64.toNat = n) : ((x.toUInt64 >>> (s &&& 0x3f).toInt64.toUInt64).toInt64).toInt = (x.toInt % 18446744073709551616) / (2 ^ n : Nat) := by
  have e : (x.toUInt64 >>> (s &&& 0x3f).toInt64.toUInt64).toNat = x.toUInt64.toNat / 2 ^ n := by rw [UInt64.toNat_shiftRight, hs, Nat.mod_eq_of_lt hn, Nat.shiftRight_eq_div_pow]
  have b : x.toUInt64.toNat < 18446744073709551616 := x.toUInt64.toNat_lt
  have c : x.toUInt64.toNat / 2 ^ n ≤ x.toUInt64.toNat / 2 ^ 1 := Nat.div_le_div_left (Nat.pow_le_pow_right (by decide) h0) (by decide)
  rw [own_ofUJ _ (by rw [e]; omega), e, Int.natCast_ediv, own_uJ]
theorem own_ishl {x s : Int32} (n : Nat) (hs : (s.toBitVec.smod 32).toNat = n) (h0 : 0 ≤ x.toInt) (h1 : x.toInt * (2 ^ n : Nat) < 2147483648) : (x <<< s).toInt = x.toInt * (2 ^ n : Nat) := by
  have h : x.toInt = x.toBitVec.toInt := rfl
  have hx : x.toInt = x.toBitVec.toNat := by
    have b := x.toBitVec.isLt
    rw [h, BitVec.toInt_eq_toNat_cond]; rw [h, BitVec.toInt_eq_toNat_cond] at h0
    split at h0 <;> rename_i q
    · rw [if_pos q]
    · omega
  have e : (x <<< s).toBitVec.toNat = x.toBitVec.toNat * 2 ^ n := by
    rw [Int32.toBitVec_shiftLeft, BitVec.shiftLeft_eq', hs, BitVec.toNat_shiftLeft, Nat.shiftLeft_eq]
    apply Nat.mod_eq_of_lt
    rw [hx] at h1
    omega
  show (x <<< s).toBitVec.toInt = _
  rw [BitVec.toInt_eq_toNat_of_lt (by rw [e]; rw [hx] at h1; omega), e, hx]
  simp
theorem own_lshl {x s : Int64} (n : Nat) (hs : (s.toBitVec.smod 64).toNat = n) (h0 : 0 ≤ x.toInt) (h1 : x.toInt * (2 ^ n : Nat) < 9223372036854775808) : (x <<< s).toInt = x.toInt * (2 ^ n : Nat) := by
  have h : x.toInt = x.toBitVec.toInt := rfl
  have hx : x.toInt = x.toBitVec.toNat := by
    have b := x.toBitVec.isLt
    rw [h, BitVec.toInt_eq_toNat_cond]; rw [h, BitVec.toInt_eq_toNat_cond] at h0
    split at h0 <;> rename_i q
    · rw [if_pos q]
    · omega
  have e : (x <<< s).toBitVec.toNat = x.toBitVec.toNat * 2 ^ n := by
    rw [Int64.toBitVec_shiftLeft, BitVec.shiftLeft_eq', hs, BitVec.toNat_shiftLeft, Nat.shiftLeft_eq]
    apply Nat.mod_eq_of_lt
    rw [hx] at h1
    omega
  show (x <<< s).toBitVec.toInt = _
  rw [BitVec.toInt_eq_toNat_of_lt (by rw [e]; rw [hx] at h1; omega), e, hx]
  simp
theorem own_ishr (x s : Int32) (n : Nat) (hs : (s.toBitVec.smod 32).toNat = n) : (x >>> s).toInt = x.toInt / (2 ^ n : Nat) := by
  show (x >>> s).toBitVec.toInt = _
  rw [Int32.toBitVec_shiftRight, BitVec.sshiftRight', hs, BitVec.toInt_sshiftRight, Int.shiftRight_eq_div_pow]
  rfl
theorem own_lshr (x s : Int64) (n : Nat) (hs : (s.toBitVec.smod 64).toNat = n) : (x >>> s).toInt = x.toInt / (2 ^ n : Nat) := by
  show (x >>> s).toBitVec.toInt = _
  rw [Int64.toBitVec_shiftRight, BitVec.sshiftRight', hs, BitVec.toInt_sshiftRight, Int.shiftRight_eq_div_pow]
  rfl
theorem own_natbit (x k : Nat) : x &&& 2 ^ k = 0 ↔ x / 2 ^ k % 2 = 0 := by
  constructor
  · intro h
    have q : (x &&& 2 ^ k).testBit k = false := by rw [h]; exact Nat.zero_testBit k
    rw [Nat.testBit_and, Nat.testBit_two_pow_self, Bool.and_true, Nat.testBit_eq_decide_div_mod_eq] at q
    have q := of_decide_eq_false q
    omega
  · intro h
    apply Nat.eq_of_testBit_eq
    intro i
    rw [Nat.testBit_and, Nat.zero_testBit, Nat.testBit_two_pow]
    by_cases e : k = i
    · subst e
      rw [Nat.testBit_eq_decide_div_mod_eq, h]; rfl
    · simp [e]
/-- one bit of an int -/
theorem own_ibit (x m : Int32) (k : Nat) (hm : m.toBitVec.toNat = 2 ^ k) : (x &&& m = 0) ↔ x.toInt % 4294967296 / (2 ^ k : Nat) % 2 = 0 := by
  have u : (x.toBitVec.toNat : Int) = x.toInt % 4294967296 := own_uI x
  have z : (0 : Int32).toBitVec.toNat = 0 := rfl
  rw [← u, ← Int.natCast_ediv, ← Int32.toBitVec_inj, ← BitVec.toNat_inj, Int32.toBitVec_and, BitVec.toNat_and, hm, z, own_natbit]
  omega
theorem own_k0 : (0 : Int32).toNatClampNeg = 0 := by decide
theorem own_k1 : (1 : Int32).toNatClampNeg = 1 := by decide
theorem own_k2 : (2 : Int32).toNatClampNeg = 2 := by decide
theorem own_k3 : (3 : Int32).toNatClampNeg = 3 := by decide
theorem own_k4 : (4 : Int32).toNatClampNeg = 4 := by decide
theorem own_k5 : (5 : Int32).toNatClampNeg = 5 := by decide
theorem own_k6 : (6 : Int32).toNatClampNeg = 6 := by decide
theorem own_k7 : (7 : Int32).toNatClampNeg = 7 := by decide
/-- a byte, and what a property of the 256 of them says -/
theorem own_byte {P : Int32 → Prop} (h : ∀ n : Nat, n < 256 → P (Int32.ofNat n)) (x : Int32) (h1 : 0 ≤ x.toInt) (h2 : x.toInt < 256) : P x := by
  have e : x = Int32.ofNat x.toInt.toNat := by
    apply Int32.toInt_inj.mp
    rw [Int32.toInt_ofNat_of_lt (by omega)]; omega
  rw [e]; exact h _ (by omega)
theorem own_192 (x : Int32) (h1 : 0 ≤ x.toInt) (h2 : x.toInt < 256) : (x &&& 192).toInt = x.toInt / 64 * 64 :=
  own_byte (P := fun x => (x &&& 192).toInt = x.toInt / 64 * 64) (by decide +kernel) x h1 h2
/-- the or of two numbers that share no bit -/
theorem own_ior {x y : Int32} (k : Nat) (q : Int) (hq : 0 ≤ q) (hx : x.toInt = (2 ^ k : Nat) * q) (hy : 0 ≤ y.toInt) (hy2 : y.toInt < (2 ^ k : Nat)) : (x ||| y).toInt = x.toInt + y.toInt := by
  have x0 : 0 ≤ x.toInt := by rw [hx]; exact Int.mul_nonneg (Int.natCast_nonneg _) hq
  have ux := own_uI x
  have uy := own_uI y
  have x2 := own_i2 x
  have y2 := own_i2 y
  have nx : x.toUInt32.toNat = 2 ^ k * q.toNat := by
    have : ((2 ^ k * q.toNat : Nat) : Int) = (2 ^ k : Nat) * q := by rw [Int.natCast_mul, Int.toNat_of_nonneg hq]
    omega
  have e : (x ||| y).toBitVec.toNat = x.toUInt32.toNat + y.toUInt32.toNat := by
    rw [Int32.toBitVec_or, BitVec.toNat_or]
    show x.toUInt32.toNat ||| y.toUInt32.toNat = _
    rw [nx]
    exact (Nat.two_pow_add_eq_or_of_lt (by omega) _).symm
  have lt : x.toInt + y.toInt < 2147483648 := by
    by_cases k31 : k ≤ 31
    · have d : (2 ^ 31 : Nat) = 2 ^ k * 2 ^ (31 - k) := by rw [← Nat.pow_add]; congr 1; omega
      have z1 : q.toNat < 2 ^ (31 - k) := by
        apply Nat.lt_of_mul_lt_mul_left (a := 2 ^ k)
        rw [← d, ← nx]; omega
      have z2 : 2 ^ k * (q.toNat + 1) ≤ 2 ^ k * 2 ^ (31 - k) := Nat.mul_le_mul_left _ z1
      rw [← d, Nat.mul_add, ← nx] at z2
      omega
    · have z0 : q = 0 := by
        have z1 : (2 ^ 32 : Nat) ≤ 2 ^ k := Nat.pow_le_pow_right (by decide) (by omega)
        by_cases q0 : q = 0
        · exact q0
        · have z3 : (2 ^ k : Nat) * 1 ≤ ((2 ^ k : Nat) : Int) * q := Int.mul_le_mul_of_nonneg_left (by omega) (Int.natCast_nonneg _)
          omega
      rw [hx, z0]; omega
  show (x ||| y).toBitVec.toInt = _
  rw [BitVec.toInt_eq_toNat_of_lt (by rw [e]; omega), e]
  omega
/-! arrays as lists: a place read behind a write -/
theorem own_nn {i : Int32} (h : 0 ≤ i.toInt) : (i.toNatClampNeg : Int) = i.toInt := by rw [Int32.toNatClampNeg]; omega
theorem own_ib {α : Type} {bs : List α} {i : Int32} (h1 : 0 ≤ i.toInt) (h2 : i.toInt < bs.length) : own_inb bs i := by
  refine ⟨?_, ?_⟩
  · rw [Int32.lt_iff_toInt_lt]; simp only [Int32.reduceToInt]; omega
  · have := own_nn h1; omega
theorem own_ibe {α : Type} {bs : List α} {i : Int32} (h : own_inb bs i) : 0 ≤ i.toInt ∧ i.toInt < bs.length := by
  have h1 := h.1
  rw [Int32.lt_iff_toInt_lt] at h1
  simp only [Int32.reduceToInt] at h1
  have := own_nn (i := i) (by omega)
  have := h.2
  omega
theorem own_wrl {α : Type} (bs : List α) (j : Int32) (v : α) : (own_wr bs j v).length = bs.length := by rw [own_wr, List.length_set]
theorem own_rw {α : Type} [OfNat α 0] {bs : List α} {i j : Int32} (v : α) (hi : 0 ≤ i.toInt) (hj : own_inb bs j) : own_rd (own_wr bs j v) i = if i = j then v else own_rd bs i := by
  have h := own_ibe hj
  rw [own_rd, own_rd, own_wr]
  have ni := own_nn hi
  have nj := own_nn h.1
  by_cases e : i = j
  · subst e
    rw [if_pos rfl, List.getD_eq_getElem?_getD, List.getElem?_set_self (by omega)]; rfl
  · have e' : i.toInt ≠ j.toInt := fun z => e (Int32.toInt_inj.mp z)
    rw [if_neg e, List.getD_eq_getElem?_getD, List.getElem?_set_ne (by omega), List.getD_eq_getElem?_getD]
theorem own_rw1 {α : Type} [OfNat α 0] {bs : List α} {j : Int32} (v : α) (hj : own_inb bs j) : own_rd (own_wr bs j v) j = v := by rw [own_rw v (own_ibe hj).1 hj, if_pos rfl]
theorem own_rw2 {α : Type} [OfNat α 0] {bs : List α} {i j : Int32} (v : α) (hi : 0 ≤ i.toInt) (hj : own_inb bs j) (h : i.toInt ≠ j.toInt) : own_rd (own_wr bs j v) i = own_rd bs i := by
  rw [own_rw v hi hj, if_neg fun z => h (by rw [z])]
theorem own_rrep {α : Type} [OfNat α 0] (n : Nat) (v : α) {i : Int32} (h : i.toNatClampNeg < n) : own_rd (List.replicate n v) i = v := by
  rw [own_rd, List.getD_eq_getElem?_getD, List.getElem?_replicate, if_pos h]; rfl
theorem own_n8i (x : Int32) : x.toInt8.toInt32.toInt8.toInt32 = x.toInt8.toInt32 := by
  rw [← Int32.toInt_inj, own_b8, own_b8]; omega
theorem own_iadd1 (a : Int32) (k : Int32) (h1 : -2147483648 ≤ a.toInt + k.toInt) (h2 : a.toInt + k.toInt < 2147483648) : (a + k).toInt = a.toInt + k.toInt := own_iadd h1 h2
theorem own_s16s (x : Int32) (h1 : -32768 ≤ x.toInt) (h2 : x.toInt < 32768) : x.toInt16.toInt32 = x := by
  rw [← Int32.toInt_inj, own_s16]; omega
theorem own_on (i : Nat) (h : i < 100) : (Int32.ofNat i).toInt = i := Int32.toInt_ofNat_of_lt (by omega)
/-- the byte at a place, as it is compared -/
def own_at (bs : List Int32) (o : Int32) (i : Nat) : Int := (own_rd bs (o + Int32.ofNat i)).toInt % 256
theorem own_stp (n i : Nat) (x y : Int32) (A B : List Int32) (hi : i < 32) (x0 : 0 ≤ x.toInt) (x7 : x.toInt ≤ 7) (y0 : 0 ≤ y.toInt) (y7 : y.toInt ≤ 7) (lA : A.length = 41) (lB : B.length = 41) :
    f_UInt256_isBelow_3 (n + 1) x y (Int32.ofNat i) A B = if own_at A x i = own_at B y i then f_UInt256_isBelow_3 n x y (Int32.ofNat (i + 1)) A B else if own_at A x i < own_at B y i then some 1 else some 0 := by
  have e := own_on i (by omega)
  have e1 : (x + Int32.ofNat i).toInt = x.toInt + i := by rw [own_iadd (by omega) (by omega), e]
  have e2 : (y + Int32.ofNat i).toInt = y.toInt + i := by rw [own_iadd (by omega) (by omega), e]
  have e3 : Int32.ofNat i + 1 = Int32.ofNat (i + 1) := (Int32.ofNat_add i 1).symm
  have e4 := own_on (i + 1) (by omega)
  have m : ∀ r : Int32, ((r &&& 255).toInt16.toInt32).toInt = r.toInt % 256 := fun r => by
    have q : (r &&& 255).toInt = r.toInt % 2 ^ 8 := own_imask 8 (by decide) (by decide)
    rw [own_s16s _ (by omega) (by omega), q]; rfl
  rw [f_UInt256_isBelow_3, if_pos (by rw [Int32.lt_iff_toInt_lt, e]; simp only [Int32.reduceToInt]; omega), own_ls, own_s16s _ (by omega) (by omega), own_ct _ (own_ib (by omega) (by omega)), own_ls, own_ls, own_s16s _ (by omega) (by omega), own_ct _ (own_ib (by omega) (by omega)), own_ls, e3]
  simp only [← Int32.toInt_inj, Int32.lt_iff_toInt_lt, m, own_ls]
  rw [own_s16s _ (by omega) (by omega)]
  rfl
theorem own_skip (x y : Int32) (A B : List Int32) (x0 : 0 ≤ x.toInt) (x7 : x.toInt ≤ 7) (y0 : 0 ≤ y.toInt) (y7 : y.toInt ≤ 7) (lA : A.length = 41) (lB : B.length = 41) :
    ∀ (d i n : Nat), i + d ≤ 32 → (∀ j, i ≤ j → j < i + d → own_at A x j = own_at B y j) → f_UInt256_isBelow_3 (n + d) x y (Int32.ofNat i) A B = f_UInt256_isBelow_3 n x y (Int32.ofNat (i + d)) A B := by
  intro d
  induction d with
  | zero => intro i n _ _; rfl
  | succ d ih =>
    intro i n h1 h2
    have := own_stp (n + d) i x y A B (by omega) x0 x7 y0 y7 lA lB
    rw [show n + (d + 1) = n + d + 1 by omega, this, if_pos (h2 i (by omega) (by omega)), ih (i + 1) n (by omega) (fun j q1 q2 => h2 j (by omega) (by omega))]
    congr 2; omega
theorem own_below (x y : Int32) (A B : List Int32) (lo hi : Nat) (x0 : 0 ≤ x.toInt) (x7 : x.toInt ≤ 7) (y0 : 0 ≤ y.toInt) (y7 : y.toInt ≤ 7) (lA : A.length = 41) (lB : B.length = 41) (h1 : lo ≤ hi) (h2 : hi < 32)
    (hz : ∀ j, j < 32 → j ≠ lo → j ≠ hi → own_at A x j = own_at B y j) :
    f_UInt256_isBelow x y A B = some (if own_at A x lo = own_at B y lo then (if own_at A x hi = own_at B y hi then 0 else if own_at A x hi < own_at B y hi then 1 else 0) else if own_at A x lo < own_at B y lo then 1 else 0) := by
  unfold f_UInt256_isBelow
  have s := own_skip x y A B x0 x7 y0 y7 lA lB
  have z : (0 : Int32) = Int32.ofNat 0 := rfl
  by_cases c : own_at A x lo = own_at B y lo
  · rw [if_pos c]
    by_cases d : own_at A x hi = own_at B y hi
    · rw [if_pos d]
      have t := s 32 0 68 (by omega) (fun j _ q => by
        by_cases j1 : j = lo
        · rw [j1]; exact c
        · by_cases j2 : j = hi
          · rw [j2]; exact d
          · exact hz j (by omega) j1 j2)
      rw [z, show (100 : Nat) = 68 + 32 from rfl, t, f_UInt256_isBelow_3, if_neg (by rw [Int32.lt_iff_toInt_lt]; decide)]
      rfl
    · rw [if_neg d]
      have t := s hi 0 (100 - hi) (by omega) (fun j _ q => by
        by_cases j1 : j = lo
        · rw [j1]; exact c
        · exact hz j (by omega) j1 (by omega))
      rw [show 100 - hi + hi = 100 by omega] at t
      rw [z, t, Nat.zero_add, show 100 - hi = 99 - hi + 1 by omega, own_stp _ hi x y A B h2 x0 x7 y0 y7 lA lB, if_neg d]
      split <;> rfl
  · rw [if_neg c]
    have t := s lo 0 (100 - lo) (by omega) (fun j _ q => hz j (by omega) (by omega) (by omega))
    rw [show 100 - lo + lo = 100 by omega] at t
    rw [z, t, Nat.zero_add, show 100 - lo = 99 - lo + 1 by omega, own_stp _ lo x y A B (by omega) x0 x7 y0 y7 lA lB, if_neg c]
    split <;> rfl
theorem own_323 (aO bO ex r : Int32) (A B : List Int32) (a0 : 0 ≤ aO.toInt) (a7 : aO.toInt ≤ 7) (b0 : 0 ≤ bO.toInt) (b7 : bO.toInt ≤ 7) (h : f_UInt256_isBelow aO bO A B = some r) (e : r = ex) : f_law_323 aO bO ex A B = some 1 := by
  unfold f_law_323
  rw [own_ls, own_ls, own_s16s _ (by omega) (by omega), own_s16s _ (by omega) (by omega), h, own_bs, if_pos e]
theorem own_m8 (r : Int32) : (r &&& 255).toInt = r.toInt % 256 := own_imask 8 (by decide) (by decide)
/-- the comparison's answer against what the law expects -/
theorem own_263 (aO bO lo hi al bl ah bh : Int32) (A B : List Int32) (l h : Nat) (a0 : 0 ≤ aO.toInt) (a7 : aO.toInt ≤ 7) (b0 : 0 ≤ bO.toInt) (b7 : bO.toInt ≤ 7) (lA : A.length = 41) (lB : B.length = 41) (hl : lo.toInt = l) (hh : hi.toInt = h) (h1 : l ≤ h) (h2 : h < 32)
    (hz : ∀ j, j < 32 → j ≠ l → j ≠ h → own_at A aO j = own_at B bO j) (e1 : al.toInt = own_at A aO l) (e2 : bl.toInt = own_at B bO l) (e3 : ah.toInt = own_at A aO h) (e4 : bh.toInt = own_at B bO h) :
    f_law_263 aO bO lo hi al bl ah bh A B = some 1 := by
  have w := own_below aO bO A B l h a0 a7 b0 b7 lA lB h1 h2 hz
  unfold f_law_263
  simp only [← Int32.toInt_inj, Int32.lt_iff_toInt_lt, e1, e2, e3, e4, hl, hh]
  by_cases c : own_at A aO l = own_at B bO l
  · rw [if_pos c] at w ⊢
    by_cases d : ((h : Int) = l)
    · rw [if_pos d]
      have d' : h = l := by omega
      subst d'
      rw [if_pos c] at w
      exact own_323 _ _ _ _ A B a0 a7 b0 b7 w rfl
    · rw [if_neg d]
      by_cases f : own_at A aO h = own_at B bO h
      · rw [if_pos f] at w ⊢
        exact own_323 _ _ _ _ A B a0 a7 b0 b7 w rfl
      · rw [if_neg f] at w ⊢
        by_cases g : own_at A aO h < own_at B bO h
        · rw [if_pos g] at w ⊢; exact own_323 _ _ _ _ A B a0 a7 b0 b7 w rfl
        · rw [if_neg g] at w ⊢; exact own_323 _ _ _ _ A B a0 a7 b0 b7 w rfl
  · rw [if_neg c] at w ⊢
    by_cases g : own_at A aO l < own_at B bO l
    · rw [if_pos g] at w ⊢; exact own_323 _ _ _ _ A B a0 a7 b0 b7 w rfl
    · rw [if_neg g] at w ⊢; exact own_323 _ _ _ _ A B a0 a7 b0 b7 w rfl
/-- a window of zeros with two bytes written: what stands where -/
theorem own_win (Z : List Int32) (o p q v w : Int32) (o0 : 0 ≤ o.toInt) (o7 : o.toInt ≤ 7) (p0 : 0 ≤ p.toInt) (p31 : p.toInt ≤ 31) (q0 : 0 ≤ q.toInt) (q31 : q.toInt ≤ 31) (lZ : Z.length = 41) (hz : ∀ i : Int32, o.toInt ≤ i.toInt → i.toInt < o.toInt + 32 → own_rd Z i = 0) :
    own_inb Z (o + q) ∧ own_inb (own_wr Z (o + q) w.toInt8.toInt32.toInt8.toInt32) (o + p) ∧ (own_wr (own_wr Z (o + q) w.toInt8.toInt32.toInt8.toInt32) (o + p) v.toInt8.toInt32.toInt8.toInt32).length = 41 ∧
      ∀ j : Nat, j < 32 → own_at (own_wr (own_wr Z (o + q) w.toInt8.toInt32.toInt8.toInt32) (o + p) v.toInt8.toInt32.toInt8.toInt32) o j = if (j : Int) = p.toInt then v.toInt % 256 else if (j : Int) = q.toInt then w.toInt % 256 else 0 := by
  have ep : (o + p).toInt = o.toInt + p.toInt := own_iadd (by omega) (by omega)
  have eq : (o + q).toInt = o.toInt + q.toInt := own_iadd (by omega) (by omega)
  have i1 : own_inb Z (o + q) := own_ib (by omega) (by omega)
  have i2 : own_inb (own_wr Z (o + q) w.toInt8.toInt32.toInt8.toInt32) (o + p) := own_ib (by omega) (by rw [own_wrl]; omega)
  refine ⟨i1, i2, by rw [own_wrl, own_wrl, lZ], fun j hj => ?_⟩
  have ej : (o + Int32.ofNat j).toInt = o.toInt + j := by rw [own_iadd (by rw [own_on j (by omega)]; omega) (by rw [own_on j (by omega)]; omega), own_on j (by omega)]
  have n8 : ∀ x : Int32, (x.toInt8.toInt32.toInt8.toInt32).toInt % 256 = x.toInt % 256 := fun x => by rw [own_b8, own_b8]; omega
  unfold own_at
  by_cases c : (j : Int) = p.toInt
  · have : o + Int32.ofNat j = o + p := by rw [← Int32.toInt_inj, ej, ep, c]
    rw [if_pos c, this, own_rw1 _ i2, n8]
  · rw [if_neg c, own_rw2 _ (by omega) i2 (by omega)]
    by_cases d : (j : Int) = q.toInt
    · have : o + Int32.ofNat j = o + q := by rw [← Int32.toInt_inj, ej, eq, d]
      rw [if_pos d, this, own_rw1 _ i1, n8]
    · rw [if_neg d, own_rw2 _ (by omega) i1 (by omega), hz _ (by omega) (by omega)]; rfl
theorem own_113 (va vb wa wb p q aO bO : Int32) (A B : List Int32) (p0 : 0 ≤ p.toInt) (p31 : p.toInt ≤ 31) (q0 : 0 ≤ q.toInt) (q31 : q.toInt ≤ 31) (a0 : 0 ≤ aO.toInt) (a7 : aO.toInt ≤ 7) (b0 : 0 ≤ bO.toInt) (b7 : bO.toInt ≤ 7) (lA : A.length = 41) (lB : B.length = 41)
    (hA : ∀ i : Int32, aO.toInt ≤ i.toInt → i.toInt < aO.toInt + 32 → own_rd A i = 0) (hB : ∀ i : Int32, bO.toInt ≤ i.toInt → i.toInt < bO.toInt + 32 → own_rd B i = 0) : f_law_113 va vb wa wb p q aO bO A B = some 1 := by
  obtain ⟨i1, i2, l1, w1⟩ := own_win A aO p q va wa a0 a7 p0 p31 q0 q31 lA hA
  obtain ⟨j1, j2, l2, w2⟩ := own_win B bO p q vb wb b0 b7 p0 p31 q0 q31 lB hB
  unfold f_law_113
  rw [own_ls, own_ls, own_ct _ i1, own_ls, own_ls, own_ls, own_ct _ j1, own_ls, own_ls, own_ls, own_ct _ i2, own_ls, own_ls, own_ls, own_ct _ j2, own_ls]
  generalize own_wr (own_wr A (aO + q) wa.toInt8.toInt32.toInt8.toInt32) (aO + p) va.toInt8.toInt32.toInt8.toInt32 = AA at *
  generalize own_wr (own_wr B (bO + q) wb.toInt8.toInt32.toInt8.toInt32) (bO + p) vb.toInt8.toInt32.toInt8.toInt32 = BB at *
  obtain ⟨P, hP⟩ : ∃ P : Nat, p.toInt = P := ⟨p.toInt.toNat, by omega⟩
  obtain ⟨Q, hQ⟩ : ∃ Q : Nat, q.toInt = Q := ⟨q.toInt.toNat, by omega⟩
  have zz : ∀ j, j < 32 → j ≠ P → j ≠ Q → own_at AA aO j = own_at BB bO j := fun j h1 h2 h3 => by
    rw [w1 j h1, w2 j h1, if_neg (by omega), if_neg (by omega), if_neg (by omega), if_neg (by omega)]
  have pA : own_at AA aO P = va.toInt % 256 := by rw [w1 P (by omega), if_pos (by omega)]
  have pB : own_at BB bO P = vb.toInt % 256 := by rw [w2 P (by omega), if_pos (by omega)]
  have qA : Q ≠ P → own_at AA aO Q = wa.toInt % 256 := fun h => by rw [w1 Q (by omega), if_neg (by omega), if_pos (by omega)]
  have qB : Q ≠ P → own_at BB bO Q = wb.toInt % 256 := fun h => by rw [w2 Q (by omega), if_neg (by omega), if_pos (by omega)]
  unfold f_Math_min f_Math_max
  by_cases c1 : q < p
  · -- lo = q, hi = p
    have c1' := c1
    rw [Int32.lt_iff_toInt_lt] at c1'
    rw [if_pos c1, own_bs, if_neg (by rw [Int32.lt_iff_toInt_lt]; omega), own_bs, if_neg (by rw [← Int32.toInt_inj]; omega), own_ls, if_neg (by rw [← Int32.toInt_inj]; omega)]
    unfold f_law_217
    rw [if_pos rfl, own_ls, if_pos rfl]
    exact own_263 aO bO q p _ _ _ _ AA BB Q P a0 a7 b0 b7 l1 l2 hQ hP (by omega) (by omega) (fun j h1 h2 h3 => zz j h1 h3 h2) (by rw [own_m8, qA (by omega)]) (by rw [own_m8, qB (by omega)]) (by rw [own_m8, pA]) (by rw [own_m8, pB])
  · rw [if_neg c1, own_bs]
    rw [Int32.lt_iff_toInt_lt] at c1
    by_cases c2 : p < q
    · -- lo = p, hi = q
      have c2' := c2
      rw [Int32.lt_iff_toInt_lt] at c2'
      rw [if_pos c2, own_bs, if_pos rfl, own_ls, if_pos rfl]
      unfold f_law_217
      rw [if_neg (by rw [← Int32.toInt_inj]; omega), own_ls, if_neg (by rw [← Int32.toInt_inj]; omega)]
      exact own_263 aO bO p q _ _ _ _ AA BB P Q a0 a7 b0 b7 l1 l2 hP hQ (by omega) (by omega) zz (by rw [own_m8, pA]) (by rw [own_m8, pB]) (by rw [own_m8, qA (by omega)]) (by rw [own_m8, qB (by omega)])
    · rw [if_neg c2, own_bs, if_pos rfl, own_ls, if_pos rfl]
      rw [Int32.lt_iff_toInt_lt] at c2
      unfold f_law_217
      rw [if_pos rfl, own_ls, if_pos rfl]
      exact own_263 aO bO p p _ _ _ _ AA BB P P a0 a7 b0 b7 l1 l2 hP hP (by omega) (by omega) (fun j h1 h2 h3 => zz j h1 h2 (by omega)) (by rw [own_m8, pA]) (by rw [own_m8, pB]) (by rw [own_m8, pA]) (by rw [own_m8, pB])
theorem own_law (l : Int64) (va vb wa wb s : Int32) : f_law l va vb wa wb s = some 1 := by
  have sm : ∀ (x : Int64) (k : Nat) (m : Int64), k ≤ 5 → m.toBitVec.toNat = 2 ^ k - 1 → (x &&& m).toInt32.toInt = x.toInt % 2 ^ k := fun x k m hk hm => by
    have e : (x &&& m).toInt = x.toInt % 2 ^ k := own_lmask k (by omega) hm
    have : k = 0 ∨ k = 1 ∨ k = 2 ∨ k = 3 ∨ k = 4 ∨ k = 5 := by omega
    rw [own_l2i, e]
    rcases this with rfl | rfl | rfl | rfl | rfl | rfl <;> omega
  have e1 := sm l 5 31 (by decide) (by decide)
  have e2 := sm ((l.toUInt64 >>> ((5 : Int32) &&& 0x3f).toInt64.toUInt64).toInt64) 5 31 (by decide) (by decide)
  have e3 := sm ((l.toUInt64 >>> ((10 : Int32) &&& 0x3f).toInt64.toUInt64).toInt64) 3 7 (by decide) (by decide)
  have e4 := sm ((l.toUInt64 >>> ((13 : Int32) &&& 0x3f).toInt64.toUInt64).toInt64) 3 7 (by decide) (by decide)
  unfold f_law
  rw [own_ls, own_ls, own_ls, own_ls]
  generalize (l &&& (31 : Int64)).toInt32 = p at *
  generalize (((l.toUInt64 >>> ((5 : Int32) &&& 0x3f).toInt64.toUInt64).toInt64) &&& (31 : Int64)).toInt32 = q at *
  generalize (((l.toUInt64 >>> ((10 : Int32) &&& 0x3f).toInt64.toUInt64).toInt64) &&& (7 : Int64)).toInt32 = a at *
  generalize (((l.toUInt64 >>> ((13 : Int32) &&& 0x3f).toInt64.toUInt64).toInt64) &&& (7 : Int64)).toInt32 = b at *
  have p0 : 0 ≤ p.toInt ∧ p.toInt ≤ 31 := by omega
  have q0 : 0 ≤ q.toInt ∧ q.toInt ≤ 31 := by omega
  have a0 : 0 ≤ a.toInt ∧ a.toInt ≤ 7 := by omega
  have b0 : 0 ≤ b.toInt ∧ b.toInt ≤ 7 := by omega
  have za : ∀ i : Int32, 0 ≤ i.toInt → i.toInt < 41 → own_rd (List.replicate 41 (0 : Int32)) i = 0 := fun i h1 h2 => own_rrep 41 0 (by have := own_nn h1; omega)
  have lz : (List.replicate 41 (0 : Int32)).length = 41 := List.length_replicate
  -- one array: its last byte, and the byte ahead of it
  have one : ∀ (o v : Int32), 0 ≤ o.toInt → o.toInt ≤ 7 → own_inb (List.replicate 41 (0 : Int32)) (o + 32) ∧ (own_wr (List.replicate 41 (0 : Int32)) (o + 32) v).length = 41 ∧ ∀ i : Int32, o.toInt ≤ i.toInt → i.toInt < o.toInt + 32 → own_rd (own_wr (List.replicate 41 (0 : Int32)) (o + 32) v) i = 0 := fun o v h1 h2 => by
    have e : (o + 32).toInt = o.toInt + 32 := by rw [own_iadd (by simp only [Int32.reduceToInt]; omega) (by simp only [Int32.reduceToInt]; omega)]; rfl
    have i1 : own_inb (List.replicate 41 (0 : Int32)) (o + 32) := own_ib (by omega) (by rw [lz]; omega)
    exact ⟨i1, by rw [own_wrl, lz], fun i g1 g2 => by rw [own_rw2 _ (by omega) i1 (by omega)]; exact za i (by omega) (by omega)⟩
  have two : ∀ (o v : Int32) (L : List Int32), 0 ≤ o.toInt → o.toInt ≤ 7 → (0 : Int32) < o → L.length = 41 → (∀ i : Int32, o.toInt ≤ i.toInt → i.toInt < o.toInt + 32 → own_rd L i = 0) → own_inb L (o - 1) ∧ (own_wr L (o - 1) v).length = 41 ∧ ∀ i : Int32, o.toInt ≤ i.toInt → i.toInt < o.toInt + 32 → own_rd (own_wr L (o - 1) v) i = 0 := fun o v L h1 h2 h3 h4 h5 => by
    rw [Int32.lt_iff_toInt_lt] at h3
    simp only [Int32.reduceToInt] at h3
    have e : (o - 1).toInt = o.toInt - 1 := by rw [own_isub (by simp only [Int32.reduceToInt]; omega) (by simp only [Int32.reduceToInt]; omega)]; rfl
    have i1 : own_inb L (o - 1) := own_ib (by omega) (by omega)
    exact ⟨i1, by rw [own_wrl, h4], fun i g1 g2 => by rw [own_rw2 _ (by omega) i1 (by omega)]; exact h5 i g1 g2⟩
  obtain ⟨ia, la, ha⟩ := one a s.toInt8.toInt32.toInt8.toInt32 a0.1 a0.2
  obtain ⟨ib, lb, hb⟩ := one b (s >>> ((8 : Int32) &&& 31)).toInt8.toInt32.toInt8.toInt32 b0.1 b0.2
  rw [own_ls, own_ls, own_ct _ ia, own_ls, own_ls, own_ls, own_ct _ ib, own_ls]
  have fin := fun (A B : List Int32) (lA : A.length = 41) (lB : B.length = 41) hA hB => own_113 va vb wa wb p q a b A B p0.1 p0.2 q0.1 q0.2 a0.1 a0.2 b0.1 b0.2 lA lB hA hB
  by_cases ca : (0 : Int32) < a
  · obtain ⟨ja, la', ha'⟩ := two a (s >>> ((16 : Int32) &&& 31)).toInt8.toInt32.toInt8.toInt32 _ a0.1 a0.2 ca la ha
    rw [if_pos ca, own_ls, own_ls, own_ct _ ja, own_ls]
    by_cases cb : (0 : Int32) < b
    · obtain ⟨jb, lb', hb'⟩ := two b (s >>> ((24 : Int32) &&& 31)).toInt8.toInt32.toInt8.toInt32 _ b0.1 b0.2 cb lb hb
      rw [if_pos cb, own_ls, own_ls, own_ct _ jb, own_ls]
      exact fin _ _ la' lb' ha' hb'
    · rw [if_neg cb]; exact fin _ _ la' lb ha' hb
  · rw [if_neg ca]
    by_cases cb : (0 : Int32) < b
    · obtain ⟨jb, lb', hb'⟩ := two b (s >>> ((24 : Int32) &&& 31)).toInt8.toInt32.toInt8.toInt32 _ b0.1 b0.2 cb lb hb
      rw [if_pos cb, own_ls, own_ls, own_ct _ jb, own_ls]
      exact fin _ _ la lb' ha hb'
    · rw [if_neg cb]; exact fin _ _ la lb ha hb

set_option maxRecDepth 65536 in
set_option maxHeartbeats 4000000 in
theorem comes_1 {Post : Tables → Env → Array Value → State → Outcome → State → Prop} (hpost : ∀ tb e args s v u, (limb_1_1.after args s (.returned v) u = true ∧ limb_1_2.after args s (.returned v) u = true ∧ True) → FrameEnd s (.returned v) u (Jvm.fieldLocs frame_1_writes args s ++ Jvm.arrayLocs frame_1_arrays args s ++ Jvm.staticLocs frame_1_statics s) 16 256 → Post tb e args s (.returned v) u) :
    ArmFor flags0 classFile x code maxLocals ret World_1 tables_1 room_1 Calls_1 rest_1 Pre_1 Post := by
  intro l hfl _ _ p e ha hc hk s m args below hf hA hF happ hP
  obtain ⟨hcalls, hrest, hpre⟩ := hP
  obtain ⟨-, -, -, hnamed, -, -, -, hat⟩ := (Spec.applies_iff hf).mp happ
  obtain ⟨hg, hn⟩ := and_e (Cond.before_iff.mp (show (Jvm.Cond.and given_1 narrow_1).before args s = true from hpre))
  obtain ⟨gc, g0⟩ := and_e hg
  obtain ⟨ga0, g1⟩ := and_e g0
  obtain ⟨ga1, g2⟩ := and_e g1
  obtain ⟨ga2, g3⟩ := and_e g2
  obtain ⟨ga3, g4⟩ := and_e g3
  obtain ⟨ga4, g5⟩ := and_e g4
  have ga5 := g5
  obtain ⟨w0, w1, w2, w3, w4, w5, rfl⟩ : ∃ w0 w1 w2 w3 w4 w5 : Value, args = #[w0, w1, w2, w3, w4, w5] := by
    have hs : args.size = 6 := by simpa [Cond.value, given_1] using gc
    obtain ⟨L⟩ := args
    match L, hs with
    | [w0, w1, w2, w3, w4, w5], _ => exact ⟨w0, w1, w2, w3, w4, w5, rfl⟩
  have hw := fun d (hd : d ∈ tables_1) => atoms_spec (ws := Jvm.Cond.code x code maxLocals ret :: tables_1) hat d (List.mem_cons_of_mem _ hd)
  obtain ⟨i0, ei0⟩ := isL_v ga0
  obtain rfl : w0 = (.long i0) := Option.some.inj ei0
  obtain ⟨i1, ei1⟩ := is_v ga1
  obtain rfl : w1 = (.int i1) := Option.some.inj ei1
  obtain ⟨i2, ei2⟩ := is_v ga2
  obtain rfl : w2 = (.int i2) := Option.some.inj ei2
  obtain ⟨i3, ei3⟩ := is_v ga3
  obtain rfl : w3 = (.int i3) := Option.some.inj ei3
  obtain ⟨i4, ei4⟩ := is_v ga4
  obtain rfl : w4 = (.int i4) := Option.some.inj ei4
  obtain ⟨i5, ei5⟩ := is_v ga5
  obtain rfl : w5 = (.int i5) := Option.some.inj ei5
  obtain ⟨n, o, h1, h2, h3, _, L, rfl, hQ, hq⟩ := rm_law l s _ hw tables_1 s.heap s.heap.size (Nat.le_refl _) i0 i1 i2 i3 i4 i5 1 (own_law i0 i1 i2 i3 i4 i5) p e ha hc hk s m _ below hf ((Spec.applies_iff_loose hf).mp happ).1 ⟨rfl, State.Warmed39.refl s, rfl⟩ trivial
  obtain ⟨rfl, N, -⟩ := hQ
  refine ⟨n, _, h1, h2, h3, hpost _ _ _ _ _ _ ⟨Cond.after_iff.mpr rfl, Cond.after_iff.mpr (eq_i res_at (Term.int_eval (1)) rfl), trivial⟩ ⟨hq.1, hq.2.1, (hq.2.2.sift fun y hy => Or.inr (N y hy)).mono (by decide) (by decide)⟩⟩
theorem main_1_1 : Claimed_1_1 := comes_1 fun _ _ _ _ _ _ h hF => ⟨h.1, hF⟩
theorem main_1_2 : Claimed_1_2 := comes_1 fun _ _ _ _ _ _ h hF => ⟨h.2.1, hF⟩
end Jvm.Pilot.@@N@@
namespace Jvm.Pilot.@@N@@
open Jvm Jvm.ClassFile Sem Op Lib Jvm.Free Jvm.Stand Jvm.Pilot.@@N@@.Jvm.D
/-! MADE BY PROGRAM (witnessworld.py) out of the Statement's table words and the real class files: 10 classes; the members and pool entries that the words name. The judged class is class 1, her method 1. -/
namespace start1
open Jvm.ClassFile
def u (s : String) : CpInfo := .utf8 (stringToUtf16 s)
/-- a pool by its gaps: so many unusable entries, then the entry; so many at the end -/
def gap : Nat → List CpInfo → List CpInfo
  | 0, r => r
  | n + 1, r => .unusable :: gap n r
def poolList (es : List (Nat × CpInfo)) (last : Nat) : List CpInfo := es.foldr (fun e r => gap e.1 (e.2 :: r)) (gap last [])
def pool (es : List (Nat × CpInfo)) (last : Nat) : Array CpInfo := ⟨poolList es last⟩
def fileOf (pool : Array CpInfo) (this : Nat) (attrs : Array Attribute := #[]) (ms : Array MethodInfo := #[]) (fl : Nat := 33) (sup : Nat := 0) (ifs : Array Nat := #[]) (fds : Array FieldInfo := #[]) : ClassFile where
  minorVersion := 0
  majorVersion := 65
  constantPool := pool
  accessFlags := fl
  thisClass := this
  superClass := sup
  interfaces := ifs
  fields := fds
  methods := ms
  attributes := attrs
def plain (name : String) (sup : Option ClassId) : Class where
  name := name
  kind := .ordinary
  loader := none
  accessFlags := 33
  super := sup
  interfaces := #[]
  cf := none
  fields := #[]
  methods := #[]
  instanceTypes := #[]
  staticTypes := #[]
  resolved := #[]
  callSites := []
  init := .initialized
  statics := none
  mirror := none

def pool0 : Array CpInfo := pool [(5, u "<init>"), (0, u "()V"), (1, .class_ 10), (1, u "java/lang/Object")] 113

def k0m0 : Method := { name := "<init>", desc := "()V", sig := { parameters := [], returnType := none }, accessFlags := 1, code := none }
/-- java/lang/Object -/
def k0 : Class := { plain "java/lang/Object" none with
  accessFlags := 33
  interfaces := #[]
  cf := some (fileOf pool0 8 #[] #[{ accessFlags := 1, nameIndex := 5, descriptorIndex := 6, attributes := #[] }] 33 0 #[] #[])
  fields := #[]
  methods := #[k0m0]
  instanceTypes := #[]
  staticTypes := #[]
  resolved := Array.replicate 124 none
  statics := none }

def pool1 : Array CpInfo := pool [(2, .class_ 4), (1, u "java/lang/Object"), (0, u "<init>"), (0, u "()V"), (0, .long 31), (1, .long 7), (1, .methodref 12 13), (0, .class_ 14), (0, .nameAndType 15 16), (0, u "java/lang/Math"), (0, u "min"), (0, u "(II)I"), (0, .methodref 12 18), (0, .nameAndType 19 16), (0, u "max"), (0, .methodref 21 22), (0, .class_ 23), (0, .nameAndType 24 25), (0, u "com/example/keyslate/keyslate/card/UInt256"), (0, u "isBelow"), (0, u "([BS[BS)Z"), (0, .class_ 27), (0, u "com/example/keyslate/keyslate/card/UInt256IsBelowPinLaw"), (2, u "law"), (0, u "(JIIIII)Z")] 5

def k1m0 : Method := { name := "<init>", desc := "()V", sig := { parameters := [], returnType := none }, accessFlags := 2, code := none }
def k1c1 : Code := { maxStack := 4, maxLocals := 21, code := code, exceptionTable := #[], attributes := #[] }
def k1m1 : Method := { name := "law", desc := "(JIIIII)Z", sig := { parameters := [.long, .int, .int, .int, .int, .int], returnType := some .boolean }, accessFlags := 9, code := some k1c1 }
/-- com/example/keyslate/keyslate/card/UInt256IsBelowPinLaw -/
def k1 : Class := { plain "com/example/keyslate/keyslate/card/UInt256IsBelowPinLaw" (some 0) with
  accessFlags := 49
  interfaces := #[]
  cf := some (fileOf pool1 26 #[] #[{ accessFlags := 2, nameIndex := 5, descriptorIndex := 6, attributes := #[] }, { accessFlags := 9, nameIndex := 30, descriptorIndex := 31, attributes := #[] }] 49 2 #[] #[])
  fields := #[]
  methods := #[k1m0, k1m1]
  instanceTypes := #[]
  staticTypes := #[]
  resolved := Array.replicate 37 none
  statics := none }

def pool2 : Array CpInfo := pool [(1, .class_ 2), (0, u "java/lang/Math"), (1, .class_ 6), (1, u "java/lang/Object"), (0, u "<init>"), (0, u "()V"), (89, .class_ 100), (1, u "java/lang/Math$RandomNumberGeneratorHolder"), (71, u "negativeZeroFloatBits"), (0, u "J"), (2, u "negativeZeroDoubleBits"), (21, u "max"), (2, u "min"), (43, u "$assertionsDisabled"), (0, u "Z"), (88, u "(II)I"), (2, u "twoToTheDoubleScaleDown"), (0, u "D"), (4, u "twoToTheDoubleScaleUp"), (9, u "E"), (3, u "PI"), (2, u "TAU"), (2, u "DEGREES_TO_RADIANS"), (0, u "RADIANS_TO_DEGREES")] 94

def k2m0 : Method := { name := "<init>", desc := "()V", sig := { parameters := [], returnType := none }, accessFlags := 2, code := none }
def k2c1 : Code := { maxStack := 2, maxLocals := 2, code := jdk_29_method_65_code, exceptionTable := #[], attributes := #[] }
def k2m1 : Method := { name := "max", desc := "(II)I", sig := { parameters := [.int, .int], returnType := some .int }, accessFlags := 9, code := some k2c1 }
def k2c2 : Code := { maxStack := 2, maxLocals := 2, code := jdk_29_method_69_code, exceptionTable := #[], attributes := #[] }
def k2m2 : Method := { name := "min", desc := "(II)I", sig := { parameters := [.int, .int], returnType := some .int }, accessFlags := 9, code := some k2c2 }
/-- java/lang/Math -/
def k2 : Class := { plain "java/lang/Math" (some 0) with
  accessFlags := 49
  interfaces := #[]
  cf := some (fileOf pool2 1 #[.nestMembers #[98]] #[{ accessFlags := 2, nameIndex := 7, descriptorIndex := 8, attributes := #[] }, { accessFlags := 9, nameIndex := 198, descriptorIndex := 335, attributes := #[] }, { accessFlags := 9, nameIndex := 201, descriptorIndex := 335, attributes := #[] }] 49 4 #[] #[{ accessFlags := 25, nameIndex := 354, descriptorIndex := 339, attributes := #[] }, { accessFlags := 25, nameIndex := 358, descriptorIndex := 339, attributes := #[] }, { accessFlags := 25, nameIndex := 361, descriptorIndex := 339, attributes := #[] }, { accessFlags := 26, nameIndex := 364, descriptorIndex := 339, attributes := #[] }, { accessFlags := 26, nameIndex := 365, descriptorIndex := 339, attributes := #[] }, { accessFlags := 26, nameIndex := 172, descriptorIndex := 173, attributes := #[] }, { accessFlags := 26, nameIndex := 176, descriptorIndex := 173, attributes := #[] }, { accessFlags := 8, nameIndex := 344, descriptorIndex := 339, attributes := #[] }, { accessFlags := 8, nameIndex := 338, descriptorIndex := 339, attributes := #[] }, { accessFlags := 4120, nameIndex := 245, descriptorIndex := 246, attributes := #[] }])
  fields := #[{ name := "E", type := .double, accessFlags := 25, slot := 0, constantValue := 0 }, { name := "PI", type := .double, accessFlags := 25, slot := 1, constantValue := 0 }, { name := "TAU", type := .double, accessFlags := 25, slot := 2, constantValue := 0 }, { name := "DEGREES_TO_RADIANS", type := .double, accessFlags := 26, slot := 3, constantValue := 0 }, { name := "RADIANS_TO_DEGREES", type := .double, accessFlags := 26, slot := 4, constantValue := 0 }, { name := "negativeZeroFloatBits", type := .long, accessFlags := 26, slot := 5, constantValue := 0 }, { name := "negativeZeroDoubleBits", type := .long, accessFlags := 26, slot := 6, constantValue := 0 }, { name := "twoToTheDoubleScaleUp", type := .double, accessFlags := 8, slot := 7, constantValue := 0 }, { name := "twoToTheDoubleScaleDown", type := .double, accessFlags := 8, slot := 8, constantValue := 0 }, { name := "$assertionsDisabled", type := .boolean, accessFlags := 4120, slot := 9, constantValue := 0 }]
  methods := #[k2m0, k2m1, k2m2]
  instanceTypes := #[]
  staticTypes := #[.double, .double, .double, .double, .double, .long, .long, .double, .double, .boolean]
  resolved := Array.replicate 460 none
  statics := none }

def pool3 : Array CpInfo := pool [(2, .class_ 4), (1, u "java/lang/Object"), (0, u "<init>"), (0, u "()V"), (0, .class_ 8), (0, u "com/example/keyslate/keyslate/card/UInt256"), (2, u "isBelow"), (0, u "([BS[BS)Z"), (4, u "LENGTH"), (0, u "S")] 11

def k3m0 : Method := { name := "<init>", desc := "()V", sig := { parameters := [], returnType := none }, accessFlags := 2, code := none }
def k3c1 : Code := { maxStack := 3, maxLocals := 7, code := prog_1_method_2_code, exceptionTable := #[], attributes := #[] }
def k3m1 : Method := { name := "isBelow", desc := "([BS[BS)Z", sig := { parameters := [(.array .byte), .short, (.array .byte), .short], returnType := some .boolean }, accessFlags := 8, code := some k3c1 }
/-- com/example/keyslate/keyslate/card/UInt256 -/
def k3 : Class := { plain "com/example/keyslate/keyslate/card/UInt256" (some 0) with
  accessFlags := 48
  interfaces := #[]
  cf := some (fileOf pool3 7 #[] #[{ accessFlags := 2, nameIndex := 5, descriptorIndex := 6, attributes := #[] }, { accessFlags := 8, nameIndex := 11, descriptorIndex := 12, attributes := #[] }] 48 2 #[] #[{ accessFlags := 24, nameIndex := 17, descriptorIndex := 18, attributes := #[] }])
  fields := #[{ name := "LENGTH", type := .short, accessFlags := 24, slot := 0, constantValue := 0 }]
  methods := #[k3m0, k3m1]
  instanceTypes := #[]
  staticTypes := #[.short]
  resolved := Array.replicate 30 none
  statics := none }

def pool4 : Array CpInfo := pool [(1, u "java/lang/Cloneable"), (0, .class_ 1), (0, u "java/lang/Object"), (0, .class_ 3)] 3

/-- java/lang/Cloneable -/
def k4 : Class := { plain "java/lang/Cloneable" (some 0) with
  accessFlags := 1537
  interfaces := #[]
  cf := some (fileOf pool4 2 #[] #[] 1537 4 #[] #[])
  fields := #[]
  methods := #[]
  instanceTypes := #[]
  staticTypes := #[]
  resolved := Array.replicate 8 none
  statics := none }

def pool5 : Array CpInfo := pool [(1, u "java/io/Serializable"), (0, .class_ 1), (0, u "java/lang/Object"), (0, .class_ 3)] 3

/-- java/io/Serializable -/
def k5 : Class := { plain "java/io/Serializable" (some 0) with
  accessFlags := 1537
  interfaces := #[]
  cf := some (fileOf pool5 2 #[] #[] 1537 4 #[] #[])
  fields := #[]
  methods := #[]
  instanceTypes := #[]
  staticTypes := #[]
  resolved := Array.replicate 8 none
  statics := none }

/-- the primitive byte -/
def k6 : Class := { plain "byte" none with kind := .primitive 'B', accessFlags := 0x411 }
/-- [B -/
def k7 : Class := { plain "[B" (some 0) with kind := .array 6 .byte, interfaces := #[4, 5], accessFlags := 1041 }

/-- the primitive int -/
def k8 : Class := { plain "int" none with kind := .primitive 'I', accessFlags := 0x411 }
/-- [I -/
def k9 : Class := { plain "[I" (some 0) with kind := .array 8 .int, interfaces := #[4, 5], accessFlags := 1041 }

def heap : Heap := #[]
def classes : Array Class := #[k0, k1, k2, k3, k4, k5, k6, k7, k8, k9]
def interned : List (Array UInt16 × Addr) := []
def slotsUsed : Nat := 0
def theMethod : MethodId := ⟨1, 1⟩
def args0 : Array Value := #[.long 5, .int 5, .int 5, .int 5, .int 5, .int 5]
def aboutOver (below : List Frame) : State where
  vm := { classes := classes, interned := interned.toArray }
  heap := heap
  slotsUsed := slotsUsed
  threads := #[{ frames := .invoking theMethod args0 :: below }]
def below0 : List Frame := [.native { method := ⟨0, 0⟩, args := #[] }]
def about1 : State := aboutOver below0
def p0 : Program := .bare "" "" ""
def e0 : Env := launch0.env 0 0 0
theorem w_frames : about1.frames = Frame.invoking theMethod args0 :: below0 := rfl
set_option maxRecDepth 65536 in
theorem w_args : argsFit about1.vm theMethod args0 = true := by decide +kernel
set_option maxRecDepth 65536 in
theorem w_heap : heapFits about1 = true := by decide +kernel
set_option maxRecDepth 65536 in
theorem w_runnable : about1.curStatus? = some .runnable := by decide +kernel
set_option maxRecDepth 65536 in
theorem w_alone : about1.alone = true := by decide +kernel
set_option maxRecDepth 65536 in
theorem w_named : about1.methodNamed? x = some theMethod := by decide +kernel
set_option maxRecDepth 65536 in
theorem w_hears : about1.hears theMethod below0 = true := by decide +kernel
set_option maxRecDepth 65536 in
theorem w_ripe : about1.ripe theMethod args0 below0 = true := by decide +kernel
theorem w_running : about1.status = .running := rfl
set_option maxRecDepth 65536 in
theorem w_room : about1.hasRoom e0.platform room_1 = true :=
  launch0.hasRoom_least _ room_1 (by decide +kernel) (by decide +kernel) (by decide +kernel) (by decide +kernel) (by decide +kernel) (by decide +kernel)
theorem allAtoms_all (ts : List Jvm.Cond) (a : Array Jvm.Value) (st : Jvm.State) : (allAtoms ts).before a st = ts.all (fun c => c.before a st) := by
  induction ts with
  | nil => rfl
  | cons c t ih =>
    show (Jvm.Cond.and c (allAtoms t)).before a st = _
    rw [Jvm.Cond.before_and, ih, List.all_cons]
def words1 : List Jvm.Cond := Jvm.Cond.code x code maxLocals ret :: tables_1
/-- a 'code' word, met by the world's own term for the bytes: nothing is compared byte by byte -/
theorem code_word {y : MethodName} {bytes : ByteArray} {mx : Nat} {rt : Option FieldType} {a : Array Value} {s : State} {m : MethodId} {meth : Method} {c : Code} (h1 : s.methodNamed? y = some m) (h2 : s.vm.method? m = some meth) (h3 : meth.code = some c) (h4 : c.code = bytes)
    (h5 : (c.maxLocals == mx && c.exceptionTable.isEmpty && decide (c.maxStack ≤ mostOperands) && decide (meth.sig.returnType = rt) && !meth.locks && decide (parseMethodDescriptor y.desc = some meth.sig)) = true) : (Jvm.Cond.code y bytes mx rt).before a s = true := by
  simp only [Bool.and_eq_true, beq_iff_eq, Bool.not_eq_true', decide_eq_true_eq] at h5
  obtain ⟨⟨⟨⟨⟨g1, g2⟩, g3⟩, g4⟩, g5⟩, g6⟩ := h5
  simp [Cond.before, Cond.holds, Cond.value, h1, h2, h3, h4, g1, g2, g3, g4, g5, g6]
def isCode : Jvm.Cond → Bool
  | .code _ _ _ _ => true
  | _ => false
theorem all_split {L : List Jvm.Cond} {P : Jvm.Cond → Bool} (h1 : L.all (fun c => isCode c || P c) = true) (h2 : ∀ c ∈ L.filter isCode, P c = true) : L.all P = true := by
  refine List.all_eq_true.mpr fun c hc => ?_
  have h := List.all_eq_true.mp h1 c hc
  rcases Bool.eq_false_or_eq_true (isCode c) with hi | hi
  · exact h2 c (List.mem_filter.mpr ⟨hc, hi⟩)
  · simpa [hi] using h
set_option maxRecDepth 65536 in
theorem w_c0 : (Jvm.Cond.code x code maxLocals ret).before args0 about1 = true := code_word (m := ⟨1, 1⟩) (meth := k1m1) (c := k1c1) (by decide +kernel) rfl rfl rfl (by decide +kernel)
set_option maxRecDepth 65536 in
theorem w_c1 : (Jvm.Cond.code ({ cls := "java/lang/Math", name := "min", desc := "(II)I" } : Jvm.MethodName) jdk_29_method_69_code (2 : Nat) (Option.some Jvm.ClassFile.FieldType.int)).before args0 about1 = true := code_word (m := ⟨2, 2⟩) (meth := k2m2) (c := k2c2) (by decide +kernel) rfl rfl rfl (by decide +kernel)
set_option maxRecDepth 65536 in
theorem w_c2 : (Jvm.Cond.code ({ cls := "java/lang/Math", name := "max", desc := "(II)I" } : Jvm.MethodName) jdk_29_method_65_code (2 : Nat) (Option.some Jvm.ClassFile.FieldType.int)).before args0 about1 = true := code_word (m := ⟨2, 1⟩) (meth := k2m1) (c := k2c1) (by decide +kernel) rfl rfl rfl (by decide +kernel)
set_option maxRecDepth 65536 in
theorem w_c3 : (Jvm.Cond.code ({ cls := "com/example/keyslate/keyslate/card/UInt256", name := "isBelow", desc := "([BS[BS)Z" } : Jvm.MethodName) prog_1_method_2_code (7 : Nat) (Option.some Jvm.ClassFile.FieldType.boolean)).before args0 about1 = true := code_word (m := ⟨3, 1⟩) (meth := k3m1) (c := k3c1) (by decide +kernel) rfl rfl rfl (by decide +kernel)
def codes1 : List Jvm.Cond := [Jvm.Cond.code x code maxLocals ret, Jvm.Cond.code ({ cls := "java/lang/Math", name := "min", desc := "(II)I" } : Jvm.MethodName) jdk_29_method_69_code (2 : Nat) (Option.some Jvm.ClassFile.FieldType.int), Jvm.Cond.code ({ cls := "java/lang/Math", name := "max", desc := "(II)I" } : Jvm.MethodName) jdk_29_method_65_code (2 : Nat) (Option.some Jvm.ClassFile.FieldType.int), Jvm.Cond.code ({ cls := "com/example/keyslate/keyslate/card/UInt256", name := "isBelow", desc := "([BS[BS)Z" } : Jvm.MethodName) prog_1_method_2_code (7 : Nat) (Option.some Jvm.ClassFile.FieldType.boolean)]
set_option maxRecDepth 65536 in
theorem codes_eq : words1.filter isCode = codes1 := rfl
theorem w_codes : ∀ c ∈ words1.filter isCode, c.before args0 about1 = true := by
  rw [codes_eq]
  intro c hc
  simp only [codes1, List.mem_cons, List.not_mem_nil, or_false] at hc
  rcases hc with rfl | rfl | rfl | rfl
  · exact w_c0
  · exact w_c1
  · exact w_c2
  · exact w_c3
set_option maxRecDepth 65536 in
theorem w_t1 : words1.all (fun c => isCode c || c.before args0 about1) = true := by decide +kernel
theorem w_tables : (allAtoms (Jvm.Cond.code x code maxLocals ret :: tables_1)).before args0 about1 = true := by
  rw [allAtoms_all]
  show words1.all (fun c => c.before args0 about1) = true
  refine all_split ?_ w_codes
  rw [w_t1]
set_option maxRecDepth 65536 in
theorem w_case : (Jvm.Cond.and given_1 narrow_1).before args0 about1 = true := by decide +kernel
theorem w_applies : (headSpec (Jvm.Cond.code x code maxLocals ret :: tables_1) room_1).applies x e0.platform about1 = true :=
  (Spec.applies_iff w_frames).mpr ⟨w_running, w_runnable, w_alone, w_named, w_hears, w_ripe, w_room, w_tables⟩
theorem atStart : AtStart classFile x code maxLocals ret World_1 tables_1 room_1 Calls_1 rest_1 Pre_1 launch0 p0 e0 about1 theMethod args0 below0 :=
  ⟨lists_1, trivial, launch0.admits_env _ _ _, launch0.least_env, fairChoices_fair.cas, fairChoices_fair.clock, w_frames, w_args, w_heap, w_applies, trivial, trivial, w_case⟩
end start1
theorem witness_1 : WitnessClaimed_1 := ⟨start1.p0, start1.e0, start1.about1, start1.theMethod, start1.args0, start1.below0, start1.atStart⟩
end Jvm.Pilot.@@N@@
