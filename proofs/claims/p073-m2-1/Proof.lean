import JvmDerived
import JvmDerived.Pilot.@@N@@Statement
import JvmDerived.Pilot.@@N@@Code
set_option linter.unusedVariables false
set_option linter.unusedSimpArgs false
namespace Jvm.Pilot.@@N@@
open Jvm Jvm.ClassFile Sem Op Lib Jvm.Free Jvm.Stand Jvm.LawKit Jvm.RoadKit Bundle Jvm.Pilot.@@N@@.Jvm.D
/-! 1. the words of the mirrors: a named value, a check, a call -/
def own_lt {α β : Type} (x : α) (f : α → Option β) : Option β := f x
def own_ck {β : Type} (P : Prop) [Decidable P] (x : Option β) : Option β := if P then x else none
def own_bd {α β : Type} (x : Option α) (f : α → Option β) : Option β := x.bind f
theorem own_lt_e {α β : Type} {x : α} {f : α → Option β} {r : β} (h : own_lt x f = some r) : ∃ v, v = x ∧ f v = some r := ⟨x, rfl, h⟩
theorem own_ck_e {β : Type} {P : Prop} [Decidable P] {x : Option β} {r : β} (h : own_ck P x = some r) : P ∧ x = some r := by
  unfold own_ck at h
  by_cases q : P
  · rw [if_pos q] at h; exact ⟨q, h⟩
  · rw [if_neg q] at h; cases h
theorem own_bd_e {α β : Type} {x : Option α} {f : α → Option β} {r : β} (h : own_bd x f = some r) : ∃ v, x = some v ∧ f v = some r := by
  unfold own_bd at h
  cases x with
  | none => cases h
  | some v => exact ⟨v, rfl, h⟩
abbrev own_inb {α : Type} (bs : List α) (j : Int32) : Prop := ¬ j < 0 ∧ j.toNatClampNeg < bs.length
def own_rd {α : Type} [OfNat α 0] (bs : List α) (j : Int32) : α := bs.getD j.toNatClampNeg 0
def own_wr {α : Type} (bs : List α) (j : Int32) (v : α) : List α := bs.set j.toNatClampNeg v
def own_sz {α : Type} (bs : List α) : Int32 := bs.length.toInt32
def own_cp (bs ds : List Int32) (sp dp nn : Int32) : List Int32 := ds.take dp.toNatClampNeg ++ (List.range nn.toNatClampNeg).map (fun i => bs.getD (sp.toNatClampNeg + i) 0) ++ ds.drop (dp.toNatClampNeg + nn.toNatClampNeg)
abbrev own_cpok (bs ds : List Int32) (sp dp nn : Int32) : Prop := ¬ sp < 0 ∧ ¬ dp < 0 ∧ ¬ nn < 0 ∧ sp.toNatClampNeg + nn.toNatClampNeg ≤ bs.length ∧ dp.toNatClampNeg + nn.toNatClampNeg ≤ ds.length
/-! 2. a run that comes to an end as Q says -/
def own_Goes (p : Program) (e : Env) (below : List Frame) (s : State) (Q : Option Value → Heap → List Loc → Prop) (ce sl : Nat) (A : State) : Prop :=
  ∃ s₂ o, Steps p.tables e below A s₂ ∧ s₂.status = .running ∧ Ended s₂ below o ∧ ∃ v L, o = .returned v ∧ Q v s₂.heap L ∧ FrameEnd s o s₂ L ce sl
section Own
variable {p : Program} {l : Launch} {e : Env} {R : Room} {s : State} {m : MethodId} {args : Array Value} {below : List Frame} {meth : Method} {c : Code} {T : State} {locs : List Loc} {cells slots : Nat} {Z : State} {h h' : Heap} {Q : Option Value → Heap → List Loc → Prop} {ce sl : Nat}
theorem own_Goes.via {A B : State} (q : ∀ t, Steps p.tables e below B t → Steps p.tables e below A t) (g : own_Goes p e below s Q ce sl B) : own_Goes p e below s Q ce sl A := by
  obtain ⟨s₂, o, h1, r⟩ := g
  exact ⟨s₂, o, q _ h1, r⟩
theorem own_Goes.tr {A B : State} (q : Steps p.tables e below A B) (g : own_Goes p e below s Q ce sl B) : own_Goes p e below s Q ce sl A := g.via fun _ k => q.trans k
theorem own_retV (X : Stand p l e R s m args below meth c T locs cells slots) (hx : p.tables.exec = Jvm.exec) {pc : Nat} {Ls : Array Slot} (hret : meth.sig.returnType = none) (hlk : meth.locks = false) (hd : decode c.code pc = .ok (.return_, 1)) (eT : T.heap = h) (hQ : Q none h locs) (hc : cells ≤ ce) (hs : slots ≤ sl) :
    own_Goes p e below s Q ce sl (T.setTop (mkF m pc Ls [])) := by
  obtain ⟨fs, hr, hrun, hended, hW, hsame⟩ := X.leave (v := none) (fun _ => rfl) hlk
  refine ⟨_, _, ?_, hrun, hended, _, _, rfl, ?_, ⟨_, rfl⟩, hW, hsame.mono hc hs⟩
  · exact X.returnOut hx hret hd hr
  · show Q none T.heap locs
    rw [eT]; exact hQ
theorem own_retI (X : Stand p l e R s m args below meth c T locs cells slots) (hx : p.tables.exec = Jvm.exec) {pc : Nat} {Ls : Array Slot} {z : Int32} {rest : List Value} (hret : meth.sig.returnType = some .int) (hlk : meth.locks = false) (hd : decode c.code pc = .ok (.ireturn, 1)) (eT : T.heap = h) (hQ : Q (some (.int z)) h locs) (hc : cells ≤ ce) (hs : slots ≤ sl) :
    own_Goes p e below s Q ce sl (T.setTop (mkF m pc Ls (.int z :: rest))) := by
  obtain ⟨fs, hr, hrun, hended, hW, hsame⟩ := X.leave (v := some (.int z)) (fun h => by rw [hret] at h; cases h) hlk
  refine ⟨_, _, ?_, hrun, hended, _, _, rfl, ?_, ⟨_, rfl⟩, hW, hsame.mono hc hs⟩
  · exact retOut X hx hret rfl (Or.inl ⟨rfl, Or.inl rfl, z, rfl⟩) hd hr
  · show Q _ T.heap locs
    rw [eT]; exact hQ
theorem own_retJ (X : Stand p l e R s m args below meth c T locs cells slots) (hx : p.tables.exec = Jvm.exec) {pc : Nat} {Ls : Array Slot} {z : Int64} {rest : List Value} (hret : meth.sig.returnType = some .long) (hlk : meth.locks = false) (hd : decode c.code pc = .ok (.lreturn, 1)) (eT : T.heap = h) (hQ : Q (some (.long z)) h locs) (hc : cells ≤ ce) (hs : slots ≤ sl) :
    own_Goes p e below s Q ce sl (T.setTop (mkF m pc Ls (.long z :: rest))) := by
  obtain ⟨fs, hr, hrun, hended, hW, hsame⟩ := X.leave (v := some (.long z)) (fun h => by rw [hret] at h; cases h) hlk
  refine ⟨_, _, ?_, hrun, hended, _, _, rfl, ?_, ⟨_, rfl⟩, hW, hsame.mono hc hs⟩
  · exact retOut X hx hret rfl (Or.inr (Or.inl ⟨rfl, rfl, z, rfl⟩)) hd hr
  · show Q _ T.heap locs
    rw [eT]; exact hQ
theorem own_retR (X : Stand p l e R s m args below meth c T locs cells slots) (hx : p.tables.exec = Jvm.exec) {pc : Nat} {Ls : Array Slot} {t : FieldType} {w : Value} {rest : List Value} (hret : meth.sig.returnType = some t) (hlk : meth.locks = false) (hd : decode c.code pc = .ok (.areturn, 1)) (ht : t.isReference = true) (eT : T.heap = h) (hw : w.isRef = true) (hQ : Q (some w) h locs) (hc : cells ≤ ce) (hs : slots ≤ sl) :
    own_Goes p e below s Q ce sl (T.setTop (mkF m pc Ls (w :: rest))) := by
  obtain ⟨fs, hr, hrun, hended, hW, hsame⟩ := X.leave (v := some w) (fun h => by rw [hret] at h; cases h) hlk
  refine ⟨_, _, ?_, hrun, hended, _, _, rfl, ?_, ⟨_, rfl⟩, hW, hsame.mono hc hs⟩
  · exact retOut X hx hret (by cases t <;> first | (cases ht; done) | rfl) (Or.inr (Or.inr (Or.inr (Or.inr ⟨rfl, ht, hw⟩)))) hd hr
  · show Q _ T.heap locs
    rw [eT]; exact hQ
theorem own_retN (X : Stand p l e R s m args below meth c T locs cells slots) (hx : p.tables.exec = Jvm.exec) {pc : Nat} {Ls : Array Slot} {z v : Int32} {t : FieldType} {rest : List Value} (hret : meth.sig.returnType = some t) (hlk : meth.locks = false) (ht : t = .boolean ∨ t = .byte ∨ t = .char ∨ t = .short) (hd : decode c.code pc = .ok (.ireturn, 1)) (eT : T.heap = h) (hv : nar t z = v) (hQ : Q (some (.int v)) h locs) (hc : cells ≤ ce) (hs : slots ≤ sl) :
    own_Goes p e below s Q ce sl (T.setTop (mkF m pc Ls (.int z :: rest))) := by
  subst hv
  obtain ⟨fs, hr, hrun, hended, hW, hsame⟩ := X.leave (v := some (.int (nar t z))) (fun h => by rw [hret] at h; cases h) hlk
  refine ⟨_, _, ?_, hrun, hended, _, _, rfl, ?_, ⟨_, rfl⟩, hW, hsame.mono hc hs⟩
  · exact retN X hx hret ht hd hr
  · show Q _ T.heap locs
    rw [eT]; exact hQ
/-! 3. single steps -/
theorem own_irem {g : JFrame} {target : State} (X : Stand p l e R s m args below meth c T locs cells slots) (hx : p.tables.exec = Jvm.exec) (hg : g.method = m) {x y : Int32} {rest : List Value} (hd : decode c.code g.pc = .ok (.irem, 1)) (hs : g.stack = .int y :: .int x :: rest) (hy : y ≠ 0)
    (hr : Steps p.tables e below (T.setTop { g with pc := g.pc + 1, stack := .int (x % y) :: rest }) target) : Steps p.tables e below (T.setTop g) target := iremM X hx hg hd hs hy hr
theorem own_lrem {g : JFrame} {target : State} (X : Stand p l e R s m args below meth c T locs cells slots) (hx : p.tables.exec = Jvm.exec) (hg : g.method = m) {x y : Int64} {rest : List Value} (hd : decode c.code g.pc = .ok (.lrem, 1)) (hs : g.stack = .long y :: .long x :: rest) (hy : y ≠ 0)
    (hr : Steps p.tables e below (T.setTop { g with pc := g.pc + 1, stack := .long (x % y) :: rest }) target) : Steps p.tables e below (T.setTop g) target :=
  XS.lrem X.here hx hg hd hs hy (by rw [lrem_mod]; exact hr)
theorem own_tltL {x y : Int64} (q : x < y) : ifCond.holds .lt (lcmpW x y) = true ∧ ifCond.holds .ge (lcmpW x y) = false := by
  rw [if0, if0]; exact ⟨(tlt ((lw_lt x y).mpr q)).1, (tlt ((lw_lt x y).mpr q)).2.1⟩
theorem own_fltL {x y : Int64} (q : ¬ x < y) : ifCond.holds .lt (lcmpW x y) = false ∧ ifCond.holds .ge (lcmpW x y) = true := by
  rw [if0, if0]; exact ⟨(flt fun z => q ((lw_lt x y).mp z)).1, (flt fun z => q ((lw_lt x y).mp z)).2.1⟩
theorem own_tgtL {x y : Int64} (q : y < x) : ifCond.holds .gt (lcmpW x y) = true ∧ ifCond.holds .le (lcmpW x y) = false := by
  rw [if0, if0]; exact ⟨(tlt ((lw_gt x y).mpr q)).2.2.1, (tlt ((lw_gt x y).mpr q)).2.2.2⟩
theorem own_fgtL {x y : Int64} (q : ¬ y < x) : ifCond.holds .gt (lcmpW x y) = false ∧ ifCond.holds .le (lcmpW x y) = true := by
  rw [if0, if0]; exact ⟨(flt fun z => q ((lw_gt x y).mp z)).2.2.1, (flt fun z => q ((lw_gt x y).mp z)).2.2.2⟩
theorem own_teqL {x y : Int64} (q : x = y) : ifCond.holds .eq (lcmpW x y) = true ∧ ifCond.holds .ne (lcmpW x y) = false := by
  rw [if0, if0]; exact ⟨(teq ((lw_eq x y).mpr q)).1, (teq ((lw_eq x y).mpr q)).2⟩
theorem own_feqL {x y : Int64} (q : ¬ x = y) : ifCond.holds .eq (lcmpW x y) = false ∧ ifCond.holds .ne (lcmpW x y) = true := by
  rw [if0, if0]; exact ⟨(feq fun z => q ((lw_eq x y).mp z)).1, (feq fun z => q ((lw_eq x y).mp z)).2⟩
theorem own_st1 {L : Array Slot} {i : Nat} {v : Value} {o : Slot} {L' : Array Slot} (hold : L[i]? = some o) (ho : One o) (hv : v.category = 1) (hL : L.setIfInBounds i (.val v) = L' := by rfl) : storeLocals L i v = some L' := hL ▸ XS.store1 hold ho hv
theorem own_privSel {s : State} {args : Array Value} {y : MethodName} {n : Nat} (wi : (Cond.instantiable y.cls n).before args s = true) (hp : s.PrivateAt y) (hinst : (Cond.instanceMethod y).before args s = true) (hy : y.cls ≠ "java/lang/invoke/MethodHandle" ∧ y.cls ≠ "java/lang/invoke/VarHandle") : (Cond.selects y.cls y y).before args s = true := by
  obtain ⟨c, k, h1, h2, -, h3, -⟩ := Cond.instantiable_spec wi
  exact selects_self_of_private h1 h2 (Bool.or_eq_false_iff.mp h3).1 hp hinst hy
theorem own_st2 {L L' : Array Slot} {i : Nat} {x : Int64} {o1 o2 : Slot} (h1 : L[i]? = some o1) (h2 : L[i + 1]? = some o2) (q1 : One o1) (q2 : One o2) (hL : (L.setIfInBounds i (.val (.long x))).setIfInBounds (i + 1) .second = L' := by rfl) : storeLocals L i (.long x) = some L' := by
  subst hL
  obtain ⟨b1, g1⟩ := Array.getElem?_eq_some_iff.mp h1
  obtain ⟨b2, g2⟩ := Array.getElem?_eq_some_iff.mp h2
  have hc : (Value.long x).category = 2 := rfl
  rcases q1 with rfl | ⟨w, rfl, hw⟩ <;> rcases q2 with rfl | ⟨w', rfl, hw'⟩ <;> simp [storeLocals, storeSelf, setAt, hc, *]
/-! 4. arrays: what lies in them, as a list -/
def own_Ar (Z : State) (h : Heap) (a : Addr) (ty : FieldType) (vs : List Value) : Prop := ∃ c : Cell, Arr Z h a c ty ∧ c.slots.toList = vs ∧ vs.length < 2 ^ 31 ∧ ∀ v ∈ vs, fits ty v = true
variable {a b : Addr} {ty : FieldType} {vs : List Value}
theorem own_Ar.lt (F : own_Ar Z h a ty vs) : a < h.size := by obtain ⟨c, A, -⟩ := F; exact A.lt
theorem own_Ar.ext (F : own_Ar Z h a ty vs) (E : Ext h h') : own_Ar Z h' a ty vs := by obtain ⟨c, A, r⟩ := F; exact ⟨c, A.ext E, r⟩
theorem own_Ar.other {k : Nat} {v : Value} (F : own_Ar Z h b ty vs) (W : Wr h h' a k v) (q : b ≠ a) : own_Ar Z h' b ty vs := by obtain ⟨c, A, r⟩ := F; exact ⟨c, A.other W q, r⟩
theorem own_Ar.keep {ws : List Addr} (F : own_Ar Z h a ty vs) (K : Keep h h' ws) (q : a ∉ ws) : own_Ar Z h' a ty vs := by obtain ⟨c, A, r⟩ := F; exact ⟨c, ⟨K.2.1 a c A.1 q, A.2⟩, r⟩
theorem own_Ar.size {c : Cell} (q : c.slots.toList = vs) : c.slots.size = vs.length := by rw [← q]; simp
theorem own_in {c : Cell} {j : Int32} (q : c.slots.toList = vs) (hj : own_inb vs j) : ¬ (j < 0 ∨ c.slots.size ≤ j.toNatClampNeg) := by
  rw [own_Ar.size q]
  rintro (r | r)
  · exact hj.1 r
  · exact absurd hj.2 (Nat.not_lt.mpr r)
theorem own_get {c : Cell} {i : Nat} (q : c.slots.toList = vs) (d : Value) (hi : i < vs.length) : c.slots[i]? = some (vs.getD i d) := by
  have e : c.slots = vs.toArray := by rw [← q]
  rw [e]
  simp [List.getD, hi]
theorem own_set {c : Cell} {i : Nat} {v : Value} (q : c.slots.toList = vs) : (c.setSlot i v).slots.toList = vs.set i v := by
  have e : c.slots = vs.toArray := by rw [← q]
  simp [Cell.setSlot, e]
theorem own_fits {i : Nat} {v : Value} (q : ∀ v ∈ vs, fits ty v = true) (hv : fits ty v = true) : ∀ u ∈ vs.set i v, fits ty u = true := fun u hu => by
  rcases List.mem_or_eq_of_mem_set hu with r | r
  · exact q u r
  · rw [r]; exact hv
theorem own_mapGet {bs : List Int32} {i : Nat} (hi : i < bs.length) : (bs.map Value.int).getD i (.int 0) = .int (bs.getD i 0) := by simp [List.getD, hi]
theorem own_mapGetJ {bs : List Int64} {i : Nat} (hi : i < bs.length) : (bs.map Value.long).getD i (.long 0) = .long (bs.getD i 0) := by simp [List.getD, hi]
theorem own_mapSet {bs : List Int32} {i : Nat} {v : Int32} : (bs.map Value.int).set i (.int v) = (bs.set i v).map Value.int := by simp
theorem own_mapSetJ {bs : List Int64} {i : Nat} {v : Int64} : (bs.map Value.long).set i (.long v) = (bs.set i v).map Value.long := by simp
theorem own_inbM {α : Type} {f : α → Value} {bs : List α} {j : Int32} (q : own_inb bs j) : own_inb (bs.map f) j := ⟨q.1, by rw [List.length_map]; exact q.2⟩
theorem own_wrk {α : Type} {bs : List α} {j : Int32} {v : α} (k : Nat) (hk : j.toNatClampNeg = k) : own_wr bs j v = bs.set k v := by rw [own_wr, hk]
theorem own_rdk {α : Type} [OfNat α 0] {bs : List α} {j : Int32} (k : Nat) (hk : j.toNatClampNeg = k) : own_rd bs j = bs.getD k 0 := by rw [own_rd, hk]
theorem own_inbk {α : Type} {bs : List α} {j : Int32} (k n : Nat) (h0 : ¬ j < 0) (hk : j.toNatClampNeg = k) (hl : bs.length = n) (hkn : k < n) : own_inb bs j := ⟨h0, by rw [hk, hl]; exact hkn⟩
theorem own_len {α : Type} {f : α → Value} {bs : List α} (X : Stand p l e R s m args below meth c T locs cells slots) (hx : p.tables.exec = Jvm.exec) (hZ : Z.Warmed39 s.vm) (eT : T.heap = h) (A : own_Ar Z h a ty (bs.map f)) {g : JFrame} (hg : g.method = m) {rest : List Value} (hs : g.stack = .ref a :: rest) (hd : decode c.code g.pc = .ok (.arraylength, 1)) {target : State}
    (hr : Steps p.tables e below (T.setTop { g with pc := g.pc + 1, stack := .int (own_sz bs) :: rest }) target) : Steps p.tables e below (T.setTop g) target := by
  obtain ⟨cl, A, q, -⟩ := A
  refine X.arraylength hx (by rw [eT]; exact A.1) (State.isArrayOf_alike hZ.alike A.2.1) hg hs hd _ ?_
  rw [own_Ar.size q, List.length_map]; exact hr
theorem own_ldI {bs : List Int32} {j v : Int32} (X : Stand p l e R s m args below meth c T locs cells slots) (hx : p.tables.exec = Jvm.exec) (hZ : Z.Warmed39 s.vm) (eT : T.heap = h) (A : own_Ar Z h a .int (bs.map Value.int)) (hj : own_inb bs j) (hv : own_rd bs j = v) {g : JFrame} (hg : g.method = m) {rest : List Value} (hs : g.stack = .int j :: .ref a :: rest) (hd : decode c.code g.pc = .ok (.iaload, 1)) {target : State}
    (hr : Steps p.tables e below (T.setTop { g with pc := g.pc + 1, stack := .int v :: rest }) target) : Steps p.tables e below (T.setTop g) target := by
  subst hv
  obtain ⟨cl, A, q, -⟩ := A
  exact X.iaload hx (by rw [eT]; exact A.1) (State.isArrayOf_alike hZ.alike A.2.1) A.2.2 (own_in q (own_inbM hj)) ((own_get q (.int 0) (own_inbM hj).2).trans (congrArg some (own_mapGet hj.2))) hg hs hd _ hr
theorem own_ldB {bs : List Int32} {j v : Int32} (X : Stand p l e R s m args below meth c T locs cells slots) (hx : p.tables.exec = Jvm.exec) (hZ : Z.Warmed39 s.vm) (eT : T.heap = h) (A : own_Ar Z h a .byte (bs.map Value.int)) (hj : own_inb bs j) (hv : own_rd bs j = v) {g : JFrame} (hg : g.method = m) {rest : List Value} (hs : g.stack = .int j :: .ref a :: rest) (hd : decode c.code g.pc = .ok (.baload, 1)) {target : State}
    (hr : Steps p.tables e below (T.setTop { g with pc := g.pc + 1, stack := .int v :: rest }) target) : Steps p.tables e below (T.setTop g) target := by
  subst hv
  obtain ⟨cl, A, q, -⟩ := A
  exact X.baloadBytes hx (by rw [eT]; exact A.1) (State.isArrayOf_alike hZ.alike A.2.1) A.2.2 (own_in q (own_inbM hj)) ((own_get q (.int 0) (own_inbM hj).2).trans (congrArg some (own_mapGet hj.2))) hg hs hd _ hr
theorem own_ldZ {bs : List Int32} {j v : Int32} (X : Stand p l e R s m args below meth c T locs cells slots) (hx : p.tables.exec = Jvm.exec) (hZ : Z.Warmed39 s.vm) (eT : T.heap = h) (A : own_Ar Z h a .boolean (bs.map Value.int)) (hj : own_inb bs j) (hv : own_rd bs j = v) {g : JFrame} (hg : g.method = m) {rest : List Value} (hs : g.stack = .int j :: .ref a :: rest) (hd : decode c.code g.pc = .ok (.baload, 1)) {target : State}
    (hr : Steps p.tables e below (T.setTop { g with pc := g.pc + 1, stack := .int v :: rest }) target) : Steps p.tables e below (T.setTop g) target := by
  subst hv
  obtain ⟨cl, A, q, -⟩ := A
  exact X.baloadBooleans hx (by rw [eT]; exact A.1) (State.isArrayOf_alike hZ.alike A.2.1) A.2.2 (own_in q (own_inbM hj)) ((own_get q (.int 0) (own_inbM hj).2).trans (congrArg some (own_mapGet hj.2))) hg hs hd _ hr
theorem own_ldJ {bs : List Int64} {j : Int32} {v : Int64} (X : Stand p l e R s m args below meth c T locs cells slots) (hx : p.tables.exec = Jvm.exec) (hZ : Z.Warmed39 s.vm) (eT : T.heap = h) (A : own_Ar Z h a .long (bs.map Value.long)) (hj : own_inb bs j) (hv : own_rd bs j = v) {g : JFrame} (hg : g.method = m) {rest : List Value} (hs : g.stack = .int j :: .ref a :: rest) (hd : decode c.code g.pc = .ok (.laload, 1)) {target : State}
    (hr : Steps p.tables e below (T.setTop { g with pc := g.pc + 1, stack := .long v :: rest }) target) : Steps p.tables e below (T.setTop g) target := by
  subst hv
  obtain ⟨cl, A, q, -⟩ := A
  exact X.laload hx (by rw [eT]; exact A.1) (State.isArrayOf_alike hZ.alike A.2.1) A.2.2 (own_in q (own_inbM hj)) ((own_get q (.long 0) (own_inbM hj).2).trans (congrArg some (own_mapGetJ hj.2))) hg hs hd _ hr
theorem own_stI {bs : List Int32} {j x : Int32} (X : Stand p l e R s m args below meth c T locs cells slots) (hx : p.tables.exec = Jvm.exec) (hZ : Z.Warmed39 s.vm) (eT : T.heap = h) (A : own_Ar Z h a .int (bs.map Value.int)) (hj : own_inb bs j) {g : JFrame} (hg : g.method = m) {rest : List Value} (hs : g.stack = .int x :: .int j :: .ref a :: rest) (hd : decode c.code g.pc = .ok (.iastore, 1)) :
    ∃ T' h', Stand p l e R s m args below meth c T' (locs ++ [⟨a, j.toNatClampNeg⟩]) cells slots ∧ T'.heap = h' ∧ Wr h h' a j.toNatClampNeg (.int x) ∧ own_Ar Z h' a .int ((own_wr bs j x).map Value.int) ∧ ∀ target, Steps p.tables e below (T'.setTop { g with pc := g.pc + 1, stack := rest }) target → Steps p.tables e below (T.setTop g) target := by
  obtain ⟨cl, A, q, r, ft⟩ := A
  obtain ⟨T', h', X', e', W, st⟩ := stI X hx hZ eT A (own_in q (own_inbM hj)) hg hs hd
  exact ⟨T', h', X', e', W, ⟨_, A.same W, (own_set q).trans own_mapSet, by simpa [own_wr] using r, own_mapSet ▸ own_fits ft rfl⟩, st⟩
theorem own_stB {bs : List Int32} {j x : Int32} (X : Stand p l e R s m args below meth c T locs cells slots) (hx : p.tables.exec = Jvm.exec) (hZ : Z.Warmed39 s.vm) (eT : T.heap = h) (A : own_Ar Z h a .byte (bs.map Value.int)) (hj : own_inb bs j) {g : JFrame} (hg : g.method = m) {rest : List Value} (hs : g.stack = .int x :: .int j :: .ref a :: rest) (hd : decode c.code g.pc = .ok (.bastore, 1)) :
    ∃ T' h', Stand p l e R s m args below meth c T' (locs ++ [⟨a, j.toNatClampNeg⟩]) cells slots ∧ T'.heap = h' ∧ Wr h h' a j.toNatClampNeg (.int x.toInt8.toInt32) ∧ own_Ar Z h' a .byte ((own_wr bs j x.toInt8.toInt32).map Value.int) ∧ ∀ target, Steps p.tables e below (T'.setTop { g with pc := g.pc + 1, stack := rest }) target → Steps p.tables e below (T.setTop g) target := by
  obtain ⟨cl, A, q, r, ft⟩ := A
  obtain ⟨T', h', X', e', W, st⟩ := stB X hx hZ eT A (own_in q (own_inbM hj)) hg hs hd
  exact ⟨T', h', X', e', W, ⟨_, A.same W, (own_set q).trans own_mapSet, by simpa [own_wr] using r, own_mapSet ▸ own_fits ft (fits_nar_byte _)⟩, st⟩
theorem own_stZ {bs : List Int32} {j x : Int32} (X : Stand p l e R s m args below meth c T locs cells slots) (hx : p.tables.exec = Jvm.exec) (hZ : Z.Warmed39 s.vm) (eT : T.heap = h) (A : own_Ar Z h a .boolean (bs.map Value.int)) (hj : own_inb bs j) {g : JFrame} (hg : g.method = m) {rest : List Value} (hs : g.stack = .int x :: .int j :: .ref a :: rest) (hd : decode c.code g.pc = .ok (.bastore, 1)) :
    ∃ T' h', Stand p l e R s m args below meth c T' (locs ++ [⟨a, j.toNatClampNeg⟩]) cells slots ∧ T'.heap = h' ∧ Wr h h' a j.toNatClampNeg (.int (x &&& 1)) ∧ own_Ar Z h' a .boolean ((own_wr bs j (x &&& 1)).map Value.int) ∧ ∀ target, Steps p.tables e below (T'.setTop { g with pc := g.pc + 1, stack := rest }) target → Steps p.tables e below (T.setTop g) target := by
  obtain ⟨cl, A, q, r, ft⟩ := A
  obtain ⟨T', h', X', e', W, st⟩ := stZ X hx hZ eT A (own_in q (own_inbM hj)) hg hs hd
  exact ⟨T', h', X', e', W, ⟨_, A.same W, (own_set q).trans own_mapSet, by simpa [own_wr] using r, own_mapSet ▸ own_fits ft (fits_nar_bool _)⟩, st⟩
theorem own_stJ {bs : List Int64} {j : Int32} {x : Int64} (X : Stand p l e R s m args below meth c T locs cells slots) (hx : p.tables.exec = Jvm.exec) (hZ : Z.Warmed39 s.vm) (eT : T.heap = h) (A : own_Ar Z h a .long (bs.map Value.long)) (hj : own_inb bs j) {g : JFrame} (hg : g.method = m) {rest : List Value} (hs : g.stack = .long x :: .int j :: .ref a :: rest) (hd : decode c.code g.pc = .ok (.lastore, 1)) :
    ∃ T' h', Stand p l e R s m args below meth c T' (locs ++ [⟨a, j.toNatClampNeg⟩]) cells slots ∧ T'.heap = h' ∧ Wr h h' a j.toNatClampNeg (.long x) ∧ own_Ar Z h' a .long ((own_wr bs j x).map Value.long) ∧ ∀ target, Steps p.tables e below (T'.setTop { g with pc := g.pc + 1, stack := rest }) target → Steps p.tables e below (T.setTop g) target := by
  obtain ⟨cl, A, q, r, ft⟩ := A
  obtain ⟨T', h', X', e', W, st⟩ := stJ X hx hZ eT A (own_in q (own_inbM hj)) hg hs hd
  exact ⟨T', h', X', e', W, ⟨_, A.same W, (own_set q).trans own_mapSetJ, by simpa [own_wr] using r, own_mapSetJ ▸ own_fits ft rfl⟩, st⟩
theorem own_newI {k : ClassId} {n : Int32} {kk : Nat} (A : Arr Z h a (newA k ty n) ty) (q : ¬ n < 0) (hd : defaultValue ty = .int 0) (hk : n.toNatClampNeg = kk) : own_Ar Z h a ty ((List.replicate kk (0 : Int32)).map Value.int) := hk ▸
  ⟨_, A, by simp [newA, hd], by rw [List.length_map, List.length_replicate]; exact (back32 q).2, fun v hv => by
    rw [List.map_replicate] at hv
    rw [(List.mem_replicate.mp hv).2, ← hd]; cases ty <;> rfl⟩
theorem own_newJ {k : ClassId} {n : Int32} {kk : Nat} (A : Arr Z h a (newA k ty n) ty) (q : ¬ n < 0) (hd : defaultValue ty = .long 0) (hk : n.toNatClampNeg = kk) : own_Ar Z h a ty ((List.replicate kk (0 : Int64)).map Value.long) := hk ▸
  ⟨_, A, by simp [newA, hd], by rw [List.length_map, List.length_replicate]; exact (back32 q).2, fun v hv => by
    rw [List.map_replicate] at hv
    rw [(List.mem_replicate.mp hv).2, ← hd]; cases ty <;> rfl⟩
/-- the JDK's static COMPACT_STRINGS, which isn't false -/
def own_CS (Z : State) : Prop := ∃ w : Int32, Sta Z Z.heap "java/lang/String" "COMPACT_STRINGS" "Z" (.int w) ∧ ¬ w = 0
/-! 5. System.arraycopy of bytes -/
theorem own_lenI {n : Nat} (q : n < 2 ^ 31) : (Int32.ofNat n).toNatClampNeg = n ∧ ¬ Int32.ofNat n < 0 := by
  have e : (Int32.ofNat n).toInt = n := Int32.toInt_ofNat_of_lt q
  refine ⟨by rw [Int32.toNatClampNeg, e]; omega, ?_⟩
  rw [Int32.lt_iff_toInt_lt, e]
  have z : (0 : Int32).toInt = 0 := rfl
  omega
theorem own_arv {bs : List Int32} (A : own_Ar Z h a ty (bs.map Value.int)) : ∃ k, Arv Z h a k ty (Int32.ofNat bs.length) (bs.map Value.int) (.int 0) := by
  obtain ⟨c, A, q, r, ft⟩ := A
  have hl := own_lenI (n := bs.length) (by simpa using r)
  have sz : c.slots.size = bs.length := by rw [own_Ar.size q, List.length_map]
  refine ⟨c.cls, c, A, rfl, by rw [sz, hl.1], hl.2, fun i hi => own_get q _ (by rw [← own_Ar.size q]; exact hi), fun i hi => ?_⟩
  have hi' : i < (bs.map Value.int).length := by rw [← own_Ar.size q]; exact hi
  have e : (bs.map Value.int).getD i (.int 0) = (bs.map Value.int)[i] := by simp only [List.getD_eq_getElem?_getD, List.getElem?_eq_getElem hi', Option.getD_some]
  rw [e]
  exact ft _ (List.getElem_mem hi')
theorem own_varr {k : ClassId} {n : Int32} {bs : List Int32} (A : Arv Z h a k ty n (bs.map Value.int) (.int 0)) (hn : n.toNatClampNeg = bs.length) : own_Ar Z h a ty (bs.map Value.int) := by
  obtain ⟨c, A, -, S, q, H, G⟩ := A
  have sz : c.slots.size = (bs.map Value.int).length := by rw [S, hn, List.length_map]
  have lt : bs.length < 2 ^ 31 := by rw [← hn]; exact (back32 q).2
  have e : c.slots.toList = bs.map Value.int := by
    apply List.ext_getElem?
    intro i
    by_cases hi : i < c.slots.size
    · have := H i hi
      rw [Array.getElem?_toList, this, List.getElem?_eq_getElem (by rw [← sz]; exact hi)]
      congr 1
      simp only [List.getD_eq_getElem?_getD, List.getElem?_eq_getElem (show i < (bs.map Value.int).length by rw [← sz]; exact hi), Option.getD_some]
    · rw [Array.getElem?_toList, Array.getElem?_eq_none (by omega), List.getElem?_eq_none (by omega)]
  refine ⟨c, A, e, by rw [List.length_map]; exact lt, fun v hv => ?_⟩
  obtain ⟨i, hi, rfl⟩ := List.getElem_of_mem hv
  have := G i (by rw [sz]; exact hi)
  rw [List.getD_eq_getElem?_getD, List.getElem?_eq_getElem hi, Option.getD_some] at this
  exact this
theorem own_cpy {a0 : Array Value} {own : String} {index : Nat} {bs ds : List Int32} {sp dp nn : Int32} {n0 : Nat} (X : Stand p l e R s m args below meth c T locs cells slots) (hx : p.tables.exec = Jvm.exec) (hZ : Z.Warmed39 s.vm) (hown : s.vm.findClass own = some m.cls)
    (w1 : (Cond.methodLink own index Jvm.Stand.acN).before a0 Z = true) (w2 : (Cond.native Jvm.Stand.acN).before a0 Z = true) (w3 : (Cond.static Jvm.Stand.acN).before a0 Z = true) (w4 : (Cond.initialized "java/lang/System").before a0 Z = true) (eT : T.heap = h)
    (A : own_Ar Z h a .byte (bs.map Value.int)) (B : own_Ar Z h b .byte (ds.map Value.int)) (ok : own_cpok bs ds sp dp nn) (N : Fr n0 locs) (ge : n0 ≤ b)
    {g : JFrame} (hg : g.method = m) (hsize : g.locals.size = c.maxLocals) {rest : List Value} (hs : g.stack = .int nn :: .int dp :: .ref b :: .int sp :: .ref a :: rest) (hd : decode c.code g.pc = .ok (.invokestatic index, 3))
    (hf : 1 ≤ R.frames) {W : Nat} (hW : 2 * g.monitorRoom + (rest.map fun v => v.category).sum ≤ W) (hlo : W + (nativeFrameWords "java/lang/System" "arraycopy" 5 + 11) ≤ R.locals) :
    ∃ T' h' L, Stand p l e R s m args below meth c T' L cells slots ∧ T'.heap = h' ∧ Fr n0 L ∧ Keep h h' [b] ∧ own_Ar Z h' b .byte ((own_cp bs ds sp dp nn).map Value.int) ∧
      ∀ target, Steps p.tables e below (T'.setTop { g with pc := g.pc + 3, stack := rest }) target → Steps p.tables e below (T.setTop g) target := by
  have lb : bs.length < 2 ^ 31 := by obtain ⟨c, -, -, r, -⟩ := A; simpa using r
  have ld : ds.length < 2 ^ 31 := by obtain ⟨c, -, -, r, -⟩ := B; simpa using r
  obtain ⟨k, A⟩ := own_arv A
  obtain ⟨k', B⟩ := own_arv B
  obtain ⟨h1, h2, h3, h4, h5⟩ := ok
  obtain ⟨T', h', L, X', e', F, K, V, st⟩ := cpA X hx hZ hown w1 w2 w3 w4 eT A B (Or.inl ⟨rfl, rfl⟩) h1 h2 h3 (by rw [(own_lenI lb).1]; exact h4) (by rw [(own_lenI ld).1]; exact h5) rfl (by rw [List.length_map]; exact h5) N ge hg hsize hs hd hf hW hlo
  have eq : (ds.map Value.int).take dp.toNatClampNeg ++ ((List.range nn.toNatClampNeg).map fun i => (bs.map Value.int).getD (sp.toNatClampNeg + i) (.int 0)) ++ (ds.map Value.int).drop (dp.toNatClampNeg + nn.toNatClampNeg) = (own_cp bs ds sp dp nn).map Value.int := by
    rw [own_cp, List.map_append, List.map_append, List.map_take, List.map_drop, List.map_map]
    congr 2
    apply List.map_congr_left
    intro i hi
    exact own_mapGet (by have := List.mem_range.mp hi; omega)
  rw [eq] at V
  refine ⟨T', h', L, X', e', F, K, own_varr V ?_, st⟩
  rw [(own_lenI ld).1, own_cp]
  simp only [List.length_append, List.length_take, List.length_map, List.length_range, List.length_drop]
  omega
end Own
theorem w0 {a0 : Array Value} {Z : State} (hw : ∀ d ∈ tables_1, d.before a0 Z = true) : ((Jvm.Cond.constant "com/example/oxpecker/oxpecker/sip/RawMessageIsPlainPinLaw" (7 : Nat) (2147483647 : Int32))).before a0 Z = true := hw _ (List.mem_of_getElem? (i := 0) rfl)
theorem w1 {a0 : Array Value} {Z : State} (hw : ∀ d ∈ tables_1, d.before a0 Z = true) : ((Jvm.Cond.arrayClass Jvm.ClassFile.FieldType.byte)).before a0 Z = true := hw _ (List.mem_of_getElem? (i := 1) rfl)
theorem w2 {a0 : Array Value} {Z : State} (hw : ∀ d ∈ tables_1, d.before a0 Z = true) : ((Jvm.Cond.methodLink "com/example/oxpecker/oxpecker/sip/RawMessageIsPlainPinLaw" (8 : Nat) ({ cls := "com/example/oxpecker/oxpecker/sip/RawMessageIsPlainPinLaw", name := "pick", desc := "(JI)B" } : Jvm.MethodName))).before a0 Z = true := hw _ (List.mem_of_getElem? (i := 2) rfl)
theorem w3 {a0 : Array Value} {Z : State} (hw : ∀ d ∈ tables_1, d.before a0 Z = true) : ((Jvm.Cond.static ({ cls := "com/example/oxpecker/oxpecker/sip/RawMessageIsPlainPinLaw", name := "pick", desc := "(JI)B" } : Jvm.MethodName))).before a0 Z = true := hw _ (List.mem_of_getElem? (i := 3) rfl)
theorem w4 {a0 : Array Value} {Z : State} (hw : ∀ d ∈ tables_1, d.before a0 Z = true) : ((Jvm.Cond.initialized "com/example/oxpecker/oxpecker/sip/RawMessageIsPlainPinLaw")).before a0 Z = true := hw _ (List.mem_of_getElem? (i := 4) rfl)
theorem w5 {a0 : Array Value} {Z : State} (hw : ∀ d ∈ tables_1, d.before a0 Z = true) : ((Jvm.Cond.code ({ cls := "com/example/oxpecker/oxpecker/sip/RawMessageIsPlainPinLaw", name := "pick", desc := "(JI)B" } : Jvm.MethodName) method_3_code (6 : Nat) (Option.some Jvm.ClassFile.FieldType.byte))).before a0 Z = true := hw _ (List.mem_of_getElem? (i := 5) rfl)
theorem w6 {a0 : Array Value} {Z : State} (hw : ∀ d ∈ tables_1, d.before a0 Z = true) : ((Jvm.Cond.constantLong "com/example/oxpecker/oxpecker/sip/RawMessageIsPlainPinLaw" (27 : Nat) (255 : Int64))).before a0 Z = true := hw _ (List.mem_of_getElem? (i := 6) rfl)
theorem w7 {a0 : Array Value} {Z : State} (hw : ∀ d ∈ tables_1, d.before a0 Z = true) : ((Jvm.Cond.arrayClass Jvm.ClassFile.FieldType.int)).before a0 Z = true := hw _ (List.mem_of_getElem? (i := 7) rfl)
theorem w8 {a0 : Array Value} {Z : State} (hw : ∀ d ∈ tables_1, d.before a0 Z = true) : ((Jvm.Cond.methodLink "com/example/oxpecker/oxpecker/sip/RawMessageIsPlainPinLaw" (14 : Nat) ({ cls := "com/example/oxpecker/oxpecker/sip/RawMessageIsPlainPinLaw", name := "step", desc := "([IB)V" } : Jvm.MethodName))).before a0 Z = true := hw _ (List.mem_of_getElem? (i := 8) rfl)
theorem w9 {a0 : Array Value} {Z : State} (hw : ∀ d ∈ tables_1, d.before a0 Z = true) : ((Jvm.Cond.static ({ cls := "com/example/oxpecker/oxpecker/sip/RawMessageIsPlainPinLaw", name := "step", desc := "([IB)V" } : Jvm.MethodName))).before a0 Z = true := hw _ (List.mem_of_getElem? (i := 9) rfl)
theorem w10 {a0 : Array Value} {Z : State} (hw : ∀ d ∈ tables_1, d.before a0 Z = true) : ((Jvm.Cond.code ({ cls := "com/example/oxpecker/oxpecker/sip/RawMessageIsPlainPinLaw", name := "step", desc := "([IB)V" } : Jvm.MethodName) method_4_code (3 : Nat) (Option.none : Option Jvm.ClassFile.FieldType))).before a0 Z = true := hw _ (List.mem_of_getElem? (i := 10) rfl)
theorem w11 {a0 : Array Value} {Z : State} (hw : ∀ d ∈ tables_1, d.before a0 Z = true) : ((Jvm.Cond.classLink "com/example/oxpecker/oxpecker/sip/RawMessageIsPlainPinLaw" (18 : Nat) "com/example/oxpecker/oxpecker/sip/RawMessage")).before a0 Z = true := hw _ (List.mem_of_getElem? (i := 11) rfl)
theorem w12 {a0 : Array Value} {Z : State} (hw : ∀ d ∈ tables_1, d.before a0 Z = true) : ((Jvm.Cond.instantiable "com/example/oxpecker/oxpecker/sip/RawMessage" (6 : Nat))).before a0 Z = true := hw _ (List.mem_of_getElem? (i := 12) rfl)
theorem w13 {a0 : Array Value} {Z : State} (hw : ∀ d ∈ tables_1, d.before a0 Z = true) : ((Jvm.Cond.initialized "com/example/oxpecker/oxpecker/sip/RawMessage")).before a0 Z = true := hw _ (List.mem_of_getElem? (i := 13) rfl)
theorem w14 {a0 : Array Value} {Z : State} (hw : ∀ d ∈ tables_1, d.before a0 Z = true) : ((Jvm.Cond.methodLink "com/example/oxpecker/oxpecker/sip/RawMessageIsPlainPinLaw" (20 : Nat) ({ cls := "com/example/oxpecker/oxpecker/sip/RawMessage", name := "<init>", desc := "([B)V" } : Jvm.MethodName))).before a0 Z = true := hw _ (List.mem_of_getElem? (i := 14) rfl)
theorem w15 {a0 : Array Value} {Z : State} (hw : ∀ d ∈ tables_1, d.before a0 Z = true) : ((Jvm.Cond.instanceMethod ({ cls := "com/example/oxpecker/oxpecker/sip/RawMessage", name := "<init>", desc := "([B)V" } : Jvm.MethodName))).before a0 Z = true := hw _ (List.mem_of_getElem? (i := 15) rfl)
theorem w16 {a0 : Array Value} {Z : State} (hw : ∀ d ∈ tables_1, d.before a0 Z = true) : ((Jvm.Cond.code ({ cls := "com/example/oxpecker/oxpecker/sip/RawMessage", name := "<init>", desc := "([B)V" } : Jvm.MethodName) prog_12_method_1_code (11 : Nat) (Option.none : Option Jvm.ClassFile.FieldType))).before a0 Z = true := hw _ (List.mem_of_getElem? (i := 16) rfl)
theorem w17 {a0 : Array Value} {Z : State} (hw : ∀ d ∈ tables_1, d.before a0 Z = true) : ((Jvm.Cond.methodLink "com/example/oxpecker/oxpecker/sip/RawMessage" (1 : Nat) ({ cls := "java/lang/Object", name := "<init>", desc := "()V" } : Jvm.MethodName))).before a0 Z = true := hw _ (List.mem_of_getElem? (i := 17) rfl)
theorem w18 {a0 : Array Value} {Z : State} (hw : ∀ d ∈ tables_1, d.before a0 Z = true) : ((Jvm.Cond.instanceMethod ({ cls := "java/lang/Object", name := "<init>", desc := "()V" } : Jvm.MethodName))).before a0 Z = true := hw _ (List.mem_of_getElem? (i := 18) rfl)
theorem w19 {a0 : Array Value} {Z : State} (hw : ∀ d ∈ tables_1, d.before a0 Z = true) : ((Jvm.Cond.code ({ cls := "java/lang/Object", name := "<init>", desc := "()V" } : Jvm.MethodName) object_method_1_code (1 : Nat) (Option.none : Option Jvm.ClassFile.FieldType))).before a0 Z = true := hw _ (List.mem_of_getElem? (i := 19) rfl)
theorem w20 {a0 : Array Value} {Z : State} (hw : ∀ d ∈ tables_1, d.before a0 Z = true) : ((Jvm.Cond.fieldLink "com/example/oxpecker/oxpecker/sip/RawMessage" (7 : Nat) "com/example/oxpecker/oxpecker/sip/RawMessage" "bytes" "[B")).before a0 Z = true := hw _ (List.mem_of_getElem? (i := 20) rfl)
theorem w21 {a0 : Array Value} {Z : State} (hw : ∀ d ∈ tables_1, d.before a0 Z = true) : ((Jvm.Cond.laysFinal "com/example/oxpecker/oxpecker/sip/RawMessage" "com/example/oxpecker/oxpecker/sip/RawMessage" "bytes" "[B")).before a0 Z = true := hw _ (List.mem_of_getElem? (i := 21) rfl)
theorem w22 {a0 : Array Value} {Z : State} (hw : ∀ d ∈ tables_1, d.before a0 Z = true) : ((Jvm.Cond.methodLink "com/example/oxpecker/oxpecker/sip/RawMessage" (13 : Nat) ({ cls := "com/example/oxpecker/oxpecker/sip/RawMessage", name := "indexOf", desc := "(BI)I" } : Jvm.MethodName))).before a0 Z = true := hw _ (List.mem_of_getElem? (i := 22) rfl)
theorem w23 {a0 : Array Value} {Z : State} (hw : ∀ d ∈ tables_1, d.before a0 Z = true) : ((Jvm.Cond.instanceMethod ({ cls := "com/example/oxpecker/oxpecker/sip/RawMessage", name := "indexOf", desc := "(BI)I" } : Jvm.MethodName))).before a0 Z = true := hw _ (List.mem_of_getElem? (i := 23) rfl)
theorem w24 {a0 : Array Value} {Z : State} (hw : ∀ d ∈ tables_1, d.before a0 Z = true) : ((Jvm.Cond.privateMethod ({ cls := "com/example/oxpecker/oxpecker/sip/RawMessage", name := "indexOf", desc := "(BI)I" } : Jvm.MethodName))).before a0 Z = true := hw _ (List.mem_of_getElem? (i := 24) rfl)
theorem w25 {a0 : Array Value} {Z : State} (hw : ∀ d ∈ tables_1, d.before a0 Z = true) : ((Jvm.Cond.code ({ cls := "com/example/oxpecker/oxpecker/sip/RawMessage", name := "indexOf", desc := "(BI)I" } : Jvm.MethodName) prog_12_method_17_code (4 : Nat) (Option.some Jvm.ClassFile.FieldType.int))).before a0 Z = true := hw _ (List.mem_of_getElem? (i := 25) rfl)
theorem w26 {a0 : Array Value} {Z : State} (hw : ∀ d ∈ tables_1, d.before a0 Z = true) : ((Jvm.Cond.fieldLink "com/example/oxpecker/oxpecker/sip/RawMessage" (23 : Nat) "com/example/oxpecker/oxpecker/sip/RawMessage" "lineStarts" "[I")).before a0 Z = true := hw _ (List.mem_of_getElem? (i := 26) rfl)
theorem w27 {a0 : Array Value} {Z : State} (hw : ∀ d ∈ tables_1, d.before a0 Z = true) : ((Jvm.Cond.laysFinal "com/example/oxpecker/oxpecker/sip/RawMessage" "com/example/oxpecker/oxpecker/sip/RawMessage" "lineStarts" "[I")).before a0 Z = true := hw _ (List.mem_of_getElem? (i := 27) rfl)
theorem w28 {a0 : Array Value} {Z : State} (hw : ∀ d ∈ tables_1, d.before a0 Z = true) : ((Jvm.Cond.fieldLink "com/example/oxpecker/oxpecker/sip/RawMessage" (27 : Nat) "com/example/oxpecker/oxpecker/sip/RawMessage" "lineEnds" "[I")).before a0 Z = true := hw _ (List.mem_of_getElem? (i := 28) rfl)
theorem w29 {a0 : Array Value} {Z : State} (hw : ∀ d ∈ tables_1, d.before a0 Z = true) : ((Jvm.Cond.laysFinal "com/example/oxpecker/oxpecker/sip/RawMessage" "com/example/oxpecker/oxpecker/sip/RawMessage" "lineEnds" "[I")).before a0 Z = true := hw _ (List.mem_of_getElem? (i := 29) rfl)
theorem w30 {a0 : Array Value} {Z : State} (hw : ∀ d ∈ tables_1, d.before a0 Z = true) : ((Jvm.Cond.fieldLink "com/example/oxpecker/oxpecker/sip/RawMessage" (30 : Nat) "com/example/oxpecker/oxpecker/sip/RawMessage" "wordLengths" "[I")).before a0 Z = true := hw _ (List.mem_of_getElem? (i := 30) rfl)
theorem w31 {a0 : Array Value} {Z : State} (hw : ∀ d ∈ tables_1, d.before a0 Z = true) : ((Jvm.Cond.laysFinal "com/example/oxpecker/oxpecker/sip/RawMessage" "com/example/oxpecker/oxpecker/sip/RawMessage" "wordLengths" "[I")).before a0 Z = true := hw _ (List.mem_of_getElem? (i := 31) rfl)
theorem w32 {a0 : Array Value} {Z : State} (hw : ∀ d ∈ tables_1, d.before a0 Z = true) : ((Jvm.Cond.fieldLink "com/example/oxpecker/oxpecker/sip/RawMessage" (33 : Nat) "com/example/oxpecker/oxpecker/sip/RawMessage" "lines" "I")).before a0 Z = true := hw _ (List.mem_of_getElem? (i := 32) rfl)
theorem w33 {a0 : Array Value} {Z : State} (hw : ∀ d ∈ tables_1, d.before a0 Z = true) : ((Jvm.Cond.laysFinal "com/example/oxpecker/oxpecker/sip/RawMessage" "com/example/oxpecker/oxpecker/sip/RawMessage" "lines" "I")).before a0 Z = true := hw _ (List.mem_of_getElem? (i := 33) rfl)
theorem w34 {a0 : Array Value} {Z : State} (hw : ∀ d ∈ tables_1, d.before a0 Z = true) : ((Jvm.Cond.fieldLink "com/example/oxpecker/oxpecker/sip/RawMessage" (37 : Nat) "com/example/oxpecker/oxpecker/sip/RawMessage" "bodyStart" "I")).before a0 Z = true := hw _ (List.mem_of_getElem? (i := 34) rfl)
theorem w35 {a0 : Array Value} {Z : State} (hw : ∀ d ∈ tables_1, d.before a0 Z = true) : ((Jvm.Cond.laysFinal "com/example/oxpecker/oxpecker/sip/RawMessage" "com/example/oxpecker/oxpecker/sip/RawMessage" "bodyStart" "I")).before a0 Z = true := hw _ (List.mem_of_getElem? (i := 35) rfl)
theorem w36 {a0 : Array Value} {Z : State} (hw : ∀ d ∈ tables_1, d.before a0 Z = true) : ((Jvm.Cond.methodLink "com/example/oxpecker/oxpecker/sip/RawMessageIsPlainPinLaw" (23 : Nat) ({ cls := "com/example/oxpecker/oxpecker/sip/RawMessage", name := "isPlain", desc := "()Z" } : Jvm.MethodName))).before a0 Z = true := hw _ (List.mem_of_getElem? (i := 36) rfl)
theorem w37 {a0 : Array Value} {Z : State} (hw : ∀ d ∈ tables_1, d.before a0 Z = true) : ((Jvm.Cond.declares ({ cls := "com/example/oxpecker/oxpecker/sip/RawMessage", name := "isPlain", desc := "()Z" } : Jvm.MethodName))).before a0 Z = true := hw _ (List.mem_of_getElem? (i := 37) rfl)
theorem w38 {a0 : Array Value} {Z : State} (hw : ∀ d ∈ tables_1, d.before a0 Z = true) : ((Jvm.Cond.instanceMethod ({ cls := "com/example/oxpecker/oxpecker/sip/RawMessage", name := "isPlain", desc := "()Z" } : Jvm.MethodName))).before a0 Z = true := hw _ (List.mem_of_getElem? (i := 38) rfl)
theorem w39 {a0 : Array Value} {Z : State} (hw : ∀ d ∈ tables_1, d.before a0 Z = true) : ((Jvm.Cond.selects "com/example/oxpecker/oxpecker/sip/RawMessage" ({ cls := "com/example/oxpecker/oxpecker/sip/RawMessage", name := "isPlain", desc := "()Z" } : Jvm.MethodName) ({ cls := "com/example/oxpecker/oxpecker/sip/RawMessage", name := "isPlain", desc := "()Z" } : Jvm.MethodName))).before a0 Z = true := hw _ (List.mem_of_getElem? (i := 39) rfl)
theorem w40 {a0 : Array Value} {Z : State} (hw : ∀ d ∈ tables_1, d.before a0 Z = true) : ((Jvm.Cond.code ({ cls := "com/example/oxpecker/oxpecker/sip/RawMessage", name := "isPlain", desc := "()Z" } : Jvm.MethodName) prog_12_method_4_code (6 : Nat) (Option.some Jvm.ClassFile.FieldType.boolean))).before a0 Z = true := hw _ (List.mem_of_getElem? (i := 40) rfl)
theorem pn_com_example_oxpecker_oxpecker_sip_RawMessageIsPlainPinLaw : plainName "com/example/oxpecker/oxpecker/sip/RawMessageIsPlainPinLaw" = true := by first | (simp [plainName, overriddenIn]; done) | decide +kernel
theorem pn_com_example_oxpecker_oxpecker_sip_RawMessage : plainName "com/example/oxpecker/oxpecker/sip/RawMessage" = true := by first | (simp [plainName, overriddenIn]; done) | decide +kernel
theorem pd_0 : parseMethodDescriptor "(JI)B" = some ⟨[.long, .int], some .byte⟩ := by decide +kernel
theorem pd_1 : parseMethodDescriptor "([IB)V" = some ⟨[(.array .int), .byte], none⟩ := by decide +kernel
theorem pd_2 : parseMethodDescriptor "(BI)I" = some ⟨[.byte, .int], some .int⟩ := by decide +kernel
theorem pd_3 : parseMethodDescriptor "([B)V" = some ⟨[(.array .byte)], none⟩ := by decide +kernel
theorem pd_4 : parseMethodDescriptor "()Z" = some ⟨[], some .boolean⟩ := by decide +kernel
theorem dRawMessageIsPlainPinLaw_pick_0 : decode method_3_code 0 = .ok (.lload_n 0, 1) := by decide +kernel
theorem dRawMessageIsPlainPinLaw_pick_1 : decode method_3_code 1 = .ok (.bipush 8, 2) := by decide +kernel
theorem dRawMessageIsPlainPinLaw_pick_3 : decode method_3_code 3 = .ok (.iload_n 2, 1) := by decide +kernel
theorem dRawMessageIsPlainPinLaw_pick_4 : decode method_3_code 4 = .ok (.imul, 1) := by decide +kernel
theorem dRawMessageIsPlainPinLaw_pick_5 : decode method_3_code 5 = .ok (.lushr, 1) := by decide +kernel
theorem dRawMessageIsPlainPinLaw_pick_6 : decode method_3_code 6 = .ok (.ldc2_w 27, 3) := by decide +kernel
theorem dRawMessageIsPlainPinLaw_pick_9 : decode method_3_code 9 = .ok (.land, 1) := by decide +kernel
theorem dRawMessageIsPlainPinLaw_pick_10 : decode method_3_code 10 = .ok (.l2i, 1) := by decide +kernel
theorem dRawMessageIsPlainPinLaw_pick_11 : decode method_3_code 11 = .ok (.istore_n 3, 1) := by decide +kernel
theorem dRawMessageIsPlainPinLaw_pick_12 : decode method_3_code 12 = .ok (.iload_n 3, 1) := by decide +kernel
theorem dRawMessageIsPlainPinLaw_pick_13 : decode method_3_code 13 = .ok (.bipush 7, 2) := by decide +kernel
theorem dRawMessageIsPlainPinLaw_pick_15 : decode method_3_code 15 = .ok (.iand, 1) := by decide +kernel
theorem dRawMessageIsPlainPinLaw_pick_16 : decode method_3_code 16 = .ok (.istore 4, 2) := by decide +kernel
theorem dRawMessageIsPlainPinLaw_pick_18 : decode method_3_code 18 = .ok (.iload_n 3, 1) := by decide +kernel
theorem dRawMessageIsPlainPinLaw_pick_19 : decode method_3_code 19 = .ok (.iconst 3, 1) := by decide +kernel
theorem dRawMessageIsPlainPinLaw_pick_20 : decode method_3_code 20 = .ok (.iushr, 1) := by decide +kernel
theorem dRawMessageIsPlainPinLaw_pick_21 : decode method_3_code 21 = .ok (.istore 5, 2) := by decide +kernel
theorem dRawMessageIsPlainPinLaw_pick_23 : decode method_3_code 23 = .ok (.iload 4, 2) := by decide +kernel
theorem dRawMessageIsPlainPinLaw_pick_25 : decode method_3_code 25 = .ok (.ifCond .ne 6, 3) := by decide +kernel
theorem dRawMessageIsPlainPinLaw_pick_28 : decode method_3_code 28 = .ok (.bipush 10, 2) := by decide +kernel
theorem dRawMessageIsPlainPinLaw_pick_30 : decode method_3_code 30 = .ok (.ireturn, 1) := by decide +kernel
theorem dRawMessageIsPlainPinLaw_pick_31 : decode method_3_code 31 = .ok (.iload 4, 2) := by decide +kernel
theorem dRawMessageIsPlainPinLaw_pick_33 : decode method_3_code 33 = .ok (.iconst 1, 1) := by decide +kernel
theorem dRawMessageIsPlainPinLaw_pick_34 : decode method_3_code 34 = .ok (.if_icmp .ne 6, 3) := by decide +kernel
theorem dRawMessageIsPlainPinLaw_pick_37 : decode method_3_code 37 = .ok (.bipush 13, 2) := by decide +kernel
theorem dRawMessageIsPlainPinLaw_pick_39 : decode method_3_code 39 = .ok (.ireturn, 1) := by decide +kernel
theorem dRawMessageIsPlainPinLaw_pick_40 : decode method_3_code 40 = .ok (.iload 4, 2) := by decide +kernel
theorem dRawMessageIsPlainPinLaw_pick_42 : decode method_3_code 42 = .ok (.iconst 2, 1) := by decide +kernel
theorem dRawMessageIsPlainPinLaw_pick_43 : decode method_3_code 43 = .ok (.if_icmp .ne 6, 3) := by decide +kernel
theorem dRawMessageIsPlainPinLaw_pick_46 : decode method_3_code 46 = .ok (.bipush 58, 2) := by decide +kernel
theorem dRawMessageIsPlainPinLaw_pick_48 : decode method_3_code 48 = .ok (.ireturn, 1) := by decide +kernel
theorem dRawMessageIsPlainPinLaw_pick_49 : decode method_3_code 49 = .ok (.iload 4, 2) := by decide +kernel
theorem dRawMessageIsPlainPinLaw_pick_51 : decode method_3_code 51 = .ok (.iconst 3, 1) := by decide +kernel
theorem dRawMessageIsPlainPinLaw_pick_52 : decode method_3_code 52 = .ok (.if_icmp .ne 6, 3) := by decide +kernel
theorem dRawMessageIsPlainPinLaw_pick_55 : decode method_3_code 55 = .ok (.bipush 32, 2) := by decide +kernel
theorem dRawMessageIsPlainPinLaw_pick_57 : decode method_3_code 57 = .ok (.ireturn, 1) := by decide +kernel
theorem dRawMessageIsPlainPinLaw_pick_58 : decode method_3_code 58 = .ok (.iload 4, 2) := by decide +kernel
theorem dRawMessageIsPlainPinLaw_pick_60 : decode method_3_code 60 = .ok (.iconst 4, 1) := by decide +kernel
theorem dRawMessageIsPlainPinLaw_pick_61 : decode method_3_code 61 = .ok (.if_icmp .ne 6, 3) := by decide +kernel
theorem dRawMessageIsPlainPinLaw_pick_64 : decode method_3_code 64 = .ok (.bipush 9, 2) := by decide +kernel
theorem dRawMessageIsPlainPinLaw_pick_66 : decode method_3_code 66 = .ok (.ireturn, 1) := by decide +kernel
theorem dRawMessageIsPlainPinLaw_pick_67 : decode method_3_code 67 = .ok (.iload 4, 2) := by decide +kernel
theorem dRawMessageIsPlainPinLaw_pick_69 : decode method_3_code 69 = .ok (.iconst 5, 1) := by decide +kernel
theorem dRawMessageIsPlainPinLaw_pick_70 : decode method_3_code 70 = .ok (.if_icmp .ne 10, 3) := by decide +kernel
theorem dRawMessageIsPlainPinLaw_pick_73 : decode method_3_code 73 = .ok (.bipush 33, 2) := by decide +kernel
theorem dRawMessageIsPlainPinLaw_pick_75 : decode method_3_code 75 = .ok (.iload 5, 2) := by decide +kernel
theorem dRawMessageIsPlainPinLaw_pick_77 : decode method_3_code 77 = .ok (.iadd, 1) := by decide +kernel
theorem dRawMessageIsPlainPinLaw_pick_78 : decode method_3_code 78 = .ok (.i2b, 1) := by decide +kernel
theorem dRawMessageIsPlainPinLaw_pick_79 : decode method_3_code 79 = .ok (.ireturn, 1) := by decide +kernel
theorem dRawMessageIsPlainPinLaw_pick_80 : decode method_3_code 80 = .ok (.iload 4, 2) := by decide +kernel
theorem dRawMessageIsPlainPinLaw_pick_82 : decode method_3_code 82 = .ok (.bipush 6, 2) := by decide +kernel
theorem dRawMessageIsPlainPinLaw_pick_84 : decode method_3_code 84 = .ok (.if_icmp .ne 7, 3) := by decide +kernel
theorem dRawMessageIsPlainPinLaw_pick_87 : decode method_3_code 87 = .ok (.iload 5, 2) := by decide +kernel
theorem dRawMessageIsPlainPinLaw_pick_89 : decode method_3_code 89 = .ok (.i2b, 1) := by decide +kernel
theorem dRawMessageIsPlainPinLaw_pick_90 : decode method_3_code 90 = .ok (.ireturn, 1) := by decide +kernel
theorem dRawMessageIsPlainPinLaw_pick_91 : decode method_3_code 91 = .ok (.bipush 112, 2) := by decide +kernel
theorem dRawMessageIsPlainPinLaw_pick_93 : decode method_3_code 93 = .ok (.iload 5, 2) := by decide +kernel
theorem dRawMessageIsPlainPinLaw_pick_95 : decode method_3_code 95 = .ok (.iadd, 1) := by decide +kernel
theorem dRawMessageIsPlainPinLaw_pick_96 : decode method_3_code 96 = .ok (.i2b, 1) := by decide +kernel
theorem dRawMessageIsPlainPinLaw_pick_97 : decode method_3_code 97 = .ok (.ireturn, 1) := by decide +kernel
theorem dRawMessageIsPlainPinLaw_step_0 : decode method_4_code 0 = .ok (.aload_n 0, 1) := by decide +kernel
theorem dRawMessageIsPlainPinLaw_step_1 : decode method_4_code 1 = .ok (.iconst 0, 1) := by decide +kernel
theorem dRawMessageIsPlainPinLaw_step_2 : decode method_4_code 2 = .ok (.iaload, 1) := by decide +kernel
theorem dRawMessageIsPlainPinLaw_step_3 : decode method_4_code 3 = .ok (.iconst 1, 1) := by decide +kernel
theorem dRawMessageIsPlainPinLaw_step_4 : decode method_4_code 4 = .ok (.if_icmp .ne 4, 3) := by decide +kernel
theorem dRawMessageIsPlainPinLaw_step_7 : decode method_4_code 7 = .ok (.return_, 1) := by decide +kernel
theorem dRawMessageIsPlainPinLaw_step_8 : decode method_4_code 8 = .ok (.iload_n 1, 1) := by decide +kernel
theorem dRawMessageIsPlainPinLaw_step_9 : decode method_4_code 9 = .ok (.bipush 10, 2) := by decide +kernel
theorem dRawMessageIsPlainPinLaw_step_11 : decode method_4_code 11 = .ok (.if_icmp .ne 111, 3) := by decide +kernel
theorem dRawMessageIsPlainPinLaw_step_14 : decode method_4_code 14 = .ok (.aload_n 0, 1) := by decide +kernel
theorem dRawMessageIsPlainPinLaw_step_15 : decode method_4_code 15 = .ok (.iconst 4, 1) := by decide +kernel
theorem dRawMessageIsPlainPinLaw_step_16 : decode method_4_code 16 = .ok (.iaload, 1) := by decide +kernel
theorem dRawMessageIsPlainPinLaw_step_17 : decode method_4_code 17 = .ok (.ifCond .eq 17, 3) := by decide +kernel
theorem dRawMessageIsPlainPinLaw_step_20 : decode method_4_code 20 = .ok (.aload_n 0, 1) := by decide +kernel
theorem dRawMessageIsPlainPinLaw_step_21 : decode method_4_code 21 = .ok (.iconst 4, 1) := by decide +kernel
theorem dRawMessageIsPlainPinLaw_step_22 : decode method_4_code 22 = .ok (.iaload, 1) := by decide +kernel
theorem dRawMessageIsPlainPinLaw_step_23 : decode method_4_code 23 = .ok (.iconst 1, 1) := by decide +kernel
theorem dRawMessageIsPlainPinLaw_step_24 : decode method_4_code 24 = .ok (.if_icmp .ne 21, 3) := by decide +kernel
theorem dRawMessageIsPlainPinLaw_step_27 : decode method_4_code 27 = .ok (.aload_n 0, 1) := by decide +kernel
theorem dRawMessageIsPlainPinLaw_step_28 : decode method_4_code 28 = .ok (.iconst 5, 1) := by decide +kernel
theorem dRawMessageIsPlainPinLaw_step_29 : decode method_4_code 29 = .ok (.iaload, 1) := by decide +kernel
theorem dRawMessageIsPlainPinLaw_step_30 : decode method_4_code 30 = .ok (.iconst 1, 1) := by decide +kernel
theorem dRawMessageIsPlainPinLaw_step_31 : decode method_4_code 31 = .ok (.if_icmp .ne 14, 3) := by decide +kernel
theorem dRawMessageIsPlainPinLaw_step_34 : decode method_4_code 34 = .ok (.aload_n 0, 1) := by decide +kernel
theorem dRawMessageIsPlainPinLaw_step_35 : decode method_4_code 35 = .ok (.iconst 0, 1) := by decide +kernel
theorem dRawMessageIsPlainPinLaw_step_36 : decode method_4_code 36 = .ok (.iconst 1, 1) := by decide +kernel
theorem dRawMessageIsPlainPinLaw_step_37 : decode method_4_code 37 = .ok (.iastore, 1) := by decide +kernel
theorem dRawMessageIsPlainPinLaw_step_38 : decode method_4_code 38 = .ok (.aload_n 0, 1) := by decide +kernel
theorem dRawMessageIsPlainPinLaw_step_39 : decode method_4_code 39 = .ok (.iconst 1, 1) := by decide +kernel
theorem dRawMessageIsPlainPinLaw_step_40 : decode method_4_code 40 = .ok (.aload_n 0, 1) := by decide +kernel
theorem dRawMessageIsPlainPinLaw_step_41 : decode method_4_code 41 = .ok (.iconst 2, 1) := by decide +kernel
theorem dRawMessageIsPlainPinLaw_step_42 : decode method_4_code 42 = .ok (.iaload, 1) := by decide +kernel
theorem dRawMessageIsPlainPinLaw_step_43 : decode method_4_code 43 = .ok (.iastore, 1) := by decide +kernel
theorem dRawMessageIsPlainPinLaw_step_44 : decode method_4_code 44 = .ok (.return_, 1) := by decide +kernel
theorem dRawMessageIsPlainPinLaw_step_45 : decode method_4_code 45 = .ok (.aload_n 0, 1) := by decide +kernel
theorem dRawMessageIsPlainPinLaw_step_46 : decode method_4_code 46 = .ok (.bipush 9, 2) := by decide +kernel
theorem dRawMessageIsPlainPinLaw_step_48 : decode method_4_code 48 = .ok (.iaload, 1) := by decide +kernel
theorem dRawMessageIsPlainPinLaw_step_49 : decode method_4_code 49 = .ok (.iconst 1, 1) := by decide +kernel
theorem dRawMessageIsPlainPinLaw_step_50 : decode method_4_code 50 = .ok (.if_icmp .eq 25, 3) := by decide +kernel
theorem dRawMessageIsPlainPinLaw_step_53 : decode method_4_code 53 = .ok (.aload_n 0, 1) := by decide +kernel
theorem dRawMessageIsPlainPinLaw_step_54 : decode method_4_code 54 = .ok (.iconst 3, 1) := by decide +kernel
theorem dRawMessageIsPlainPinLaw_step_55 : decode method_4_code 55 = .ok (.iaload, 1) := by decide +kernel
theorem dRawMessageIsPlainPinLaw_step_56 : decode method_4_code 56 = .ok (.iconst 1, 1) := by decide +kernel
theorem dRawMessageIsPlainPinLaw_step_57 : decode method_4_code 57 = .ok (.if_icmp .ne 22, 3) := by decide +kernel
theorem dRawMessageIsPlainPinLaw_step_60 : decode method_4_code 60 = .ok (.aload_n 0, 1) := by decide +kernel
theorem dRawMessageIsPlainPinLaw_step_61 : decode method_4_code 61 = .ok (.bipush 6, 2) := by decide +kernel
theorem dRawMessageIsPlainPinLaw_step_63 : decode method_4_code 63 = .ok (.iaload, 1) := by decide +kernel
theorem dRawMessageIsPlainPinLaw_step_64 : decode method_4_code 64 = .ok (.iconst 1, 1) := by decide +kernel
theorem dRawMessageIsPlainPinLaw_step_65 : decode method_4_code 65 = .ok (.if_icmp .eq 10, 3) := by decide +kernel
theorem dRawMessageIsPlainPinLaw_step_68 : decode method_4_code 68 = .ok (.aload_n 0, 1) := by decide +kernel
theorem dRawMessageIsPlainPinLaw_step_69 : decode method_4_code 69 = .ok (.bipush 7, 2) := by decide +kernel
theorem dRawMessageIsPlainPinLaw_step_71 : decode method_4_code 71 = .ok (.iaload, 1) := by decide +kernel
theorem dRawMessageIsPlainPinLaw_step_72 : decode method_4_code 72 = .ok (.ifCond .ne 7, 3) := by decide +kernel
theorem dRawMessageIsPlainPinLaw_step_75 : decode method_4_code 75 = .ok (.iconst 1, 1) := by decide +kernel
theorem dRawMessageIsPlainPinLaw_step_76 : decode method_4_code 76 = .ok (.goto 4, 3) := by decide +kernel
theorem dRawMessageIsPlainPinLaw_step_79 : decode method_4_code 79 = .ok (.iconst 0, 1) := by decide +kernel
theorem dRawMessageIsPlainPinLaw_step_80 : decode method_4_code 80 = .ok (.istore_n 2, 1) := by decide +kernel
theorem dRawMessageIsPlainPinLaw_step_81 : decode method_4_code 81 = .ok (.iload_n 2, 1) := by decide +kernel
theorem dRawMessageIsPlainPinLaw_step_82 : decode method_4_code 82 = .ok (.ifCond .eq 7, 3) := by decide +kernel
theorem dRawMessageIsPlainPinLaw_step_85 : decode method_4_code 85 = .ok (.aload_n 0, 1) := by decide +kernel
theorem dRawMessageIsPlainPinLaw_step_86 : decode method_4_code 86 = .ok (.iconst 2, 1) := by decide +kernel
theorem dRawMessageIsPlainPinLaw_step_87 : decode method_4_code 87 = .ok (.iconst 0, 1) := by decide +kernel
theorem dRawMessageIsPlainPinLaw_step_88 : decode method_4_code 88 = .ok (.iastore, 1) := by decide +kernel
theorem dRawMessageIsPlainPinLaw_step_89 : decode method_4_code 89 = .ok (.aload_n 0, 1) := by decide +kernel
theorem dRawMessageIsPlainPinLaw_step_90 : decode method_4_code 90 = .ok (.iconst 3, 1) := by decide +kernel
theorem dRawMessageIsPlainPinLaw_step_91 : decode method_4_code 91 = .ok (.iconst 1, 1) := by decide +kernel
theorem dRawMessageIsPlainPinLaw_step_92 : decode method_4_code 92 = .ok (.iastore, 1) := by decide +kernel
theorem dRawMessageIsPlainPinLaw_step_93 : decode method_4_code 93 = .ok (.aload_n 0, 1) := by decide +kernel
theorem dRawMessageIsPlainPinLaw_step_94 : decode method_4_code 94 = .ok (.iconst 4, 1) := by decide +kernel
theorem dRawMessageIsPlainPinLaw_step_95 : decode method_4_code 95 = .ok (.iconst 0, 1) := by decide +kernel
theorem dRawMessageIsPlainPinLaw_step_96 : decode method_4_code 96 = .ok (.iastore, 1) := by decide +kernel
theorem dRawMessageIsPlainPinLaw_step_97 : decode method_4_code 97 = .ok (.aload_n 0, 1) := by decide +kernel
theorem dRawMessageIsPlainPinLaw_step_98 : decode method_4_code 98 = .ok (.iconst 5, 1) := by decide +kernel
theorem dRawMessageIsPlainPinLaw_step_99 : decode method_4_code 99 = .ok (.iconst 0, 1) := by decide +kernel
theorem dRawMessageIsPlainPinLaw_step_100 : decode method_4_code 100 = .ok (.iastore, 1) := by decide +kernel
theorem dRawMessageIsPlainPinLaw_step_101 : decode method_4_code 101 = .ok (.aload_n 0, 1) := by decide +kernel
theorem dRawMessageIsPlainPinLaw_step_102 : decode method_4_code 102 = .ok (.bipush 6, 2) := by decide +kernel
theorem dRawMessageIsPlainPinLaw_step_104 : decode method_4_code 104 = .ok (.iconst 0, 1) := by decide +kernel
theorem dRawMessageIsPlainPinLaw_step_105 : decode method_4_code 105 = .ok (.iastore, 1) := by decide +kernel
theorem dRawMessageIsPlainPinLaw_step_106 : decode method_4_code 106 = .ok (.aload_n 0, 1) := by decide +kernel
theorem dRawMessageIsPlainPinLaw_step_107 : decode method_4_code 107 = .ok (.bipush 7, 2) := by decide +kernel
theorem dRawMessageIsPlainPinLaw_step_109 : decode method_4_code 109 = .ok (.iconst 0, 1) := by decide +kernel
theorem dRawMessageIsPlainPinLaw_step_110 : decode method_4_code 110 = .ok (.iastore, 1) := by decide +kernel
theorem dRawMessageIsPlainPinLaw_step_111 : decode method_4_code 111 = .ok (.aload_n 0, 1) := by decide +kernel
theorem dRawMessageIsPlainPinLaw_step_112 : decode method_4_code 112 = .ok (.bipush 8, 2) := by decide +kernel
theorem dRawMessageIsPlainPinLaw_step_114 : decode method_4_code 114 = .ok (.iconst 0, 1) := by decide +kernel
theorem dRawMessageIsPlainPinLaw_step_115 : decode method_4_code 115 = .ok (.iastore, 1) := by decide +kernel
theorem dRawMessageIsPlainPinLaw_step_116 : decode method_4_code 116 = .ok (.aload_n 0, 1) := by decide +kernel
theorem dRawMessageIsPlainPinLaw_step_117 : decode method_4_code 117 = .ok (.bipush 9, 2) := by decide +kernel
theorem dRawMessageIsPlainPinLaw_step_119 : decode method_4_code 119 = .ok (.iconst 0, 1) := by decide +kernel
theorem dRawMessageIsPlainPinLaw_step_120 : decode method_4_code 120 = .ok (.iastore, 1) := by decide +kernel
theorem dRawMessageIsPlainPinLaw_step_121 : decode method_4_code 121 = .ok (.return_, 1) := by decide +kernel
theorem dRawMessageIsPlainPinLaw_step_122 : decode method_4_code 122 = .ok (.aload_n 0, 1) := by decide +kernel
theorem dRawMessageIsPlainPinLaw_step_123 : decode method_4_code 123 = .ok (.bipush 8, 2) := by decide +kernel
theorem dRawMessageIsPlainPinLaw_step_125 : decode method_4_code 125 = .ok (.iaload, 1) := by decide +kernel
theorem dRawMessageIsPlainPinLaw_step_126 : decode method_4_code 126 = .ok (.iconst 1, 1) := by decide +kernel
theorem dRawMessageIsPlainPinLaw_step_127 : decode method_4_code 127 = .ok (.if_icmp .ne 8, 3) := by decide +kernel
theorem dRawMessageIsPlainPinLaw_step_130 : decode method_4_code 130 = .ok (.aload_n 0, 1) := by decide +kernel
theorem dRawMessageIsPlainPinLaw_step_131 : decode method_4_code 131 = .ok (.bipush 9, 2) := by decide +kernel
theorem dRawMessageIsPlainPinLaw_step_133 : decode method_4_code 133 = .ok (.iconst 1, 1) := by decide +kernel
theorem dRawMessageIsPlainPinLaw_step_134 : decode method_4_code 134 = .ok (.iastore, 1) := by decide +kernel
theorem dRawMessageIsPlainPinLaw_step_135 : decode method_4_code 135 = .ok (.iload_n 1, 1) := by decide +kernel
theorem dRawMessageIsPlainPinLaw_step_136 : decode method_4_code 136 = .ok (.bipush 13, 2) := by decide +kernel
theorem dRawMessageIsPlainPinLaw_step_138 : decode method_4_code 138 = .ok (.if_icmp .ne 11, 3) := by decide +kernel
theorem dRawMessageIsPlainPinLaw_step_141 : decode method_4_code 141 = .ok (.aload_n 0, 1) := by decide +kernel
theorem dRawMessageIsPlainPinLaw_step_142 : decode method_4_code 142 = .ok (.bipush 8, 2) := by decide +kernel
theorem dRawMessageIsPlainPinLaw_step_144 : decode method_4_code 144 = .ok (.iconst 1, 1) := by decide +kernel
theorem dRawMessageIsPlainPinLaw_step_145 : decode method_4_code 145 = .ok (.iastore, 1) := by decide +kernel
theorem dRawMessageIsPlainPinLaw_step_146 : decode method_4_code 146 = .ok (.goto 35, 3) := by decide +kernel
theorem dRawMessageIsPlainPinLaw_step_149 : decode method_4_code 149 = .ok (.aload_n 0, 1) := by decide +kernel
theorem dRawMessageIsPlainPinLaw_step_150 : decode method_4_code 150 = .ok (.bipush 8, 2) := by decide +kernel
theorem dRawMessageIsPlainPinLaw_step_152 : decode method_4_code 152 = .ok (.iconst 0, 1) := by decide +kernel
theorem dRawMessageIsPlainPinLaw_step_153 : decode method_4_code 153 = .ok (.iastore, 1) := by decide +kernel
theorem dRawMessageIsPlainPinLaw_step_154 : decode method_4_code 154 = .ok (.iload_n 1, 1) := by decide +kernel
theorem dRawMessageIsPlainPinLaw_step_155 : decode method_4_code 155 = .ok (.ifCond .lt 15, 3) := by decide +kernel
theorem dRawMessageIsPlainPinLaw_step_158 : decode method_4_code 158 = .ok (.iload_n 1, 1) := by decide +kernel
theorem dRawMessageIsPlainPinLaw_step_159 : decode method_4_code 159 = .ok (.bipush 32, 2) := by decide +kernel
theorem dRawMessageIsPlainPinLaw_step_161 : decode method_4_code 161 = .ok (.if_icmp .ge 9, 3) := by decide +kernel
theorem dRawMessageIsPlainPinLaw_step_164 : decode method_4_code 164 = .ok (.iload_n 1, 1) := by decide +kernel
theorem dRawMessageIsPlainPinLaw_step_165 : decode method_4_code 165 = .ok (.bipush 9, 2) := by decide +kernel
theorem dRawMessageIsPlainPinLaw_step_167 : decode method_4_code 167 = .ok (.if_icmp .ne 9, 3) := by decide +kernel
theorem dRawMessageIsPlainPinLaw_step_170 : decode method_4_code 170 = .ok (.iload_n 1, 1) := by decide +kernel
theorem dRawMessageIsPlainPinLaw_step_171 : decode method_4_code 171 = .ok (.bipush 127, 2) := by decide +kernel
theorem dRawMessageIsPlainPinLaw_step_173 : decode method_4_code 173 = .ok (.if_icmp .ne 8, 3) := by decide +kernel
theorem dRawMessageIsPlainPinLaw_step_176 : decode method_4_code 176 = .ok (.aload_n 0, 1) := by decide +kernel
theorem dRawMessageIsPlainPinLaw_step_177 : decode method_4_code 177 = .ok (.bipush 9, 2) := by decide +kernel
theorem dRawMessageIsPlainPinLaw_step_179 : decode method_4_code 179 = .ok (.iconst 1, 1) := by decide +kernel
theorem dRawMessageIsPlainPinLaw_step_180 : decode method_4_code 180 = .ok (.iastore, 1) := by decide +kernel
theorem dRawMessageIsPlainPinLaw_step_181 : decode method_4_code 181 = .ok (.iload_n 1, 1) := by decide +kernel
theorem dRawMessageIsPlainPinLaw_step_182 : decode method_4_code 182 = .ok (.bipush 58, 2) := by decide +kernel
theorem dRawMessageIsPlainPinLaw_step_184 : decode method_4_code 184 = .ok (.if_icmp .ne 8, 3) := by decide +kernel
theorem dRawMessageIsPlainPinLaw_step_187 : decode method_4_code 187 = .ok (.aload_n 0, 1) := by decide +kernel
theorem dRawMessageIsPlainPinLaw_step_188 : decode method_4_code 188 = .ok (.bipush 7, 2) := by decide +kernel
theorem dRawMessageIsPlainPinLaw_step_190 : decode method_4_code 190 = .ok (.iconst 1, 1) := by decide +kernel
theorem dRawMessageIsPlainPinLaw_step_191 : decode method_4_code 191 = .ok (.iastore, 1) := by decide +kernel
theorem dRawMessageIsPlainPinLaw_step_192 : decode method_4_code 192 = .ok (.aload_n 0, 1) := by decide +kernel
theorem dRawMessageIsPlainPinLaw_step_193 : decode method_4_code 193 = .ok (.iconst 4, 1) := by decide +kernel
theorem dRawMessageIsPlainPinLaw_step_194 : decode method_4_code 194 = .ok (.iaload, 1) := by decide +kernel
theorem dRawMessageIsPlainPinLaw_step_195 : decode method_4_code 195 = .ok (.ifCond .ne 38, 3) := by decide +kernel
theorem dRawMessageIsPlainPinLaw_step_198 : decode method_4_code 198 = .ok (.aload_n 0, 1) := by decide +kernel
theorem dRawMessageIsPlainPinLaw_step_199 : decode method_4_code 199 = .ok (.iconst 5, 1) := by decide +kernel
theorem dRawMessageIsPlainPinLaw_step_200 : decode method_4_code 200 = .ok (.iload_n 1, 1) := by decide +kernel
theorem dRawMessageIsPlainPinLaw_step_201 : decode method_4_code 201 = .ok (.bipush 13, 2) := by decide +kernel
theorem dRawMessageIsPlainPinLaw_step_203 : decode method_4_code 203 = .ok (.if_icmp .ne 7, 3) := by decide +kernel
theorem dRawMessageIsPlainPinLaw_step_206 : decode method_4_code 206 = .ok (.iconst 1, 1) := by decide +kernel
theorem dRawMessageIsPlainPinLaw_step_207 : decode method_4_code 207 = .ok (.goto 4, 3) := by decide +kernel
theorem dRawMessageIsPlainPinLaw_step_210 : decode method_4_code 210 = .ok (.iconst 0, 1) := by decide +kernel
theorem dRawMessageIsPlainPinLaw_step_211 : decode method_4_code 211 = .ok (.iastore, 1) := by decide +kernel
theorem dRawMessageIsPlainPinLaw_step_212 : decode method_4_code 212 = .ok (.aload_n 0, 1) := by decide +kernel
theorem dRawMessageIsPlainPinLaw_step_213 : decode method_4_code 213 = .ok (.bipush 6, 2) := by decide +kernel
theorem dRawMessageIsPlainPinLaw_step_215 : decode method_4_code 215 = .ok (.iload_n 1, 1) := by decide +kernel
theorem dRawMessageIsPlainPinLaw_step_216 : decode method_4_code 216 = .ok (.bipush 32, 2) := by decide +kernel
theorem dRawMessageIsPlainPinLaw_step_218 : decode method_4_code 218 = .ok (.if_icmp .eq 9, 3) := by decide +kernel
theorem dRawMessageIsPlainPinLaw_step_221 : decode method_4_code 221 = .ok (.iload_n 1, 1) := by decide +kernel
theorem dRawMessageIsPlainPinLaw_step_222 : decode method_4_code 222 = .ok (.bipush 9, 2) := by decide +kernel
theorem dRawMessageIsPlainPinLaw_step_224 : decode method_4_code 224 = .ok (.if_icmp .ne 7, 3) := by decide +kernel
theorem dRawMessageIsPlainPinLaw_step_227 : decode method_4_code 227 = .ok (.iconst 1, 1) := by decide +kernel
theorem dRawMessageIsPlainPinLaw_step_228 : decode method_4_code 228 = .ok (.goto 4, 3) := by decide +kernel
theorem dRawMessageIsPlainPinLaw_step_231 : decode method_4_code 231 = .ok (.iconst 0, 1) := by decide +kernel
theorem dRawMessageIsPlainPinLaw_step_232 : decode method_4_code 232 = .ok (.iastore, 1) := by decide +kernel
theorem dRawMessageIsPlainPinLaw_step_233 : decode method_4_code 233 = .ok (.aload_n 0, 1) := by decide +kernel
theorem dRawMessageIsPlainPinLaw_step_234 : decode method_4_code 234 = .ok (.iconst 4, 1) := by decide +kernel
theorem dRawMessageIsPlainPinLaw_step_235 : decode method_4_code 235 = .ok (.aload_n 0, 1) := by decide +kernel
theorem dRawMessageIsPlainPinLaw_step_236 : decode method_4_code 236 = .ok (.iconst 4, 1) := by decide +kernel
theorem dRawMessageIsPlainPinLaw_step_237 : decode method_4_code 237 = .ok (.iaload, 1) := by decide +kernel
theorem dRawMessageIsPlainPinLaw_step_238 : decode method_4_code 238 = .ok (.iconst 1, 1) := by decide +kernel
theorem dRawMessageIsPlainPinLaw_step_239 : decode method_4_code 239 = .ok (.iadd, 1) := by decide +kernel
theorem dRawMessageIsPlainPinLaw_step_240 : decode method_4_code 240 = .ok (.iastore, 1) := by decide +kernel
theorem dRawMessageIsPlainPinLaw_step_241 : decode method_4_code 241 = .ok (.return_, 1) := by decide +kernel
theorem dRawMessage_mk_0 : decode prog_12_method_1_code 0 = .ok (.aload_n 0, 1) := by decide +kernel
theorem dRawMessage_mk_1 : decode prog_12_method_1_code 1 = .ok (.invokespecial 1, 3) := by decide +kernel
theorem dRawMessage_mk_4 : decode prog_12_method_1_code 4 = .ok (.aload_n 0, 1) := by decide +kernel
theorem dRawMessage_mk_5 : decode prog_12_method_1_code 5 = .ok (.aload_n 1, 1) := by decide +kernel
theorem dRawMessage_mk_6 : decode prog_12_method_1_code 6 = .ok (.putfield 7, 3) := by decide +kernel
theorem dRawMessage_mk_9 : decode prog_12_method_1_code 9 = .ok (.bipush 16, 2) := by decide +kernel
theorem dRawMessage_mk_11 : decode prog_12_method_1_code 11 = .ok (.newarray .int, 2) := by decide +kernel
theorem dRawMessage_mk_13 : decode prog_12_method_1_code 13 = .ok (.astore_n 2, 1) := by decide +kernel
theorem dRawMessage_mk_14 : decode prog_12_method_1_code 14 = .ok (.bipush 16, 2) := by decide +kernel
theorem dRawMessage_mk_16 : decode prog_12_method_1_code 16 = .ok (.newarray .int, 2) := by decide +kernel
theorem dRawMessage_mk_18 : decode prog_12_method_1_code 18 = .ok (.astore_n 3, 1) := by decide +kernel
theorem dRawMessage_mk_19 : decode prog_12_method_1_code 19 = .ok (.bipush 16, 2) := by decide +kernel
theorem dRawMessage_mk_21 : decode prog_12_method_1_code 21 = .ok (.newarray .int, 2) := by decide +kernel
theorem dRawMessage_mk_23 : decode prog_12_method_1_code 23 = .ok (.astore 4, 2) := by decide +kernel
theorem dRawMessage_mk_25 : decode prog_12_method_1_code 25 = .ok (.iconst 0, 1) := by decide +kernel
theorem dRawMessage_mk_26 : decode prog_12_method_1_code 26 = .ok (.istore 5, 2) := by decide +kernel
theorem dRawMessage_mk_28 : decode prog_12_method_1_code 28 = .ok (.iconst (-1), 1) := by decide +kernel
theorem dRawMessage_mk_29 : decode prog_12_method_1_code 29 = .ok (.istore 6, 2) := by decide +kernel
theorem dRawMessage_mk_31 : decode prog_12_method_1_code 31 = .ok (.iconst 0, 1) := by decide +kernel
theorem dRawMessage_mk_32 : decode prog_12_method_1_code 32 = .ok (.istore 7, 2) := by decide +kernel
theorem dRawMessage_mk_34 : decode prog_12_method_1_code 34 = .ok (.iload 7, 2) := by decide +kernel
theorem dRawMessage_mk_36 : decode prog_12_method_1_code 36 = .ok (.aload_n 1, 1) := by decide +kernel
theorem dRawMessage_mk_37 : decode prog_12_method_1_code 37 = .ok (.arraylength, 1) := by decide +kernel
theorem dRawMessage_mk_38 : decode prog_12_method_1_code 38 = .ok (.if_icmp .ge 184, 3) := by decide +kernel
theorem dRawMessage_mk_41 : decode prog_12_method_1_code 41 = .ok (.aload_n 0, 1) := by decide +kernel
theorem dRawMessage_mk_42 : decode prog_12_method_1_code 42 = .ok (.bipush 10, 2) := by decide +kernel
theorem dRawMessage_mk_44 : decode prog_12_method_1_code 44 = .ok (.iload 7, 2) := by decide +kernel
theorem dRawMessage_mk_46 : decode prog_12_method_1_code 46 = .ok (.invokevirtual 13, 3) := by decide +kernel
theorem dRawMessage_mk_49 : decode prog_12_method_1_code 49 = .ok (.istore 8, 2) := by decide +kernel
theorem dRawMessage_mk_51 : decode prog_12_method_1_code 51 = .ok (.iload 8, 2) := by decide +kernel
theorem dRawMessage_mk_53 : decode prog_12_method_1_code 53 = .ok (.ifCond .ge 8, 3) := by decide +kernel
theorem dRawMessage_mk_56 : decode prog_12_method_1_code 56 = .ok (.aload_n 1, 1) := by decide +kernel
theorem dRawMessage_mk_57 : decode prog_12_method_1_code 57 = .ok (.arraylength, 1) := by decide +kernel
theorem dRawMessage_mk_58 : decode prog_12_method_1_code 58 = .ok (.goto 5, 3) := by decide +kernel
theorem dRawMessage_mk_61 : decode prog_12_method_1_code 61 = .ok (.iload 8, 2) := by decide +kernel
theorem dRawMessage_mk_63 : decode prog_12_method_1_code 63 = .ok (.istore 9, 2) := by decide +kernel
theorem dRawMessage_mk_65 : decode prog_12_method_1_code 65 = .ok (.iload 9, 2) := by decide +kernel
theorem dRawMessage_mk_67 : decode prog_12_method_1_code 67 = .ok (.iload 7, 2) := by decide +kernel
theorem dRawMessage_mk_69 : decode prog_12_method_1_code 69 = .ok (.if_icmp .eq 21, 3) := by decide +kernel
theorem dRawMessage_mk_72 : decode prog_12_method_1_code 72 = .ok (.iload 9, 2) := by decide +kernel
theorem dRawMessage_mk_74 : decode prog_12_method_1_code 74 = .ok (.iload 7, 2) := by decide +kernel
theorem dRawMessage_mk_76 : decode prog_12_method_1_code 76 = .ok (.iconst 1, 1) := by decide +kernel
theorem dRawMessage_mk_77 : decode prog_12_method_1_code 77 = .ok (.iadd, 1) := by decide +kernel
theorem dRawMessage_mk_78 : decode prog_12_method_1_code 78 = .ok (.if_icmp .ne 30, 3) := by decide +kernel
theorem dRawMessage_mk_81 : decode prog_12_method_1_code 81 = .ok (.aload_n 1, 1) := by decide +kernel
theorem dRawMessage_mk_82 : decode prog_12_method_1_code 82 = .ok (.iload 7, 2) := by decide +kernel
theorem dRawMessage_mk_84 : decode prog_12_method_1_code 84 = .ok (.baload, 1) := by decide +kernel
theorem dRawMessage_mk_85 : decode prog_12_method_1_code 85 = .ok (.bipush 13, 2) := by decide +kernel
theorem dRawMessage_mk_87 : decode prog_12_method_1_code 87 = .ok (.if_icmp .ne 21, 3) := by decide +kernel
theorem dRawMessage_mk_90 : decode prog_12_method_1_code 90 = .ok (.iload 8, 2) := by decide +kernel
theorem dRawMessage_mk_92 : decode prog_12_method_1_code 92 = .ok (.ifCond .ge 7, 3) := by decide +kernel
theorem dRawMessage_mk_95 : decode prog_12_method_1_code 95 = .ok (.iconst (-1), 1) := by decide +kernel
theorem dRawMessage_mk_96 : decode prog_12_method_1_code 96 = .ok (.goto 7, 3) := by decide +kernel
theorem dRawMessage_mk_99 : decode prog_12_method_1_code 99 = .ok (.iload 8, 2) := by decide +kernel
theorem dRawMessage_mk_101 : decode prog_12_method_1_code 101 = .ok (.iconst 1, 1) := by decide +kernel
theorem dRawMessage_mk_102 : decode prog_12_method_1_code 102 = .ok (.iadd, 1) := by decide +kernel
theorem dRawMessage_mk_103 : decode prog_12_method_1_code 103 = .ok (.istore 6, 2) := by decide +kernel
theorem dRawMessage_mk_105 : decode prog_12_method_1_code 105 = .ok (.goto 117, 3) := by decide +kernel
theorem dRawMessage_mk_108 : decode prog_12_method_1_code 108 = .ok (.iload 5, 2) := by decide +kernel
theorem dRawMessage_mk_110 : decode prog_12_method_1_code 110 = .ok (.aload_n 2, 1) := by decide +kernel
theorem dRawMessage_mk_111 : decode prog_12_method_1_code 111 = .ok (.arraylength, 1) := by decide +kernel
theorem dRawMessage_mk_112 : decode prog_12_method_1_code 112 = .ok (.if_icmp .ne 32, 3) := by decide +kernel
theorem dRawMessage_mk_115 : decode prog_12_method_1_code 115 = .ok (.aload_n 2, 1) := by decide +kernel
theorem dRawMessage_mk_116 : decode prog_12_method_1_code 116 = .ok (.iconst 2, 1) := by decide +kernel
theorem dRawMessage_mk_117 : decode prog_12_method_1_code 117 = .ok (.iload 5, 2) := by decide +kernel
theorem dRawMessage_mk_119 : decode prog_12_method_1_code 119 = .ok (.imul, 1) := by decide +kernel
theorem dRawMessage_mk_120 : decode prog_12_method_1_code 120 = .ok (.invokestatic 17, 3) := by decide +kernel
theorem dRawMessage_mk_144 : decode prog_12_method_1_code 144 = .ok (.iload 7, 2) := by decide +kernel
theorem dRawMessage_mk_146 : decode prog_12_method_1_code 146 = .ok (.istore 10, 2) := by decide +kernel
theorem dRawMessage_mk_148 : decode prog_12_method_1_code 148 = .ok (.iload 10, 2) := by decide +kernel
theorem dRawMessage_mk_150 : decode prog_12_method_1_code 150 = .ok (.iload 9, 2) := by decide +kernel
theorem dRawMessage_mk_152 : decode prog_12_method_1_code 152 = .ok (.if_icmp .ge 36, 3) := by decide +kernel
theorem dRawMessage_mk_155 : decode prog_12_method_1_code 155 = .ok (.aload_n 1, 1) := by decide +kernel
theorem dRawMessage_mk_156 : decode prog_12_method_1_code 156 = .ok (.iload 10, 2) := by decide +kernel
theorem dRawMessage_mk_158 : decode prog_12_method_1_code 158 = .ok (.baload, 1) := by decide +kernel
theorem dRawMessage_mk_159 : decode prog_12_method_1_code 159 = .ok (.bipush 58, 2) := by decide +kernel
theorem dRawMessage_mk_161 : decode prog_12_method_1_code 161 = .ok (.if_icmp .eq 27, 3) := by decide +kernel
theorem dRawMessage_mk_164 : decode prog_12_method_1_code 164 = .ok (.aload_n 1, 1) := by decide +kernel
theorem dRawMessage_mk_165 : decode prog_12_method_1_code 165 = .ok (.iload 10, 2) := by decide +kernel
theorem dRawMessage_mk_167 : decode prog_12_method_1_code 167 = .ok (.baload, 1) := by decide +kernel
theorem dRawMessage_mk_168 : decode prog_12_method_1_code 168 = .ok (.bipush 32, 2) := by decide +kernel
theorem dRawMessage_mk_170 : decode prog_12_method_1_code 170 = .ok (.if_icmp .eq 18, 3) := by decide +kernel
theorem dRawMessage_mk_173 : decode prog_12_method_1_code 173 = .ok (.aload_n 1, 1) := by decide +kernel
theorem dRawMessage_mk_174 : decode prog_12_method_1_code 174 = .ok (.iload 10, 2) := by decide +kernel
theorem dRawMessage_mk_176 : decode prog_12_method_1_code 176 = .ok (.baload, 1) := by decide +kernel
theorem dRawMessage_mk_177 : decode prog_12_method_1_code 177 = .ok (.bipush 9, 2) := by decide +kernel
theorem dRawMessage_mk_179 : decode prog_12_method_1_code 179 = .ok (.if_icmp .eq 9, 3) := by decide +kernel
theorem dRawMessage_mk_182 : decode prog_12_method_1_code 182 = .ok (.iinc 10 1, 3) := by decide +kernel
theorem dRawMessage_mk_185 : decode prog_12_method_1_code 185 = .ok (.goto (-37), 3) := by decide +kernel
theorem dRawMessage_mk_188 : decode prog_12_method_1_code 188 = .ok (.aload_n 2, 1) := by decide +kernel
theorem dRawMessage_mk_189 : decode prog_12_method_1_code 189 = .ok (.iload 5, 2) := by decide +kernel
theorem dRawMessage_mk_191 : decode prog_12_method_1_code 191 = .ok (.iload 7, 2) := by decide +kernel
theorem dRawMessage_mk_193 : decode prog_12_method_1_code 193 = .ok (.iastore, 1) := by decide +kernel
theorem dRawMessage_mk_194 : decode prog_12_method_1_code 194 = .ok (.aload_n 3, 1) := by decide +kernel
theorem dRawMessage_mk_195 : decode prog_12_method_1_code 195 = .ok (.iload 5, 2) := by decide +kernel
theorem dRawMessage_mk_197 : decode prog_12_method_1_code 197 = .ok (.iload 9, 2) := by decide +kernel
theorem dRawMessage_mk_199 : decode prog_12_method_1_code 199 = .ok (.iastore, 1) := by decide +kernel
theorem dRawMessage_mk_200 : decode prog_12_method_1_code 200 = .ok (.aload 4, 2) := by decide +kernel
theorem dRawMessage_mk_202 : decode prog_12_method_1_code 202 = .ok (.iload 5, 2) := by decide +kernel
theorem dRawMessage_mk_204 : decode prog_12_method_1_code 204 = .ok (.iload 10, 2) := by decide +kernel
theorem dRawMessage_mk_206 : decode prog_12_method_1_code 206 = .ok (.iload 7, 2) := by decide +kernel
theorem dRawMessage_mk_208 : decode prog_12_method_1_code 208 = .ok (.isub, 1) := by decide +kernel
theorem dRawMessage_mk_209 : decode prog_12_method_1_code 209 = .ok (.iastore, 1) := by decide +kernel
theorem dRawMessage_mk_210 : decode prog_12_method_1_code 210 = .ok (.iinc 5 1, 3) := by decide +kernel
theorem dRawMessage_mk_213 : decode prog_12_method_1_code 213 = .ok (.iload 9, 2) := by decide +kernel
theorem dRawMessage_mk_215 : decode prog_12_method_1_code 215 = .ok (.iconst 1, 1) := by decide +kernel
theorem dRawMessage_mk_216 : decode prog_12_method_1_code 216 = .ok (.iadd, 1) := by decide +kernel
theorem dRawMessage_mk_217 : decode prog_12_method_1_code 217 = .ok (.istore 7, 2) := by decide +kernel
theorem dRawMessage_mk_219 : decode prog_12_method_1_code 219 = .ok (.goto (-185), 3) := by decide +kernel
theorem dRawMessage_mk_222 : decode prog_12_method_1_code 222 = .ok (.aload_n 0, 1) := by decide +kernel
theorem dRawMessage_mk_223 : decode prog_12_method_1_code 223 = .ok (.aload_n 2, 1) := by decide +kernel
theorem dRawMessage_mk_224 : decode prog_12_method_1_code 224 = .ok (.putfield 23, 3) := by decide +kernel
theorem dRawMessage_mk_227 : decode prog_12_method_1_code 227 = .ok (.aload_n 0, 1) := by decide +kernel
theorem dRawMessage_mk_228 : decode prog_12_method_1_code 228 = .ok (.aload_n 3, 1) := by decide +kernel
theorem dRawMessage_mk_229 : decode prog_12_method_1_code 229 = .ok (.putfield 27, 3) := by decide +kernel
theorem dRawMessage_mk_232 : decode prog_12_method_1_code 232 = .ok (.aload_n 0, 1) := by decide +kernel
theorem dRawMessage_mk_233 : decode prog_12_method_1_code 233 = .ok (.aload 4, 2) := by decide +kernel
theorem dRawMessage_mk_235 : decode prog_12_method_1_code 235 = .ok (.putfield 30, 3) := by decide +kernel
theorem dRawMessage_mk_238 : decode prog_12_method_1_code 238 = .ok (.aload_n 0, 1) := by decide +kernel
theorem dRawMessage_mk_239 : decode prog_12_method_1_code 239 = .ok (.iload 5, 2) := by decide +kernel
theorem dRawMessage_mk_241 : decode prog_12_method_1_code 241 = .ok (.putfield 33, 3) := by decide +kernel
theorem dRawMessage_mk_244 : decode prog_12_method_1_code 244 = .ok (.aload_n 0, 1) := by decide +kernel
theorem dRawMessage_mk_245 : decode prog_12_method_1_code 245 = .ok (.iload 6, 2) := by decide +kernel
theorem dRawMessage_mk_247 : decode prog_12_method_1_code 247 = .ok (.putfield 37, 3) := by decide +kernel
theorem dRawMessage_mk_250 : decode prog_12_method_1_code 250 = .ok (.return_, 1) := by decide +kernel
theorem dRawMessage_indexOf_0 : decode prog_12_method_17_code 0 = .ok (.iload_n 2, 1) := by decide +kernel
theorem dRawMessage_indexOf_1 : decode prog_12_method_17_code 1 = .ok (.istore_n 3, 1) := by decide +kernel
theorem dRawMessage_indexOf_2 : decode prog_12_method_17_code 2 = .ok (.iload_n 3, 1) := by decide +kernel
theorem dRawMessage_indexOf_3 : decode prog_12_method_17_code 3 = .ok (.aload_n 0, 1) := by decide +kernel
theorem dRawMessage_indexOf_4 : decode prog_12_method_17_code 4 = .ok (.getfield 7, 3) := by decide +kernel
theorem dRawMessage_indexOf_7 : decode prog_12_method_17_code 7 = .ok (.arraylength, 1) := by decide +kernel
theorem dRawMessage_indexOf_8 : decode prog_12_method_17_code 8 = .ok (.if_icmp .ge 21, 3) := by decide +kernel
theorem dRawMessage_indexOf_11 : decode prog_12_method_17_code 11 = .ok (.aload_n 0, 1) := by decide +kernel
theorem dRawMessage_indexOf_12 : decode prog_12_method_17_code 12 = .ok (.getfield 7, 3) := by decide +kernel
theorem dRawMessage_indexOf_15 : decode prog_12_method_17_code 15 = .ok (.iload_n 3, 1) := by decide +kernel
theorem dRawMessage_indexOf_16 : decode prog_12_method_17_code 16 = .ok (.baload, 1) := by decide +kernel
theorem dRawMessage_indexOf_17 : decode prog_12_method_17_code 17 = .ok (.iload_n 1, 1) := by decide +kernel
theorem dRawMessage_indexOf_18 : decode prog_12_method_17_code 18 = .ok (.if_icmp .ne 5, 3) := by decide +kernel
theorem dRawMessage_indexOf_21 : decode prog_12_method_17_code 21 = .ok (.iload_n 3, 1) := by decide +kernel
theorem dRawMessage_indexOf_22 : decode prog_12_method_17_code 22 = .ok (.ireturn, 1) := by decide +kernel
theorem dRawMessage_indexOf_23 : decode prog_12_method_17_code 23 = .ok (.iinc 3 1, 3) := by decide +kernel
theorem dRawMessage_indexOf_26 : decode prog_12_method_17_code 26 = .ok (.goto (-24), 3) := by decide +kernel
theorem dRawMessage_indexOf_29 : decode prog_12_method_17_code 29 = .ok (.iconst (-1), 1) := by decide +kernel
theorem dRawMessage_indexOf_30 : decode prog_12_method_17_code 30 = .ok (.ireturn, 1) := by decide +kernel
theorem dRawMessage_isPlain_0 : decode prog_12_method_4_code 0 = .ok (.aload_n 0, 1) := by decide +kernel
theorem dRawMessage_isPlain_1 : decode prog_12_method_4_code 1 = .ok (.getfield 37, 3) := by decide +kernel
theorem dRawMessage_isPlain_4 : decode prog_12_method_4_code 4 = .ok (.ifCond .ge 5, 3) := by decide +kernel
theorem dRawMessage_isPlain_7 : decode prog_12_method_4_code 7 = .ok (.iconst 0, 1) := by decide +kernel
theorem dRawMessage_isPlain_8 : decode prog_12_method_4_code 8 = .ok (.ireturn, 1) := by decide +kernel
theorem dRawMessage_isPlain_9 : decode prog_12_method_4_code 9 = .ok (.iconst 0, 1) := by decide +kernel
theorem dRawMessage_isPlain_10 : decode prog_12_method_4_code 10 = .ok (.istore_n 1, 1) := by decide +kernel
theorem dRawMessage_isPlain_11 : decode prog_12_method_4_code 11 = .ok (.iload_n 1, 1) := by decide +kernel
theorem dRawMessage_isPlain_12 : decode prog_12_method_4_code 12 = .ok (.aload_n 0, 1) := by decide +kernel
theorem dRawMessage_isPlain_13 : decode prog_12_method_4_code 13 = .ok (.getfield 33, 3) := by decide +kernel
theorem dRawMessage_isPlain_16 : decode prog_12_method_4_code 16 = .ok (.if_icmp .ge 163, 3) := by decide +kernel
theorem dRawMessage_isPlain_19 : decode prog_12_method_4_code 19 = .ok (.aload_n 0, 1) := by decide +kernel
theorem dRawMessage_isPlain_20 : decode prog_12_method_4_code 20 = .ok (.getfield 23, 3) := by decide +kernel
theorem dRawMessage_isPlain_23 : decode prog_12_method_4_code 23 = .ok (.iload_n 1, 1) := by decide +kernel
theorem dRawMessage_isPlain_24 : decode prog_12_method_4_code 24 = .ok (.iaload, 1) := by decide +kernel
theorem dRawMessage_isPlain_25 : decode prog_12_method_4_code 25 = .ok (.istore_n 2, 1) := by decide +kernel
theorem dRawMessage_isPlain_26 : decode prog_12_method_4_code 26 = .ok (.aload_n 0, 1) := by decide +kernel
theorem dRawMessage_isPlain_27 : decode prog_12_method_4_code 27 = .ok (.getfield 7, 3) := by decide +kernel
theorem dRawMessage_isPlain_30 : decode prog_12_method_4_code 30 = .ok (.aload_n 0, 1) := by decide +kernel
theorem dRawMessage_isPlain_31 : decode prog_12_method_4_code 31 = .ok (.getfield 27, 3) := by decide +kernel
theorem dRawMessage_isPlain_34 : decode prog_12_method_4_code 34 = .ok (.iload_n 1, 1) := by decide +kernel
theorem dRawMessage_isPlain_35 : decode prog_12_method_4_code 35 = .ok (.iaload, 1) := by decide +kernel
theorem dRawMessage_isPlain_36 : decode prog_12_method_4_code 36 = .ok (.iconst 1, 1) := by decide +kernel
theorem dRawMessage_isPlain_37 : decode prog_12_method_4_code 37 = .ok (.isub, 1) := by decide +kernel
theorem dRawMessage_isPlain_38 : decode prog_12_method_4_code 38 = .ok (.baload, 1) := by decide +kernel
theorem dRawMessage_isPlain_39 : decode prog_12_method_4_code 39 = .ok (.bipush 13, 2) := by decide +kernel
theorem dRawMessage_isPlain_41 : decode prog_12_method_4_code 41 = .ok (.if_icmp .ne 14, 3) := by decide +kernel
theorem dRawMessage_isPlain_44 : decode prog_12_method_4_code 44 = .ok (.aload_n 0, 1) := by decide +kernel
theorem dRawMessage_isPlain_45 : decode prog_12_method_4_code 45 = .ok (.getfield 27, 3) := by decide +kernel
theorem dRawMessage_isPlain_48 : decode prog_12_method_4_code 48 = .ok (.iload_n 1, 1) := by decide +kernel
theorem dRawMessage_isPlain_49 : decode prog_12_method_4_code 49 = .ok (.iaload, 1) := by decide +kernel
theorem dRawMessage_isPlain_50 : decode prog_12_method_4_code 50 = .ok (.iconst 1, 1) := by decide +kernel
theorem dRawMessage_isPlain_51 : decode prog_12_method_4_code 51 = .ok (.isub, 1) := by decide +kernel
theorem dRawMessage_isPlain_52 : decode prog_12_method_4_code 52 = .ok (.goto 9, 3) := by decide +kernel
theorem dRawMessage_isPlain_55 : decode prog_12_method_4_code 55 = .ok (.aload_n 0, 1) := by decide +kernel
theorem dRawMessage_isPlain_56 : decode prog_12_method_4_code 56 = .ok (.getfield 27, 3) := by decide +kernel
theorem dRawMessage_isPlain_59 : decode prog_12_method_4_code 59 = .ok (.iload_n 1, 1) := by decide +kernel
theorem dRawMessage_isPlain_60 : decode prog_12_method_4_code 60 = .ok (.iaload, 1) := by decide +kernel
theorem dRawMessage_isPlain_61 : decode prog_12_method_4_code 61 = .ok (.istore_n 3, 1) := by decide +kernel
theorem dRawMessage_isPlain_62 : decode prog_12_method_4_code 62 = .ok (.aload_n 0, 1) := by decide +kernel
theorem dRawMessage_isPlain_63 : decode prog_12_method_4_code 63 = .ok (.bipush 58, 2) := by decide +kernel
theorem dRawMessage_isPlain_65 : decode prog_12_method_4_code 65 = .ok (.iload_n 2, 1) := by decide +kernel
theorem dRawMessage_isPlain_66 : decode prog_12_method_4_code 66 = .ok (.invokevirtual 13, 3) := by decide +kernel
theorem dRawMessage_isPlain_69 : decode prog_12_method_4_code 69 = .ok (.istore 4, 2) := by decide +kernel
theorem dRawMessage_isPlain_71 : decode prog_12_method_4_code 71 = .ok (.iload_n 1, 1) := by decide +kernel
theorem dRawMessage_isPlain_72 : decode prog_12_method_4_code 72 = .ok (.ifCond .le 38, 3) := by decide +kernel
theorem dRawMessage_isPlain_75 : decode prog_12_method_4_code 75 = .ok (.aload_n 0, 1) := by decide +kernel
theorem dRawMessage_isPlain_76 : decode prog_12_method_4_code 76 = .ok (.getfield 7, 3) := by decide +kernel
theorem dRawMessage_isPlain_79 : decode prog_12_method_4_code 79 = .ok (.iload_n 2, 1) := by decide +kernel
theorem dRawMessage_isPlain_80 : decode prog_12_method_4_code 80 = .ok (.baload, 1) := by decide +kernel
theorem dRawMessage_isPlain_81 : decode prog_12_method_4_code 81 = .ok (.bipush 32, 2) := by decide +kernel
theorem dRawMessage_isPlain_83 : decode prog_12_method_4_code 83 = .ok (.if_icmp .eq 25, 3) := by decide +kernel
theorem dRawMessage_isPlain_86 : decode prog_12_method_4_code 86 = .ok (.aload_n 0, 1) := by decide +kernel
theorem dRawMessage_isPlain_87 : decode prog_12_method_4_code 87 = .ok (.getfield 7, 3) := by decide +kernel
theorem dRawMessage_isPlain_90 : decode prog_12_method_4_code 90 = .ok (.iload_n 2, 1) := by decide +kernel
theorem dRawMessage_isPlain_91 : decode prog_12_method_4_code 91 = .ok (.baload, 1) := by decide +kernel
theorem dRawMessage_isPlain_92 : decode prog_12_method_4_code 92 = .ok (.bipush 9, 2) := by decide +kernel
theorem dRawMessage_isPlain_94 : decode prog_12_method_4_code 94 = .ok (.if_icmp .eq 14, 3) := by decide +kernel
theorem dRawMessage_isPlain_97 : decode prog_12_method_4_code 97 = .ok (.iload 4, 2) := by decide +kernel
theorem dRawMessage_isPlain_99 : decode prog_12_method_4_code 99 = .ok (.ifCond .lt 9, 3) := by decide +kernel
theorem dRawMessage_isPlain_102 : decode prog_12_method_4_code 102 = .ok (.iload 4, 2) := by decide +kernel
theorem dRawMessage_isPlain_104 : decode prog_12_method_4_code 104 = .ok (.iload_n 3, 1) := by decide +kernel
theorem dRawMessage_isPlain_105 : decode prog_12_method_4_code 105 = .ok (.if_icmp .lt 5, 3) := by decide +kernel
theorem dRawMessage_isPlain_108 : decode prog_12_method_4_code 108 = .ok (.iconst 0, 1) := by decide +kernel
theorem dRawMessage_isPlain_109 : decode prog_12_method_4_code 109 = .ok (.ireturn, 1) := by decide +kernel
theorem dRawMessage_isPlain_110 : decode prog_12_method_4_code 110 = .ok (.iload_n 2, 1) := by decide +kernel
theorem dRawMessage_isPlain_111 : decode prog_12_method_4_code 111 = .ok (.istore 5, 2) := by decide +kernel
theorem dRawMessage_isPlain_113 : decode prog_12_method_4_code 113 = .ok (.iload 5, 2) := by decide +kernel
theorem dRawMessage_isPlain_115 : decode prog_12_method_4_code 115 = .ok (.iload_n 3, 1) := by decide +kernel
theorem dRawMessage_isPlain_116 : decode prog_12_method_4_code 116 = .ok (.if_icmp .ge 57, 3) := by decide +kernel
theorem dRawMessage_isPlain_119 : decode prog_12_method_4_code 119 = .ok (.aload_n 0, 1) := by decide +kernel
theorem dRawMessage_isPlain_120 : decode prog_12_method_4_code 120 = .ok (.getfield 7, 3) := by decide +kernel
theorem dRawMessage_isPlain_123 : decode prog_12_method_4_code 123 = .ok (.iload 5, 2) := by decide +kernel
theorem dRawMessage_isPlain_125 : decode prog_12_method_4_code 125 = .ok (.baload, 1) := by decide +kernel
theorem dRawMessage_isPlain_126 : decode prog_12_method_4_code 126 = .ok (.bipush 32, 2) := by decide +kernel
theorem dRawMessage_isPlain_128 : decode prog_12_method_4_code 128 = .ok (.if_icmp .ge 25, 3) := by decide +kernel
theorem dRawMessage_isPlain_131 : decode prog_12_method_4_code 131 = .ok (.aload_n 0, 1) := by decide +kernel
theorem dRawMessage_isPlain_132 : decode prog_12_method_4_code 132 = .ok (.getfield 7, 3) := by decide +kernel
theorem dRawMessage_isPlain_135 : decode prog_12_method_4_code 135 = .ok (.iload 5, 2) := by decide +kernel
theorem dRawMessage_isPlain_137 : decode prog_12_method_4_code 137 = .ok (.baload, 1) := by decide +kernel
theorem dRawMessage_isPlain_138 : decode prog_12_method_4_code 138 = .ok (.bipush 9, 2) := by decide +kernel
theorem dRawMessage_isPlain_140 : decode prog_12_method_4_code 140 = .ok (.if_icmp .eq 13, 3) := by decide +kernel
theorem dRawMessage_isPlain_143 : decode prog_12_method_4_code 143 = .ok (.aload_n 0, 1) := by decide +kernel
theorem dRawMessage_isPlain_144 : decode prog_12_method_4_code 144 = .ok (.getfield 7, 3) := by decide +kernel
theorem dRawMessage_isPlain_147 : decode prog_12_method_4_code 147 = .ok (.iload 5, 2) := by decide +kernel
theorem dRawMessage_isPlain_149 : decode prog_12_method_4_code 149 = .ok (.baload, 1) := by decide +kernel
theorem dRawMessage_isPlain_150 : decode prog_12_method_4_code 150 = .ok (.ifCond .ge 15, 3) := by decide +kernel
theorem dRawMessage_isPlain_153 : decode prog_12_method_4_code 153 = .ok (.aload_n 0, 1) := by decide +kernel
theorem dRawMessage_isPlain_154 : decode prog_12_method_4_code 154 = .ok (.getfield 7, 3) := by decide +kernel
theorem dRawMessage_isPlain_157 : decode prog_12_method_4_code 157 = .ok (.iload 5, 2) := by decide +kernel
theorem dRawMessage_isPlain_159 : decode prog_12_method_4_code 159 = .ok (.baload, 1) := by decide +kernel
theorem dRawMessage_isPlain_160 : decode prog_12_method_4_code 160 = .ok (.bipush 127, 2) := by decide +kernel
theorem dRawMessage_isPlain_162 : decode prog_12_method_4_code 162 = .ok (.if_icmp .ne 5, 3) := by decide +kernel
theorem dRawMessage_isPlain_165 : decode prog_12_method_4_code 165 = .ok (.iconst 0, 1) := by decide +kernel
theorem dRawMessage_isPlain_166 : decode prog_12_method_4_code 166 = .ok (.ireturn, 1) := by decide +kernel
theorem dRawMessage_isPlain_167 : decode prog_12_method_4_code 167 = .ok (.iinc 5 1, 3) := by decide +kernel
theorem dRawMessage_isPlain_170 : decode prog_12_method_4_code 170 = .ok (.goto (-57), 3) := by decide +kernel
theorem dRawMessage_isPlain_173 : decode prog_12_method_4_code 173 = .ok (.iinc 1 1, 3) := by decide +kernel
theorem dRawMessage_isPlain_176 : decode prog_12_method_4_code 176 = .ok (.goto (-165), 3) := by decide +kernel
theorem dRawMessage_isPlain_179 : decode prog_12_method_4_code 179 = .ok (.iconst 1, 1) := by decide +kernel
theorem dRawMessage_isPlain_180 : decode prog_12_method_4_code 180 = .ok (.ireturn, 1) := by decide +kernel
/-! com/example/oxpecker/oxpecker/sip/RawMessageIsPlainPinLaw.pick:(JI)B -/
def f_RawMessageIsPlainPinLaw_pick (v0 : Int64) (v2 : Int32) : Option (Int32) :=
  own_lt ((((v0.toUInt64 >>> (((8 : Int32) * v2) &&& 0x3f).toInt64.toUInt64).toInt64) &&& (255 : Int64)).toInt32) fun x12 =>
  own_lt (x12 &&& (7 : Int32)) fun x13 =>
  own_lt ((x12.toUInt32 >>> ((3 : Int32) &&& 31).toUInt32).toInt32) fun x14 =>
  if x13 = (0 : Int32) then
    some (10 : Int32)
  else
    if x13 = (1 : Int32) then
      some (13 : Int32)
    else
      if x13 = (2 : Int32) then
        some (58 : Int32)
      else
        if x13 = (3 : Int32) then
          some (32 : Int32)
        else
          if x13 = (4 : Int32) then
            some (9 : Int32)
          else
            if x13 = (5 : Int32) then
              some ((((33 : Int32) + x14).toInt8.toInt32).toInt8.toInt32)
            else
              if x13 = (6 : Int32) then
                some ((x14.toInt8.toInt32).toInt8.toInt32)
              else
                some ((((112 : Int32) + x14).toInt8.toInt32).toInt8.toInt32)
def Q_RawMessageIsPlainPinLaw_pick (Z : State) (hE : Heap) (n0 : Nat)  (r : Int32) (v : Option Value) (h : Heap) (L : List Loc) : Prop := v = some (.int r) ∧ Fr n0 L ∧ h = hE
def Cx_RawMessageIsPlainPinLaw_pick (p : Program) (s : State) (m : MethodId) (meth : Method) (c : Code) (Z : State) (a0 : Array Value) : Prop := p.tables.exec = Jvm.exec ∧ Z.Warmed39 s.vm ∧ (∀ d ∈ tables_1, d.before a0 Z = true) ∧ c.code = method_3_code ∧ c.maxLocals = 6 ∧ s.vm.findClass "com/example/oxpecker/oxpecker/sip/RawMessageIsPlainPinLaw" = some m.cls ∧ meth.sig.returnType = some .byte ∧ meth.locks = false ∧ meth.name = "pick"
set_option maxRecDepth 65536 in
set_option maxHeartbeats 4000000 in
theorem b_RawMessageIsPlainPinLaw_pick {p : Program} {l : Launch} {e : Env} {s : State} {m : MethodId} {args : Array Value} {below : List Frame} {meth : Method} {c : Code} {Z : State} {a0 : Array Value} {n0 : Nat} {hE : Heap} (cx : Cx_RawMessageIsPlainPinLaw_pick p s m meth c Z a0) :
    ∀ {T : State} {locs : List Loc} (X : Stand p l e ({ frames := 0, cells := 0, slots := 0, locals := 0 } : Room) s m args below meth c T locs 0 0) (eT : T.heap = hE) (N : Fr n0 locs) (z : n0 ≤ hE.size) (v0 : Int64) (v2 : Int32) (r : Int32), f_RawMessageIsPlainPinLaw_pick v0 v2 = some r → own_Goes p e below s (Q_RawMessageIsPlainPinLaw_pick Z hE n0 r) 0 0 (T.setTop (mkF m 0 #[.val (.long v0), .second, .val (.int v2), .unset, .unset, .unset] [])) := by
  have cx' := cx
  obtain ⟨hx, hZ, hw, hby, hml, hown, hret, hlk, hnm⟩ := cx'
  intro T locs X eT N z v0 v2 r hF
  unfold f_RawMessageIsPlainPinLaw_pick at hF
  refine own_Goes.via (B := T.setTop (mkF m 11 #[.val (.long v0), .second, .val (.int v2), .unset, .unset, .unset] [(.int ((((v0.toUInt64 >>> (((8 : Int32) * v2) &&& 0x3f).toInt64.toUInt64).toInt64) &&& (255 : Int64)).toInt32))])) (fun t k => ?_) ?_
  · show Steps p.tables e below (T.setTop (mkF m 0 #[.val (.long v0), .second, .val (.int v2), .unset, .unset, .unset] [])) t
    refine XS.lloadN X.here hx rfl (hb hby dRawMessageIsPlainPinLaw_pick_0) rfl ?_
    show Steps p.tables e below (T.setTop (mkF m 1 #[.val (.long v0), .second, .val (.int v2), .unset, .unset, .unset] [(.long v0)])) t
    refine XS.bipush X.here hx rfl (hb hby dRawMessageIsPlainPinLaw_pick_1) ?_
    show Steps p.tables e below (T.setTop (mkF m 3 #[.val (.long v0), .second, .val (.int v2), .unset, .unset, .unset] [(.int (8 : Int32)), (.long v0)])) t
    refine XS.iloadN X.here hx rfl (hb hby dRawMessageIsPlainPinLaw_pick_3) rfl ?_
    show Steps p.tables e below (T.setTop (mkF m 4 #[.val (.long v0), .second, .val (.int v2), .unset, .unset, .unset] [(.int v2), (.int (8 : Int32)), (.long v0)])) t
    refine XS.imul X.here hx rfl (hb hby dRawMessageIsPlainPinLaw_pick_4) rfl ?_
    show Steps p.tables e below (T.setTop (mkF m 5 #[.val (.long v0), .second, .val (.int v2), .unset, .unset, .unset] [(.int ((8 : Int32) * v2)), (.long v0)])) t
    refine XS.lushr X.here hx rfl (hb hby dRawMessageIsPlainPinLaw_pick_5) rfl ?_
    show Steps p.tables e below (T.setTop (mkF m 6 #[.val (.long v0), .second, .val (.int v2), .unset, .unset, .unset] [(.long ((v0.toUInt64 >>> (((8 : Int32) * v2) &&& 0x3f).toInt64.toUInt64).toInt64))])) t
    refine X.ldc2Long hx hown (mvT hZ (w6 hw)) (g := (mkF m 6 #[.val (.long v0), .second, .val (.int v2), .unset, .unset, .unset] [(.long ((v0.toUInt64 >>> (((8 : Int32) * v2) &&& 0x3f).toInt64.toUInt64).toInt64))])) rfl (hb hby dRawMessageIsPlainPinLaw_pick_6) _ ?_
    show Steps p.tables e below (T.setTop (mkF m 9 #[.val (.long v0), .second, .val (.int v2), .unset, .unset, .unset] [(.long (255 : Int64)), (.long ((v0.toUInt64 >>> (((8 : Int32) * v2) &&& 0x3f).toInt64.toUInt64).toInt64))])) t
    refine XS.land X.here hx rfl (hb hby dRawMessageIsPlainPinLaw_pick_9) rfl ?_
    show Steps p.tables e below (T.setTop (mkF m 10 #[.val (.long v0), .second, .val (.int v2), .unset, .unset, .unset] [(.long (((v0.toUInt64 >>> (((8 : Int32) * v2) &&& 0x3f).toInt64.toUInt64).toInt64) &&& (255 : Int64)))])) t
    refine XS.l2i X.here hx rfl (hb hby dRawMessageIsPlainPinLaw_pick_10) rfl ?_
    exact k
  obtain ⟨x12, hx12, hF⟩ := own_lt_e hF
  rw [← hx12]
  refine own_Goes.via (B := T.setTop (mkF m 16 #[.val (.long v0), .second, .val (.int v2), .val (.int x12), .unset, .unset] [(.int (x12 &&& (7 : Int32)))])) (fun t k => ?_) ?_
  · show Steps p.tables e below (T.setTop (mkF m 11 #[.val (.long v0), .second, .val (.int v2), .unset, .unset, .unset] [(.int x12)])) t
    refine XS.istoreN X.here hx rfl (hb hby dRawMessageIsPlainPinLaw_pick_11) rfl (l' := #[.val (.long v0), .second, .val (.int v2), .val (.int x12), .unset, .unset]) rfl ?_
    show Steps p.tables e below (T.setTop (mkF m 12 #[.val (.long v0), .second, .val (.int v2), .val (.int x12), .unset, .unset] [])) t
    refine XS.iloadN X.here hx rfl (hb hby dRawMessageIsPlainPinLaw_pick_12) rfl ?_
    show Steps p.tables e below (T.setTop (mkF m 13 #[.val (.long v0), .second, .val (.int v2), .val (.int x12), .unset, .unset] [(.int x12)])) t
    refine XS.bipush X.here hx rfl (hb hby dRawMessageIsPlainPinLaw_pick_13) ?_
    show Steps p.tables e below (T.setTop (mkF m 15 #[.val (.long v0), .second, .val (.int v2), .val (.int x12), .unset, .unset] [(.int (7 : Int32)), (.int x12)])) t
    refine XS.iand X.here hx rfl (hb hby dRawMessageIsPlainPinLaw_pick_15) rfl ?_
    exact k
  obtain ⟨x13, hx13, hF⟩ := own_lt_e hF
  rw [← hx13]
  refine own_Goes.via (B := T.setTop (mkF m 21 #[.val (.long v0), .second, .val (.int v2), .val (.int x12), .val (.int x13), .unset] [(.int ((x12.toUInt32 >>> ((3 : Int32) &&& 31).toUInt32).toInt32))])) (fun t k => ?_) ?_
  · show Steps p.tables e below (T.setTop (mkF m 16 #[.val (.long v0), .second, .val (.int v2), .val (.int x12), .unset, .unset] [(.int x13)])) t
    refine XS.istore X.here hx rfl (hb hby dRawMessageIsPlainPinLaw_pick_16) rfl (l' := #[.val (.long v0), .second, .val (.int v2), .val (.int x12), .val (.int x13), .unset]) rfl ?_
    show Steps p.tables e below (T.setTop (mkF m 18 #[.val (.long v0), .second, .val (.int v2), .val (.int x12), .val (.int x13), .unset] [])) t
    refine XS.iloadN X.here hx rfl (hb hby dRawMessageIsPlainPinLaw_pick_18) rfl ?_
    show Steps p.tables e below (T.setTop (mkF m 19 #[.val (.long v0), .second, .val (.int v2), .val (.int x12), .val (.int x13), .unset] [(.int x12)])) t
    refine XS.iconst X.here hx rfl (hb hby dRawMessageIsPlainPinLaw_pick_19) ?_
    show Steps p.tables e below (T.setTop (mkF m 20 #[.val (.long v0), .second, .val (.int v2), .val (.int x12), .val (.int x13), .unset] [(.int (3 : Int32)), (.int x12)])) t
    refine XS.iushr X.here hx rfl (hb hby dRawMessageIsPlainPinLaw_pick_20) rfl ?_
    exact k
  obtain ⟨x14, hx14, hF⟩ := own_lt_e hF
  rw [← hx14]
  refine own_Goes.via (B := T.setTop (mkF m 25 #[.val (.long v0), .second, .val (.int v2), .val (.int x12), .val (.int x13), .val (.int x14)] [(.int x13)])) (fun t k => ?_) ?_
  · show Steps p.tables e below (T.setTop (mkF m 21 #[.val (.long v0), .second, .val (.int v2), .val (.int x12), .val (.int x13), .unset] [(.int x14)])) t
    refine XS.istore X.here hx rfl (hb hby dRawMessageIsPlainPinLaw_pick_21) rfl (l' := #[.val (.long v0), .second, .val (.int v2), .val (.int x12), .val (.int x13), .val (.int x14)]) rfl ?_
    show Steps p.tables e below (T.setTop (mkF m 23 #[.val (.long v0), .second, .val (.int v2), .val (.int x12), .val (.int x13), .val (.int x14)] [])) t
    refine XS.iload X.here hx rfl (hb hby dRawMessageIsPlainPinLaw_pick_23) rfl ?_
    exact k
  by_cases hc25 : x13 = (0 : Int32)
  · rw [if_pos hc25] at hF
    refine own_Goes.via (B := T.setTop (mkF m 30 #[.val (.long v0), .second, .val (.int v2), .val (.int x12), .val (.int x13), .val (.int x14)] [(.int (10 : Int32))])) (fun t k => ?_) ?_
    · show Steps p.tables e below (T.setTop (mkF m 25 #[.val (.long v0), .second, .val (.int v2), .val (.int x12), .val (.int x13), .val (.int x14)] [(.int x13)])) t
      refine XS.ifNo X.here hx rfl (hb hby dRawMessageIsPlainPinLaw_pick_25) rfl ((if0 _ _).trans (teq hc25).2) ?_
      show Steps p.tables e below (T.setTop (mkF m 28 #[.val (.long v0), .second, .val (.int v2), .val (.int x12), .val (.int x13), .val (.int x14)] [])) t
      refine XS.bipush X.here hx rfl (hb hby dRawMessageIsPlainPinLaw_pick_28) ?_
      exact k
    obtain rfl : (10 : Int32) = r := Option.some.inj hF
    exact own_retN X hx (t := .byte) hret hlk (by simp) (hb hby dRawMessageIsPlainPinLaw_pick_30) eT (v := (10 : Int32)) (by decide) ⟨rfl, N, rfl⟩ (by decide) (by decide)
  · rw [if_neg hc25] at hF
    refine own_Goes.via (B := T.setTop (mkF m 34 #[.val (.long v0), .second, .val (.int v2), .val (.int x12), .val (.int x13), .val (.int x14)] [(.int (1 : Int32)), (.int x13)])) (fun t k => ?_) ?_
    · show Steps p.tables e below (T.setTop (mkF m 25 #[.val (.long v0), .second, .val (.int v2), .val (.int x12), .val (.int x13), .val (.int x14)] [(.int x13)])) t
      refine XS.ifYes X.here hx rfl (pc0 := 25) (pc' := 31) rfl (hb hby dRawMessageIsPlainPinLaw_pick_25) rfl ((if0 _ _).trans (feq hc25).2) (by decide) (by decide) ?_
      show Steps p.tables e below (T.setTop (mkF m 31 #[.val (.long v0), .second, .val (.int v2), .val (.int x12), .val (.int x13), .val (.int x14)] [])) t
      refine XS.iload X.here hx rfl (hb hby dRawMessageIsPlainPinLaw_pick_31) rfl ?_
      show Steps p.tables e below (T.setTop (mkF m 33 #[.val (.long v0), .second, .val (.int v2), .val (.int x12), .val (.int x13), .val (.int x14)] [(.int x13)])) t
      refine XS.iconst X.here hx rfl (hb hby dRawMessageIsPlainPinLaw_pick_33) ?_
      exact k
    by_cases hc34 : x13 = (1 : Int32)
    · rw [if_pos hc34] at hF
      refine own_Goes.via (B := T.setTop (mkF m 39 #[.val (.long v0), .second, .val (.int v2), .val (.int x12), .val (.int x13), .val (.int x14)] [(.int (13 : Int32))])) (fun t k => ?_) ?_
      · show Steps p.tables e below (T.setTop (mkF m 34 #[.val (.long v0), .second, .val (.int v2), .val (.int x12), .val (.int x13), .val (.int x14)] [(.int (1 : Int32)), (.int x13)])) t
        refine XS.icmpNo X.here hx rfl (hb hby dRawMessageIsPlainPinLaw_pick_34) rfl (teq hc34).2 ?_
        show Steps p.tables e below (T.setTop (mkF m 37 #[.val (.long v0), .second, .val (.int v2), .val (.int x12), .val (.int x13), .val (.int x14)] [])) t
        refine XS.bipush X.here hx rfl (hb hby dRawMessageIsPlainPinLaw_pick_37) ?_
        exact k
      obtain rfl : (13 : Int32) = r := Option.some.inj hF
      exact own_retN X hx (t := .byte) hret hlk (by simp) (hb hby dRawMessageIsPlainPinLaw_pick_39) eT (v := (13 : Int32)) (by decide) ⟨rfl, N, rfl⟩ (by decide) (by decide)
    · rw [if_neg hc34] at hF
      refine own_Goes.via (B := T.setTop (mkF m 43 #[.val (.long v0), .second, .val (.int v2), .val (.int x12), .val (.int x13), .val (.int x14)] [(.int (2 : Int32)), (.int x13)])) (fun t k => ?_) ?_
      · show Steps p.tables e below (T.setTop (mkF m 34 #[.val (.long v0), .second, .val (.int v2), .val (.int x12), .val (.int x13), .val (.int x14)] [(.int (1 : Int32)), (.int x13)])) t
        refine XS.icmpYes X.here hx rfl (pc0 := 34) (pc' := 40) rfl (hb hby dRawMessageIsPlainPinLaw_pick_34) rfl (feq hc34).2 (by decide) (by decide) ?_
        show Steps p.tables e below (T.setTop (mkF m 40 #[.val (.long v0), .second, .val (.int v2), .val (.int x12), .val (.int x13), .val (.int x14)] [])) t
        refine XS.iload X.here hx rfl (hb hby dRawMessageIsPlainPinLaw_pick_40) rfl ?_
        show Steps p.tables e below (T.setTop (mkF m 42 #[.val (.long v0), .second, .val (.int v2), .val (.int x12), .val (.int x13), .val (.int x14)] [(.int x13)])) t
        refine XS.iconst X.here hx rfl (hb hby dRawMessageIsPlainPinLaw_pick_42) ?_
        exact k
      by_cases hc43 : x13 = (2 : Int32)
      · rw [if_pos hc43] at hF
        refine own_Goes.via (B := T.setTop (mkF m 48 #[.val (.long v0), .second, .val (.int v2), .val (.int x12), .val (.int x13), .val (.int x14)] [(.int (58 : Int32))])) (fun t k => ?_) ?_
        · show Steps p.tables e below (T.setTop (mkF m 43 #[.val (.long v0), .second, .val (.int v2), .val (.int x12), .val (.int x13), .val (.int x14)] [(.int (2 : Int32)), (.int x13)])) t
          refine XS.icmpNo X.here hx rfl (hb hby dRawMessageIsPlainPinLaw_pick_43) rfl (teq hc43).2 ?_
          show Steps p.tables e below (T.setTop (mkF m 46 #[.val (.long v0), .second, .val (.int v2), .val (.int x12), .val (.int x13), .val (.int x14)] [])) t
          refine XS.bipush X.here hx rfl (hb hby dRawMessageIsPlainPinLaw_pick_46) ?_
          exact k
        obtain rfl : (58 : Int32) = r := Option.some.inj hF
        exact own_retN X hx (t := .byte) hret hlk (by simp) (hb hby dRawMessageIsPlainPinLaw_pick_48) eT (v := (58 : Int32)) (by decide) ⟨rfl, N, rfl⟩ (by decide) (by decide)
      · rw [if_neg hc43] at hF
        refine own_Goes.via (B := T.setTop (mkF m 52 #[.val (.long v0), .second, .val (.int v2), .val (.int x12), .val (.int x13), .val (.int x14)] [(.int (3 : Int32)), (.int x13)])) (fun t k => ?_) ?_
        · show Steps p.tables e below (T.setTop (mkF m 43 #[.val (.long v0), .second, .val (.int v2), .val (.int x12), .val (.int x13), .val (.int x14)] [(.int (2 : Int32)), (.int x13)])) t
          refine XS.icmpYes X.here hx rfl (pc0 := 43) (pc' := 49) rfl (hb hby dRawMessageIsPlainPinLaw_pick_43) rfl (feq hc43).2 (by decide) (by decide) ?_
          show Steps p.tables e below (T.setTop (mkF m 49 #[.val (.long v0), .second, .val (.int v2), .val (.int x12), .val (.int x13), .val (.int x14)] [])) t
          refine XS.iload X.here hx rfl (hb hby dRawMessageIsPlainPinLaw_pick_49) rfl ?_
          show Steps p.tables e below (T.setTop (mkF m 51 #[.val (.long v0), .second, .val (.int v2), .val (.int x12), .val (.int x13), .val (.int x14)] [(.int x13)])) t
          refine XS.iconst X.here hx rfl (hb hby dRawMessageIsPlainPinLaw_pick_51) ?_
          exact k
        by_cases hc52 : x13 = (3 : Int32)
        · rw [if_pos hc52] at hF
          refine own_Goes.via (B := T.setTop (mkF m 57 #[.val (.long v0), .second, .val (.int v2), .val (.int x12), .val (.int x13), .val (.int x14)] [(.int (32 : Int32))])) (fun t k => ?_) ?_
          · show Steps p.tables e below (T.setTop (mkF m 52 #[.val (.long v0), .second, .val (.int v2), .val (.int x12), .val (.int x13), .val (.int x14)] [(.int (3 : Int32)), (.int x13)])) t
            refine XS.icmpNo X.here hx rfl (hb hby dRawMessageIsPlainPinLaw_pick_52) rfl (teq hc52).2 ?_
            show Steps p.tables e below (T.setTop (mkF m 55 #[.val (.long v0), .second, .val (.int v2), .val (.int x12), .val (.int x13), .val (.int x14)] [])) t
            refine XS.bipush X.here hx rfl (hb hby dRawMessageIsPlainPinLaw_pick_55) ?_
            exact k
          obtain rfl : (32 : Int32) = r := Option.some.inj hF
          exact own_retN X hx (t := .byte) hret hlk (by simp) (hb hby dRawMessageIsPlainPinLaw_pick_57) eT (v := (32 : Int32)) (by decide) ⟨rfl, N, rfl⟩ (by decide) (by decide)
        · rw [if_neg hc52] at hF
          refine own_Goes.via (B := T.setTop (mkF m 61 #[.val (.long v0), .second, .val (.int v2), .val (.int x12), .val (.int x13), .val (.int x14)] [(.int (4 : Int32)), (.int x13)])) (fun t k => ?_) ?_
          · show Steps p.tables e below (T.setTop (mkF m 52 #[.val (.long v0), .second, .val (.int v2), .val (.int x12), .val (.int x13), .val (.int x14)] [(.int (3 : Int32)), (.int x13)])) t
            refine XS.icmpYes X.here hx rfl (pc0 := 52) (pc' := 58) rfl (hb hby dRawMessageIsPlainPinLaw_pick_52) rfl (feq hc52).2 (by decide) (by decide) ?_
            show Steps p.tables e below (T.setTop (mkF m 58 #[.val (.long v0), .second, .val (.int v2), .val (.int x12), .val (.int x13), .val (.int x14)] [])) t
            refine XS.iload X.here hx rfl (hb hby dRawMessageIsPlainPinLaw_pick_58) rfl ?_
            show Steps p.tables e below (T.setTop (mkF m 60 #[.val (.long v0), .second, .val (.int v2), .val (.int x12), .val (.int x13), .val (.int x14)] [(.int x13)])) t
            refine XS.iconst X.here hx rfl (hb hby dRawMessageIsPlainPinLaw_pick_60) ?_
            exact k
          by_cases hc61 : x13 = (4 : Int32)
          · rw [if_pos hc61] at hF
            refine own_Goes.via (B := T.setTop (mkF m 66 #[.val (.long v0), .second, .val (.int v2), .val (.int x12), .val (.int x13), .val (.int x14)] [(.int (9 : Int32))])) (fun t k => ?_) ?_
            · show Steps p.tables e below (T.setTop (mkF m 61 #[.val (.long v0), .second, .val (.int v2), .val (.int x12), .val (.int x13), .val (.int x14)] [(.int (4 : Int32)), (.int x13)])) t
              refine XS.icmpNo X.here hx rfl (hb hby dRawMessageIsPlainPinLaw_pick_61) rfl (teq hc61).2 ?_
              show Steps p.tables e below (T.setTop (mkF m 64 #[.val (.long v0), .second, .val (.int v2), .val (.int x12), .val (.int x13), .val (.int x14)] [])) t
              refine XS.bipush X.here hx rfl (hb hby dRawMessageIsPlainPinLaw_pick_64) ?_
              exact k
            obtain rfl : (9 : Int32) = r := Option.some.inj hF
            exact own_retN X hx (t := .byte) hret hlk (by simp) (hb hby dRawMessageIsPlainPinLaw_pick_66) eT (v := (9 : Int32)) (by decide) ⟨rfl, N, rfl⟩ (by decide) (by decide)
          · rw [if_neg hc61] at hF
            refine own_Goes.via (B := T.setTop (mkF m 70 #[.val (.long v0), .second, .val (.int v2), .val (.int x12), .val (.int x13), .val (.int x14)] [(.int (5 : Int32)), (.int x13)])) (fun t k => ?_) ?_
            · show Steps p.tables e below (T.setTop (mkF m 61 #[.val (.long v0), .second, .val (.int v2), .val (.int x12), .val (.int x13), .val (.int x14)] [(.int (4 : Int32)), (.int x13)])) t
              refine XS.icmpYes X.here hx rfl (pc0 := 61) (pc' := 67) rfl (hb hby dRawMessageIsPlainPinLaw_pick_61) rfl (feq hc61).2 (by decide) (by decide) ?_
              show Steps p.tables e below (T.setTop (mkF m 67 #[.val (.long v0), .second, .val (.int v2), .val (.int x12), .val (.int x13), .val (.int x14)] [])) t
              refine XS.iload X.here hx rfl (hb hby dRawMessageIsPlainPinLaw_pick_67) rfl ?_
              show Steps p.tables e below (T.setTop (mkF m 69 #[.val (.long v0), .second, .val (.int v2), .val (.int x12), .val (.int x13), .val (.int x14)] [(.int x13)])) t
              refine XS.iconst X.here hx rfl (hb hby dRawMessageIsPlainPinLaw_pick_69) ?_
              exact k
            by_cases hc70 : x13 = (5 : Int32)
            · rw [if_pos hc70] at hF
              refine own_Goes.via (B := T.setTop (mkF m 79 #[.val (.long v0), .second, .val (.int v2), .val (.int x12), .val (.int x13), .val (.int x14)] [(.int (((33 : Int32) + x14).toInt8.toInt32))])) (fun t k => ?_) ?_
              · show Steps p.tables e below (T.setTop (mkF m 70 #[.val (.long v0), .second, .val (.int v2), .val (.int x12), .val (.int x13), .val (.int x14)] [(.int (5 : Int32)), (.int x13)])) t
                refine XS.icmpNo X.here hx rfl (hb hby dRawMessageIsPlainPinLaw_pick_70) rfl (teq hc70).2 ?_
                show Steps p.tables e below (T.setTop (mkF m 73 #[.val (.long v0), .second, .val (.int v2), .val (.int x12), .val (.int x13), .val (.int x14)] [])) t
                refine XS.bipush X.here hx rfl (hb hby dRawMessageIsPlainPinLaw_pick_73) ?_
                show Steps p.tables e below (T.setTop (mkF m 75 #[.val (.long v0), .second, .val (.int v2), .val (.int x12), .val (.int x13), .val (.int x14)] [(.int (33 : Int32))])) t
                refine XS.iload X.here hx rfl (hb hby dRawMessageIsPlainPinLaw_pick_75) rfl ?_
                show Steps p.tables e below (T.setTop (mkF m 77 #[.val (.long v0), .second, .val (.int v2), .val (.int x12), .val (.int x13), .val (.int x14)] [(.int x14), (.int (33 : Int32))])) t
                refine XS.iadd X.here hx rfl (hb hby dRawMessageIsPlainPinLaw_pick_77) rfl ?_
                show Steps p.tables e below (T.setTop (mkF m 78 #[.val (.long v0), .second, .val (.int v2), .val (.int x12), .val (.int x13), .val (.int x14)] [(.int ((33 : Int32) + x14))])) t
                refine XS.i2b X.here hx rfl (hb hby dRawMessageIsPlainPinLaw_pick_78) rfl ?_
                exact k
              obtain rfl : ((((33 : Int32) + x14).toInt8.toInt32).toInt8.toInt32) = r := Option.some.inj hF
              exact own_retN X hx (t := .byte) hret hlk (by simp) (hb hby dRawMessageIsPlainPinLaw_pick_79) eT (v := ((((33 : Int32) + x14).toInt8.toInt32).toInt8.toInt32)) rfl ⟨rfl, N, rfl⟩ (by decide) (by decide)
            · rw [if_neg hc70] at hF
              refine own_Goes.via (B := T.setTop (mkF m 84 #[.val (.long v0), .second, .val (.int v2), .val (.int x12), .val (.int x13), .val (.int x14)] [(.int (6 : Int32)), (.int x13)])) (fun t k => ?_) ?_
              · show Steps p.tables e below (T.setTop (mkF m 70 #[.val (.long v0), .second, .val (.int v2), .val (.int x12), .val (.int x13), .val (.int x14)] [(.int (5 : Int32)), (.int x13)])) t
                refine XS.icmpYes X.here hx rfl (pc0 := 70) (pc' := 80) rfl (hb hby dRawMessageIsPlainPinLaw_pick_70) rfl (feq hc70).2 (by decide) (by decide) ?_
                show Steps p.tables e below (T.setTop (mkF m 80 #[.val (.long v0), .second, .val (.int v2), .val (.int x12), .val (.int x13), .val (.int x14)] [])) t
                refine XS.iload X.here hx rfl (hb hby dRawMessageIsPlainPinLaw_pick_80) rfl ?_
                show Steps p.tables e below (T.setTop (mkF m 82 #[.val (.long v0), .second, .val (.int v2), .val (.int x12), .val (.int x13), .val (.int x14)] [(.int x13)])) t
                refine XS.bipush X.here hx rfl (hb hby dRawMessageIsPlainPinLaw_pick_82) ?_
                exact k
              by_cases hc84 : x13 = (6 : Int32)
              · rw [if_pos hc84] at hF
                refine own_Goes.via (B := T.setTop (mkF m 90 #[.val (.long v0), .second, .val (.int v2), .val (.int x12), .val (.int x13), .val (.int x14)] [(.int (x14.toInt8.toInt32))])) (fun t k => ?_) ?_
                · show Steps p.tables e below (T.setTop (mkF m 84 #[.val (.long v0), .second, .val (.int v2), .val (.int x12), .val (.int x13), .val (.int x14)] [(.int (6 : Int32)), (.int x13)])) t
                  refine XS.icmpNo X.here hx rfl (hb hby dRawMessageIsPlainPinLaw_pick_84) rfl (teq hc84).2 ?_
                  show Steps p.tables e below (T.setTop (mkF m 87 #[.val (.long v0), .second, .val (.int v2), .val (.int x12), .val (.int x13), .val (.int x14)] [])) t
                  refine XS.iload X.here hx rfl (hb hby dRawMessageIsPlainPinLaw_pick_87) rfl ?_
                  show Steps p.tables e below (T.setTop (mkF m 89 #[.val (.long v0), .second, .val (.int v2), .val (.int x12), .val (.int x13), .val (.int x14)] [(.int x14)])) t
                  refine XS.i2b X.here hx rfl (hb hby dRawMessageIsPlainPinLaw_pick_89) rfl ?_
                  exact k
                obtain rfl : ((x14.toInt8.toInt32).toInt8.toInt32) = r := Option.some.inj hF
                exact own_retN X hx (t := .byte) hret hlk (by simp) (hb hby dRawMessageIsPlainPinLaw_pick_90) eT (v := ((x14.toInt8.toInt32).toInt8.toInt32)) rfl ⟨rfl, N, rfl⟩ (by decide) (by decide)
              · rw [if_neg hc84] at hF
                refine own_Goes.via (B := T.setTop (mkF m 97 #[.val (.long v0), .second, .val (.int v2), .val (.int x12), .val (.int x13), .val (.int x14)] [(.int (((112 : Int32) + x14).toInt8.toInt32))])) (fun t k => ?_) ?_
                · show Steps p.tables e below (T.setTop (mkF m 84 #[.val (.long v0), .second, .val (.int v2), .val (.int x12), .val (.int x13), .val (.int x14)] [(.int (6 : Int32)), (.int x13)])) t
                  refine XS.icmpYes X.here hx rfl (pc0 := 84) (pc' := 91) rfl (hb hby dRawMessageIsPlainPinLaw_pick_84) rfl (feq hc84).2 (by decide) (by decide) ?_
                  show Steps p.tables e below (T.setTop (mkF m 91 #[.val (.long v0), .second, .val (.int v2), .val (.int x12), .val (.int x13), .val (.int x14)] [])) t
                  refine XS.bipush X.here hx rfl (hb hby dRawMessageIsPlainPinLaw_pick_91) ?_
                  show Steps p.tables e below (T.setTop (mkF m 93 #[.val (.long v0), .second, .val (.int v2), .val (.int x12), .val (.int x13), .val (.int x14)] [(.int (112 : Int32))])) t
                  refine XS.iload X.here hx rfl (hb hby dRawMessageIsPlainPinLaw_pick_93) rfl ?_
                  show Steps p.tables e below (T.setTop (mkF m 95 #[.val (.long v0), .second, .val (.int v2), .val (.int x12), .val (.int x13), .val (.int x14)] [(.int x14), (.int (112 : Int32))])) t
                  refine XS.iadd X.here hx rfl (hb hby dRawMessageIsPlainPinLaw_pick_95) rfl ?_
                  show Steps p.tables e below (T.setTop (mkF m 96 #[.val (.long v0), .second, .val (.int v2), .val (.int x12), .val (.int x13), .val (.int x14)] [(.int ((112 : Int32) + x14))])) t
                  refine XS.i2b X.here hx rfl (hb hby dRawMessageIsPlainPinLaw_pick_96) rfl ?_
                  exact k
                obtain rfl : ((((112 : Int32) + x14).toInt8.toInt32).toInt8.toInt32) = r := Option.some.inj hF
                exact own_retN X hx (t := .byte) hret hlk (by simp) (hb hby dRawMessageIsPlainPinLaw_pick_97) eT (v := ((((112 : Int32) + x14).toInt8.toInt32).toInt8.toInt32)) rfl ⟨rfl, N, rfl⟩ (by decide) (by decide)
theorem ef_RawMessageIsPlainPinLaw_pick (m : MethodId) (x0 : Int64) (x1 : Int32) : entryFrame m #[(.long x0), (.int x1)] 6 = mkF m 0 #[.val (.long x0), .second, .val (.int x1), .unset, .unset, .unset] [] := by first | (simp [entryFrame, mkF, argsToLocals, Value.category]; done) | rfl
set_option maxRecDepth 65536 in
set_option maxHeartbeats 4000000 in
theorem rm_RawMessageIsPlainPinLaw_pick (l : Launch) (Z : State) (a0 : Array Value) (hw : ∀ d ∈ tables_1, d.before a0 Z = true) (ws : List Jvm.Cond) (hE : Heap) (n0 : Nat) (z : n0 ≤ hE.size)  (v0 : Int64) (v2 : Int32) (r : Int32) (hF : (f_RawMessageIsPlainPinLaw_pick v0 v2) = some r) :
    MetFree l (⟨"com/example/oxpecker/oxpecker/sip/RawMessageIsPlainPinLaw", "pick", "(JI)B"⟩ : MethodName) (head1 (Jvm.Cond.code (⟨"com/example/oxpecker/oxpecker/sip/RawMessageIsPlainPinLaw", "pick", "(JI)B"⟩ : MethodName) method_3_code 6 (some .byte) :: ws) ({ frames := 0, cells := 0, slots := 0, locals := 0 } : Room)) (fun a U => a = #[(.long v0), (.int v2)] ∧ Z.Warmed39 U.vm ∧ U.heap = hE) (fun _ _ _ _ _ => True) (fun _ U o U' => ∃ v L, o = .returned v ∧ (Q_RawMessageIsPlainPinLaw_pick Z hE n0 r) v U'.heap L ∧ FrameEnd U o U' L ({ frames := 0, cells := 0, slots := 0, locals := 0 } : Room).cells ({ frames := 0, cells := 0, slots := 0, locals := 0 } : Room).slots) := by
  refine MetFree.of_bodySF (plainFor_of_name pn_com_example_oxpecker_oxpecker_sip_RawMessageIsPlainPinLaw) hisR ?_
  intro p e s m args below meth c s₁ Bd hml0 hP hK
  obtain ⟨rfl, hZ, hh⟩ := hP
  have X0 : Stand p l e ({ frames := 0, cells := 0, slots := 0, locals := 0 } : Room) s m #[(.long v0), (.int v2)] below meth c s₁ [] 0 0 := Stand.of_body Bd
  have e0 : s₁.heap = hE := by rw [← hh, Bd.state]; rfl
  have cx : Cx_RawMessageIsPlainPinLaw_pick p s m meth c Z a0 := ⟨Bd.exec, hZ, hw, Bd.bytes, hml0, findClass_of_methodNamed Bd.named, Bd.returns, Bd.notSynchronized, (name_of_methodNamed Bd.named Bd.method).1⟩
  show own_Goes p e below s (Q_RawMessageIsPlainPinLaw_pick Z hE n0 r) ({ frames := 0, cells := 0, slots := 0, locals := 0 } : Room).cells ({ frames := 0, cells := 0, slots := 0, locals := 0 } : Room).slots (s₁.setTop (entryFrame m #[(.long v0), (.int v2)] 6))
  rw [ef_RawMessageIsPlainPinLaw_pick]
  exact b_RawMessageIsPlainPinLaw_pick cx X0 e0 (Fr.nil n0) z v0 v2 _ hF
/-! com/example/oxpecker/oxpecker/sip/RawMessageIsPlainPinLaw.step:([IB)V -/
def f_RawMessageIsPlainPinLaw_step_89 (bs_a1 : List Int32) : Option ((List Int32)) :=
  own_ck (own_inb bs_a1 (3 : Int32)) <|
  own_lt (own_wr bs_a1 (3 : Int32) (1 : Int32)) fun bs205 =>
  own_ck (own_inb bs205 (4 : Int32)) <|
  own_lt (own_wr bs205 (4 : Int32) (0 : Int32)) fun bs207 =>
  own_ck (own_inb bs207 (5 : Int32)) <|
  own_lt (own_wr bs207 (5 : Int32) (0 : Int32)) fun bs209 =>
  own_ck (own_inb bs209 (6 : Int32)) <|
  own_lt (own_wr bs209 (6 : Int32) (0 : Int32)) fun bs211 =>
  own_ck (own_inb bs211 (7 : Int32)) <|
  own_lt (own_wr bs211 (7 : Int32) (0 : Int32)) fun bs213 =>
  own_ck (own_inb bs213 (8 : Int32)) <|
  own_lt (own_wr bs213 (8 : Int32) (0 : Int32)) fun bs215 =>
  own_ck (own_inb bs215 (9 : Int32)) <|
  own_lt (own_wr bs215 (9 : Int32) (0 : Int32)) fun bs217 =>
  some bs217
def f_RawMessageIsPlainPinLaw_step_45 (bs_a1 : List Int32) : Option ((List Int32)) :=
  own_ck (own_inb bs_a1 (9 : Int32)) <|
  if (own_rd bs_a1 (9 : Int32)) = (1 : Int32) then
    own_ck (own_inb bs_a1 (2 : Int32)) <|
    own_lt (own_wr bs_a1 (2 : Int32) (0 : Int32)) fun bs223 =>
    (f_RawMessageIsPlainPinLaw_step_89 bs223)
  else
    own_ck (own_inb bs_a1 (3 : Int32)) <|
    if (own_rd bs_a1 (3 : Int32)) = (1 : Int32) then
      own_ck (own_inb bs_a1 (6 : Int32)) <|
      if (own_rd bs_a1 (6 : Int32)) = (1 : Int32) then
        own_ck (own_inb bs_a1 (2 : Int32)) <|
        own_lt (own_wr bs_a1 (2 : Int32) (0 : Int32)) fun bs225 =>
        (f_RawMessageIsPlainPinLaw_step_89 bs225)
      else
        own_ck (own_inb bs_a1 (7 : Int32)) <|
        if (own_rd bs_a1 (7 : Int32)) = (0 : Int32) then
          own_ck (own_inb bs_a1 (2 : Int32)) <|
          own_lt (own_wr bs_a1 (2 : Int32) (0 : Int32)) fun bs227 =>
          (f_RawMessageIsPlainPinLaw_step_89 bs227)
        else
          (f_RawMessageIsPlainPinLaw_step_89 bs_a1)
    else
      (f_RawMessageIsPlainPinLaw_step_89 bs_a1)
def f_RawMessageIsPlainPinLaw_step_211 (v1 : Int32) (t0 : Int32) (t1 : Int32) (bs_a1 : List Int32) : Option ((List Int32)) :=
  own_ck (own_inb bs_a1 t1) <|
  own_lt (own_wr bs_a1 t1 t0) fun bs252 =>
  if v1 = (32 : Int32) then
    own_ck (own_inb bs252 (6 : Int32)) <|
    own_lt (own_wr bs252 (6 : Int32) (1 : Int32)) fun bs254 =>
    own_ck (own_inb bs254 (4 : Int32)) <|
    own_lt ((own_rd bs254 (4 : Int32)) + (1 : Int32)) fun x255 =>
    own_ck (own_inb bs254 (4 : Int32)) <|
    own_lt (own_wr bs254 (4 : Int32) x255) fun bs257 =>
    some bs257
  else
    if v1 = (9 : Int32) then
      own_ck (own_inb bs252 (6 : Int32)) <|
      own_lt (own_wr bs252 (6 : Int32) (1 : Int32)) fun bs259 =>
      own_ck (own_inb bs259 (4 : Int32)) <|
      own_lt ((own_rd bs259 (4 : Int32)) + (1 : Int32)) fun x260 =>
      own_ck (own_inb bs259 (4 : Int32)) <|
      own_lt (own_wr bs259 (4 : Int32) x260) fun bs262 =>
      some bs262
    else
      own_ck (own_inb bs252 (6 : Int32)) <|
      own_lt (own_wr bs252 (6 : Int32) (0 : Int32)) fun bs264 =>
      own_ck (own_inb bs264 (4 : Int32)) <|
      own_lt ((own_rd bs264 (4 : Int32)) + (1 : Int32)) fun x265 =>
      own_ck (own_inb bs264 (4 : Int32)) <|
      own_lt (own_wr bs264 (4 : Int32) x265) fun bs267 =>
      some bs267
def f_RawMessageIsPlainPinLaw_step_192 (v1 : Int32) (bs_a1 : List Int32) : Option ((List Int32)) :=
  own_ck (own_inb bs_a1 (4 : Int32)) <|
  if (own_rd bs_a1 (4 : Int32)) = (0 : Int32) then
    if v1 = (13 : Int32) then
      (f_RawMessageIsPlainPinLaw_step_211 v1 (1 : Int32) (5 : Int32) bs_a1)
    else
      (f_RawMessageIsPlainPinLaw_step_211 v1 (0 : Int32) (5 : Int32) bs_a1)
  else
    own_ck (own_inb bs_a1 (4 : Int32)) <|
    own_lt ((own_rd bs_a1 (4 : Int32)) + (1 : Int32)) fun x271 =>
    own_ck (own_inb bs_a1 (4 : Int32)) <|
    own_lt (own_wr bs_a1 (4 : Int32) x271) fun bs273 =>
    some bs273
def f_RawMessageIsPlainPinLaw_step_170 (v1 : Int32) (bs_a1 : List Int32) : Option ((List Int32)) :=
  if v1 = (127 : Int32) then
    own_ck (own_inb bs_a1 (9 : Int32)) <|
    own_lt (own_wr bs_a1 (9 : Int32) (1 : Int32)) fun bs283 =>
    if v1 = (58 : Int32) then
      own_ck (own_inb bs283 (7 : Int32)) <|
      own_lt (own_wr bs283 (7 : Int32) (1 : Int32)) fun bs285 =>
      (f_RawMessageIsPlainPinLaw_step_192 v1 bs285)
    else
      (f_RawMessageIsPlainPinLaw_step_192 v1 bs283)
  else
    if v1 = (58 : Int32) then
      own_ck (own_inb bs_a1 (7 : Int32)) <|
      own_lt (own_wr bs_a1 (7 : Int32) (1 : Int32)) fun bs287 =>
      (f_RawMessageIsPlainPinLaw_step_192 v1 bs287)
    else
      (f_RawMessageIsPlainPinLaw_step_192 v1 bs_a1)
def f_RawMessageIsPlainPinLaw_step_135 (v1 : Int32) (bs_a1 : List Int32) : Option ((List Int32)) :=
  if v1 = (13 : Int32) then
    own_ck (own_inb bs_a1 (8 : Int32)) <|
    own_lt (own_wr bs_a1 (8 : Int32) (1 : Int32)) fun bs293 =>
    if v1 = (58 : Int32) then
      own_ck (own_inb bs293 (7 : Int32)) <|
      own_lt (own_wr bs293 (7 : Int32) (1 : Int32)) fun bs295 =>
      (f_RawMessageIsPlainPinLaw_step_192 v1 bs295)
    else
      (f_RawMessageIsPlainPinLaw_step_192 v1 bs293)
  else
    own_ck (own_inb bs_a1 (8 : Int32)) <|
    own_lt (own_wr bs_a1 (8 : Int32) (0 : Int32)) fun bs297 =>
    if v1 < (0 : Int32) then
      (f_RawMessageIsPlainPinLaw_step_170 v1 bs297)
    else
      if v1 < (32 : Int32) then
        if v1 = (9 : Int32) then
          (f_RawMessageIsPlainPinLaw_step_170 v1 bs297)
        else
          own_ck (own_inb bs297 (9 : Int32)) <|
          own_lt (own_wr bs297 (9 : Int32) (1 : Int32)) fun bs299 =>
          if v1 = (58 : Int32) then
            own_ck (own_inb bs299 (7 : Int32)) <|
            own_lt (own_wr bs299 (7 : Int32) (1 : Int32)) fun bs301 =>
            (f_RawMessageIsPlainPinLaw_step_192 v1 bs301)
          else
            (f_RawMessageIsPlainPinLaw_step_192 v1 bs299)
      else
        (f_RawMessageIsPlainPinLaw_step_170 v1 bs297)
def f_RawMessageIsPlainPinLaw_step (v1 : Int32) (bs_a1 : List Int32) : Option ((List Int32)) :=
  own_ck (own_inb bs_a1 (0 : Int32)) <|
  if (own_rd bs_a1 (0 : Int32)) = (1 : Int32) then
    some bs_a1
  else
    if v1 = (10 : Int32) then
      own_ck (own_inb bs_a1 (4 : Int32)) <|
      if (own_rd bs_a1 (4 : Int32)) = (0 : Int32) then
        own_ck (own_inb bs_a1 (0 : Int32)) <|
        own_lt (own_wr bs_a1 (0 : Int32) (1 : Int32)) fun bs303 =>
        own_ck (own_inb bs303 (2 : Int32)) <|
        own_lt (own_rd bs303 (2 : Int32)) fun x304 =>
        own_ck (own_inb bs303 (1 : Int32)) <|
        own_lt (own_wr bs303 (1 : Int32) x304) fun bs306 =>
        some bs306
      else
        own_ck (own_inb bs_a1 (4 : Int32)) <|
        if (own_rd bs_a1 (4 : Int32)) = (1 : Int32) then
          own_ck (own_inb bs_a1 (5 : Int32)) <|
          if (own_rd bs_a1 (5 : Int32)) = (1 : Int32) then
            own_ck (own_inb bs_a1 (0 : Int32)) <|
            own_lt (own_wr bs_a1 (0 : Int32) (1 : Int32)) fun bs308 =>
            own_ck (own_inb bs308 (2 : Int32)) <|
            own_lt (own_rd bs308 (2 : Int32)) fun x309 =>
            own_ck (own_inb bs308 (1 : Int32)) <|
            own_lt (own_wr bs308 (1 : Int32) x309) fun bs311 =>
            some bs311
          else
            (f_RawMessageIsPlainPinLaw_step_45 bs_a1)
        else
          (f_RawMessageIsPlainPinLaw_step_45 bs_a1)
    else
      own_ck (own_inb bs_a1 (8 : Int32)) <|
      if (own_rd bs_a1 (8 : Int32)) = (1 : Int32) then
        own_ck (own_inb bs_a1 (9 : Int32)) <|
        own_lt (own_wr bs_a1 (9 : Int32) (1 : Int32)) fun bs313 =>
        (f_RawMessageIsPlainPinLaw_step_135 v1 bs313)
      else
        (f_RawMessageIsPlainPinLaw_step_135 v1 bs_a1)
def Q_RawMessageIsPlainPinLaw_step (Z : State) (hE : Heap) (n0 : Nat) (a1 : Addr) (r : (List Int32)) (v : Option Value) (h : Heap) (L : List Loc) : Prop := v = none ∧ Fr n0 L ∧ Keep hE h [a1] ∧ own_Ar Z h a1 .int (r.map Value.int)
def Cx_RawMessageIsPlainPinLaw_step (p : Program) (s : State) (m : MethodId) (meth : Method) (c : Code) (Z : State) (a0 : Array Value) : Prop := p.tables.exec = Jvm.exec ∧ Z.Warmed39 s.vm ∧ (∀ d ∈ tables_1, d.before a0 Z = true) ∧ c.code = method_4_code ∧ c.maxLocals = 3 ∧ s.vm.findClass "com/example/oxpecker/oxpecker/sip/RawMessageIsPlainPinLaw" = some m.cls ∧ meth.sig.returnType = none ∧ meth.locks = false ∧ meth.name = "step"
set_option maxRecDepth 65536 in
set_option maxHeartbeats 4000000 in
theorem b_RawMessageIsPlainPinLaw_step_89 {p : Program} {l : Launch} {e : Env} {s : State} {m : MethodId} {args : Array Value} {below : List Frame} {meth : Method} {c : Code} {Z : State} {a0 : Array Value} {n0 : Nat} {hE : Heap} (cx : Cx_RawMessageIsPlainPinLaw_step p s m meth c Z a0) (a1 : Addr) :
    ∀ {T : State} {locs : List Loc} {h : Heap} (X : Stand p l e ({ frames := 0, cells := 0, slots := 0, locals := 0 } : Room) s m args below meth c T locs 0 0) (eT : T.heap = h) (N : Fr n0 locs) (K : Keep hE h [a1]) (z : n0 ≤ h.size) (bs_a1 : List Int32) (d1 : Slot) (d2 : Slot) (o_d1 : One d1) (o_d2 : One d2) (A_a1 : own_Ar Z h a1 .int (bs_a1.map Value.int)) (g_a1 : n0 ≤ a1) (r : (List Int32)), f_RawMessageIsPlainPinLaw_step_89 bs_a1 = some r → own_Goes p e below s (Q_RawMessageIsPlainPinLaw_step Z hE n0 a1 r) 0 0 (T.setTop (mkF m 89 #[.val (.ref a1), d1, d2] [])) := by
  have cx' := cx
  obtain ⟨hx, hZ, hw, hby, hml, hown, hret, hlk, hnm⟩ := cx'
  intro T locs h X eT N K z bs_a1 d1 d2 o_d1 o_d2 A_a1 g_a1 r hF
  unfold f_RawMessageIsPlainPinLaw_step_89 at hF
  refine own_Goes.via (B := T.setTop (mkF m 92 #[.val (.ref a1), d1, d2] [(.int (1 : Int32)), (.int (3 : Int32)), (.ref a1)])) (fun t k => ?_) ?_
  · show Steps p.tables e below (T.setTop (mkF m 89 #[.val (.ref a1), d1, d2] [])) t
    refine XS.aloadN X.here hx rfl (hb hby dRawMessageIsPlainPinLaw_step_89) rfl rfl ?_
    show Steps p.tables e below (T.setTop (mkF m 90 #[.val (.ref a1), d1, d2] [(.ref a1)])) t
    refine XS.iconst X.here hx rfl (hb hby dRawMessageIsPlainPinLaw_step_90) ?_
    show Steps p.tables e below (T.setTop (mkF m 91 #[.val (.ref a1), d1, d2] [(.int (3 : Int32)), (.ref a1)])) t
    refine XS.iconst X.here hx rfl (hb hby dRawMessageIsPlainPinLaw_step_91) ?_
    exact k
  obtain ⟨hi92, hF⟩ := own_ck_e hF
  obtain ⟨T204, h204, X204, e204, W204, A204_a1, st204⟩ := own_stI X hx hZ eT A_a1 hi92 (g := (mkF m 92 #[.val (.ref a1), d1, d2] [(.int (1 : Int32)), (.int (3 : Int32)), (.ref a1)])) rfl rfl (hb hby dRawMessageIsPlainPinLaw_step_92)
  refine own_Goes.via st204 ?_
  have z204 := Nat.le_trans z (Keep.of_wr W204).1
  have K204_ := K.wr W204 (Or.inl (List.mem_of_getElem? (i := 0) rfl))
  have N204 := Fr.snoc X204 N g_a1
  have A204_a1 : own_Ar Z h204 a1 .int ((own_wr bs_a1 (3 : Int32) (1 : Int32)).map Value.int) := A204_a1
  show own_Goes _ _ _ _ _ _ _ (T204.setTop (mkF m 93 #[.val (.ref a1), d1, d2] []))
  obtain ⟨bs205, hbs205, hF⟩ := own_lt_e hF
  rw [← hbs205] at A204_a1
  refine own_Goes.via (B := T204.setTop (mkF m 96 #[.val (.ref a1), d1, d2] [(.int (0 : Int32)), (.int (4 : Int32)), (.ref a1)])) (fun t k => ?_) ?_
  · show Steps p.tables e below (T204.setTop (mkF m 93 #[.val (.ref a1), d1, d2] [])) t
    refine XS.aloadN X204.here hx rfl (hb hby dRawMessageIsPlainPinLaw_step_93) rfl rfl ?_
    show Steps p.tables e below (T204.setTop (mkF m 94 #[.val (.ref a1), d1, d2] [(.ref a1)])) t
    refine XS.iconst X204.here hx rfl (hb hby dRawMessageIsPlainPinLaw_step_94) ?_
    show Steps p.tables e below (T204.setTop (mkF m 95 #[.val (.ref a1), d1, d2] [(.int (4 : Int32)), (.ref a1)])) t
    refine XS.iconst X204.here hx rfl (hb hby dRawMessageIsPlainPinLaw_step_95) ?_
    exact k
  obtain ⟨hi96, hF⟩ := own_ck_e hF
  obtain ⟨T206, h206, X206, e206, W206, A206_a1, st206⟩ := own_stI X204 hx hZ e204 A204_a1 hi96 (g := (mkF m 96 #[.val (.ref a1), d1, d2] [(.int (0 : Int32)), (.int (4 : Int32)), (.ref a1)])) rfl rfl (hb hby dRawMessageIsPlainPinLaw_step_96)
  refine own_Goes.via st206 ?_
  have z206 := Nat.le_trans z204 (Keep.of_wr W206).1
  have K206_ := K204_.wr W206 (Or.inl (List.mem_of_getElem? (i := 0) rfl))
  have N206 := Fr.snoc X206 N204 g_a1
  have A206_a1 : own_Ar Z h206 a1 .int ((own_wr bs205 (4 : Int32) (0 : Int32)).map Value.int) := A206_a1
  show own_Goes _ _ _ _ _ _ _ (T206.setTop (mkF m 97 #[.val (.ref a1), d1, d2] []))
  obtain ⟨bs207, hbs207, hF⟩ := own_lt_e hF
  rw [← hbs207] at A206_a1
  refine own_Goes.via (B := T206.setTop (mkF m 100 #[.val (.ref a1), d1, d2] [(.int (0 : Int32)), (.int (5 : Int32)), (.ref a1)])) (fun t k => ?_) ?_
  · show Steps p.tables e below (T206.setTop (mkF m 97 #[.val (.ref a1), d1, d2] [])) t
    refine XS.aloadN X206.here hx rfl (hb hby dRawMessageIsPlainPinLaw_step_97) rfl rfl ?_
    show Steps p.tables e below (T206.setTop (mkF m 98 #[.val (.ref a1), d1, d2] [(.ref a1)])) t
    refine XS.iconst X206.here hx rfl (hb hby dRawMessageIsPlainPinLaw_step_98) ?_
    show Steps p.tables e below (T206.setTop (mkF m 99 #[.val (.ref a1), d1, d2] [(.int (5 : Int32)), (.ref a1)])) t
    refine XS.iconst X206.here hx rfl (hb hby dRawMessageIsPlainPinLaw_step_99) ?_
    exact k
  obtain ⟨hi100, hF⟩ := own_ck_e hF
  obtain ⟨T208, h208, X208, e208, W208, A208_a1, st208⟩ := own_stI X206 hx hZ e206 A206_a1 hi100 (g := (mkF m 100 #[.val (.ref a1), d1, d2] [(.int (0 : Int32)), (.int (5 : Int32)), (.ref a1)])) rfl rfl (hb hby dRawMessageIsPlainPinLaw_step_100)
  refine own_Goes.via st208 ?_
  have z208 := Nat.le_trans z206 (Keep.of_wr W208).1
  have K208_ := K206_.wr W208 (Or.inl (List.mem_of_getElem? (i := 0) rfl))
  have N208 := Fr.snoc X208 N206 g_a1
  have A208_a1 : own_Ar Z h208 a1 .int ((own_wr bs207 (5 : Int32) (0 : Int32)).map Value.int) := A208_a1
  show own_Goes _ _ _ _ _ _ _ (T208.setTop (mkF m 101 #[.val (.ref a1), d1, d2] []))
  obtain ⟨bs209, hbs209, hF⟩ := own_lt_e hF
  rw [← hbs209] at A208_a1
  refine own_Goes.via (B := T208.setTop (mkF m 105 #[.val (.ref a1), d1, d2] [(.int (0 : Int32)), (.int (6 : Int32)), (.ref a1)])) (fun t k => ?_) ?_
  · show Steps p.tables e below (T208.setTop (mkF m 101 #[.val (.ref a1), d1, d2] [])) t
    refine XS.aloadN X208.here hx rfl (hb hby dRawMessageIsPlainPinLaw_step_101) rfl rfl ?_
    show Steps p.tables e below (T208.setTop (mkF m 102 #[.val (.ref a1), d1, d2] [(.ref a1)])) t
    refine XS.bipush X208.here hx rfl (hb hby dRawMessageIsPlainPinLaw_step_102) ?_
    show Steps p.tables e below (T208.setTop (mkF m 104 #[.val (.ref a1), d1, d2] [(.int (6 : Int32)), (.ref a1)])) t
    refine XS.iconst X208.here hx rfl (hb hby dRawMessageIsPlainPinLaw_step_104) ?_
    exact k
  obtain ⟨hi105, hF⟩ := own_ck_e hF
  obtain ⟨T210, h210, X210, e210, W210, A210_a1, st210⟩ := own_stI X208 hx hZ e208 A208_a1 hi105 (g := (mkF m 105 #[.val (.ref a1), d1, d2] [(.int (0 : Int32)), (.int (6 : Int32)), (.ref a1)])) rfl rfl (hb hby dRawMessageIsPlainPinLaw_step_105)
  refine own_Goes.via st210 ?_
  have z210 := Nat.le_trans z208 (Keep.of_wr W210).1
  have K210_ := K208_.wr W210 (Or.inl (List.mem_of_getElem? (i := 0) rfl))
  have N210 := Fr.snoc X210 N208 g_a1
  have A210_a1 : own_Ar Z h210 a1 .int ((own_wr bs209 (6 : Int32) (0 : Int32)).map Value.int) := A210_a1
  show own_Goes _ _ _ _ _ _ _ (T210.setTop (mkF m 106 #[.val (.ref a1), d1, d2] []))
  obtain ⟨bs211, hbs211, hF⟩ := own_lt_e hF
  rw [← hbs211] at A210_a1
  refine own_Goes.via (B := T210.setTop (mkF m 110 #[.val (.ref a1), d1, d2] [(.int (0 : Int32)), (.int (7 : Int32)), (.ref a1)])) (fun t k => ?_) ?_
  · show Steps p.tables e below (T210.setTop (mkF m 106 #[.val (.ref a1), d1, d2] [])) t
    refine XS.aloadN X210.here hx rfl (hb hby dRawMessageIsPlainPinLaw_step_106) rfl rfl ?_
    show Steps p.tables e below (T210.setTop (mkF m 107 #[.val (.ref a1), d1, d2] [(.ref a1)])) t
    refine XS.bipush X210.here hx rfl (hb hby dRawMessageIsPlainPinLaw_step_107) ?_
    show Steps p.tables e below (T210.setTop (mkF m 109 #[.val (.ref a1), d1, d2] [(.int (7 : Int32)), (.ref a1)])) t
    refine XS.iconst X210.here hx rfl (hb hby dRawMessageIsPlainPinLaw_step_109) ?_
    exact k
  obtain ⟨hi110, hF⟩ := own_ck_e hF
  obtain ⟨T212, h212, X212, e212, W212, A212_a1, st212⟩ := own_stI X210 hx hZ e210 A210_a1 hi110 (g := (mkF m 110 #[.val (.ref a1), d1, d2] [(.int (0 : Int32)), (.int (7 : Int32)), (.ref a1)])) rfl rfl (hb hby dRawMessageIsPlainPinLaw_step_110)
  refine own_Goes.via st212 ?_
  have z212 := Nat.le_trans z210 (Keep.of_wr W212).1
  have K212_ := K210_.wr W212 (Or.inl (List.mem_of_getElem? (i := 0) rfl))
  have N212 := Fr.snoc X212 N210 g_a1
  have A212_a1 : own_Ar Z h212 a1 .int ((own_wr bs211 (7 : Int32) (0 : Int32)).map Value.int) := A212_a1
  show own_Goes _ _ _ _ _ _ _ (T212.setTop (mkF m 111 #[.val (.ref a1), d1, d2] []))
  obtain ⟨bs213, hbs213, hF⟩ := own_lt_e hF
  rw [← hbs213] at A212_a1
  refine own_Goes.via (B := T212.setTop (mkF m 115 #[.val (.ref a1), d1, d2] [(.int (0 : Int32)), (.int (8 : Int32)), (.ref a1)])) (fun t k => ?_) ?_
  · show Steps p.tables e below (T212.setTop (mkF m 111 #[.val (.ref a1), d1, d2] [])) t
    refine XS.aloadN X212.here hx rfl (hb hby dRawMessageIsPlainPinLaw_step_111) rfl rfl ?_
    show Steps p.tables e below (T212.setTop (mkF m 112 #[.val (.ref a1), d1, d2] [(.ref a1)])) t
    refine XS.bipush X212.here hx rfl (hb hby dRawMessageIsPlainPinLaw_step_112) ?_
    show Steps p.tables e below (T212.setTop (mkF m 114 #[.val (.ref a1), d1, d2] [(.int (8 : Int32)), (.ref a1)])) t
    refine XS.iconst X212.here hx rfl (hb hby dRawMessageIsPlainPinLaw_step_114) ?_
    exact k
  obtain ⟨hi115, hF⟩ := own_ck_e hF
  obtain ⟨T214, h214, X214, e214, W214, A214_a1, st214⟩ := own_stI X212 hx hZ e212 A212_a1 hi115 (g := (mkF m 115 #[.val (.ref a1), d1, d2] [(.int (0 : Int32)), (.int (8 : Int32)), (.ref a1)])) rfl rfl (hb hby dRawMessageIsPlainPinLaw_step_115)
  refine own_Goes.via st214 ?_
  have z214 := Nat.le_trans z212 (Keep.of_wr W214).1
  have K214_ := K212_.wr W214 (Or.inl (List.mem_of_getElem? (i := 0) rfl))
  have N214 := Fr.snoc X214 N212 g_a1
  have A214_a1 : own_Ar Z h214 a1 .int ((own_wr bs213 (8 : Int32) (0 : Int32)).map Value.int) := A214_a1
  show own_Goes _ _ _ _ _ _ _ (T214.setTop (mkF m 116 #[.val (.ref a1), d1, d2] []))
  obtain ⟨bs215, hbs215, hF⟩ := own_lt_e hF
  rw [← hbs215] at A214_a1
  refine own_Goes.via (B := T214.setTop (mkF m 120 #[.val (.ref a1), d1, d2] [(.int (0 : Int32)), (.int (9 : Int32)), (.ref a1)])) (fun t k => ?_) ?_
  · show Steps p.tables e below (T214.setTop (mkF m 116 #[.val (.ref a1), d1, d2] [])) t
    refine XS.aloadN X214.here hx rfl (hb hby dRawMessageIsPlainPinLaw_step_116) rfl rfl ?_
    show Steps p.tables e below (T214.setTop (mkF m 117 #[.val (.ref a1), d1, d2] [(.ref a1)])) t
    refine XS.bipush X214.here hx rfl (hb hby dRawMessageIsPlainPinLaw_step_117) ?_
    show Steps p.tables e below (T214.setTop (mkF m 119 #[.val (.ref a1), d1, d2] [(.int (9 : Int32)), (.ref a1)])) t
    refine XS.iconst X214.here hx rfl (hb hby dRawMessageIsPlainPinLaw_step_119) ?_
    exact k
  obtain ⟨hi120, hF⟩ := own_ck_e hF
  obtain ⟨T216, h216, X216, e216, W216, A216_a1, st216⟩ := own_stI X214 hx hZ e214 A214_a1 hi120 (g := (mkF m 120 #[.val (.ref a1), d1, d2] [(.int (0 : Int32)), (.int (9 : Int32)), (.ref a1)])) rfl rfl (hb hby dRawMessageIsPlainPinLaw_step_120)
  refine own_Goes.via st216 ?_
  have z216 := Nat.le_trans z214 (Keep.of_wr W216).1
  have K216_ := K214_.wr W216 (Or.inl (List.mem_of_getElem? (i := 0) rfl))
  have N216 := Fr.snoc X216 N214 g_a1
  have A216_a1 : own_Ar Z h216 a1 .int ((own_wr bs215 (9 : Int32) (0 : Int32)).map Value.int) := A216_a1
  show own_Goes _ _ _ _ _ _ _ (T216.setTop (mkF m 121 #[.val (.ref a1), d1, d2] []))
  obtain ⟨bs217, hbs217, hF⟩ := own_lt_e hF
  rw [← hbs217] at A216_a1
  obtain rfl : bs217 = r := Option.some.inj hF
  exact own_retV X216 hx hret hlk (hb hby dRawMessageIsPlainPinLaw_step_121) e216 ⟨rfl, N216, K216_, A216_a1⟩ (by decide) (by decide)
set_option maxRecDepth 65536 in
set_option maxHeartbeats 4000000 in
theorem b_RawMessageIsPlainPinLaw_step_45 {p : Program} {l : Launch} {e : Env} {s : State} {m : MethodId} {args : Array Value} {below : List Frame} {meth : Method} {c : Code} {Z : State} {a0 : Array Value} {n0 : Nat} {hE : Heap} (cx : Cx_RawMessageIsPlainPinLaw_step p s m meth c Z a0) (a1 : Addr) :
    ∀ {T : State} {locs : List Loc} {h : Heap} (X : Stand p l e ({ frames := 0, cells := 0, slots := 0, locals := 0 } : Room) s m args below meth c T locs 0 0) (eT : T.heap = h) (N : Fr n0 locs) (K : Keep hE h [a1]) (z : n0 ≤ h.size) (bs_a1 : List Int32) (d1 : Slot) (d2 : Slot) (o_d1 : One d1) (o_d2 : One d2) (A_a1 : own_Ar Z h a1 .int (bs_a1.map Value.int)) (g_a1 : n0 ≤ a1) (r : (List Int32)), f_RawMessageIsPlainPinLaw_step_45 bs_a1 = some r → own_Goes p e below s (Q_RawMessageIsPlainPinLaw_step Z hE n0 a1 r) 0 0 (T.setTop (mkF m 45 #[.val (.ref a1), d1, d2] [])) := by
  have cx' := cx
  obtain ⟨hx, hZ, hw, hby, hml, hown, hret, hlk, hnm⟩ := cx'
  intro T locs h X eT N K z bs_a1 d1 d2 o_d1 o_d2 A_a1 g_a1 r hF
  unfold f_RawMessageIsPlainPinLaw_step_45 at hF
  refine own_Goes.via (B := T.setTop (mkF m 48 #[.val (.ref a1), d1, d2] [(.int (9 : Int32)), (.ref a1)])) (fun t k => ?_) ?_
  · show Steps p.tables e below (T.setTop (mkF m 45 #[.val (.ref a1), d1, d2] [])) t
    refine XS.aloadN X.here hx rfl (hb hby dRawMessageIsPlainPinLaw_step_45) rfl rfl ?_
    show Steps p.tables e below (T.setTop (mkF m 46 #[.val (.ref a1), d1, d2] [(.ref a1)])) t
    refine XS.bipush X.here hx rfl (hb hby dRawMessageIsPlainPinLaw_step_46) ?_
    exact k
  obtain ⟨hi48, hF⟩ := own_ck_e hF
  refine own_Goes.via (B := T.setTop (mkF m 50 #[.val (.ref a1), d1, d2] [(.int (1 : Int32)), (.int (own_rd bs_a1 (9 : Int32)))])) (fun t k => ?_) ?_
  · show Steps p.tables e below (T.setTop (mkF m 48 #[.val (.ref a1), d1, d2] [(.int (9 : Int32)), (.ref a1)])) t
    refine own_ldI X hx hZ eT A_a1 hi48 rfl (g := (mkF m 48 #[.val (.ref a1), d1, d2] [(.int (9 : Int32)), (.ref a1)])) rfl rfl (hb hby dRawMessageIsPlainPinLaw_step_48) ?_
    show Steps p.tables e below (T.setTop (mkF m 49 #[.val (.ref a1), d1, d2] [(.int (own_rd bs_a1 (9 : Int32)))])) t
    refine XS.iconst X.here hx rfl (hb hby dRawMessageIsPlainPinLaw_step_49) ?_
    exact k
  by_cases hc50 : (own_rd bs_a1 (9 : Int32)) = (1 : Int32)
  · rw [if_pos hc50] at hF
    refine own_Goes.via (B := T.setTop (mkF m 88 #[.val (.ref a1), d1, .val (.int (1 : Int32))] [(.int (0 : Int32)), (.int (2 : Int32)), (.ref a1)])) (fun t k => ?_) ?_
    · show Steps p.tables e below (T.setTop (mkF m 50 #[.val (.ref a1), d1, d2] [(.int (1 : Int32)), (.int (own_rd bs_a1 (9 : Int32)))])) t
      refine XS.icmpYes X.here hx rfl (pc0 := 50) (pc' := 75) rfl (hb hby dRawMessageIsPlainPinLaw_step_50) rfl (teq hc50).1 (by decide) (by decide) ?_
      show Steps p.tables e below (T.setTop (mkF m 75 #[.val (.ref a1), d1, d2] [])) t
      refine XS.iconst X.here hx rfl (hb hby dRawMessageIsPlainPinLaw_step_75) ?_
      show Steps p.tables e below (T.setTop (mkF m 76 #[.val (.ref a1), d1, d2] [(.int (1 : Int32))])) t
      refine XS.goto X.here hx rfl (pc0 := 76) (pc' := 80) rfl (hb hby dRawMessageIsPlainPinLaw_step_76) (by decide) (by decide) ?_
      show Steps p.tables e below (T.setTop (mkF m 80 #[.val (.ref a1), d1, d2] [(.int (1 : Int32))])) t
      refine XS.istoreNS X.here hx rfl (hb hby dRawMessageIsPlainPinLaw_step_80) rfl rfl o_d2 ?_
      show Steps p.tables e below (T.setTop (mkF m 81 #[.val (.ref a1), d1, .val (.int (1 : Int32))] [])) t
      refine XS.iloadN X.here hx rfl (hb hby dRawMessageIsPlainPinLaw_step_81) rfl ?_
      show Steps p.tables e below (T.setTop (mkF m 82 #[.val (.ref a1), d1, .val (.int (1 : Int32))] [(.int (1 : Int32))])) t
      refine XS.ifNo X.here hx rfl (hb hby dRawMessageIsPlainPinLaw_step_82) rfl ((if0 _ _).trans (feq (by decide : ¬ (1 : Int32) = (0 : Int32))).1) ?_
      show Steps p.tables e below (T.setTop (mkF m 85 #[.val (.ref a1), d1, .val (.int (1 : Int32))] [])) t
      refine XS.aloadN X.here hx rfl (hb hby dRawMessageIsPlainPinLaw_step_85) rfl rfl ?_
      show Steps p.tables e below (T.setTop (mkF m 86 #[.val (.ref a1), d1, .val (.int (1 : Int32))] [(.ref a1)])) t
      refine XS.iconst X.here hx rfl (hb hby dRawMessageIsPlainPinLaw_step_86) ?_
      show Steps p.tables e below (T.setTop (mkF m 87 #[.val (.ref a1), d1, .val (.int (1 : Int32))] [(.int (2 : Int32)), (.ref a1)])) t
      refine XS.iconst X.here hx rfl (hb hby dRawMessageIsPlainPinLaw_step_87) ?_
      exact k
    obtain ⟨hi88, hF⟩ := own_ck_e hF
    obtain ⟨T222, h222, X222, e222, W222, A222_a1, st222⟩ := own_stI X hx hZ eT A_a1 hi88 (g := (mkF m 88 #[.val (.ref a1), d1, .val (.int (1 : Int32))] [(.int (0 : Int32)), (.int (2 : Int32)), (.ref a1)])) rfl rfl (hb hby dRawMessageIsPlainPinLaw_step_88)
    refine own_Goes.via st222 ?_
    have z222 := Nat.le_trans z (Keep.of_wr W222).1
    have K222_ := K.wr W222 (Or.inl (List.mem_of_getElem? (i := 0) rfl))
    have N222 := Fr.snoc X222 N g_a1
    have A222_a1 : own_Ar Z h222 a1 .int ((own_wr bs_a1 (2 : Int32) (0 : Int32)).map Value.int) := A222_a1
    show own_Goes _ _ _ _ _ _ _ (T222.setTop (mkF m 89 #[.val (.ref a1), d1, .val (.int (1 : Int32))] []))
    obtain ⟨bs223, hbs223, hF⟩ := own_lt_e hF
    rw [← hbs223] at A222_a1
    exact b_RawMessageIsPlainPinLaw_step_89 cx a1 X222 e222 N222 K222_ z222 bs223 d1 (.val (.int (1 : Int32))) o_d1 (One.val rfl) A222_a1 g_a1 _ hF
  · rw [if_neg hc50] at hF
    refine own_Goes.via (B := T.setTop (mkF m 55 #[.val (.ref a1), d1, d2] [(.int (3 : Int32)), (.ref a1)])) (fun t k => ?_) ?_
    · show Steps p.tables e below (T.setTop (mkF m 50 #[.val (.ref a1), d1, d2] [(.int (1 : Int32)), (.int (own_rd bs_a1 (9 : Int32)))])) t
      refine XS.icmpNo X.here hx rfl (hb hby dRawMessageIsPlainPinLaw_step_50) rfl (feq hc50).1 ?_
      show Steps p.tables e below (T.setTop (mkF m 53 #[.val (.ref a1), d1, d2] [])) t
      refine XS.aloadN X.here hx rfl (hb hby dRawMessageIsPlainPinLaw_step_53) rfl rfl ?_
      show Steps p.tables e below (T.setTop (mkF m 54 #[.val (.ref a1), d1, d2] [(.ref a1)])) t
      refine XS.iconst X.here hx rfl (hb hby dRawMessageIsPlainPinLaw_step_54) ?_
      exact k
    obtain ⟨hi55, hF⟩ := own_ck_e hF
    refine own_Goes.via (B := T.setTop (mkF m 57 #[.val (.ref a1), d1, d2] [(.int (1 : Int32)), (.int (own_rd bs_a1 (3 : Int32)))])) (fun t k => ?_) ?_
    · show Steps p.tables e below (T.setTop (mkF m 55 #[.val (.ref a1), d1, d2] [(.int (3 : Int32)), (.ref a1)])) t
      refine own_ldI X hx hZ eT A_a1 hi55 rfl (g := (mkF m 55 #[.val (.ref a1), d1, d2] [(.int (3 : Int32)), (.ref a1)])) rfl rfl (hb hby dRawMessageIsPlainPinLaw_step_55) ?_
      show Steps p.tables e below (T.setTop (mkF m 56 #[.val (.ref a1), d1, d2] [(.int (own_rd bs_a1 (3 : Int32)))])) t
      refine XS.iconst X.here hx rfl (hb hby dRawMessageIsPlainPinLaw_step_56) ?_
      exact k
    by_cases hc57 : (own_rd bs_a1 (3 : Int32)) = (1 : Int32)
    · rw [if_pos hc57] at hF
      refine own_Goes.via (B := T.setTop (mkF m 63 #[.val (.ref a1), d1, d2] [(.int (6 : Int32)), (.ref a1)])) (fun t k => ?_) ?_
      · show Steps p.tables e below (T.setTop (mkF m 57 #[.val (.ref a1), d1, d2] [(.int (1 : Int32)), (.int (own_rd bs_a1 (3 : Int32)))])) t
        refine XS.icmpNo X.here hx rfl (hb hby dRawMessageIsPlainPinLaw_step_57) rfl (teq hc57).2 ?_
        show Steps p.tables e below (T.setTop (mkF m 60 #[.val (.ref a1), d1, d2] [])) t
        refine XS.aloadN X.here hx rfl (hb hby dRawMessageIsPlainPinLaw_step_60) rfl rfl ?_
        show Steps p.tables e below (T.setTop (mkF m 61 #[.val (.ref a1), d1, d2] [(.ref a1)])) t
        refine XS.bipush X.here hx rfl (hb hby dRawMessageIsPlainPinLaw_step_61) ?_
        exact k
      obtain ⟨hi63, hF⟩ := own_ck_e hF
      refine own_Goes.via (B := T.setTop (mkF m 65 #[.val (.ref a1), d1, d2] [(.int (1 : Int32)), (.int (own_rd bs_a1 (6 : Int32)))])) (fun t k => ?_) ?_
      · show Steps p.tables e below (T.setTop (mkF m 63 #[.val (.ref a1), d1, d2] [(.int (6 : Int32)), (.ref a1)])) t
        refine own_ldI X hx hZ eT A_a1 hi63 rfl (g := (mkF m 63 #[.val (.ref a1), d1, d2] [(.int (6 : Int32)), (.ref a1)])) rfl rfl (hb hby dRawMessageIsPlainPinLaw_step_63) ?_
        show Steps p.tables e below (T.setTop (mkF m 64 #[.val (.ref a1), d1, d2] [(.int (own_rd bs_a1 (6 : Int32)))])) t
        refine XS.iconst X.here hx rfl (hb hby dRawMessageIsPlainPinLaw_step_64) ?_
        exact k
      by_cases hc65 : (own_rd bs_a1 (6 : Int32)) = (1 : Int32)
      · rw [if_pos hc65] at hF
        refine own_Goes.via (B := T.setTop (mkF m 88 #[.val (.ref a1), d1, .val (.int (1 : Int32))] [(.int (0 : Int32)), (.int (2 : Int32)), (.ref a1)])) (fun t k => ?_) ?_
        · show Steps p.tables e below (T.setTop (mkF m 65 #[.val (.ref a1), d1, d2] [(.int (1 : Int32)), (.int (own_rd bs_a1 (6 : Int32)))])) t
          refine XS.icmpYes X.here hx rfl (pc0 := 65) (pc' := 75) rfl (hb hby dRawMessageIsPlainPinLaw_step_65) rfl (teq hc65).1 (by decide) (by decide) ?_
          show Steps p.tables e below (T.setTop (mkF m 75 #[.val (.ref a1), d1, d2] [])) t
          refine XS.iconst X.here hx rfl (hb hby dRawMessageIsPlainPinLaw_step_75) ?_
          show Steps p.tables e below (T.setTop (mkF m 76 #[.val (.ref a1), d1, d2] [(.int (1 : Int32))])) t
          refine XS.goto X.here hx rfl (pc0 := 76) (pc' := 80) rfl (hb hby dRawMessageIsPlainPinLaw_step_76) (by decide) (by decide) ?_
          show Steps p.tables e below (T.setTop (mkF m 80 #[.val (.ref a1), d1, d2] [(.int (1 : Int32))])) t
          refine XS.istoreNS X.here hx rfl (hb hby dRawMessageIsPlainPinLaw_step_80) rfl rfl o_d2 ?_
          show Steps p.tables e below (T.setTop (mkF m 81 #[.val (.ref a1), d1, .val (.int (1 : Int32))] [])) t
          refine XS.iloadN X.here hx rfl (hb hby dRawMessageIsPlainPinLaw_step_81) rfl ?_
          show Steps p.tables e below (T.setTop (mkF m 82 #[.val (.ref a1), d1, .val (.int (1 : Int32))] [(.int (1 : Int32))])) t
          refine XS.ifNo X.here hx rfl (hb hby dRawMessageIsPlainPinLaw_step_82) rfl ((if0 _ _).trans (feq (by decide : ¬ (1 : Int32) = (0 : Int32))).1) ?_
          show Steps p.tables e below (T.setTop (mkF m 85 #[.val (.ref a1), d1, .val (.int (1 : Int32))] [])) t
          refine XS.aloadN X.here hx rfl (hb hby dRawMessageIsPlainPinLaw_step_85) rfl rfl ?_
          show Steps p.tables e below (T.setTop (mkF m 86 #[.val (.ref a1), d1, .val (.int (1 : Int32))] [(.ref a1)])) t
          refine XS.iconst X.here hx rfl (hb hby dRawMessageIsPlainPinLaw_step_86) ?_
          show Steps p.tables e below (T.setTop (mkF m 87 #[.val (.ref a1), d1, .val (.int (1 : Int32))] [(.int (2 : Int32)), (.ref a1)])) t
          refine XS.iconst X.here hx rfl (hb hby dRawMessageIsPlainPinLaw_step_87) ?_
          exact k
        obtain ⟨hi88, hF⟩ := own_ck_e hF
        obtain ⟨T224, h224, X224, e224, W224, A224_a1, st224⟩ := own_stI X hx hZ eT A_a1 hi88 (g := (mkF m 88 #[.val (.ref a1), d1, .val (.int (1 : Int32))] [(.int (0 : Int32)), (.int (2 : Int32)), (.ref a1)])) rfl rfl (hb hby dRawMessageIsPlainPinLaw_step_88)
        refine own_Goes.via st224 ?_
        have z224 := Nat.le_trans z (Keep.of_wr W224).1
        have K224_ := K.wr W224 (Or.inl (List.mem_of_getElem? (i := 0) rfl))
        have N224 := Fr.snoc X224 N g_a1
        have A224_a1 : own_Ar Z h224 a1 .int ((own_wr bs_a1 (2 : Int32) (0 : Int32)).map Value.int) := A224_a1
        show own_Goes _ _ _ _ _ _ _ (T224.setTop (mkF m 89 #[.val (.ref a1), d1, .val (.int (1 : Int32))] []))
        obtain ⟨bs225, hbs225, hF⟩ := own_lt_e hF
        rw [← hbs225] at A224_a1
        exact b_RawMessageIsPlainPinLaw_step_89 cx a1 X224 e224 N224 K224_ z224 bs225 d1 (.val (.int (1 : Int32))) o_d1 (One.val rfl) A224_a1 g_a1 _ hF
      · rw [if_neg hc65] at hF
        refine own_Goes.via (B := T.setTop (mkF m 71 #[.val (.ref a1), d1, d2] [(.int (7 : Int32)), (.ref a1)])) (fun t k => ?_) ?_
        · show Steps p.tables e below (T.setTop (mkF m 65 #[.val (.ref a1), d1, d2] [(.int (1 : Int32)), (.int (own_rd bs_a1 (6 : Int32)))])) t
          refine XS.icmpNo X.here hx rfl (hb hby dRawMessageIsPlainPinLaw_step_65) rfl (feq hc65).1 ?_
          show Steps p.tables e below (T.setTop (mkF m 68 #[.val (.ref a1), d1, d2] [])) t
          refine XS.aloadN X.here hx rfl (hb hby dRawMessageIsPlainPinLaw_step_68) rfl rfl ?_
          show Steps p.tables e below (T.setTop (mkF m 69 #[.val (.ref a1), d1, d2] [(.ref a1)])) t
          refine XS.bipush X.here hx rfl (hb hby dRawMessageIsPlainPinLaw_step_69) ?_
          exact k
        obtain ⟨hi71, hF⟩ := own_ck_e hF
        refine own_Goes.via (B := T.setTop (mkF m 72 #[.val (.ref a1), d1, d2] [(.int (own_rd bs_a1 (7 : Int32)))])) (fun t k => ?_) ?_
        · show Steps p.tables e below (T.setTop (mkF m 71 #[.val (.ref a1), d1, d2] [(.int (7 : Int32)), (.ref a1)])) t
          refine own_ldI X hx hZ eT A_a1 hi71 rfl (g := (mkF m 71 #[.val (.ref a1), d1, d2] [(.int (7 : Int32)), (.ref a1)])) rfl rfl (hb hby dRawMessageIsPlainPinLaw_step_71) ?_
          exact k
        by_cases hc72 : (own_rd bs_a1 (7 : Int32)) = (0 : Int32)
        · rw [if_pos hc72] at hF
          refine own_Goes.via (B := T.setTop (mkF m 88 #[.val (.ref a1), d1, .val (.int (1 : Int32))] [(.int (0 : Int32)), (.int (2 : Int32)), (.ref a1)])) (fun t k => ?_) ?_
          · show Steps p.tables e below (T.setTop (mkF m 72 #[.val (.ref a1), d1, d2] [(.int (own_rd bs_a1 (7 : Int32)))])) t
            refine XS.ifNo X.here hx rfl (hb hby dRawMessageIsPlainPinLaw_step_72) rfl ((if0 _ _).trans (teq hc72).2) ?_
            show Steps p.tables e below (T.setTop (mkF m 75 #[.val (.ref a1), d1, d2] [])) t
            refine XS.iconst X.here hx rfl (hb hby dRawMessageIsPlainPinLaw_step_75) ?_
            show Steps p.tables e below (T.setTop (mkF m 76 #[.val (.ref a1), d1, d2] [(.int (1 : Int32))])) t
            refine XS.goto X.here hx rfl (pc0 := 76) (pc' := 80) rfl (hb hby dRawMessageIsPlainPinLaw_step_76) (by decide) (by decide) ?_
            show Steps p.tables e below (T.setTop (mkF m 80 #[.val (.ref a1), d1, d2] [(.int (1 : Int32))])) t
            refine XS.istoreNS X.here hx rfl (hb hby dRawMessageIsPlainPinLaw_step_80) rfl rfl o_d2 ?_
            show Steps p.tables e below (T.setTop (mkF m 81 #[.val (.ref a1), d1, .val (.int (1 : Int32))] [])) t
            refine XS.iloadN X.here hx rfl (hb hby dRawMessageIsPlainPinLaw_step_81) rfl ?_
            show Steps p.tables e below (T.setTop (mkF m 82 #[.val (.ref a1), d1, .val (.int (1 : Int32))] [(.int (1 : Int32))])) t
            refine XS.ifNo X.here hx rfl (hb hby dRawMessageIsPlainPinLaw_step_82) rfl ((if0 _ _).trans (feq (by decide : ¬ (1 : Int32) = (0 : Int32))).1) ?_
            show Steps p.tables e below (T.setTop (mkF m 85 #[.val (.ref a1), d1, .val (.int (1 : Int32))] [])) t
            refine XS.aloadN X.here hx rfl (hb hby dRawMessageIsPlainPinLaw_step_85) rfl rfl ?_
            show Steps p.tables e below (T.setTop (mkF m 86 #[.val (.ref a1), d1, .val (.int (1 : Int32))] [(.ref a1)])) t
            refine XS.iconst X.here hx rfl (hb hby dRawMessageIsPlainPinLaw_step_86) ?_
            show Steps p.tables e below (T.setTop (mkF m 87 #[.val (.ref a1), d1, .val (.int (1 : Int32))] [(.int (2 : Int32)), (.ref a1)])) t
            refine XS.iconst X.here hx rfl (hb hby dRawMessageIsPlainPinLaw_step_87) ?_
            exact k
          obtain ⟨hi88, hF⟩ := own_ck_e hF
          obtain ⟨T226, h226, X226, e226, W226, A226_a1, st226⟩ := own_stI X hx hZ eT A_a1 hi88 (g := (mkF m 88 #[.val (.ref a1), d1, .val (.int (1 : Int32))] [(.int (0 : Int32)), (.int (2 : Int32)), (.ref a1)])) rfl rfl (hb hby dRawMessageIsPlainPinLaw_step_88)
          refine own_Goes.via st226 ?_
          have z226 := Nat.le_trans z (Keep.of_wr W226).1
          have K226_ := K.wr W226 (Or.inl (List.mem_of_getElem? (i := 0) rfl))
          have N226 := Fr.snoc X226 N g_a1
          have A226_a1 : own_Ar Z h226 a1 .int ((own_wr bs_a1 (2 : Int32) (0 : Int32)).map Value.int) := A226_a1
          show own_Goes _ _ _ _ _ _ _ (T226.setTop (mkF m 89 #[.val (.ref a1), d1, .val (.int (1 : Int32))] []))
          obtain ⟨bs227, hbs227, hF⟩ := own_lt_e hF
          rw [← hbs227] at A226_a1
          exact b_RawMessageIsPlainPinLaw_step_89 cx a1 X226 e226 N226 K226_ z226 bs227 d1 (.val (.int (1 : Int32))) o_d1 (One.val rfl) A226_a1 g_a1 _ hF
        · rw [if_neg hc72] at hF
          refine own_Goes.via (B := T.setTop (mkF m 89 #[.val (.ref a1), d1, .val (.int (0 : Int32))] [])) (fun t k => ?_) ?_
          · show Steps p.tables e below (T.setTop (mkF m 72 #[.val (.ref a1), d1, d2] [(.int (own_rd bs_a1 (7 : Int32)))])) t
            refine XS.ifYes X.here hx rfl (pc0 := 72) (pc' := 79) rfl (hb hby dRawMessageIsPlainPinLaw_step_72) rfl ((if0 _ _).trans (feq hc72).2) (by decide) (by decide) ?_
            show Steps p.tables e below (T.setTop (mkF m 79 #[.val (.ref a1), d1, d2] [])) t
            refine XS.iconst X.here hx rfl (hb hby dRawMessageIsPlainPinLaw_step_79) ?_
            show Steps p.tables e below (T.setTop (mkF m 80 #[.val (.ref a1), d1, d2] [(.int (0 : Int32))])) t
            refine XS.istoreNS X.here hx rfl (hb hby dRawMessageIsPlainPinLaw_step_80) rfl rfl o_d2 ?_
            show Steps p.tables e below (T.setTop (mkF m 81 #[.val (.ref a1), d1, .val (.int (0 : Int32))] [])) t
            refine XS.iloadN X.here hx rfl (hb hby dRawMessageIsPlainPinLaw_step_81) rfl ?_
            show Steps p.tables e below (T.setTop (mkF m 82 #[.val (.ref a1), d1, .val (.int (0 : Int32))] [(.int (0 : Int32))])) t
            refine XS.ifYes X.here hx rfl (pc0 := 82) (pc' := 89) rfl (hb hby dRawMessageIsPlainPinLaw_step_82) rfl ((if0 _ _).trans (teq (by decide : (0 : Int32) = (0 : Int32))).1) (by decide) (by decide) ?_
            exact k
          exact b_RawMessageIsPlainPinLaw_step_89 cx a1 X eT N K z bs_a1 d1 (.val (.int (0 : Int32))) o_d1 (One.val rfl) A_a1 g_a1 _ hF
    · rw [if_neg hc57] at hF
      refine own_Goes.via (B := T.setTop (mkF m 89 #[.val (.ref a1), d1, .val (.int (0 : Int32))] [])) (fun t k => ?_) ?_
      · show Steps p.tables e below (T.setTop (mkF m 57 #[.val (.ref a1), d1, d2] [(.int (1 : Int32)), (.int (own_rd bs_a1 (3 : Int32)))])) t
        refine XS.icmpYes X.here hx rfl (pc0 := 57) (pc' := 79) rfl (hb hby dRawMessageIsPlainPinLaw_step_57) rfl (feq hc57).2 (by decide) (by decide) ?_
        show Steps p.tables e below (T.setTop (mkF m 79 #[.val (.ref a1), d1, d2] [])) t
        refine XS.iconst X.here hx rfl (hb hby dRawMessageIsPlainPinLaw_step_79) ?_
        show Steps p.tables e below (T.setTop (mkF m 80 #[.val (.ref a1), d1, d2] [(.int (0 : Int32))])) t
        refine XS.istoreNS X.here hx rfl (hb hby dRawMessageIsPlainPinLaw_step_80) rfl rfl o_d2 ?_
        show Steps p.tables e below (T.setTop (mkF m 81 #[.val (.ref a1), d1, .val (.int (0 : Int32))] [])) t
        refine XS.iloadN X.here hx rfl (hb hby dRawMessageIsPlainPinLaw_step_81) rfl ?_
        show Steps p.tables e below (T.setTop (mkF m 82 #[.val (.ref a1), d1, .val (.int (0 : Int32))] [(.int (0 : Int32))])) t
        refine XS.ifYes X.here hx rfl (pc0 := 82) (pc' := 89) rfl (hb hby dRawMessageIsPlainPinLaw_step_82) rfl ((if0 _ _).trans (teq (by decide : (0 : Int32) = (0 : Int32))).1) (by decide) (by decide) ?_
        exact k
      exact b_RawMessageIsPlainPinLaw_step_89 cx a1 X eT N K z bs_a1 d1 (.val (.int (0 : Int32))) o_d1 (One.val rfl) A_a1 g_a1 _ hF
set_option maxRecDepth 65536 in
set_option maxHeartbeats 4000000 in
theorem b_RawMessageIsPlainPinLaw_step_211 {p : Program} {l : Launch} {e : Env} {s : State} {m : MethodId} {args : Array Value} {below : List Frame} {meth : Method} {c : Code} {Z : State} {a0 : Array Value} {n0 : Nat} {hE : Heap} (cx : Cx_RawMessageIsPlainPinLaw_step p s m meth c Z a0) (a1 : Addr) :
    ∀ {T : State} {locs : List Loc} {h : Heap} (X : Stand p l e ({ frames := 0, cells := 0, slots := 0, locals := 0 } : Room) s m args below meth c T locs 0 0) (eT : T.heap = h) (N : Fr n0 locs) (K : Keep hE h [a1]) (z : n0 ≤ h.size) (v1 : Int32) (t0 : Int32) (t1 : Int32) (bs_a1 : List Int32) (d2 : Slot) (o_d2 : One d2) (A_a1 : own_Ar Z h a1 .int (bs_a1.map Value.int)) (g_a1 : n0 ≤ a1) (r : (List Int32)), f_RawMessageIsPlainPinLaw_step_211 v1 t0 t1 bs_a1 = some r → own_Goes p e below s (Q_RawMessageIsPlainPinLaw_step Z hE n0 a1 r) 0 0 (T.setTop (mkF m 211 #[.val (.ref a1), .val (.int v1), d2] [(.int t0), (.int t1), (.ref a1)])) := by
  have cx' := cx
  obtain ⟨hx, hZ, hw, hby, hml, hown, hret, hlk, hnm⟩ := cx'
  intro T locs h X eT N K z v1 t0 t1 bs_a1 d2 o_d2 A_a1 g_a1 r hF
  unfold f_RawMessageIsPlainPinLaw_step_211 at hF
  obtain ⟨hi211, hF⟩ := own_ck_e hF
  obtain ⟨T251, h251, X251, e251, W251, A251_a1, st251⟩ := own_stI X hx hZ eT A_a1 hi211 (g := (mkF m 211 #[.val (.ref a1), .val (.int v1), d2] [(.int t0), (.int t1), (.ref a1)])) rfl rfl (hb hby dRawMessageIsPlainPinLaw_step_211)
  refine own_Goes.via st251 ?_
  have z251 := Nat.le_trans z (Keep.of_wr W251).1
  have K251_ := K.wr W251 (Or.inl (List.mem_of_getElem? (i := 0) rfl))
  have N251 := Fr.snoc X251 N g_a1
  have A251_a1 : own_Ar Z h251 a1 .int ((own_wr bs_a1 t1 t0).map Value.int) := A251_a1
  show own_Goes _ _ _ _ _ _ _ (T251.setTop (mkF m 212 #[.val (.ref a1), .val (.int v1), d2] []))
  obtain ⟨bs252, hbs252, hF⟩ := own_lt_e hF
  rw [← hbs252] at A251_a1
  refine own_Goes.via (B := T251.setTop (mkF m 218 #[.val (.ref a1), .val (.int v1), d2] [(.int (32 : Int32)), (.int v1), (.int (6 : Int32)), (.ref a1)])) (fun t k => ?_) ?_
  · show Steps p.tables e below (T251.setTop (mkF m 212 #[.val (.ref a1), .val (.int v1), d2] [])) t
    refine XS.aloadN X251.here hx rfl (hb hby dRawMessageIsPlainPinLaw_step_212) rfl rfl ?_
    show Steps p.tables e below (T251.setTop (mkF m 213 #[.val (.ref a1), .val (.int v1), d2] [(.ref a1)])) t
    refine XS.bipush X251.here hx rfl (hb hby dRawMessageIsPlainPinLaw_step_213) ?_
    show Steps p.tables e below (T251.setTop (mkF m 215 #[.val (.ref a1), .val (.int v1), d2] [(.int (6 : Int32)), (.ref a1)])) t
    refine XS.iloadN X251.here hx rfl (hb hby dRawMessageIsPlainPinLaw_step_215) rfl ?_
    show Steps p.tables e below (T251.setTop (mkF m 216 #[.val (.ref a1), .val (.int v1), d2] [(.int v1), (.int (6 : Int32)), (.ref a1)])) t
    refine XS.bipush X251.here hx rfl (hb hby dRawMessageIsPlainPinLaw_step_216) ?_
    exact k
  by_cases hc218 : v1 = (32 : Int32)
  · rw [if_pos hc218] at hF
    refine own_Goes.via (B := T251.setTop (mkF m 232 #[.val (.ref a1), .val (.int v1), d2] [(.int (1 : Int32)), (.int (6 : Int32)), (.ref a1)])) (fun t k => ?_) ?_
    · show Steps p.tables e below (T251.setTop (mkF m 218 #[.val (.ref a1), .val (.int v1), d2] [(.int (32 : Int32)), (.int v1), (.int (6 : Int32)), (.ref a1)])) t
      refine XS.icmpYes X251.here hx rfl (pc0 := 218) (pc' := 227) rfl (hb hby dRawMessageIsPlainPinLaw_step_218) rfl (teq hc218).1 (by decide) (by decide) ?_
      show Steps p.tables e below (T251.setTop (mkF m 227 #[.val (.ref a1), .val (.int v1), d2] [(.int (6 : Int32)), (.ref a1)])) t
      refine XS.iconst X251.here hx rfl (hb hby dRawMessageIsPlainPinLaw_step_227) ?_
      show Steps p.tables e below (T251.setTop (mkF m 228 #[.val (.ref a1), .val (.int v1), d2] [(.int (1 : Int32)), (.int (6 : Int32)), (.ref a1)])) t
      refine XS.goto X251.here hx rfl (pc0 := 228) (pc' := 232) rfl (hb hby dRawMessageIsPlainPinLaw_step_228) (by decide) (by decide) ?_
      exact k
    obtain ⟨hi232, hF⟩ := own_ck_e hF
    obtain ⟨T253, h253, X253, e253, W253, A253_a1, st253⟩ := own_stI X251 hx hZ e251 A251_a1 hi232 (g := (mkF m 232 #[.val (.ref a1), .val (.int v1), d2] [(.int (1 : Int32)), (.int (6 : Int32)), (.ref a1)])) rfl rfl (hb hby dRawMessageIsPlainPinLaw_step_232)
    refine own_Goes.via st253 ?_
    have z253 := Nat.le_trans z251 (Keep.of_wr W253).1
    have K253_ := K251_.wr W253 (Or.inl (List.mem_of_getElem? (i := 0) rfl))
    have N253 := Fr.snoc X253 N251 g_a1
    have A253_a1 : own_Ar Z h253 a1 .int ((own_wr bs252 (6 : Int32) (1 : Int32)).map Value.int) := A253_a1
    show own_Goes _ _ _ _ _ _ _ (T253.setTop (mkF m 233 #[.val (.ref a1), .val (.int v1), d2] []))
    obtain ⟨bs254, hbs254, hF⟩ := own_lt_e hF
    rw [← hbs254] at A253_a1
    refine own_Goes.via (B := T253.setTop (mkF m 237 #[.val (.ref a1), .val (.int v1), d2] [(.int (4 : Int32)), (.ref a1), (.int (4 : Int32)), (.ref a1)])) (fun t k => ?_) ?_
    · show Steps p.tables e below (T253.setTop (mkF m 233 #[.val (.ref a1), .val (.int v1), d2] [])) t
      refine XS.aloadN X253.here hx rfl (hb hby dRawMessageIsPlainPinLaw_step_233) rfl rfl ?_
      show Steps p.tables e below (T253.setTop (mkF m 234 #[.val (.ref a1), .val (.int v1), d2] [(.ref a1)])) t
      refine XS.iconst X253.here hx rfl (hb hby dRawMessageIsPlainPinLaw_step_234) ?_
      show Steps p.tables e below (T253.setTop (mkF m 235 #[.val (.ref a1), .val (.int v1), d2] [(.int (4 : Int32)), (.ref a1)])) t
      refine XS.aloadN X253.here hx rfl (hb hby dRawMessageIsPlainPinLaw_step_235) rfl rfl ?_
      show Steps p.tables e below (T253.setTop (mkF m 236 #[.val (.ref a1), .val (.int v1), d2] [(.ref a1), (.int (4 : Int32)), (.ref a1)])) t
      refine XS.iconst X253.here hx rfl (hb hby dRawMessageIsPlainPinLaw_step_236) ?_
      exact k
    obtain ⟨hi237, hF⟩ := own_ck_e hF
    refine own_Goes.via (B := T253.setTop (mkF m 240 #[.val (.ref a1), .val (.int v1), d2] [(.int ((own_rd bs254 (4 : Int32)) + (1 : Int32))), (.int (4 : Int32)), (.ref a1)])) (fun t k => ?_) ?_
    · show Steps p.tables e below (T253.setTop (mkF m 237 #[.val (.ref a1), .val (.int v1), d2] [(.int (4 : Int32)), (.ref a1), (.int (4 : Int32)), (.ref a1)])) t
      refine own_ldI X253 hx hZ e253 A253_a1 hi237 rfl (g := (mkF m 237 #[.val (.ref a1), .val (.int v1), d2] [(.int (4 : Int32)), (.ref a1), (.int (4 : Int32)), (.ref a1)])) rfl rfl (hb hby dRawMessageIsPlainPinLaw_step_237) ?_
      show Steps p.tables e below (T253.setTop (mkF m 238 #[.val (.ref a1), .val (.int v1), d2] [(.int (own_rd bs254 (4 : Int32))), (.int (4 : Int32)), (.ref a1)])) t
      refine XS.iconst X253.here hx rfl (hb hby dRawMessageIsPlainPinLaw_step_238) ?_
      show Steps p.tables e below (T253.setTop (mkF m 239 #[.val (.ref a1), .val (.int v1), d2] [(.int (1 : Int32)), (.int (own_rd bs254 (4 : Int32))), (.int (4 : Int32)), (.ref a1)])) t
      refine XS.iadd X253.here hx rfl (hb hby dRawMessageIsPlainPinLaw_step_239) rfl ?_
      exact k
    obtain ⟨x255, hx255, hF⟩ := own_lt_e hF
    rw [← hx255]
    obtain ⟨hi240, hF⟩ := own_ck_e hF
    obtain ⟨T256, h256, X256, e256, W256, A256_a1, st256⟩ := own_stI X253 hx hZ e253 A253_a1 hi240 (g := (mkF m 240 #[.val (.ref a1), .val (.int v1), d2] [(.int x255), (.int (4 : Int32)), (.ref a1)])) rfl rfl (hb hby dRawMessageIsPlainPinLaw_step_240)
    refine own_Goes.via st256 ?_
    have z256 := Nat.le_trans z253 (Keep.of_wr W256).1
    have K256_ := K253_.wr W256 (Or.inl (List.mem_of_getElem? (i := 0) rfl))
    have N256 := Fr.snoc X256 N253 g_a1
    have A256_a1 : own_Ar Z h256 a1 .int ((own_wr bs254 (4 : Int32) x255).map Value.int) := A256_a1
    show own_Goes _ _ _ _ _ _ _ (T256.setTop (mkF m 241 #[.val (.ref a1), .val (.int v1), d2] []))
    obtain ⟨bs257, hbs257, hF⟩ := own_lt_e hF
    rw [← hbs257] at A256_a1
    obtain rfl : bs257 = r := Option.some.inj hF
    exact own_retV X256 hx hret hlk (hb hby dRawMessageIsPlainPinLaw_step_241) e256 ⟨rfl, N256, K256_, A256_a1⟩ (by decide) (by decide)
  · rw [if_neg hc218] at hF
    refine own_Goes.via (B := T251.setTop (mkF m 224 #[.val (.ref a1), .val (.int v1), d2] [(.int (9 : Int32)), (.int v1), (.int (6 : Int32)), (.ref a1)])) (fun t k => ?_) ?_
    · show Steps p.tables e below (T251.setTop (mkF m 218 #[.val (.ref a1), .val (.int v1), d2] [(.int (32 : Int32)), (.int v1), (.int (6 : Int32)), (.ref a1)])) t
      refine XS.icmpNo X251.here hx rfl (hb hby dRawMessageIsPlainPinLaw_step_218) rfl (feq hc218).1 ?_
      show Steps p.tables e below (T251.setTop (mkF m 221 #[.val (.ref a1), .val (.int v1), d2] [(.int (6 : Int32)), (.ref a1)])) t
      refine XS.iloadN X251.here hx rfl (hb hby dRawMessageIsPlainPinLaw_step_221) rfl ?_
      show Steps p.tables e below (T251.setTop (mkF m 222 #[.val (.ref a1), .val (.int v1), d2] [(.int v1), (.int (6 : Int32)), (.ref a1)])) t
      refine XS.bipush X251.here hx rfl (hb hby dRawMessageIsPlainPinLaw_step_222) ?_
      exact k
    by_cases hc224 : v1 = (9 : Int32)
    · rw [if_pos hc224] at hF
      refine own_Goes.via (B := T251.setTop (mkF m 232 #[.val (.ref a1), .val (.int v1), d2] [(.int (1 : Int32)), (.int (6 : Int32)), (.ref a1)])) (fun t k => ?_) ?_
      · show Steps p.tables e below (T251.setTop (mkF m 224 #[.val (.ref a1), .val (.int v1), d2] [(.int (9 : Int32)), (.int v1), (.int (6 : Int32)), (.ref a1)])) t
        refine XS.icmpNo X251.here hx rfl (hb hby dRawMessageIsPlainPinLaw_step_224) rfl (teq hc224).2 ?_
        show Steps p.tables e below (T251.setTop (mkF m 227 #[.val (.ref a1), .val (.int v1), d2] [(.int (6 : Int32)), (.ref a1)])) t
        refine XS.iconst X251.here hx rfl (hb hby dRawMessageIsPlainPinLaw_step_227) ?_
        show Steps p.tables e below (T251.setTop (mkF m 228 #[.val (.ref a1), .val (.int v1), d2] [(.int (1 : Int32)), (.int (6 : Int32)), (.ref a1)])) t
        refine XS.goto X251.here hx rfl (pc0 := 228) (pc' := 232) rfl (hb hby dRawMessageIsPlainPinLaw_step_228) (by decide) (by decide) ?_
        exact k
      obtain ⟨hi232, hF⟩ := own_ck_e hF
      obtain ⟨T258, h258, X258, e258, W258, A258_a1, st258⟩ := own_stI X251 hx hZ e251 A251_a1 hi232 (g := (mkF m 232 #[.val (.ref a1), .val (.int v1), d2] [(.int (1 : Int32)), (.int (6 : Int32)), (.ref a1)])) rfl rfl (hb hby dRawMessageIsPlainPinLaw_step_232)
      refine own_Goes.via st258 ?_
      have z258 := Nat.le_trans z251 (Keep.of_wr W258).1
      have K258_ := K251_.wr W258 (Or.inl (List.mem_of_getElem? (i := 0) rfl))
      have N258 := Fr.snoc X258 N251 g_a1
      have A258_a1 : own_Ar Z h258 a1 .int ((own_wr bs252 (6 : Int32) (1 : Int32)).map Value.int) := A258_a1
      show own_Goes _ _ _ _ _ _ _ (T258.setTop (mkF m 233 #[.val (.ref a1), .val (.int v1), d2] []))
      obtain ⟨bs259, hbs259, hF⟩ := own_lt_e hF
      rw [← hbs259] at A258_a1
      refine own_Goes.via (B := T258.setTop (mkF m 237 #[.val (.ref a1), .val (.int v1), d2] [(.int (4 : Int32)), (.ref a1), (.int (4 : Int32)), (.ref a1)])) (fun t k => ?_) ?_
      · show Steps p.tables e below (T258.setTop (mkF m 233 #[.val (.ref a1), .val (.int v1), d2] [])) t
        refine XS.aloadN X258.here hx rfl (hb hby dRawMessageIsPlainPinLaw_step_233) rfl rfl ?_
        show Steps p.tables e below (T258.setTop (mkF m 234 #[.val (.ref a1), .val (.int v1), d2] [(.ref a1)])) t
        refine XS.iconst X258.here hx rfl (hb hby dRawMessageIsPlainPinLaw_step_234) ?_
        show Steps p.tables e below (T258.setTop (mkF m 235 #[.val (.ref a1), .val (.int v1), d2] [(.int (4 : Int32)), (.ref a1)])) t
        refine XS.aloadN X258.here hx rfl (hb hby dRawMessageIsPlainPinLaw_step_235) rfl rfl ?_
        show Steps p.tables e below (T258.setTop (mkF m 236 #[.val (.ref a1), .val (.int v1), d2] [(.ref a1), (.int (4 : Int32)), (.ref a1)])) t
        refine XS.iconst X258.here hx rfl (hb hby dRawMessageIsPlainPinLaw_step_236) ?_
        exact k
      obtain ⟨hi237, hF⟩ := own_ck_e hF
      refine own_Goes.via (B := T258.setTop (mkF m 240 #[.val (.ref a1), .val (.int v1), d2] [(.int ((own_rd bs259 (4 : Int32)) + (1 : Int32))), (.int (4 : Int32)), (.ref a1)])) (fun t k => ?_) ?_
      · show Steps p.tables e below (T258.setTop (mkF m 237 #[.val (.ref a1), .val (.int v1), d2] [(.int (4 : Int32)), (.ref a1), (.int (4 : Int32)), (.ref a1)])) t
        refine own_ldI X258 hx hZ e258 A258_a1 hi237 rfl (g := (mkF m 237 #[.val (.ref a1), .val (.int v1), d2] [(.int (4 : Int32)), (.ref a1), (.int (4 : Int32)), (.ref a1)])) rfl rfl (hb hby dRawMessageIsPlainPinLaw_step_237) ?_
        show Steps p.tables e below (T258.setTop (mkF m 238 #[.val (.ref a1), .val (.int v1), d2] [(.int (own_rd bs259 (4 : Int32))), (.int (4 : Int32)), (.ref a1)])) t
        refine XS.iconst X258.here hx rfl (hb hby dRawMessageIsPlainPinLaw_step_238) ?_
        show Steps p.tables e below (T258.setTop (mkF m 239 #[.val (.ref a1), .val (.int v1), d2] [(.int (1 : Int32)), (.int (own_rd bs259 (4 : Int32))), (.int (4 : Int32)), (.ref a1)])) t
        refine XS.iadd X258.here hx rfl (hb hby dRawMessageIsPlainPinLaw_step_239) rfl ?_
        exact k
      obtain ⟨x260, hx260, hF⟩ := own_lt_e hF
      rw [← hx260]
      obtain ⟨hi240, hF⟩ := own_ck_e hF
      obtain ⟨T261, h261, X261, e261, W261, A261_a1, st261⟩ := own_stI X258 hx hZ e258 A258_a1 hi240 (g := (mkF m 240 #[.val (.ref a1), .val (.int v1), d2] [(.int x260), (.int (4 : Int32)), (.ref a1)])) rfl rfl (hb hby dRawMessageIsPlainPinLaw_step_240)
      refine own_Goes.via st261 ?_
      have z261 := Nat.le_trans z258 (Keep.of_wr W261).1
      have K261_ := K258_.wr W261 (Or.inl (List.mem_of_getElem? (i := 0) rfl))
      have N261 := Fr.snoc X261 N258 g_a1
      have A261_a1 : own_Ar Z h261 a1 .int ((own_wr bs259 (4 : Int32) x260).map Value.int) := A261_a1
      show own_Goes _ _ _ _ _ _ _ (T261.setTop (mkF m 241 #[.val (.ref a1), .val (.int v1), d2] []))
      obtain ⟨bs262, hbs262, hF⟩ := own_lt_e hF
      rw [← hbs262] at A261_a1
      obtain rfl : bs262 = r := Option.some.inj hF
      exact own_retV X261 hx hret hlk (hb hby dRawMessageIsPlainPinLaw_step_241) e261 ⟨rfl, N261, K261_, A261_a1⟩ (by decide) (by decide)
    · rw [if_neg hc224] at hF
      refine own_Goes.via (B := T251.setTop (mkF m 232 #[.val (.ref a1), .val (.int v1), d2] [(.int (0 : Int32)), (.int (6 : Int32)), (.ref a1)])) (fun t k => ?_) ?_
      · show Steps p.tables e below (T251.setTop (mkF m 224 #[.val (.ref a1), .val (.int v1), d2] [(.int (9 : Int32)), (.int v1), (.int (6 : Int32)), (.ref a1)])) t
        refine XS.icmpYes X251.here hx rfl (pc0 := 224) (pc' := 231) rfl (hb hby dRawMessageIsPlainPinLaw_step_224) rfl (feq hc224).2 (by decide) (by decide) ?_
        show Steps p.tables e below (T251.setTop (mkF m 231 #[.val (.ref a1), .val (.int v1), d2] [(.int (6 : Int32)), (.ref a1)])) t
        refine XS.iconst X251.here hx rfl (hb hby dRawMessageIsPlainPinLaw_step_231) ?_
        exact k
      obtain ⟨hi232, hF⟩ := own_ck_e hF
      obtain ⟨T263, h263, X263, e263, W263, A263_a1, st263⟩ := own_stI X251 hx hZ e251 A251_a1 hi232 (g := (mkF m 232 #[.val (.ref a1), .val (.int v1), d2] [(.int (0 : Int32)), (.int (6 : Int32)), (.ref a1)])) rfl rfl (hb hby dRawMessageIsPlainPinLaw_step_232)
      refine own_Goes.via st263 ?_
      have z263 := Nat.le_trans z251 (Keep.of_wr W263).1
      have K263_ := K251_.wr W263 (Or.inl (List.mem_of_getElem? (i := 0) rfl))
      have N263 := Fr.snoc X263 N251 g_a1
      have A263_a1 : own_Ar Z h263 a1 .int ((own_wr bs252 (6 : Int32) (0 : Int32)).map Value.int) := A263_a1
      show own_Goes _ _ _ _ _ _ _ (T263.setTop (mkF m 233 #[.val (.ref a1), .val (.int v1), d2] []))
      obtain ⟨bs264, hbs264, hF⟩ := own_lt_e hF
      rw [← hbs264] at A263_a1
      refine own_Goes.via (B := T263.setTop (mkF m 237 #[.val (.ref a1), .val (.int v1), d2] [(.int (4 : Int32)), (.ref a1), (.int (4 : Int32)), (.ref a1)])) (fun t k => ?_) ?_
      · show Steps p.tables e below (T263.setTop (mkF m 233 #[.val (.ref a1), .val (.int v1), d2] [])) t
        refine XS.aloadN X263.here hx rfl (hb hby dRawMessageIsPlainPinLaw_step_233) rfl rfl ?_
        show Steps p.tables e below (T263.setTop (mkF m 234 #[.val (.ref a1), .val (.int v1), d2] [(.ref a1)])) t
        refine XS.iconst X263.here hx rfl (hb hby dRawMessageIsPlainPinLaw_step_234) ?_
        show Steps p.tables e below (T263.setTop (mkF m 235 #[.val (.ref a1), .val (.int v1), d2] [(.int (4 : Int32)), (.ref a1)])) t
        refine XS.aloadN X263.here hx rfl (hb hby dRawMessageIsPlainPinLaw_step_235) rfl rfl ?_
        show Steps p.tables e below (T263.setTop (mkF m 236 #[.val (.ref a1), .val (.int v1), d2] [(.ref a1), (.int (4 : Int32)), (.ref a1)])) t
        refine XS.iconst X263.here hx rfl (hb hby dRawMessageIsPlainPinLaw_step_236) ?_
        exact k
      obtain ⟨hi237, hF⟩ := own_ck_e hF
      refine own_Goes.via (B := T263.setTop (mkF m 240 #[.val (.ref a1), .val (.int v1), d2] [(.int ((own_rd bs264 (4 : Int32)) + (1 : Int32))), (.int (4 : Int32)), (.ref a1)])) (fun t k => ?_) ?_
      · show Steps p.tables e below (T263.setTop (mkF m 237 #[.val (.ref a1), .val (.int v1), d2] [(.int (4 : Int32)), (.ref a1), (.int (4 : Int32)), (.ref a1)])) t
        refine own_ldI X263 hx hZ e263 A263_a1 hi237 rfl (g := (mkF m 237 #[.val (.ref a1), .val (.int v1), d2] [(.int (4 : Int32)), (.ref a1), (.int (4 : Int32)), (.ref a1)])) rfl rfl (hb hby dRawMessageIsPlainPinLaw_step_237) ?_
        show Steps p.tables e below (T263.setTop (mkF m 238 #[.val (.ref a1), .val (.int v1), d2] [(.int (own_rd bs264 (4 : Int32))), (.int (4 : Int32)), (.ref a1)])) t
        refine XS.iconst X263.here hx rfl (hb hby dRawMessageIsPlainPinLaw_step_238) ?_
        show Steps p.tables e below (T263.setTop (mkF m 239 #[.val (.ref a1), .val (.int v1), d2] [(.int (1 : Int32)), (.int (own_rd bs264 (4 : Int32))), (.int (4 : Int32)), (.ref a1)])) t
        refine XS.iadd X263.here hx rfl (hb hby dRawMessageIsPlainPinLaw_step_239) rfl ?_
        exact k
      obtain ⟨x265, hx265, hF⟩ := own_lt_e hF
      rw [← hx265]
      obtain ⟨hi240, hF⟩ := own_ck_e hF
      obtain ⟨T266, h266, X266, e266, W266, A266_a1, st266⟩ := own_stI X263 hx hZ e263 A263_a1 hi240 (g := (mkF m 240 #[.val (.ref a1), .val (.int v1), d2] [(.int x265), (.int (4 : Int32)), (.ref a1)])) rfl rfl (hb hby dRawMessageIsPlainPinLaw_step_240)
      refine own_Goes.via st266 ?_
      have z266 := Nat.le_trans z263 (Keep.of_wr W266).1
      have K266_ := K263_.wr W266 (Or.inl (List.mem_of_getElem? (i := 0) rfl))
      have N266 := Fr.snoc X266 N263 g_a1
      have A266_a1 : own_Ar Z h266 a1 .int ((own_wr bs264 (4 : Int32) x265).map Value.int) := A266_a1
      show own_Goes _ _ _ _ _ _ _ (T266.setTop (mkF m 241 #[.val (.ref a1), .val (.int v1), d2] []))
      obtain ⟨bs267, hbs267, hF⟩ := own_lt_e hF
      rw [← hbs267] at A266_a1
      obtain rfl : bs267 = r := Option.some.inj hF
      exact own_retV X266 hx hret hlk (hb hby dRawMessageIsPlainPinLaw_step_241) e266 ⟨rfl, N266, K266_, A266_a1⟩ (by decide) (by decide)
set_option maxRecDepth 65536 in
set_option maxHeartbeats 4000000 in
theorem b_RawMessageIsPlainPinLaw_step_192 {p : Program} {l : Launch} {e : Env} {s : State} {m : MethodId} {args : Array Value} {below : List Frame} {meth : Method} {c : Code} {Z : State} {a0 : Array Value} {n0 : Nat} {hE : Heap} (cx : Cx_RawMessageIsPlainPinLaw_step p s m meth c Z a0) (a1 : Addr) :
    ∀ {T : State} {locs : List Loc} {h : Heap} (X : Stand p l e ({ frames := 0, cells := 0, slots := 0, locals := 0 } : Room) s m args below meth c T locs 0 0) (eT : T.heap = h) (N : Fr n0 locs) (K : Keep hE h [a1]) (z : n0 ≤ h.size) (v1 : Int32) (bs_a1 : List Int32) (d2 : Slot) (o_d2 : One d2) (A_a1 : own_Ar Z h a1 .int (bs_a1.map Value.int)) (g_a1 : n0 ≤ a1) (r : (List Int32)), f_RawMessageIsPlainPinLaw_step_192 v1 bs_a1 = some r → own_Goes p e below s (Q_RawMessageIsPlainPinLaw_step Z hE n0 a1 r) 0 0 (T.setTop (mkF m 192 #[.val (.ref a1), .val (.int v1), d2] [])) := by
  have cx' := cx
  obtain ⟨hx, hZ, hw, hby, hml, hown, hret, hlk, hnm⟩ := cx'
  intro T locs h X eT N K z v1 bs_a1 d2 o_d2 A_a1 g_a1 r hF
  unfold f_RawMessageIsPlainPinLaw_step_192 at hF
  refine own_Goes.via (B := T.setTop (mkF m 194 #[.val (.ref a1), .val (.int v1), d2] [(.int (4 : Int32)), (.ref a1)])) (fun t k => ?_) ?_
  · show Steps p.tables e below (T.setTop (mkF m 192 #[.val (.ref a1), .val (.int v1), d2] [])) t
    refine XS.aloadN X.here hx rfl (hb hby dRawMessageIsPlainPinLaw_step_192) rfl rfl ?_
    show Steps p.tables e below (T.setTop (mkF m 193 #[.val (.ref a1), .val (.int v1), d2] [(.ref a1)])) t
    refine XS.iconst X.here hx rfl (hb hby dRawMessageIsPlainPinLaw_step_193) ?_
    exact k
  obtain ⟨hi194, hF⟩ := own_ck_e hF
  refine own_Goes.via (B := T.setTop (mkF m 195 #[.val (.ref a1), .val (.int v1), d2] [(.int (own_rd bs_a1 (4 : Int32)))])) (fun t k => ?_) ?_
  · show Steps p.tables e below (T.setTop (mkF m 194 #[.val (.ref a1), .val (.int v1), d2] [(.int (4 : Int32)), (.ref a1)])) t
    refine own_ldI X hx hZ eT A_a1 hi194 rfl (g := (mkF m 194 #[.val (.ref a1), .val (.int v1), d2] [(.int (4 : Int32)), (.ref a1)])) rfl rfl (hb hby dRawMessageIsPlainPinLaw_step_194) ?_
    exact k
  by_cases hc195 : (own_rd bs_a1 (4 : Int32)) = (0 : Int32)
  · rw [if_pos hc195] at hF
    refine own_Goes.via (B := T.setTop (mkF m 203 #[.val (.ref a1), .val (.int v1), d2] [(.int (13 : Int32)), (.int v1), (.int (5 : Int32)), (.ref a1)])) (fun t k => ?_) ?_
    · show Steps p.tables e below (T.setTop (mkF m 195 #[.val (.ref a1), .val (.int v1), d2] [(.int (own_rd bs_a1 (4 : Int32)))])) t
      refine XS.ifNo X.here hx rfl (hb hby dRawMessageIsPlainPinLaw_step_195) rfl ((if0 _ _).trans (teq hc195).2) ?_
      show Steps p.tables e below (T.setTop (mkF m 198 #[.val (.ref a1), .val (.int v1), d2] [])) t
      refine XS.aloadN X.here hx rfl (hb hby dRawMessageIsPlainPinLaw_step_198) rfl rfl ?_
      show Steps p.tables e below (T.setTop (mkF m 199 #[.val (.ref a1), .val (.int v1), d2] [(.ref a1)])) t
      refine XS.iconst X.here hx rfl (hb hby dRawMessageIsPlainPinLaw_step_199) ?_
      show Steps p.tables e below (T.setTop (mkF m 200 #[.val (.ref a1), .val (.int v1), d2] [(.int (5 : Int32)), (.ref a1)])) t
      refine XS.iloadN X.here hx rfl (hb hby dRawMessageIsPlainPinLaw_step_200) rfl ?_
      show Steps p.tables e below (T.setTop (mkF m 201 #[.val (.ref a1), .val (.int v1), d2] [(.int v1), (.int (5 : Int32)), (.ref a1)])) t
      refine XS.bipush X.here hx rfl (hb hby dRawMessageIsPlainPinLaw_step_201) ?_
      exact k
    by_cases hc203 : v1 = (13 : Int32)
    · rw [if_pos hc203] at hF
      refine own_Goes.via (B := T.setTop (mkF m 211 #[.val (.ref a1), .val (.int v1), d2] [(.int (1 : Int32)), (.int (5 : Int32)), (.ref a1)])) (fun t k => ?_) ?_
      · show Steps p.tables e below (T.setTop (mkF m 203 #[.val (.ref a1), .val (.int v1), d2] [(.int (13 : Int32)), (.int v1), (.int (5 : Int32)), (.ref a1)])) t
        refine XS.icmpNo X.here hx rfl (hb hby dRawMessageIsPlainPinLaw_step_203) rfl (teq hc203).2 ?_
        show Steps p.tables e below (T.setTop (mkF m 206 #[.val (.ref a1), .val (.int v1), d2] [(.int (5 : Int32)), (.ref a1)])) t
        refine XS.iconst X.here hx rfl (hb hby dRawMessageIsPlainPinLaw_step_206) ?_
        show Steps p.tables e below (T.setTop (mkF m 207 #[.val (.ref a1), .val (.int v1), d2] [(.int (1 : Int32)), (.int (5 : Int32)), (.ref a1)])) t
        refine XS.goto X.here hx rfl (pc0 := 207) (pc' := 211) rfl (hb hby dRawMessageIsPlainPinLaw_step_207) (by decide) (by decide) ?_
        exact k
      exact b_RawMessageIsPlainPinLaw_step_211 cx a1 X eT N K z v1 (1 : Int32) (5 : Int32) bs_a1 d2 o_d2 A_a1 g_a1 _ hF
    · rw [if_neg hc203] at hF
      refine own_Goes.via (B := T.setTop (mkF m 211 #[.val (.ref a1), .val (.int v1), d2] [(.int (0 : Int32)), (.int (5 : Int32)), (.ref a1)])) (fun t k => ?_) ?_
      · show Steps p.tables e below (T.setTop (mkF m 203 #[.val (.ref a1), .val (.int v1), d2] [(.int (13 : Int32)), (.int v1), (.int (5 : Int32)), (.ref a1)])) t
        refine XS.icmpYes X.here hx rfl (pc0 := 203) (pc' := 210) rfl (hb hby dRawMessageIsPlainPinLaw_step_203) rfl (feq hc203).2 (by decide) (by decide) ?_
        show Steps p.tables e below (T.setTop (mkF m 210 #[.val (.ref a1), .val (.int v1), d2] [(.int (5 : Int32)), (.ref a1)])) t
        refine XS.iconst X.here hx rfl (hb hby dRawMessageIsPlainPinLaw_step_210) ?_
        exact k
      exact b_RawMessageIsPlainPinLaw_step_211 cx a1 X eT N K z v1 (0 : Int32) (5 : Int32) bs_a1 d2 o_d2 A_a1 g_a1 _ hF
  · rw [if_neg hc195] at hF
    refine own_Goes.via (B := T.setTop (mkF m 237 #[.val (.ref a1), .val (.int v1), d2] [(.int (4 : Int32)), (.ref a1), (.int (4 : Int32)), (.ref a1)])) (fun t k => ?_) ?_
    · show Steps p.tables e below (T.setTop (mkF m 195 #[.val (.ref a1), .val (.int v1), d2] [(.int (own_rd bs_a1 (4 : Int32)))])) t
      refine XS.ifYes X.here hx rfl (pc0 := 195) (pc' := 233) rfl (hb hby dRawMessageIsPlainPinLaw_step_195) rfl ((if0 _ _).trans (feq hc195).2) (by decide) (by decide) ?_
      show Steps p.tables e below (T.setTop (mkF m 233 #[.val (.ref a1), .val (.int v1), d2] [])) t
      refine XS.aloadN X.here hx rfl (hb hby dRawMessageIsPlainPinLaw_step_233) rfl rfl ?_
      show Steps p.tables e below (T.setTop (mkF m 234 #[.val (.ref a1), .val (.int v1), d2] [(.ref a1)])) t
      refine XS.iconst X.here hx rfl (hb hby dRawMessageIsPlainPinLaw_step_234) ?_
      show Steps p.tables e below (T.setTop (mkF m 235 #[.val (.ref a1), .val (.int v1), d2] [(.int (4 : Int32)), (.ref a1)])) t
      refine XS.aloadN X.here hx rfl (hb hby dRawMessageIsPlainPinLaw_step_235) rfl rfl ?_
      show Steps p.tables e below (T.setTop (mkF m 236 #[.val (.ref a1), .val (.int v1), d2] [(.ref a1), (.int (4 : Int32)), (.ref a1)])) t
      refine XS.iconst X.here hx rfl (hb hby dRawMessageIsPlainPinLaw_step_236) ?_
      exact k
    obtain ⟨hi237, hF⟩ := own_ck_e hF
    refine own_Goes.via (B := T.setTop (mkF m 240 #[.val (.ref a1), .val (.int v1), d2] [(.int ((own_rd bs_a1 (4 : Int32)) + (1 : Int32))), (.int (4 : Int32)), (.ref a1)])) (fun t k => ?_) ?_
    · show Steps p.tables e below (T.setTop (mkF m 237 #[.val (.ref a1), .val (.int v1), d2] [(.int (4 : Int32)), (.ref a1), (.int (4 : Int32)), (.ref a1)])) t
      refine own_ldI X hx hZ eT A_a1 hi237 rfl (g := (mkF m 237 #[.val (.ref a1), .val (.int v1), d2] [(.int (4 : Int32)), (.ref a1), (.int (4 : Int32)), (.ref a1)])) rfl rfl (hb hby dRawMessageIsPlainPinLaw_step_237) ?_
      show Steps p.tables e below (T.setTop (mkF m 238 #[.val (.ref a1), .val (.int v1), d2] [(.int (own_rd bs_a1 (4 : Int32))), (.int (4 : Int32)), (.ref a1)])) t
      refine XS.iconst X.here hx rfl (hb hby dRawMessageIsPlainPinLaw_step_238) ?_
      show Steps p.tables e below (T.setTop (mkF m 239 #[.val (.ref a1), .val (.int v1), d2] [(.int (1 : Int32)), (.int (own_rd bs_a1 (4 : Int32))), (.int (4 : Int32)), (.ref a1)])) t
      refine XS.iadd X.here hx rfl (hb hby dRawMessageIsPlainPinLaw_step_239) rfl ?_
      exact k
    obtain ⟨x271, hx271, hF⟩ := own_lt_e hF
    rw [← hx271]
    obtain ⟨hi240, hF⟩ := own_ck_e hF
    obtain ⟨T272, h272, X272, e272, W272, A272_a1, st272⟩ := own_stI X hx hZ eT A_a1 hi240 (g := (mkF m 240 #[.val (.ref a1), .val (.int v1), d2] [(.int x271), (.int (4 : Int32)), (.ref a1)])) rfl rfl (hb hby dRawMessageIsPlainPinLaw_step_240)
    refine own_Goes.via st272 ?_
    have z272 := Nat.le_trans z (Keep.of_wr W272).1
    have K272_ := K.wr W272 (Or.inl (List.mem_of_getElem? (i := 0) rfl))
    have N272 := Fr.snoc X272 N g_a1
    have A272_a1 : own_Ar Z h272 a1 .int ((own_wr bs_a1 (4 : Int32) x271).map Value.int) := A272_a1
    show own_Goes _ _ _ _ _ _ _ (T272.setTop (mkF m 241 #[.val (.ref a1), .val (.int v1), d2] []))
    obtain ⟨bs273, hbs273, hF⟩ := own_lt_e hF
    rw [← hbs273] at A272_a1
    obtain rfl : bs273 = r := Option.some.inj hF
    exact own_retV X272 hx hret hlk (hb hby dRawMessageIsPlainPinLaw_step_241) e272 ⟨rfl, N272, K272_, A272_a1⟩ (by decide) (by decide)
set_option maxRecDepth 65536 in
set_option maxHeartbeats 4000000 in
theorem b_RawMessageIsPlainPinLaw_step_170 {p : Program} {l : Launch} {e : Env} {s : State} {m : MethodId} {args : Array Value} {below : List Frame} {meth : Method} {c : Code} {Z : State} {a0 : Array Value} {n0 : Nat} {hE : Heap} (cx : Cx_RawMessageIsPlainPinLaw_step p s m meth c Z a0) (a1 : Addr) :
    ∀ {T : State} {locs : List Loc} {h : Heap} (X : Stand p l e ({ frames := 0, cells := 0, slots := 0, locals := 0 } : Room) s m args below meth c T locs 0 0) (eT : T.heap = h) (N : Fr n0 locs) (K : Keep hE h [a1]) (z : n0 ≤ h.size) (v1 : Int32) (bs_a1 : List Int32) (d2 : Slot) (o_d2 : One d2) (A_a1 : own_Ar Z h a1 .int (bs_a1.map Value.int)) (g_a1 : n0 ≤ a1) (r : (List Int32)), f_RawMessageIsPlainPinLaw_step_170 v1 bs_a1 = some r → own_Goes p e below s (Q_RawMessageIsPlainPinLaw_step Z hE n0 a1 r) 0 0 (T.setTop (mkF m 170 #[.val (.ref a1), .val (.int v1), d2] [])) := by
  have cx' := cx
  obtain ⟨hx, hZ, hw, hby, hml, hown, hret, hlk, hnm⟩ := cx'
  intro T locs h X eT N K z v1 bs_a1 d2 o_d2 A_a1 g_a1 r hF
  unfold f_RawMessageIsPlainPinLaw_step_170 at hF
  refine own_Goes.via (B := T.setTop (mkF m 173 #[.val (.ref a1), .val (.int v1), d2] [(.int (127 : Int32)), (.int v1)])) (fun t k => ?_) ?_
  · show Steps p.tables e below (T.setTop (mkF m 170 #[.val (.ref a1), .val (.int v1), d2] [])) t
    refine XS.iloadN X.here hx rfl (hb hby dRawMessageIsPlainPinLaw_step_170) rfl ?_
    show Steps p.tables e below (T.setTop (mkF m 171 #[.val (.ref a1), .val (.int v1), d2] [(.int v1)])) t
    refine XS.bipush X.here hx rfl (hb hby dRawMessageIsPlainPinLaw_step_171) ?_
    exact k
  by_cases hc173 : v1 = (127 : Int32)
  · rw [if_pos hc173] at hF
    refine own_Goes.via (B := T.setTop (mkF m 180 #[.val (.ref a1), .val (.int v1), d2] [(.int (1 : Int32)), (.int (9 : Int32)), (.ref a1)])) (fun t k => ?_) ?_
    · show Steps p.tables e below (T.setTop (mkF m 173 #[.val (.ref a1), .val (.int v1), d2] [(.int (127 : Int32)), (.int v1)])) t
      refine XS.icmpNo X.here hx rfl (hb hby dRawMessageIsPlainPinLaw_step_173) rfl (teq hc173).2 ?_
      show Steps p.tables e below (T.setTop (mkF m 176 #[.val (.ref a1), .val (.int v1), d2] [])) t
      refine XS.aloadN X.here hx rfl (hb hby dRawMessageIsPlainPinLaw_step_176) rfl rfl ?_
      show Steps p.tables e below (T.setTop (mkF m 177 #[.val (.ref a1), .val (.int v1), d2] [(.ref a1)])) t
      refine XS.bipush X.here hx rfl (hb hby dRawMessageIsPlainPinLaw_step_177) ?_
      show Steps p.tables e below (T.setTop (mkF m 179 #[.val (.ref a1), .val (.int v1), d2] [(.int (9 : Int32)), (.ref a1)])) t
      refine XS.iconst X.here hx rfl (hb hby dRawMessageIsPlainPinLaw_step_179) ?_
      exact k
    obtain ⟨hi180, hF⟩ := own_ck_e hF
    obtain ⟨T282, h282, X282, e282, W282, A282_a1, st282⟩ := own_stI X hx hZ eT A_a1 hi180 (g := (mkF m 180 #[.val (.ref a1), .val (.int v1), d2] [(.int (1 : Int32)), (.int (9 : Int32)), (.ref a1)])) rfl rfl (hb hby dRawMessageIsPlainPinLaw_step_180)
    refine own_Goes.via st282 ?_
    have z282 := Nat.le_trans z (Keep.of_wr W282).1
    have K282_ := K.wr W282 (Or.inl (List.mem_of_getElem? (i := 0) rfl))
    have N282 := Fr.snoc X282 N g_a1
    have A282_a1 : own_Ar Z h282 a1 .int ((own_wr bs_a1 (9 : Int32) (1 : Int32)).map Value.int) := A282_a1
    show own_Goes _ _ _ _ _ _ _ (T282.setTop (mkF m 181 #[.val (.ref a1), .val (.int v1), d2] []))
    obtain ⟨bs283, hbs283, hF⟩ := own_lt_e hF
    rw [← hbs283] at A282_a1
    refine own_Goes.via (B := T282.setTop (mkF m 184 #[.val (.ref a1), .val (.int v1), d2] [(.int (58 : Int32)), (.int v1)])) (fun t k => ?_) ?_
    · show Steps p.tables e below (T282.setTop (mkF m 181 #[.val (.ref a1), .val (.int v1), d2] [])) t
      refine XS.iloadN X282.here hx rfl (hb hby dRawMessageIsPlainPinLaw_step_181) rfl ?_
      show Steps p.tables e below (T282.setTop (mkF m 182 #[.val (.ref a1), .val (.int v1), d2] [(.int v1)])) t
      refine XS.bipush X282.here hx rfl (hb hby dRawMessageIsPlainPinLaw_step_182) ?_
      exact k
    by_cases hc184 : v1 = (58 : Int32)
    · rw [if_pos hc184] at hF
      refine own_Goes.via (B := T282.setTop (mkF m 191 #[.val (.ref a1), .val (.int v1), d2] [(.int (1 : Int32)), (.int (7 : Int32)), (.ref a1)])) (fun t k => ?_) ?_
      · show Steps p.tables e below (T282.setTop (mkF m 184 #[.val (.ref a1), .val (.int v1), d2] [(.int (58 : Int32)), (.int v1)])) t
        refine XS.icmpNo X282.here hx rfl (hb hby dRawMessageIsPlainPinLaw_step_184) rfl (teq hc184).2 ?_
        show Steps p.tables e below (T282.setTop (mkF m 187 #[.val (.ref a1), .val (.int v1), d2] [])) t
        refine XS.aloadN X282.here hx rfl (hb hby dRawMessageIsPlainPinLaw_step_187) rfl rfl ?_
        show Steps p.tables e below (T282.setTop (mkF m 188 #[.val (.ref a1), .val (.int v1), d2] [(.ref a1)])) t
        refine XS.bipush X282.here hx rfl (hb hby dRawMessageIsPlainPinLaw_step_188) ?_
        show Steps p.tables e below (T282.setTop (mkF m 190 #[.val (.ref a1), .val (.int v1), d2] [(.int (7 : Int32)), (.ref a1)])) t
        refine XS.iconst X282.here hx rfl (hb hby dRawMessageIsPlainPinLaw_step_190) ?_
        exact k
      obtain ⟨hi191, hF⟩ := own_ck_e hF
      obtain ⟨T284, h284, X284, e284, W284, A284_a1, st284⟩ := own_stI X282 hx hZ e282 A282_a1 hi191 (g := (mkF m 191 #[.val (.ref a1), .val (.int v1), d2] [(.int (1 : Int32)), (.int (7 : Int32)), (.ref a1)])) rfl rfl (hb hby dRawMessageIsPlainPinLaw_step_191)
      refine own_Goes.via st284 ?_
      have z284 := Nat.le_trans z282 (Keep.of_wr W284).1
      have K284_ := K282_.wr W284 (Or.inl (List.mem_of_getElem? (i := 0) rfl))
      have N284 := Fr.snoc X284 N282 g_a1
      have A284_a1 : own_Ar Z h284 a1 .int ((own_wr bs283 (7 : Int32) (1 : Int32)).map Value.int) := A284_a1
      show own_Goes _ _ _ _ _ _ _ (T284.setTop (mkF m 192 #[.val (.ref a1), .val (.int v1), d2] []))
      obtain ⟨bs285, hbs285, hF⟩ := own_lt_e hF
      rw [← hbs285] at A284_a1
      exact b_RawMessageIsPlainPinLaw_step_192 cx a1 X284 e284 N284 K284_ z284 v1 bs285 d2 o_d2 A284_a1 g_a1 _ hF
    · rw [if_neg hc184] at hF
      refine own_Goes.via (B := T282.setTop (mkF m 192 #[.val (.ref a1), .val (.int v1), d2] [])) (fun t k => ?_) ?_
      · show Steps p.tables e below (T282.setTop (mkF m 184 #[.val (.ref a1), .val (.int v1), d2] [(.int (58 : Int32)), (.int v1)])) t
        refine XS.icmpYes X282.here hx rfl (pc0 := 184) (pc' := 192) rfl (hb hby dRawMessageIsPlainPinLaw_step_184) rfl (feq hc184).2 (by decide) (by decide) ?_
        exact k
      exact b_RawMessageIsPlainPinLaw_step_192 cx a1 X282 e282 N282 K282_ z282 v1 bs283 d2 o_d2 A282_a1 g_a1 _ hF
  · rw [if_neg hc173] at hF
    refine own_Goes.via (B := T.setTop (mkF m 184 #[.val (.ref a1), .val (.int v1), d2] [(.int (58 : Int32)), (.int v1)])) (fun t k => ?_) ?_
    · show Steps p.tables e below (T.setTop (mkF m 173 #[.val (.ref a1), .val (.int v1), d2] [(.int (127 : Int32)), (.int v1)])) t
      refine XS.icmpYes X.here hx rfl (pc0 := 173) (pc' := 181) rfl (hb hby dRawMessageIsPlainPinLaw_step_173) rfl (feq hc173).2 (by decide) (by decide) ?_
      show Steps p.tables e below (T.setTop (mkF m 181 #[.val (.ref a1), .val (.int v1), d2] [])) t
      refine XS.iloadN X.here hx rfl (hb hby dRawMessageIsPlainPinLaw_step_181) rfl ?_
      show Steps p.tables e below (T.setTop (mkF m 182 #[.val (.ref a1), .val (.int v1), d2] [(.int v1)])) t
      refine XS.bipush X.here hx rfl (hb hby dRawMessageIsPlainPinLaw_step_182) ?_
      exact k
    by_cases hc184 : v1 = (58 : Int32)
    · rw [if_pos hc184] at hF
      refine own_Goes.via (B := T.setTop (mkF m 191 #[.val (.ref a1), .val (.int v1), d2] [(.int (1 : Int32)), (.int (7 : Int32)), (.ref a1)])) (fun t k => ?_) ?_
      · show Steps p.tables e below (T.setTop (mkF m 184 #[.val (.ref a1), .val (.int v1), d2] [(.int (58 : Int32)), (.int v1)])) t
        refine XS.icmpNo X.here hx rfl (hb hby dRawMessageIsPlainPinLaw_step_184) rfl (teq hc184).2 ?_
        show Steps p.tables e below (T.setTop (mkF m 187 #[.val (.ref a1), .val (.int v1), d2] [])) t
        refine XS.aloadN X.here hx rfl (hb hby dRawMessageIsPlainPinLaw_step_187) rfl rfl ?_
        show Steps p.tables e below (T.setTop (mkF m 188 #[.val (.ref a1), .val (.int v1), d2] [(.ref a1)])) t
        refine XS.bipush X.here hx rfl (hb hby dRawMessageIsPlainPinLaw_step_188) ?_
        show Steps p.tables e below (T.setTop (mkF m 190 #[.val (.ref a1), .val (.int v1), d2] [(.int (7 : Int32)), (.ref a1)])) t
        refine XS.iconst X.here hx rfl (hb hby dRawMessageIsPlainPinLaw_step_190) ?_
        exact k
      obtain ⟨hi191, hF⟩ := own_ck_e hF
      obtain ⟨T286, h286, X286, e286, W286, A286_a1, st286⟩ := own_stI X hx hZ eT A_a1 hi191 (g := (mkF m 191 #[.val (.ref a1), .val (.int v1), d2] [(.int (1 : Int32)), (.int (7 : Int32)), (.ref a1)])) rfl rfl (hb hby dRawMessageIsPlainPinLaw_step_191)
      refine own_Goes.via st286 ?_
      have z286 := Nat.le_trans z (Keep.of_wr W286).1
      have K286_ := K.wr W286 (Or.inl (List.mem_of_getElem? (i := 0) rfl))
      have N286 := Fr.snoc X286 N g_a1
      have A286_a1 : own_Ar Z h286 a1 .int ((own_wr bs_a1 (7 : Int32) (1 : Int32)).map Value.int) := A286_a1
      show own_Goes _ _ _ _ _ _ _ (T286.setTop (mkF m 192 #[.val (.ref a1), .val (.int v1), d2] []))
      obtain ⟨bs287, hbs287, hF⟩ := own_lt_e hF
      rw [← hbs287] at A286_a1
      exact b_RawMessageIsPlainPinLaw_step_192 cx a1 X286 e286 N286 K286_ z286 v1 bs287 d2 o_d2 A286_a1 g_a1 _ hF
    · rw [if_neg hc184] at hF
      refine own_Goes.via (B := T.setTop (mkF m 192 #[.val (.ref a1), .val (.int v1), d2] [])) (fun t k => ?_) ?_
      · show Steps p.tables e below (T.setTop (mkF m 184 #[.val (.ref a1), .val (.int v1), d2] [(.int (58 : Int32)), (.int v1)])) t
        refine XS.icmpYes X.here hx rfl (pc0 := 184) (pc' := 192) rfl (hb hby dRawMessageIsPlainPinLaw_step_184) rfl (feq hc184).2 (by decide) (by decide) ?_
        exact k
      exact b_RawMessageIsPlainPinLaw_step_192 cx a1 X eT N K z v1 bs_a1 d2 o_d2 A_a1 g_a1 _ hF
set_option maxRecDepth 65536 in
set_option maxHeartbeats 4000000 in
theorem b_RawMessageIsPlainPinLaw_step_135 {p : Program} {l : Launch} {e : Env} {s : State} {m : MethodId} {args : Array Value} {below : List Frame} {meth : Method} {c : Code} {Z : State} {a0 : Array Value} {n0 : Nat} {hE : Heap} (cx : Cx_RawMessageIsPlainPinLaw_step p s m meth c Z a0) (a1 : Addr) :
    ∀ {T : State} {locs : List Loc} {h : Heap} (X : Stand p l e ({ frames := 0, cells := 0, slots := 0, locals := 0 } : Room) s m args below meth c T locs 0 0) (eT : T.heap = h) (N : Fr n0 locs) (K : Keep hE h [a1]) (z : n0 ≤ h.size) (v1 : Int32) (bs_a1 : List Int32) (d2 : Slot) (o_d2 : One d2) (A_a1 : own_Ar Z h a1 .int (bs_a1.map Value.int)) (g_a1 : n0 ≤ a1) (r : (List Int32)), f_RawMessageIsPlainPinLaw_step_135 v1 bs_a1 = some r → own_Goes p e below s (Q_RawMessageIsPlainPinLaw_step Z hE n0 a1 r) 0 0 (T.setTop (mkF m 135 #[.val (.ref a1), .val (.int v1), d2] [])) := by
  have cx' := cx
  obtain ⟨hx, hZ, hw, hby, hml, hown, hret, hlk, hnm⟩ := cx'
  intro T locs h X eT N K z v1 bs_a1 d2 o_d2 A_a1 g_a1 r hF
  unfold f_RawMessageIsPlainPinLaw_step_135 at hF
  refine own_Goes.via (B := T.setTop (mkF m 138 #[.val (.ref a1), .val (.int v1), d2] [(.int (13 : Int32)), (.int v1)])) (fun t k => ?_) ?_
  · show Steps p.tables e below (T.setTop (mkF m 135 #[.val (.ref a1), .val (.int v1), d2] [])) t
    refine XS.iloadN X.here hx rfl (hb hby dRawMessageIsPlainPinLaw_step_135) rfl ?_
    show Steps p.tables e below (T.setTop (mkF m 136 #[.val (.ref a1), .val (.int v1), d2] [(.int v1)])) t
    refine XS.bipush X.here hx rfl (hb hby dRawMessageIsPlainPinLaw_step_136) ?_
    exact k
  by_cases hc138 : v1 = (13 : Int32)
  · rw [if_pos hc138] at hF
    refine own_Goes.via (B := T.setTop (mkF m 145 #[.val (.ref a1), .val (.int v1), d2] [(.int (1 : Int32)), (.int (8 : Int32)), (.ref a1)])) (fun t k => ?_) ?_
    · show Steps p.tables e below (T.setTop (mkF m 138 #[.val (.ref a1), .val (.int v1), d2] [(.int (13 : Int32)), (.int v1)])) t
      refine XS.icmpNo X.here hx rfl (hb hby dRawMessageIsPlainPinLaw_step_138) rfl (teq hc138).2 ?_
      show Steps p.tables e below (T.setTop (mkF m 141 #[.val (.ref a1), .val (.int v1), d2] [])) t
      refine XS.aloadN X.here hx rfl (hb hby dRawMessageIsPlainPinLaw_step_141) rfl rfl ?_
      show Steps p.tables e below (T.setTop (mkF m 142 #[.val (.ref a1), .val (.int v1), d2] [(.ref a1)])) t
      refine XS.bipush X.here hx rfl (hb hby dRawMessageIsPlainPinLaw_step_142) ?_
      show Steps p.tables e below (T.setTop (mkF m 144 #[.val (.ref a1), .val (.int v1), d2] [(.int (8 : Int32)), (.ref a1)])) t
      refine XS.iconst X.here hx rfl (hb hby dRawMessageIsPlainPinLaw_step_144) ?_
      exact k
    obtain ⟨hi145, hF⟩ := own_ck_e hF
    obtain ⟨T292, h292, X292, e292, W292, A292_a1, st292⟩ := own_stI X hx hZ eT A_a1 hi145 (g := (mkF m 145 #[.val (.ref a1), .val (.int v1), d2] [(.int (1 : Int32)), (.int (8 : Int32)), (.ref a1)])) rfl rfl (hb hby dRawMessageIsPlainPinLaw_step_145)
    refine own_Goes.via st292 ?_
    have z292 := Nat.le_trans z (Keep.of_wr W292).1
    have K292_ := K.wr W292 (Or.inl (List.mem_of_getElem? (i := 0) rfl))
    have N292 := Fr.snoc X292 N g_a1
    have A292_a1 : own_Ar Z h292 a1 .int ((own_wr bs_a1 (8 : Int32) (1 : Int32)).map Value.int) := A292_a1
    show own_Goes _ _ _ _ _ _ _ (T292.setTop (mkF m 146 #[.val (.ref a1), .val (.int v1), d2] []))
    obtain ⟨bs293, hbs293, hF⟩ := own_lt_e hF
    rw [← hbs293] at A292_a1
    refine own_Goes.via (B := T292.setTop (mkF m 184 #[.val (.ref a1), .val (.int v1), d2] [(.int (58 : Int32)), (.int v1)])) (fun t k => ?_) ?_
    · show Steps p.tables e below (T292.setTop (mkF m 146 #[.val (.ref a1), .val (.int v1), d2] [])) t
      refine XS.goto X292.here hx rfl (pc0 := 146) (pc' := 181) rfl (hb hby dRawMessageIsPlainPinLaw_step_146) (by decide) (by decide) ?_
      show Steps p.tables e below (T292.setTop (mkF m 181 #[.val (.ref a1), .val (.int v1), d2] [])) t
      refine XS.iloadN X292.here hx rfl (hb hby dRawMessageIsPlainPinLaw_step_181) rfl ?_
      show Steps p.tables e below (T292.setTop (mkF m 182 #[.val (.ref a1), .val (.int v1), d2] [(.int v1)])) t
      refine XS.bipush X292.here hx rfl (hb hby dRawMessageIsPlainPinLaw_step_182) ?_
      exact k
    by_cases hc184 : v1 = (58 : Int32)
    · rw [if_pos hc184] at hF
      refine own_Goes.via (B := T292.setTop (mkF m 191 #[.val (.ref a1), .val (.int v1), d2] [(.int (1 : Int32)), (.int (7 : Int32)), (.ref a1)])) (fun t k => ?_) ?_
      · show Steps p.tables e below (T292.setTop (mkF m 184 #[.val (.ref a1), .val (.int v1), d2] [(.int (58 : Int32)), (.int v1)])) t
        refine XS.icmpNo X292.here hx rfl (hb hby dRawMessageIsPlainPinLaw_step_184) rfl (teq hc184).2 ?_
        show Steps p.tables e below (T292.setTop (mkF m 187 #[.val (.ref a1), .val (.int v1), d2] [])) t
        refine XS.aloadN X292.here hx rfl (hb hby dRawMessageIsPlainPinLaw_step_187) rfl rfl ?_
        show Steps p.tables e below (T292.setTop (mkF m 188 #[.val (.ref a1), .val (.int v1), d2] [(.ref a1)])) t
        refine XS.bipush X292.here hx rfl (hb hby dRawMessageIsPlainPinLaw_step_188) ?_
        show Steps p.tables e below (T292.setTop (mkF m 190 #[.val (.ref a1), .val (.int v1), d2] [(.int (7 : Int32)), (.ref a1)])) t
        refine XS.iconst X292.here hx rfl (hb hby dRawMessageIsPlainPinLaw_step_190) ?_
        exact k
      obtain ⟨hi191, hF⟩ := own_ck_e hF
      obtain ⟨T294, h294, X294, e294, W294, A294_a1, st294⟩ := own_stI X292 hx hZ e292 A292_a1 hi191 (g := (mkF m 191 #[.val (.ref a1), .val (.int v1), d2] [(.int (1 : Int32)), (.int (7 : Int32)), (.ref a1)])) rfl rfl (hb hby dRawMessageIsPlainPinLaw_step_191)
      refine own_Goes.via st294 ?_
      have z294 := Nat.le_trans z292 (Keep.of_wr W294).1
      have K294_ := K292_.wr W294 (Or.inl (List.mem_of_getElem? (i := 0) rfl))
      have N294 := Fr.snoc X294 N292 g_a1
      have A294_a1 : own_Ar Z h294 a1 .int ((own_wr bs293 (7 : Int32) (1 : Int32)).map Value.int) := A294_a1
      show own_Goes _ _ _ _ _ _ _ (T294.setTop (mkF m 192 #[.val (.ref a1), .val (.int v1), d2] []))
      obtain ⟨bs295, hbs295, hF⟩ := own_lt_e hF
      rw [← hbs295] at A294_a1
      exact b_RawMessageIsPlainPinLaw_step_192 cx a1 X294 e294 N294 K294_ z294 v1 bs295 d2 o_d2 A294_a1 g_a1 _ hF
    · rw [if_neg hc184] at hF
      refine own_Goes.via (B := T292.setTop (mkF m 192 #[.val (.ref a1), .val (.int v1), d2] [])) (fun t k => ?_) ?_
      · show Steps p.tables e below (T292.setTop (mkF m 184 #[.val (.ref a1), .val (.int v1), d2] [(.int (58 : Int32)), (.int v1)])) t
        refine XS.icmpYes X292.here hx rfl (pc0 := 184) (pc' := 192) rfl (hb hby dRawMessageIsPlainPinLaw_step_184) rfl (feq hc184).2 (by decide) (by decide) ?_
        exact k
      exact b_RawMessageIsPlainPinLaw_step_192 cx a1 X292 e292 N292 K292_ z292 v1 bs293 d2 o_d2 A292_a1 g_a1 _ hF
  · rw [if_neg hc138] at hF
    refine own_Goes.via (B := T.setTop (mkF m 153 #[.val (.ref a1), .val (.int v1), d2] [(.int (0 : Int32)), (.int (8 : Int32)), (.ref a1)])) (fun t k => ?_) ?_
    · show Steps p.tables e below (T.setTop (mkF m 138 #[.val (.ref a1), .val (.int v1), d2] [(.int (13 : Int32)), (.int v1)])) t
      refine XS.icmpYes X.here hx rfl (pc0 := 138) (pc' := 149) rfl (hb hby dRawMessageIsPlainPinLaw_step_138) rfl (feq hc138).2 (by decide) (by decide) ?_
      show Steps p.tables e below (T.setTop (mkF m 149 #[.val (.ref a1), .val (.int v1), d2] [])) t
      refine XS.aloadN X.here hx rfl (hb hby dRawMessageIsPlainPinLaw_step_149) rfl rfl ?_
      show Steps p.tables e below (T.setTop (mkF m 150 #[.val (.ref a1), .val (.int v1), d2] [(.ref a1)])) t
      refine XS.bipush X.here hx rfl (hb hby dRawMessageIsPlainPinLaw_step_150) ?_
      show Steps p.tables e below (T.setTop (mkF m 152 #[.val (.ref a1), .val (.int v1), d2] [(.int (8 : Int32)), (.ref a1)])) t
      refine XS.iconst X.here hx rfl (hb hby dRawMessageIsPlainPinLaw_step_152) ?_
      exact k
    obtain ⟨hi153, hF⟩ := own_ck_e hF
    obtain ⟨T296, h296, X296, e296, W296, A296_a1, st296⟩ := own_stI X hx hZ eT A_a1 hi153 (g := (mkF m 153 #[.val (.ref a1), .val (.int v1), d2] [(.int (0 : Int32)), (.int (8 : Int32)), (.ref a1)])) rfl rfl (hb hby dRawMessageIsPlainPinLaw_step_153)
    refine own_Goes.via st296 ?_
    have z296 := Nat.le_trans z (Keep.of_wr W296).1
    have K296_ := K.wr W296 (Or.inl (List.mem_of_getElem? (i := 0) rfl))
    have N296 := Fr.snoc X296 N g_a1
    have A296_a1 : own_Ar Z h296 a1 .int ((own_wr bs_a1 (8 : Int32) (0 : Int32)).map Value.int) := A296_a1
    show own_Goes _ _ _ _ _ _ _ (T296.setTop (mkF m 154 #[.val (.ref a1), .val (.int v1), d2] []))
    obtain ⟨bs297, hbs297, hF⟩ := own_lt_e hF
    rw [← hbs297] at A296_a1
    refine own_Goes.via (B := T296.setTop (mkF m 155 #[.val (.ref a1), .val (.int v1), d2] [(.int v1)])) (fun t k => ?_) ?_
    · show Steps p.tables e below (T296.setTop (mkF m 154 #[.val (.ref a1), .val (.int v1), d2] [])) t
      refine XS.iloadN X296.here hx rfl (hb hby dRawMessageIsPlainPinLaw_step_154) rfl ?_
      exact k
    by_cases hc155 : v1 < (0 : Int32)
    · rw [if_pos hc155] at hF
      refine own_Goes.via (B := T296.setTop (mkF m 170 #[.val (.ref a1), .val (.int v1), d2] [])) (fun t k => ?_) ?_
      · show Steps p.tables e below (T296.setTop (mkF m 155 #[.val (.ref a1), .val (.int v1), d2] [(.int v1)])) t
        refine XS.ifYes X296.here hx rfl (pc0 := 155) (pc' := 170) rfl (hb hby dRawMessageIsPlainPinLaw_step_155) rfl ((if0 _ _).trans (tlt hc155).1) (by decide) (by decide) ?_
        exact k
      exact b_RawMessageIsPlainPinLaw_step_170 cx a1 X296 e296 N296 K296_ z296 v1 bs297 d2 o_d2 A296_a1 g_a1 _ hF
    · rw [if_neg hc155] at hF
      refine own_Goes.via (B := T296.setTop (mkF m 161 #[.val (.ref a1), .val (.int v1), d2] [(.int (32 : Int32)), (.int v1)])) (fun t k => ?_) ?_
      · show Steps p.tables e below (T296.setTop (mkF m 155 #[.val (.ref a1), .val (.int v1), d2] [(.int v1)])) t
        refine XS.ifNo X296.here hx rfl (hb hby dRawMessageIsPlainPinLaw_step_155) rfl ((if0 _ _).trans (flt hc155).1) ?_
        show Steps p.tables e below (T296.setTop (mkF m 158 #[.val (.ref a1), .val (.int v1), d2] [])) t
        refine XS.iloadN X296.here hx rfl (hb hby dRawMessageIsPlainPinLaw_step_158) rfl ?_
        show Steps p.tables e below (T296.setTop (mkF m 159 #[.val (.ref a1), .val (.int v1), d2] [(.int v1)])) t
        refine XS.bipush X296.here hx rfl (hb hby dRawMessageIsPlainPinLaw_step_159) ?_
        exact k
      by_cases hc161 : v1 < (32 : Int32)
      · rw [if_pos hc161] at hF
        refine own_Goes.via (B := T296.setTop (mkF m 167 #[.val (.ref a1), .val (.int v1), d2] [(.int (9 : Int32)), (.int v1)])) (fun t k => ?_) ?_
        · show Steps p.tables e below (T296.setTop (mkF m 161 #[.val (.ref a1), .val (.int v1), d2] [(.int (32 : Int32)), (.int v1)])) t
          refine XS.icmpNo X296.here hx rfl (hb hby dRawMessageIsPlainPinLaw_step_161) rfl (tlt hc161).2.1 ?_
          show Steps p.tables e below (T296.setTop (mkF m 164 #[.val (.ref a1), .val (.int v1), d2] [])) t
          refine XS.iloadN X296.here hx rfl (hb hby dRawMessageIsPlainPinLaw_step_164) rfl ?_
          show Steps p.tables e below (T296.setTop (mkF m 165 #[.val (.ref a1), .val (.int v1), d2] [(.int v1)])) t
          refine XS.bipush X296.here hx rfl (hb hby dRawMessageIsPlainPinLaw_step_165) ?_
          exact k
        by_cases hc167 : v1 = (9 : Int32)
        · rw [if_pos hc167] at hF
          refine own_Goes.via (B := T296.setTop (mkF m 170 #[.val (.ref a1), .val (.int v1), d2] [])) (fun t k => ?_) ?_
          · show Steps p.tables e below (T296.setTop (mkF m 167 #[.val (.ref a1), .val (.int v1), d2] [(.int (9 : Int32)), (.int v1)])) t
            refine XS.icmpNo X296.here hx rfl (hb hby dRawMessageIsPlainPinLaw_step_167) rfl (teq hc167).2 ?_
            exact k
          exact b_RawMessageIsPlainPinLaw_step_170 cx a1 X296 e296 N296 K296_ z296 v1 bs297 d2 o_d2 A296_a1 g_a1 _ hF
        · rw [if_neg hc167] at hF
          refine own_Goes.via (B := T296.setTop (mkF m 180 #[.val (.ref a1), .val (.int v1), d2] [(.int (1 : Int32)), (.int (9 : Int32)), (.ref a1)])) (fun t k => ?_) ?_
          · show Steps p.tables e below (T296.setTop (mkF m 167 #[.val (.ref a1), .val (.int v1), d2] [(.int (9 : Int32)), (.int v1)])) t
            refine XS.icmpYes X296.here hx rfl (pc0 := 167) (pc' := 176) rfl (hb hby dRawMessageIsPlainPinLaw_step_167) rfl (feq hc167).2 (by decide) (by decide) ?_
            show Steps p.tables e below (T296.setTop (mkF m 176 #[.val (.ref a1), .val (.int v1), d2] [])) t
            refine XS.aloadN X296.here hx rfl (hb hby dRawMessageIsPlainPinLaw_step_176) rfl rfl ?_
            show Steps p.tables e below (T296.setTop (mkF m 177 #[.val (.ref a1), .val (.int v1), d2] [(.ref a1)])) t
            refine XS.bipush X296.here hx rfl (hb hby dRawMessageIsPlainPinLaw_step_177) ?_
            show Steps p.tables e below (T296.setTop (mkF m 179 #[.val (.ref a1), .val (.int v1), d2] [(.int (9 : Int32)), (.ref a1)])) t
            refine XS.iconst X296.here hx rfl (hb hby dRawMessageIsPlainPinLaw_step_179) ?_
            exact k
          obtain ⟨hi180, hF⟩ := own_ck_e hF
          obtain ⟨T298, h298, X298, e298, W298, A298_a1, st298⟩ := own_stI X296 hx hZ e296 A296_a1 hi180 (g := (mkF m 180 #[.val (.ref a1), .val (.int v1), d2] [(.int (1 : Int32)), (.int (9 : Int32)), (.ref a1)])) rfl rfl (hb hby dRawMessageIsPlainPinLaw_step_180)
          refine own_Goes.via st298 ?_
          have z298 := Nat.le_trans z296 (Keep.of_wr W298).1
          have K298_ := K296_.wr W298 (Or.inl (List.mem_of_getElem? (i := 0) rfl))
          have N298 := Fr.snoc X298 N296 g_a1
          have A298_a1 : own_Ar Z h298 a1 .int ((own_wr bs297 (9 : Int32) (1 : Int32)).map Value.int) := A298_a1
          show own_Goes _ _ _ _ _ _ _ (T298.setTop (mkF m 181 #[.val (.ref a1), .val (.int v1), d2] []))
          obtain ⟨bs299, hbs299, hF⟩ := own_lt_e hF
          rw [← hbs299] at A298_a1
          refine own_Goes.via (B := T298.setTop (mkF m 184 #[.val (.ref a1), .val (.int v1), d2] [(.int (58 : Int32)), (.int v1)])) (fun t k => ?_) ?_
          · show Steps p.tables e below (T298.setTop (mkF m 181 #[.val (.ref a1), .val (.int v1), d2] [])) t
            refine XS.iloadN X298.here hx rfl (hb hby dRawMessageIsPlainPinLaw_step_181) rfl ?_
            show Steps p.tables e below (T298.setTop (mkF m 182 #[.val (.ref a1), .val (.int v1), d2] [(.int v1)])) t
            refine XS.bipush X298.here hx rfl (hb hby dRawMessageIsPlainPinLaw_step_182) ?_
            exact k
          by_cases hc184 : v1 = (58 : Int32)
          · rw [if_pos hc184] at hF
            refine own_Goes.via (B := T298.setTop (mkF m 191 #[.val (.ref a1), .val (.int v1), d2] [(.int (1 : Int32)), (.int (7 : Int32)), (.ref a1)])) (fun t k => ?_) ?_
            · show Steps p.tables e below (T298.setTop (mkF m 184 #[.val (.ref a1), .val (.int v1), d2] [(.int (58 : Int32)), (.int v1)])) t
              refine XS.icmpNo X298.here hx rfl (hb hby dRawMessageIsPlainPinLaw_step_184) rfl (teq hc184).2 ?_
              show Steps p.tables e below (T298.setTop (mkF m 187 #[.val (.ref a1), .val (.int v1), d2] [])) t
              refine XS.aloadN X298.here hx rfl (hb hby dRawMessageIsPlainPinLaw_step_187) rfl rfl ?_
              show Steps p.tables e below (T298.setTop (mkF m 188 #[.val (.ref a1), .val (.int v1), d2] [(.ref a1)])) t
              refine XS.bipush X298.here hx rfl (hb hby dRawMessageIsPlainPinLaw_step_188) ?_
              show Steps p.tables e below (T298.setTop (mkF m 190 #[.val (.ref a1), .val (.int v1), d2] [(.int (7 : Int32)), (.ref a1)])) t
              refine XS.iconst X298.here hx rfl (hb hby dRawMessageIsPlainPinLaw_step_190) ?_
              exact k
            obtain ⟨hi191, hF⟩ := own_ck_e hF
            obtain ⟨T300, h300, X300, e300, W300, A300_a1, st300⟩ := own_stI X298 hx hZ e298 A298_a1 hi191 (g := (mkF m 191 #[.val (.ref a1), .val (.int v1), d2] [(.int (1 : Int32)), (.int (7 : Int32)), (.ref a1)])) rfl rfl (hb hby dRawMessageIsPlainPinLaw_step_191)
            refine own_Goes.via st300 ?_
            have z300 := Nat.le_trans z298 (Keep.of_wr W300).1
            have K300_ := K298_.wr W300 (Or.inl (List.mem_of_getElem? (i := 0) rfl))
            have N300 := Fr.snoc X300 N298 g_a1
            have A300_a1 : own_Ar Z h300 a1 .int ((own_wr bs299 (7 : Int32) (1 : Int32)).map Value.int) := A300_a1
            show own_Goes _ _ _ _ _ _ _ (T300.setTop (mkF m 192 #[.val (.ref a1), .val (.int v1), d2] []))
            obtain ⟨bs301, hbs301, hF⟩ := own_lt_e hF
            rw [← hbs301] at A300_a1
            exact b_RawMessageIsPlainPinLaw_step_192 cx a1 X300 e300 N300 K300_ z300 v1 bs301 d2 o_d2 A300_a1 g_a1 _ hF
          · rw [if_neg hc184] at hF
            refine own_Goes.via (B := T298.setTop (mkF m 192 #[.val (.ref a1), .val (.int v1), d2] [])) (fun t k => ?_) ?_
            · show Steps p.tables e below (T298.setTop (mkF m 184 #[.val (.ref a1), .val (.int v1), d2] [(.int (58 : Int32)), (.int v1)])) t
              refine XS.icmpYes X298.here hx rfl (pc0 := 184) (pc' := 192) rfl (hb hby dRawMessageIsPlainPinLaw_step_184) rfl (feq hc184).2 (by decide) (by decide) ?_
              exact k
            exact b_RawMessageIsPlainPinLaw_step_192 cx a1 X298 e298 N298 K298_ z298 v1 bs299 d2 o_d2 A298_a1 g_a1 _ hF
      · rw [if_neg hc161] at hF
        refine own_Goes.via (B := T296.setTop (mkF m 170 #[.val (.ref a1), .val (.int v1), d2] [])) (fun t k => ?_) ?_
        · show Steps p.tables e below (T296.setTop (mkF m 161 #[.val (.ref a1), .val (.int v1), d2] [(.int (32 : Int32)), (.int v1)])) t
          refine XS.icmpYes X296.here hx rfl (pc0 := 161) (pc' := 170) rfl (hb hby dRawMessageIsPlainPinLaw_step_161) rfl (flt hc161).2.1 (by decide) (by decide) ?_
          exact k
        exact b_RawMessageIsPlainPinLaw_step_170 cx a1 X296 e296 N296 K296_ z296 v1 bs297 d2 o_d2 A296_a1 g_a1 _ hF
set_option maxRecDepth 65536 in
set_option maxHeartbeats 4000000 in
theorem b_RawMessageIsPlainPinLaw_step {p : Program} {l : Launch} {e : Env} {s : State} {m : MethodId} {args : Array Value} {below : List Frame} {meth : Method} {c : Code} {Z : State} {a0 : Array Value} {n0 : Nat} {hE : Heap} (cx : Cx_RawMessageIsPlainPinLaw_step p s m meth c Z a0) (a1 : Addr) :
    ∀ {T : State} {locs : List Loc} {h : Heap} (X : Stand p l e ({ frames := 0, cells := 0, slots := 0, locals := 0 } : Room) s m args below meth c T locs 0 0) (eT : T.heap = h) (N : Fr n0 locs) (K : Keep hE h [a1]) (z : n0 ≤ h.size) (v1 : Int32) (bs_a1 : List Int32) (A_a1 : own_Ar Z h a1 .int (bs_a1.map Value.int)) (g_a1 : n0 ≤ a1) (r : (List Int32)), f_RawMessageIsPlainPinLaw_step v1 bs_a1 = some r → own_Goes p e below s (Q_RawMessageIsPlainPinLaw_step Z hE n0 a1 r) 0 0 (T.setTop (mkF m 0 #[.val (.ref a1), .val (.int v1), .unset] [])) := by
  have cx' := cx
  obtain ⟨hx, hZ, hw, hby, hml, hown, hret, hlk, hnm⟩ := cx'
  intro T locs h X eT N K z v1 bs_a1 A_a1 g_a1 r hF
  unfold f_RawMessageIsPlainPinLaw_step at hF
  refine own_Goes.via (B := T.setTop (mkF m 2 #[.val (.ref a1), .val (.int v1), .unset] [(.int (0 : Int32)), (.ref a1)])) (fun t k => ?_) ?_
  · show Steps p.tables e below (T.setTop (mkF m 0 #[.val (.ref a1), .val (.int v1), .unset] [])) t
    refine XS.aloadN X.here hx rfl (hb hby dRawMessageIsPlainPinLaw_step_0) rfl rfl ?_
    show Steps p.tables e below (T.setTop (mkF m 1 #[.val (.ref a1), .val (.int v1), .unset] [(.ref a1)])) t
    refine XS.iconst X.here hx rfl (hb hby dRawMessageIsPlainPinLaw_step_1) ?_
    exact k
  obtain ⟨hi2, hF⟩ := own_ck_e hF
  refine own_Goes.via (B := T.setTop (mkF m 4 #[.val (.ref a1), .val (.int v1), .unset] [(.int (1 : Int32)), (.int (own_rd bs_a1 (0 : Int32)))])) (fun t k => ?_) ?_
  · show Steps p.tables e below (T.setTop (mkF m 2 #[.val (.ref a1), .val (.int v1), .unset] [(.int (0 : Int32)), (.ref a1)])) t
    refine own_ldI X hx hZ eT A_a1 hi2 rfl (g := (mkF m 2 #[.val (.ref a1), .val (.int v1), .unset] [(.int (0 : Int32)), (.ref a1)])) rfl rfl (hb hby dRawMessageIsPlainPinLaw_step_2) ?_
    show Steps p.tables e below (T.setTop (mkF m 3 #[.val (.ref a1), .val (.int v1), .unset] [(.int (own_rd bs_a1 (0 : Int32)))])) t
    refine XS.iconst X.here hx rfl (hb hby dRawMessageIsPlainPinLaw_step_3) ?_
    exact k
  by_cases hc4 : (own_rd bs_a1 (0 : Int32)) = (1 : Int32)
  · rw [if_pos hc4] at hF
    refine own_Goes.via (B := T.setTop (mkF m 7 #[.val (.ref a1), .val (.int v1), .unset] [])) (fun t k => ?_) ?_
    · show Steps p.tables e below (T.setTop (mkF m 4 #[.val (.ref a1), .val (.int v1), .unset] [(.int (1 : Int32)), (.int (own_rd bs_a1 (0 : Int32)))])) t
      refine XS.icmpNo X.here hx rfl (hb hby dRawMessageIsPlainPinLaw_step_4) rfl (teq hc4).2 ?_
      exact k
    obtain rfl : bs_a1 = r := Option.some.inj hF
    exact own_retV X hx hret hlk (hb hby dRawMessageIsPlainPinLaw_step_7) eT ⟨rfl, N, K, A_a1⟩ (by decide) (by decide)
  · rw [if_neg hc4] at hF
    refine own_Goes.via (B := T.setTop (mkF m 11 #[.val (.ref a1), .val (.int v1), .unset] [(.int (10 : Int32)), (.int v1)])) (fun t k => ?_) ?_
    · show Steps p.tables e below (T.setTop (mkF m 4 #[.val (.ref a1), .val (.int v1), .unset] [(.int (1 : Int32)), (.int (own_rd bs_a1 (0 : Int32)))])) t
      refine XS.icmpYes X.here hx rfl (pc0 := 4) (pc' := 8) rfl (hb hby dRawMessageIsPlainPinLaw_step_4) rfl (feq hc4).2 (by decide) (by decide) ?_
      show Steps p.tables e below (T.setTop (mkF m 8 #[.val (.ref a1), .val (.int v1), .unset] [])) t
      refine XS.iloadN X.here hx rfl (hb hby dRawMessageIsPlainPinLaw_step_8) rfl ?_
      show Steps p.tables e below (T.setTop (mkF m 9 #[.val (.ref a1), .val (.int v1), .unset] [(.int v1)])) t
      refine XS.bipush X.here hx rfl (hb hby dRawMessageIsPlainPinLaw_step_9) ?_
      exact k
    by_cases hc11 : v1 = (10 : Int32)
    · rw [if_pos hc11] at hF
      refine own_Goes.via (B := T.setTop (mkF m 16 #[.val (.ref a1), .val (.int v1), .unset] [(.int (4 : Int32)), (.ref a1)])) (fun t k => ?_) ?_
      · show Steps p.tables e below (T.setTop (mkF m 11 #[.val (.ref a1), .val (.int v1), .unset] [(.int (10 : Int32)), (.int v1)])) t
        refine XS.icmpNo X.here hx rfl (hb hby dRawMessageIsPlainPinLaw_step_11) rfl (teq hc11).2 ?_
        show Steps p.tables e below (T.setTop (mkF m 14 #[.val (.ref a1), .val (.int v1), .unset] [])) t
        refine XS.aloadN X.here hx rfl (hb hby dRawMessageIsPlainPinLaw_step_14) rfl rfl ?_
        show Steps p.tables e below (T.setTop (mkF m 15 #[.val (.ref a1), .val (.int v1), .unset] [(.ref a1)])) t
        refine XS.iconst X.here hx rfl (hb hby dRawMessageIsPlainPinLaw_step_15) ?_
        exact k
      obtain ⟨hi16, hF⟩ := own_ck_e hF
      refine own_Goes.via (B := T.setTop (mkF m 17 #[.val (.ref a1), .val (.int v1), .unset] [(.int (own_rd bs_a1 (4 : Int32)))])) (fun t k => ?_) ?_
      · show Steps p.tables e below (T.setTop (mkF m 16 #[.val (.ref a1), .val (.int v1), .unset] [(.int (4 : Int32)), (.ref a1)])) t
        refine own_ldI X hx hZ eT A_a1 hi16 rfl (g := (mkF m 16 #[.val (.ref a1), .val (.int v1), .unset] [(.int (4 : Int32)), (.ref a1)])) rfl rfl (hb hby dRawMessageIsPlainPinLaw_step_16) ?_
        exact k
      by_cases hc17 : (own_rd bs_a1 (4 : Int32)) = (0 : Int32)
      · rw [if_pos hc17] at hF
        refine own_Goes.via (B := T.setTop (mkF m 37 #[.val (.ref a1), .val (.int v1), .unset] [(.int (1 : Int32)), (.int (0 : Int32)), (.ref a1)])) (fun t k => ?_) ?_
        · show Steps p.tables e below (T.setTop (mkF m 17 #[.val (.ref a1), .val (.int v1), .unset] [(.int (own_rd bs_a1 (4 : Int32)))])) t
          refine XS.ifYes X.here hx rfl (pc0 := 17) (pc' := 34) rfl (hb hby dRawMessageIsPlainPinLaw_step_17) rfl ((if0 _ _).trans (teq hc17).1) (by decide) (by decide) ?_
          show Steps p.tables e below (T.setTop (mkF m 34 #[.val (.ref a1), .val (.int v1), .unset] [])) t
          refine XS.aloadN X.here hx rfl (hb hby dRawMessageIsPlainPinLaw_step_34) rfl rfl ?_
          show Steps p.tables e below (T.setTop (mkF m 35 #[.val (.ref a1), .val (.int v1), .unset] [(.ref a1)])) t
          refine XS.iconst X.here hx rfl (hb hby dRawMessageIsPlainPinLaw_step_35) ?_
          show Steps p.tables e below (T.setTop (mkF m 36 #[.val (.ref a1), .val (.int v1), .unset] [(.int (0 : Int32)), (.ref a1)])) t
          refine XS.iconst X.here hx rfl (hb hby dRawMessageIsPlainPinLaw_step_36) ?_
          exact k
        obtain ⟨hi37, hF⟩ := own_ck_e hF
        obtain ⟨T302, h302, X302, e302, W302, A302_a1, st302⟩ := own_stI X hx hZ eT A_a1 hi37 (g := (mkF m 37 #[.val (.ref a1), .val (.int v1), .unset] [(.int (1 : Int32)), (.int (0 : Int32)), (.ref a1)])) rfl rfl (hb hby dRawMessageIsPlainPinLaw_step_37)
        refine own_Goes.via st302 ?_
        have z302 := Nat.le_trans z (Keep.of_wr W302).1
        have K302_ := K.wr W302 (Or.inl (List.mem_of_getElem? (i := 0) rfl))
        have N302 := Fr.snoc X302 N g_a1
        have A302_a1 : own_Ar Z h302 a1 .int ((own_wr bs_a1 (0 : Int32) (1 : Int32)).map Value.int) := A302_a1
        show own_Goes _ _ _ _ _ _ _ (T302.setTop (mkF m 38 #[.val (.ref a1), .val (.int v1), .unset] []))
        obtain ⟨bs303, hbs303, hF⟩ := own_lt_e hF
        rw [← hbs303] at A302_a1
        refine own_Goes.via (B := T302.setTop (mkF m 42 #[.val (.ref a1), .val (.int v1), .unset] [(.int (2 : Int32)), (.ref a1), (.int (1 : Int32)), (.ref a1)])) (fun t k => ?_) ?_
        · show Steps p.tables e below (T302.setTop (mkF m 38 #[.val (.ref a1), .val (.int v1), .unset] [])) t
          refine XS.aloadN X302.here hx rfl (hb hby dRawMessageIsPlainPinLaw_step_38) rfl rfl ?_
          show Steps p.tables e below (T302.setTop (mkF m 39 #[.val (.ref a1), .val (.int v1), .unset] [(.ref a1)])) t
          refine XS.iconst X302.here hx rfl (hb hby dRawMessageIsPlainPinLaw_step_39) ?_
          show Steps p.tables e below (T302.setTop (mkF m 40 #[.val (.ref a1), .val (.int v1), .unset] [(.int (1 : Int32)), (.ref a1)])) t
          refine XS.aloadN X302.here hx rfl (hb hby dRawMessageIsPlainPinLaw_step_40) rfl rfl ?_
          show Steps p.tables e below (T302.setTop (mkF m 41 #[.val (.ref a1), .val (.int v1), .unset] [(.ref a1), (.int (1 : Int32)), (.ref a1)])) t
          refine XS.iconst X302.here hx rfl (hb hby dRawMessageIsPlainPinLaw_step_41) ?_
          exact k
        obtain ⟨hi42, hF⟩ := own_ck_e hF
        refine own_Goes.via (B := T302.setTop (mkF m 43 #[.val (.ref a1), .val (.int v1), .unset] [(.int (own_rd bs303 (2 : Int32))), (.int (1 : Int32)), (.ref a1)])) (fun t k => ?_) ?_
        · show Steps p.tables e below (T302.setTop (mkF m 42 #[.val (.ref a1), .val (.int v1), .unset] [(.int (2 : Int32)), (.ref a1), (.int (1 : Int32)), (.ref a1)])) t
          refine own_ldI X302 hx hZ e302 A302_a1 hi42 rfl (g := (mkF m 42 #[.val (.ref a1), .val (.int v1), .unset] [(.int (2 : Int32)), (.ref a1), (.int (1 : Int32)), (.ref a1)])) rfl rfl (hb hby dRawMessageIsPlainPinLaw_step_42) ?_
          exact k
        obtain ⟨x304, hx304, hF⟩ := own_lt_e hF
        rw [← hx304]
        obtain ⟨hi43, hF⟩ := own_ck_e hF
        obtain ⟨T305, h305, X305, e305, W305, A305_a1, st305⟩ := own_stI X302 hx hZ e302 A302_a1 hi43 (g := (mkF m 43 #[.val (.ref a1), .val (.int v1), .unset] [(.int x304), (.int (1 : Int32)), (.ref a1)])) rfl rfl (hb hby dRawMessageIsPlainPinLaw_step_43)
        refine own_Goes.via st305 ?_
        have z305 := Nat.le_trans z302 (Keep.of_wr W305).1
        have K305_ := K302_.wr W305 (Or.inl (List.mem_of_getElem? (i := 0) rfl))
        have N305 := Fr.snoc X305 N302 g_a1
        have A305_a1 : own_Ar Z h305 a1 .int ((own_wr bs303 (1 : Int32) x304).map Value.int) := A305_a1
        show own_Goes _ _ _ _ _ _ _ (T305.setTop (mkF m 44 #[.val (.ref a1), .val (.int v1), .unset] []))
        obtain ⟨bs306, hbs306, hF⟩ := own_lt_e hF
        rw [← hbs306] at A305_a1
        obtain rfl : bs306 = r := Option.some.inj hF
        exact own_retV X305 hx hret hlk (hb hby dRawMessageIsPlainPinLaw_step_44) e305 ⟨rfl, N305, K305_, A305_a1⟩ (by decide) (by decide)
      · rw [if_neg hc17] at hF
        refine own_Goes.via (B := T.setTop (mkF m 22 #[.val (.ref a1), .val (.int v1), .unset] [(.int (4 : Int32)), (.ref a1)])) (fun t k => ?_) ?_
        · show Steps p.tables e below (T.setTop (mkF m 17 #[.val (.ref a1), .val (.int v1), .unset] [(.int (own_rd bs_a1 (4 : Int32)))])) t
          refine XS.ifNo X.here hx rfl (hb hby dRawMessageIsPlainPinLaw_step_17) rfl ((if0 _ _).trans (feq hc17).1) ?_
          show Steps p.tables e below (T.setTop (mkF m 20 #[.val (.ref a1), .val (.int v1), .unset] [])) t
          refine XS.aloadN X.here hx rfl (hb hby dRawMessageIsPlainPinLaw_step_20) rfl rfl ?_
          show Steps p.tables e below (T.setTop (mkF m 21 #[.val (.ref a1), .val (.int v1), .unset] [(.ref a1)])) t
          refine XS.iconst X.here hx rfl (hb hby dRawMessageIsPlainPinLaw_step_21) ?_
          exact k
        obtain ⟨hi22, hF⟩ := own_ck_e hF
        refine own_Goes.via (B := T.setTop (mkF m 24 #[.val (.ref a1), .val (.int v1), .unset] [(.int (1 : Int32)), (.int (own_rd bs_a1 (4 : Int32)))])) (fun t k => ?_) ?_
        · show Steps p.tables e below (T.setTop (mkF m 22 #[.val (.ref a1), .val (.int v1), .unset] [(.int (4 : Int32)), (.ref a1)])) t
          refine own_ldI X hx hZ eT A_a1 hi22 rfl (g := (mkF m 22 #[.val (.ref a1), .val (.int v1), .unset] [(.int (4 : Int32)), (.ref a1)])) rfl rfl (hb hby dRawMessageIsPlainPinLaw_step_22) ?_
          show Steps p.tables e below (T.setTop (mkF m 23 #[.val (.ref a1), .val (.int v1), .unset] [(.int (own_rd bs_a1 (4 : Int32)))])) t
          refine XS.iconst X.here hx rfl (hb hby dRawMessageIsPlainPinLaw_step_23) ?_
          exact k
        by_cases hc24 : (own_rd bs_a1 (4 : Int32)) = (1 : Int32)
        · rw [if_pos hc24] at hF
          refine own_Goes.via (B := T.setTop (mkF m 29 #[.val (.ref a1), .val (.int v1), .unset] [(.int (5 : Int32)), (.ref a1)])) (fun t k => ?_) ?_
          · show Steps p.tables e below (T.setTop (mkF m 24 #[.val (.ref a1), .val (.int v1), .unset] [(.int (1 : Int32)), (.int (own_rd bs_a1 (4 : Int32)))])) t
            refine XS.icmpNo X.here hx rfl (hb hby dRawMessageIsPlainPinLaw_step_24) rfl (teq hc24).2 ?_
            show Steps p.tables e below (T.setTop (mkF m 27 #[.val (.ref a1), .val (.int v1), .unset] [])) t
            refine XS.aloadN X.here hx rfl (hb hby dRawMessageIsPlainPinLaw_step_27) rfl rfl ?_
            show Steps p.tables e below (T.setTop (mkF m 28 #[.val (.ref a1), .val (.int v1), .unset] [(.ref a1)])) t
            refine XS.iconst X.here hx rfl (hb hby dRawMessageIsPlainPinLaw_step_28) ?_
            exact k
          obtain ⟨hi29, hF⟩ := own_ck_e hF
          refine own_Goes.via (B := T.setTop (mkF m 31 #[.val (.ref a1), .val (.int v1), .unset] [(.int (1 : Int32)), (.int (own_rd bs_a1 (5 : Int32)))])) (fun t k => ?_) ?_
          · show Steps p.tables e below (T.setTop (mkF m 29 #[.val (.ref a1), .val (.int v1), .unset] [(.int (5 : Int32)), (.ref a1)])) t
            refine own_ldI X hx hZ eT A_a1 hi29 rfl (g := (mkF m 29 #[.val (.ref a1), .val (.int v1), .unset] [(.int (5 : Int32)), (.ref a1)])) rfl rfl (hb hby dRawMessageIsPlainPinLaw_step_29) ?_
            show Steps p.tables e below (T.setTop (mkF m 30 #[.val (.ref a1), .val (.int v1), .unset] [(.int (own_rd bs_a1 (5 : Int32)))])) t
            refine XS.iconst X.here hx rfl (hb hby dRawMessageIsPlainPinLaw_step_30) ?_
            exact k
          by_cases hc31 : (own_rd bs_a1 (5 : Int32)) = (1 : Int32)
          · rw [if_pos hc31] at hF
            refine own_Goes.via (B := T.setTop (mkF m 37 #[.val (.ref a1), .val (.int v1), .unset] [(.int (1 : Int32)), (.int (0 : Int32)), (.ref a1)])) (fun t k => ?_) ?_
            · show Steps p.tables e below (T.setTop (mkF m 31 #[.val (.ref a1), .val (.int v1), .unset] [(.int (1 : Int32)), (.int (own_rd bs_a1 (5 : Int32)))])) t
              refine XS.icmpNo X.here hx rfl (hb hby dRawMessageIsPlainPinLaw_step_31) rfl (teq hc31).2 ?_
              show Steps p.tables e below (T.setTop (mkF m 34 #[.val (.ref a1), .val (.int v1), .unset] [])) t
              refine XS.aloadN X.here hx rfl (hb hby dRawMessageIsPlainPinLaw_step_34) rfl rfl ?_
              show Steps p.tables e below (T.setTop (mkF m 35 #[.val (.ref a1), .val (.int v1), .unset] [(.ref a1)])) t
              refine XS.iconst X.here hx rfl (hb hby dRawMessageIsPlainPinLaw_step_35) ?_
              show Steps p.tables e below (T.setTop (mkF m 36 #[.val (.ref a1), .val (.int v1), .unset] [(.int (0 : Int32)), (.ref a1)])) t
              refine XS.iconst X.here hx rfl (hb hby dRawMessageIsPlainPinLaw_step_36) ?_
              exact k
            obtain ⟨hi37, hF⟩ := own_ck_e hF
            obtain ⟨T307, h307, X307, e307, W307, A307_a1, st307⟩ := own_stI X hx hZ eT A_a1 hi37 (g := (mkF m 37 #[.val (.ref a1), .val (.int v1), .unset] [(.int (1 : Int32)), (.int (0 : Int32)), (.ref a1)])) rfl rfl (hb hby dRawMessageIsPlainPinLaw_step_37)
            refine own_Goes.via st307 ?_
            have z307 := Nat.le_trans z (Keep.of_wr W307).1
            have K307_ := K.wr W307 (Or.inl (List.mem_of_getElem? (i := 0) rfl))
            have N307 := Fr.snoc X307 N g_a1
            have A307_a1 : own_Ar Z h307 a1 .int ((own_wr bs_a1 (0 : Int32) (1 : Int32)).map Value.int) := A307_a1
            show own_Goes _ _ _ _ _ _ _ (T307.setTop (mkF m 38 #[.val (.ref a1), .val (.int v1), .unset] []))
            obtain ⟨bs308, hbs308, hF⟩ := own_lt_e hF
            rw [← hbs308] at A307_a1
            refine own_Goes.via (B := T307.setTop (mkF m 42 #[.val (.ref a1), .val (.int v1), .unset] [(.int (2 : Int32)), (.ref a1), (.int (1 : Int32)), (.ref a1)])) (fun t k => ?_) ?_
            · show Steps p.tables e below (T307.setTop (mkF m 38 #[.val (.ref a1), .val (.int v1), .unset] [])) t
              refine XS.aloadN X307.here hx rfl (hb hby dRawMessageIsPlainPinLaw_step_38) rfl rfl ?_
              show Steps p.tables e below (T307.setTop (mkF m 39 #[.val (.ref a1), .val (.int v1), .unset] [(.ref a1)])) t
              refine XS.iconst X307.here hx rfl (hb hby dRawMessageIsPlainPinLaw_step_39) ?_
              show Steps p.tables e below (T307.setTop (mkF m 40 #[.val (.ref a1), .val (.int v1), .unset] [(.int (1 : Int32)), (.ref a1)])) t
              refine XS.aloadN X307.here hx rfl (hb hby dRawMessageIsPlainPinLaw_step_40) rfl rfl ?_
              show Steps p.tables e below (T307.setTop (mkF m 41 #[.val (.ref a1), .val (.int v1), .unset] [(.ref a1), (.int (1 : Int32)), (.ref a1)])) t
              refine XS.iconst X307.here hx rfl (hb hby dRawMessageIsPlainPinLaw_step_41) ?_
              exact k
            obtain ⟨hi42, hF⟩ := own_ck_e hF
            refine own_Goes.via (B := T307.setTop (mkF m 43 #[.val (.ref a1), .val (.int v1), .unset] [(.int (own_rd bs308 (2 : Int32))), (.int (1 : Int32)), (.ref a1)])) (fun t k => ?_) ?_
            · show Steps p.tables e below (T307.setTop (mkF m 42 #[.val (.ref a1), .val (.int v1), .unset] [(.int (2 : Int32)), (.ref a1), (.int (1 : Int32)), (.ref a1)])) t
              refine own_ldI X307 hx hZ e307 A307_a1 hi42 rfl (g := (mkF m 42 #[.val (.ref a1), .val (.int v1), .unset] [(.int (2 : Int32)), (.ref a1), (.int (1 : Int32)), (.ref a1)])) rfl rfl (hb hby dRawMessageIsPlainPinLaw_step_42) ?_
              exact k
            obtain ⟨x309, hx309, hF⟩ := own_lt_e hF
            rw [← hx309]
            obtain ⟨hi43, hF⟩ := own_ck_e hF
            obtain ⟨T310, h310, X310, e310, W310, A310_a1, st310⟩ := own_stI X307 hx hZ e307 A307_a1 hi43 (g := (mkF m 43 #[.val (.ref a1), .val (.int v1), .unset] [(.int x309), (.int (1 : Int32)), (.ref a1)])) rfl rfl (hb hby dRawMessageIsPlainPinLaw_step_43)
            refine own_Goes.via st310 ?_
            have z310 := Nat.le_trans z307 (Keep.of_wr W310).1
            have K310_ := K307_.wr W310 (Or.inl (List.mem_of_getElem? (i := 0) rfl))
            have N310 := Fr.snoc X310 N307 g_a1
            have A310_a1 : own_Ar Z h310 a1 .int ((own_wr bs308 (1 : Int32) x309).map Value.int) := A310_a1
            show own_Goes _ _ _ _ _ _ _ (T310.setTop (mkF m 44 #[.val (.ref a1), .val (.int v1), .unset] []))
            obtain ⟨bs311, hbs311, hF⟩ := own_lt_e hF
            rw [← hbs311] at A310_a1
            obtain rfl : bs311 = r := Option.some.inj hF
            exact own_retV X310 hx hret hlk (hb hby dRawMessageIsPlainPinLaw_step_44) e310 ⟨rfl, N310, K310_, A310_a1⟩ (by decide) (by decide)
          · rw [if_neg hc31] at hF
            refine own_Goes.via (B := T.setTop (mkF m 45 #[.val (.ref a1), .val (.int v1), .unset] [])) (fun t k => ?_) ?_
            · show Steps p.tables e below (T.setTop (mkF m 31 #[.val (.ref a1), .val (.int v1), .unset] [(.int (1 : Int32)), (.int (own_rd bs_a1 (5 : Int32)))])) t
              refine XS.icmpYes X.here hx rfl (pc0 := 31) (pc' := 45) rfl (hb hby dRawMessageIsPlainPinLaw_step_31) rfl (feq hc31).2 (by decide) (by decide) ?_
              exact k
            exact b_RawMessageIsPlainPinLaw_step_45 cx a1 X eT N K z bs_a1 (.val (.int v1)) (.unset) (One.val rfl) One.u A_a1 g_a1 _ hF
        · rw [if_neg hc24] at hF
          refine own_Goes.via (B := T.setTop (mkF m 45 #[.val (.ref a1), .val (.int v1), .unset] [])) (fun t k => ?_) ?_
          · show Steps p.tables e below (T.setTop (mkF m 24 #[.val (.ref a1), .val (.int v1), .unset] [(.int (1 : Int32)), (.int (own_rd bs_a1 (4 : Int32)))])) t
            refine XS.icmpYes X.here hx rfl (pc0 := 24) (pc' := 45) rfl (hb hby dRawMessageIsPlainPinLaw_step_24) rfl (feq hc24).2 (by decide) (by decide) ?_
            exact k
          exact b_RawMessageIsPlainPinLaw_step_45 cx a1 X eT N K z bs_a1 (.val (.int v1)) (.unset) (One.val rfl) One.u A_a1 g_a1 _ hF
    · rw [if_neg hc11] at hF
      refine own_Goes.via (B := T.setTop (mkF m 125 #[.val (.ref a1), .val (.int v1), .unset] [(.int (8 : Int32)), (.ref a1)])) (fun t k => ?_) ?_
      · show Steps p.tables e below (T.setTop (mkF m 11 #[.val (.ref a1), .val (.int v1), .unset] [(.int (10 : Int32)), (.int v1)])) t
        refine XS.icmpYes X.here hx rfl (pc0 := 11) (pc' := 122) rfl (hb hby dRawMessageIsPlainPinLaw_step_11) rfl (feq hc11).2 (by decide) (by decide) ?_
        show Steps p.tables e below (T.setTop (mkF m 122 #[.val (.ref a1), .val (.int v1), .unset] [])) t
        refine XS.aloadN X.here hx rfl (hb hby dRawMessageIsPlainPinLaw_step_122) rfl rfl ?_
        show Steps p.tables e below (T.setTop (mkF m 123 #[.val (.ref a1), .val (.int v1), .unset] [(.ref a1)])) t
        refine XS.bipush X.here hx rfl (hb hby dRawMessageIsPlainPinLaw_step_123) ?_
        exact k
      obtain ⟨hi125, hF⟩ := own_ck_e hF
      refine own_Goes.via (B := T.setTop (mkF m 127 #[.val (.ref a1), .val (.int v1), .unset] [(.int (1 : Int32)), (.int (own_rd bs_a1 (8 : Int32)))])) (fun t k => ?_) ?_
      · show Steps p.tables e below (T.setTop (mkF m 125 #[.val (.ref a1), .val (.int v1), .unset] [(.int (8 : Int32)), (.ref a1)])) t
        refine own_ldI X hx hZ eT A_a1 hi125 rfl (g := (mkF m 125 #[.val (.ref a1), .val (.int v1), .unset] [(.int (8 : Int32)), (.ref a1)])) rfl rfl (hb hby dRawMessageIsPlainPinLaw_step_125) ?_
        show Steps p.tables e below (T.setTop (mkF m 126 #[.val (.ref a1), .val (.int v1), .unset] [(.int (own_rd bs_a1 (8 : Int32)))])) t
        refine XS.iconst X.here hx rfl (hb hby dRawMessageIsPlainPinLaw_step_126) ?_
        exact k
      by_cases hc127 : (own_rd bs_a1 (8 : Int32)) = (1 : Int32)
      · rw [if_pos hc127] at hF
        refine own_Goes.via (B := T.setTop (mkF m 134 #[.val (.ref a1), .val (.int v1), .unset] [(.int (1 : Int32)), (.int (9 : Int32)), (.ref a1)])) (fun t k => ?_) ?_
        · show Steps p.tables e below (T.setTop (mkF m 127 #[.val (.ref a1), .val (.int v1), .unset] [(.int (1 : Int32)), (.int (own_rd bs_a1 (8 : Int32)))])) t
          refine XS.icmpNo X.here hx rfl (hb hby dRawMessageIsPlainPinLaw_step_127) rfl (teq hc127).2 ?_
          show Steps p.tables e below (T.setTop (mkF m 130 #[.val (.ref a1), .val (.int v1), .unset] [])) t
          refine XS.aloadN X.here hx rfl (hb hby dRawMessageIsPlainPinLaw_step_130) rfl rfl ?_
          show Steps p.tables e below (T.setTop (mkF m 131 #[.val (.ref a1), .val (.int v1), .unset] [(.ref a1)])) t
          refine XS.bipush X.here hx rfl (hb hby dRawMessageIsPlainPinLaw_step_131) ?_
          show Steps p.tables e below (T.setTop (mkF m 133 #[.val (.ref a1), .val (.int v1), .unset] [(.int (9 : Int32)), (.ref a1)])) t
          refine XS.iconst X.here hx rfl (hb hby dRawMessageIsPlainPinLaw_step_133) ?_
          exact k
        obtain ⟨hi134, hF⟩ := own_ck_e hF
        obtain ⟨T312, h312, X312, e312, W312, A312_a1, st312⟩ := own_stI X hx hZ eT A_a1 hi134 (g := (mkF m 134 #[.val (.ref a1), .val (.int v1), .unset] [(.int (1 : Int32)), (.int (9 : Int32)), (.ref a1)])) rfl rfl (hb hby dRawMessageIsPlainPinLaw_step_134)
        refine own_Goes.via st312 ?_
        have z312 := Nat.le_trans z (Keep.of_wr W312).1
        have K312_ := K.wr W312 (Or.inl (List.mem_of_getElem? (i := 0) rfl))
        have N312 := Fr.snoc X312 N g_a1
        have A312_a1 : own_Ar Z h312 a1 .int ((own_wr bs_a1 (9 : Int32) (1 : Int32)).map Value.int) := A312_a1
        show own_Goes _ _ _ _ _ _ _ (T312.setTop (mkF m 135 #[.val (.ref a1), .val (.int v1), .unset] []))
        obtain ⟨bs313, hbs313, hF⟩ := own_lt_e hF
        rw [← hbs313] at A312_a1
        exact b_RawMessageIsPlainPinLaw_step_135 cx a1 X312 e312 N312 K312_ z312 v1 bs313 (.unset) One.u A312_a1 g_a1 _ hF
      · rw [if_neg hc127] at hF
        refine own_Goes.via (B := T.setTop (mkF m 135 #[.val (.ref a1), .val (.int v1), .unset] [])) (fun t k => ?_) ?_
        · show Steps p.tables e below (T.setTop (mkF m 127 #[.val (.ref a1), .val (.int v1), .unset] [(.int (1 : Int32)), (.int (own_rd bs_a1 (8 : Int32)))])) t
          refine XS.icmpYes X.here hx rfl (pc0 := 127) (pc' := 135) rfl (hb hby dRawMessageIsPlainPinLaw_step_127) rfl (feq hc127).2 (by decide) (by decide) ?_
          exact k
        exact b_RawMessageIsPlainPinLaw_step_135 cx a1 X eT N K z v1 bs_a1 (.unset) One.u A_a1 g_a1 _ hF
theorem ef_RawMessageIsPlainPinLaw_step (m : MethodId) (x0 : Addr) (x1 : Int32) : entryFrame m #[(.ref x0), (.int x1)] 3 = mkF m 0 #[.val (.ref x0), .val (.int x1), .unset] [] := by first | (simp [entryFrame, mkF, argsToLocals, Value.category]; done) | rfl
set_option maxRecDepth 65536 in
set_option maxHeartbeats 4000000 in
theorem rm_RawMessageIsPlainPinLaw_step (l : Launch) (Z : State) (a0 : Array Value) (hw : ∀ d ∈ tables_1, d.before a0 Z = true) (ws : List Jvm.Cond) (hE : Heap) (n0 : Nat) (z : n0 ≤ hE.size) (a1 : Addr) (v1 : Int32) (bs_a1 : List Int32) (A_a1 : own_Ar Z hE a1 .int (bs_a1.map Value.int)) (g_a1 : n0 ≤ a1) (r : (List Int32)) (hF : (f_RawMessageIsPlainPinLaw_step v1 bs_a1) = some r) :
    MetFree l (⟨"com/example/oxpecker/oxpecker/sip/RawMessageIsPlainPinLaw", "step", "([IB)V"⟩ : MethodName) (head1 (Jvm.Cond.code (⟨"com/example/oxpecker/oxpecker/sip/RawMessageIsPlainPinLaw", "step", "([IB)V"⟩ : MethodName) method_4_code 3 none :: ws) ({ frames := 0, cells := 0, slots := 0, locals := 0 } : Room)) (fun a U => a = #[(.ref a1), (.int v1)] ∧ Z.Warmed39 U.vm ∧ U.heap = hE) (fun _ _ _ _ _ => True) (fun _ U o U' => ∃ v L, o = .returned v ∧ (Q_RawMessageIsPlainPinLaw_step Z hE n0 a1 r) v U'.heap L ∧ FrameEnd U o U' L ({ frames := 0, cells := 0, slots := 0, locals := 0 } : Room).cells ({ frames := 0, cells := 0, slots := 0, locals := 0 } : Room).slots) := by
  refine MetFree.of_bodySF (plainFor_of_name pn_com_example_oxpecker_oxpecker_sip_RawMessageIsPlainPinLaw) hisR ?_
  intro p e s m args below meth c s₁ Bd hml0 hP hK
  obtain ⟨rfl, hZ, hh⟩ := hP
  have X0 : Stand p l e ({ frames := 0, cells := 0, slots := 0, locals := 0 } : Room) s m #[(.ref a1), (.int v1)] below meth c s₁ [] 0 0 := Stand.of_body Bd
  have e0 : s₁.heap = hE := by rw [← hh, Bd.state]; rfl
  have cx : Cx_RawMessageIsPlainPinLaw_step p s m meth c Z a0 := ⟨Bd.exec, hZ, hw, Bd.bytes, hml0, findClass_of_methodNamed Bd.named, Bd.returns, Bd.notSynchronized, (name_of_methodNamed Bd.named Bd.method).1⟩
  show own_Goes p e below s (Q_RawMessageIsPlainPinLaw_step Z hE n0 a1 r) ({ frames := 0, cells := 0, slots := 0, locals := 0 } : Room).cells ({ frames := 0, cells := 0, slots := 0, locals := 0 } : Room).slots (s₁.setTop (entryFrame m #[(.ref a1), (.int v1)] 3))
  rw [ef_RawMessageIsPlainPinLaw_step]
  exact b_RawMessageIsPlainPinLaw_step cx a1 X0 e0 (Fr.nil n0) (Keep.refl _ _) z v1 bs_a1 A_a1 g_a1 _ hF
/-! com/example/oxpecker/oxpecker/sip/RawMessage.indexOf:(BI)I -/
def f_RawMessage_indexOf_2 : Nat → Int32 → Int32 → Int32 → Int32 → (List Int32) → Option (Int32)
  | 0, _, _, _, _, _ => none
  | n + 1, v1, v3, f_a1_bodyStart, f_a1_lines, bs_a2 =>
    if v3 < (own_sz bs_a2) then
      own_ck (own_inb bs_a2 v3) <|
      if (own_rd bs_a2 v3) = v1 then
        some v3
      else
        own_lt (v3 + (1 : Int32)) fun x346 =>
        (f_RawMessage_indexOf_2 n) v1 x346 f_a1_bodyStart f_a1_lines bs_a2
    else
      some (-1 : Int32)
def f_RawMessage_indexOf (v1 : Int32) (v2 : Int32) (f_a1_bodyStart : Int32) (f_a1_lines : Int32) (bs_a2 : List Int32) : Option (Int32) :=
  (f_RawMessage_indexOf_2 100 v1 v2 f_a1_bodyStart f_a1_lines bs_a2)
def Q_RawMessage_indexOf (Z : State) (hE : Heap) (n0 : Nat) (a1 : Addr) (a2 : Addr) (r : Int32) (v : Option Value) (h : Heap) (L : List Loc) : Prop := v = some (.int r) ∧ Fr n0 L ∧ h = hE
def Cx_RawMessage_indexOf (p : Program) (s : State) (m : MethodId) (meth : Method) (c : Code) (Z : State) (a0 : Array Value) : Prop := p.tables.exec = Jvm.exec ∧ Z.Warmed39 s.vm ∧ (∀ d ∈ tables_1, d.before a0 Z = true) ∧ c.code = prog_12_method_17_code ∧ c.maxLocals = 4 ∧ s.vm.findClass "com/example/oxpecker/oxpecker/sip/RawMessage" = some m.cls ∧ meth.sig.returnType = some .int ∧ meth.locks = false ∧ meth.name = "indexOf"
set_option maxRecDepth 65536 in
set_option maxHeartbeats 4000000 in
theorem b_RawMessage_indexOf_2 {p : Program} {l : Launch} {e : Env} {s : State} {m : MethodId} {args : Array Value} {below : List Frame} {meth : Method} {c : Code} {Z : State} {a0 : Array Value} {n0 : Nat} {hE : Heap} (cx : Cx_RawMessage_indexOf p s m meth c Z a0) (a1 : Addr) (a2 : Addr) (n : Nat) :
    ∀ {T : State} {locs : List Loc} (X : Stand p l e ({ frames := 0, cells := 0, slots := 0, locals := 0 } : Room) s m args below meth c T locs 0 0) (eT : T.heap = hE) (N : Fr n0 locs) (z : n0 ≤ hE.size) (v1 : Int32) (v3 : Int32) (f_a1_bodyStart : Int32) (f_a1_lines : Int32) (bs_a2 : List Int32) (d2 : Slot) (o_d2 : One d2) (E_a1 : Exa Z hE a1 "com/example/oxpecker/oxpecker/sip/RawMessage") (F_a1_bodyStart : Fld Z hE a1 "com/example/oxpecker/oxpecker/sip/RawMessage" "bodyStart" "I" (.int f_a1_bodyStart)) (F_a1_bytes : Fld Z hE a1 "com/example/oxpecker/oxpecker/sip/RawMessage" "bytes" "[B" (.ref a2)) (F_a1_lineEnds : Fld Z hE a1 "com/example/oxpecker/oxpecker/sip/RawMessage" "lineEnds" "[I" .null) (F_a1_lineStarts : Fld Z hE a1 "com/example/oxpecker/oxpecker/sip/RawMessage" "lineStarts" "[I" .null) (F_a1_lines : Fld Z hE a1 "com/example/oxpecker/oxpecker/sip/RawMessage" "lines" "I" (.int f_a1_lines)) (F_a1_wordLengths : Fld Z hE a1 "com/example/oxpecker/oxpecker/sip/RawMessage" "wordLengths" "[I" .null) (g_a1 : n0 ≤ a1) (A_a2 : own_Ar Z hE a2 .byte (bs_a2.map Value.int)) (g_a2 : n0 ≤ a2) (ne_a1_a2 : a1 ≠ a2) (r : Int32), f_RawMessage_indexOf_2 n v1 v3 f_a1_bodyStart f_a1_lines bs_a2 = some r → own_Goes p e below s (Q_RawMessage_indexOf Z hE n0 a1 a2 r) 0 0 (T.setTop (mkF m 2 #[.val (.ref a1), .val (.int v1), d2, .val (.int v3)] [])) := by
  have cx' := cx
  obtain ⟨hx, hZ, hw, hby, hml, hown, hret, hlk, hnm⟩ := cx'
  induction n with
  | zero =>
    intro T locs X eT N z v1 v3 f_a1_bodyStart f_a1_lines bs_a2 d2 o_d2 E_a1 F_a1_bodyStart F_a1_bytes F_a1_lineEnds F_a1_lineStarts F_a1_lines F_a1_wordLengths g_a1 A_a2 g_a2 ne_a1_a2 r hF
    cases hF
  | succ n ih =>
    intro T locs X eT N z v1 v3 f_a1_bodyStart f_a1_lines bs_a2 d2 o_d2 E_a1 F_a1_bodyStart F_a1_bytes F_a1_lineEnds F_a1_lineStarts F_a1_lines F_a1_wordLengths g_a1 A_a2 g_a2 ne_a1_a2 r hF
    rw [f_RawMessage_indexOf_2] at hF
    refine own_Goes.via (B := T.setTop (mkF m 4 #[.val (.ref a1), .val (.int v1), d2, .val (.int v3)] [(.ref a1), (.int v3)])) (fun t k => ?_) ?_
    · show Steps p.tables e below (T.setTop (mkF m 2 #[.val (.ref a1), .val (.int v1), d2, .val (.int v3)] [])) t
      refine XS.iloadN X.here hx rfl (hb hby dRawMessage_indexOf_2) rfl ?_
      show Steps p.tables e below (T.setTop (mkF m 3 #[.val (.ref a1), .val (.int v1), d2, .val (.int v3)] [(.int v3)])) t
      refine XS.aloadN X.here hx rfl (hb hby dRawMessage_indexOf_3) rfl rfl ?_
      exact k
    obtain ⟨T344, X344, e344, st344⟩ := getF X hx hZ hown (host := "") (Or.inl (w20 hw)) Via.refl eT F_a1_bytes (g := (mkF m 4 #[.val (.ref a1), .val (.int v1), d2, .val (.int v3)] [(.ref a1), (.int v3)])) rfl rfl (hb hby dRawMessage_indexOf_4)
    refine own_Goes.via st344 ?_
    show own_Goes _ _ _ _ _ _ _ (T344.setTop (mkF m 7 #[.val (.ref a1), .val (.int v1), d2, .val (.int v3)] [(.ref a2), (.int v3)]))
    refine own_Goes.via (B := T344.setTop (mkF m 8 #[.val (.ref a1), .val (.int v1), d2, .val (.int v3)] [(.int (own_sz bs_a2)), (.int v3)])) (fun t k => ?_) ?_
    · show Steps p.tables e below (T344.setTop (mkF m 7 #[.val (.ref a1), .val (.int v1), d2, .val (.int v3)] [(.ref a2), (.int v3)])) t
      refine own_len X344 hx hZ e344 A_a2 (g := (mkF m 7 #[.val (.ref a1), .val (.int v1), d2, .val (.int v3)] [(.ref a2), (.int v3)])) rfl rfl (hb hby dRawMessage_indexOf_7) ?_
      exact k
    by_cases hc8 : v3 < (own_sz bs_a2)
    · rw [if_pos hc8] at hF
      refine own_Goes.via (B := T344.setTop (mkF m 12 #[.val (.ref a1), .val (.int v1), d2, .val (.int v3)] [(.ref a1)])) (fun t k => ?_) ?_
      · show Steps p.tables e below (T344.setTop (mkF m 8 #[.val (.ref a1), .val (.int v1), d2, .val (.int v3)] [(.int (own_sz bs_a2)), (.int v3)])) t
        refine XS.icmpNo X344.here hx rfl (hb hby dRawMessage_indexOf_8) rfl (tlt hc8).2.1 ?_
        show Steps p.tables e below (T344.setTop (mkF m 11 #[.val (.ref a1), .val (.int v1), d2, .val (.int v3)] [])) t
        refine XS.aloadN X344.here hx rfl (hb hby dRawMessage_indexOf_11) rfl rfl ?_
        exact k
      obtain ⟨T345, X345, e345, st345⟩ := getF X344 hx hZ hown (host := "") (Or.inl (w20 hw)) Via.refl e344 F_a1_bytes (g := (mkF m 12 #[.val (.ref a1), .val (.int v1), d2, .val (.int v3)] [(.ref a1)])) rfl rfl (hb hby dRawMessage_indexOf_12)
      refine own_Goes.via st345 ?_
      show own_Goes _ _ _ _ _ _ _ (T345.setTop (mkF m 15 #[.val (.ref a1), .val (.int v1), d2, .val (.int v3)] [(.ref a2)]))
      refine own_Goes.via (B := T345.setTop (mkF m 16 #[.val (.ref a1), .val (.int v1), d2, .val (.int v3)] [(.int v3), (.ref a2)])) (fun t k => ?_) ?_
      · show Steps p.tables e below (T345.setTop (mkF m 15 #[.val (.ref a1), .val (.int v1), d2, .val (.int v3)] [(.ref a2)])) t
        refine XS.iloadN X345.here hx rfl (hb hby dRawMessage_indexOf_15) rfl ?_
        exact k
      obtain ⟨hi16, hF⟩ := own_ck_e hF
      refine own_Goes.via (B := T345.setTop (mkF m 18 #[.val (.ref a1), .val (.int v1), d2, .val (.int v3)] [(.int v1), (.int (own_rd bs_a2 v3))])) (fun t k => ?_) ?_
      · show Steps p.tables e below (T345.setTop (mkF m 16 #[.val (.ref a1), .val (.int v1), d2, .val (.int v3)] [(.int v3), (.ref a2)])) t
        refine own_ldB X345 hx hZ e345 A_a2 hi16 rfl (g := (mkF m 16 #[.val (.ref a1), .val (.int v1), d2, .val (.int v3)] [(.int v3), (.ref a2)])) rfl rfl (hb hby dRawMessage_indexOf_16) ?_
        show Steps p.tables e below (T345.setTop (mkF m 17 #[.val (.ref a1), .val (.int v1), d2, .val (.int v3)] [(.int (own_rd bs_a2 v3))])) t
        refine XS.iloadN X345.here hx rfl (hb hby dRawMessage_indexOf_17) rfl ?_
        exact k
      by_cases hc18 : (own_rd bs_a2 v3) = v1
      · rw [if_pos hc18] at hF
        refine own_Goes.via (B := T345.setTop (mkF m 22 #[.val (.ref a1), .val (.int v1), d2, .val (.int v3)] [(.int v3)])) (fun t k => ?_) ?_
        · show Steps p.tables e below (T345.setTop (mkF m 18 #[.val (.ref a1), .val (.int v1), d2, .val (.int v3)] [(.int v1), (.int (own_rd bs_a2 v3))])) t
          refine XS.icmpNo X345.here hx rfl (hb hby dRawMessage_indexOf_18) rfl (teq hc18).2 ?_
          show Steps p.tables e below (T345.setTop (mkF m 21 #[.val (.ref a1), .val (.int v1), d2, .val (.int v3)] [])) t
          refine XS.iloadN X345.here hx rfl (hb hby dRawMessage_indexOf_21) rfl ?_
          exact k
        obtain rfl : v3 = r := Option.some.inj hF
        exact own_retI X345 hx hret hlk (hb hby dRawMessage_indexOf_22) e345 ⟨rfl, N, rfl⟩ (by decide) (by decide)
      · rw [if_neg hc18] at hF
        refine own_Goes.via (B := T345.setTop (mkF m 26 #[.val (.ref a1), .val (.int v1), d2, .val (.int (v3 + (1 : Int32)))] [])) (fun t k => ?_) ?_
        · show Steps p.tables e below (T345.setTop (mkF m 18 #[.val (.ref a1), .val (.int v1), d2, .val (.int v3)] [(.int v1), (.int (own_rd bs_a2 v3))])) t
          refine XS.icmpYes X345.here hx rfl (pc0 := 18) (pc' := 23) rfl (hb hby dRawMessage_indexOf_18) rfl (feq hc18).2 (by decide) (by decide) ?_
          show Steps p.tables e below (T345.setTop (mkF m 23 #[.val (.ref a1), .val (.int v1), d2, .val (.int v3)] [])) t
          refine XS.iinc X345.here hx rfl (hb hby dRawMessage_indexOf_23) rfl (l' := #[.val (.ref a1), .val (.int v1), d2, .val (.int (v3 + (1 : Int32)))]) rfl ?_
          exact k
        obtain ⟨x346, hx346, hF⟩ := own_lt_e hF
        rw [← hx346]
        refine own_Goes.via (B := T345.setTop (mkF m 2 #[.val (.ref a1), .val (.int v1), d2, .val (.int x346)] [])) (fun t k => ?_) ?_
        · show Steps p.tables e below (T345.setTop (mkF m 26 #[.val (.ref a1), .val (.int v1), d2, .val (.int x346)] [])) t
          refine XS.goto X345.here hx rfl (pc0 := 26) (pc' := 2) rfl (hb hby dRawMessage_indexOf_26) (by decide) (by decide) ?_
          exact k
        exact ih X345 e345 N z v1 x346 f_a1_bodyStart f_a1_lines bs_a2 d2 o_d2 E_a1 F_a1_bodyStart F_a1_bytes F_a1_lineEnds F_a1_lineStarts F_a1_lines F_a1_wordLengths g_a1 A_a2 g_a2 ne_a1_a2 _ hF
    · rw [if_neg hc8] at hF
      refine own_Goes.via (B := T344.setTop (mkF m 30 #[.val (.ref a1), .val (.int v1), d2, .val (.int v3)] [(.int (-1 : Int32))])) (fun t k => ?_) ?_
      · show Steps p.tables e below (T344.setTop (mkF m 8 #[.val (.ref a1), .val (.int v1), d2, .val (.int v3)] [(.int (own_sz bs_a2)), (.int v3)])) t
        refine XS.icmpYes X344.here hx rfl (pc0 := 8) (pc' := 29) rfl (hb hby dRawMessage_indexOf_8) rfl (flt hc8).2.1 (by decide) (by decide) ?_
        show Steps p.tables e below (T344.setTop (mkF m 29 #[.val (.ref a1), .val (.int v1), d2, .val (.int v3)] [])) t
        refine XS.iconst X344.here hx rfl (hb hby dRawMessage_indexOf_29) ?_
        exact k
      obtain rfl : (-1 : Int32) = r := Option.some.inj hF
      exact own_retI X344 hx hret hlk (hb hby dRawMessage_indexOf_30) e344 ⟨rfl, N, rfl⟩ (by decide) (by decide)
set_option maxRecDepth 65536 in
set_option maxHeartbeats 4000000 in
theorem b_RawMessage_indexOf {p : Program} {l : Launch} {e : Env} {s : State} {m : MethodId} {args : Array Value} {below : List Frame} {meth : Method} {c : Code} {Z : State} {a0 : Array Value} {n0 : Nat} {hE : Heap} (cx : Cx_RawMessage_indexOf p s m meth c Z a0) (a1 : Addr) (a2 : Addr) :
    ∀ {T : State} {locs : List Loc} (X : Stand p l e ({ frames := 0, cells := 0, slots := 0, locals := 0 } : Room) s m args below meth c T locs 0 0) (eT : T.heap = hE) (N : Fr n0 locs) (z : n0 ≤ hE.size) (v1 : Int32) (v2 : Int32) (f_a1_bodyStart : Int32) (f_a1_lines : Int32) (bs_a2 : List Int32) (E_a1 : Exa Z hE a1 "com/example/oxpecker/oxpecker/sip/RawMessage") (F_a1_bodyStart : Fld Z hE a1 "com/example/oxpecker/oxpecker/sip/RawMessage" "bodyStart" "I" (.int f_a1_bodyStart)) (F_a1_bytes : Fld Z hE a1 "com/example/oxpecker/oxpecker/sip/RawMessage" "bytes" "[B" (.ref a2)) (F_a1_lineEnds : Fld Z hE a1 "com/example/oxpecker/oxpecker/sip/RawMessage" "lineEnds" "[I" .null) (F_a1_lineStarts : Fld Z hE a1 "com/example/oxpecker/oxpecker/sip/RawMessage" "lineStarts" "[I" .null) (F_a1_lines : Fld Z hE a1 "com/example/oxpecker/oxpecker/sip/RawMessage" "lines" "I" (.int f_a1_lines)) (F_a1_wordLengths : Fld Z hE a1 "com/example/oxpecker/oxpecker/sip/RawMessage" "wordLengths" "[I" .null) (g_a1 : n0 ≤ a1) (A_a2 : own_Ar Z hE a2 .byte (bs_a2.map Value.int)) (g_a2 : n0 ≤ a2) (ne_a1_a2 : a1 ≠ a2) (r : Int32), f_RawMessage_indexOf v1 v2 f_a1_bodyStart f_a1_lines bs_a2 = some r → own_Goes p e below s (Q_RawMessage_indexOf Z hE n0 a1 a2 r) 0 0 (T.setTop (mkF m 0 #[.val (.ref a1), .val (.int v1), .val (.int v2), .unset] [])) := by
  have cx' := cx
  obtain ⟨hx, hZ, hw, hby, hml, hown, hret, hlk, hnm⟩ := cx'
  intro T locs X eT N z v1 v2 f_a1_bodyStart f_a1_lines bs_a2 E_a1 F_a1_bodyStart F_a1_bytes F_a1_lineEnds F_a1_lineStarts F_a1_lines F_a1_wordLengths g_a1 A_a2 g_a2 ne_a1_a2 r hF
  unfold f_RawMessage_indexOf at hF
  refine own_Goes.via (B := T.setTop (mkF m 2 #[.val (.ref a1), .val (.int v1), .val (.int v2), .val (.int v2)] [])) (fun t k => ?_) ?_
  · show Steps p.tables e below (T.setTop (mkF m 0 #[.val (.ref a1), .val (.int v1), .val (.int v2), .unset] [])) t
    refine XS.iloadN X.here hx rfl (hb hby dRawMessage_indexOf_0) rfl ?_
    show Steps p.tables e below (T.setTop (mkF m 1 #[.val (.ref a1), .val (.int v1), .val (.int v2), .unset] [(.int v2)])) t
    refine XS.istoreN X.here hx rfl (hb hby dRawMessage_indexOf_1) rfl (l' := #[.val (.ref a1), .val (.int v1), .val (.int v2), .val (.int v2)]) rfl ?_
    exact k
  exact b_RawMessage_indexOf_2 cx a1 a2 _ X eT N z v1 v2 f_a1_bodyStart f_a1_lines bs_a2 (.val (.int v2)) (One.val rfl) E_a1 F_a1_bodyStart F_a1_bytes F_a1_lineEnds F_a1_lineStarts F_a1_lines F_a1_wordLengths g_a1 A_a2 g_a2 ne_a1_a2 _ hF
theorem ef_RawMessage_indexOf (m : MethodId) (x0 : Addr) (x1 : Int32) (x2 : Int32) : entryFrame m #[(.ref x0), (.int x1), (.int x2)] 4 = mkF m 0 #[.val (.ref x0), .val (.int x1), .val (.int x2), .unset] [] := by first | (simp [entryFrame, mkF, argsToLocals, Value.category]; done) | rfl
set_option maxRecDepth 65536 in
set_option maxHeartbeats 4000000 in
theorem rm_RawMessage_indexOf (l : Launch) (Z : State) (a0 : Array Value) (hw : ∀ d ∈ tables_1, d.before a0 Z = true) (ws : List Jvm.Cond) (hE : Heap) (n0 : Nat) (z : n0 ≤ hE.size) (a1 : Addr) (a2 : Addr) (v1 : Int32) (v2 : Int32) (f_a1_bodyStart : Int32) (f_a1_lines : Int32) (bs_a2 : List Int32) (E_a1 : Exa Z hE a1 "com/example/oxpecker/oxpecker/sip/RawMessage") (F_a1_bodyStart : Fld Z hE a1 "com/example/oxpecker/oxpecker/sip/RawMessage" "bodyStart" "I" (.int f_a1_bodyStart)) (F_a1_bytes : Fld Z hE a1 "com/example/oxpecker/oxpecker/sip/RawMessage" "bytes" "[B" (.ref a2)) (F_a1_lineEnds : Fld Z hE a1 "com/example/oxpecker/oxpecker/sip/RawMessage" "lineEnds" "[I" .null) (F_a1_lineStarts : Fld Z hE a1 "com/example/oxpecker/oxpecker/sip/RawMessage" "lineStarts" "[I" .null) (F_a1_lines : Fld Z hE a1 "com/example/oxpecker/oxpecker/sip/RawMessage" "lines" "I" (.int f_a1_lines)) (F_a1_wordLengths : Fld Z hE a1 "com/example/oxpecker/oxpecker/sip/RawMessage" "wordLengths" "[I" .null) (g_a1 : n0 ≤ a1) (A_a2 : own_Ar Z hE a2 .byte (bs_a2.map Value.int)) (g_a2 : n0 ≤ a2) (ne_a1_a2 : a1 ≠ a2) (r : Int32) (hF : (f_RawMessage_indexOf v1 v2 f_a1_bodyStart f_a1_lines bs_a2) = some r) :
    MetFree l (⟨"com/example/oxpecker/oxpecker/sip/RawMessage", "indexOf", "(BI)I"⟩ : MethodName) (head1 (Jvm.Cond.code (⟨"com/example/oxpecker/oxpecker/sip/RawMessage", "indexOf", "(BI)I"⟩ : MethodName) prog_12_method_17_code 4 (some .int) :: ws) ({ frames := 0, cells := 0, slots := 0, locals := 0 } : Room)) (fun a U => a = #[(.ref a1), (.int v1), (.int v2)] ∧ Z.Warmed39 U.vm ∧ U.heap = hE) (fun _ _ _ _ _ => True) (fun _ U o U' => ∃ v L, o = .returned v ∧ (Q_RawMessage_indexOf Z hE n0 a1 a2 r) v U'.heap L ∧ FrameEnd U o U' L ({ frames := 0, cells := 0, slots := 0, locals := 0 } : Room).cells ({ frames := 0, cells := 0, slots := 0, locals := 0 } : Room).slots) := by
  refine MetFree.of_bodySF (plainFor_of_name pn_com_example_oxpecker_oxpecker_sip_RawMessage) hisR ?_
  intro p e s m args below meth c s₁ Bd hml0 hP hK
  obtain ⟨rfl, hZ, hh⟩ := hP
  have X0 : Stand p l e ({ frames := 0, cells := 0, slots := 0, locals := 0 } : Room) s m #[(.ref a1), (.int v1), (.int v2)] below meth c s₁ [] 0 0 := Stand.of_body Bd
  have e0 : s₁.heap = hE := by rw [← hh, Bd.state]; rfl
  have cx : Cx_RawMessage_indexOf p s m meth c Z a0 := ⟨Bd.exec, hZ, hw, Bd.bytes, hml0, findClass_of_methodNamed Bd.named, Bd.returns, Bd.notSynchronized, (name_of_methodNamed Bd.named Bd.method).1⟩
  show own_Goes p e below s (Q_RawMessage_indexOf Z hE n0 a1 a2 r) ({ frames := 0, cells := 0, slots := 0, locals := 0 } : Room).cells ({ frames := 0, cells := 0, slots := 0, locals := 0 } : Room).slots (s₁.setTop (entryFrame m #[(.ref a1), (.int v1), (.int v2)] 4))
  rw [ef_RawMessage_indexOf]
  exact b_RawMessage_indexOf cx a1 a2 X0 e0 (Fr.nil n0) z v1 v2 f_a1_bodyStart f_a1_lines bs_a2 E_a1 F_a1_bodyStart F_a1_bytes F_a1_lineEnds F_a1_lineStarts F_a1_lines F_a1_wordLengths g_a1 A_a2 g_a2 ne_a1_a2 _ hF
/-! com/example/oxpecker/oxpecker/sip/RawMessage.<init>:([B)V -/
def f_RawMessage_mk_222 (v5 : Int32) (v6 : Int32) (f_a1_bodyStart : Int32) (f_a1_lines : Int32) (bs_a2 : List Int32) (bs_b1 : List Int32) (bs_b2 : List Int32) (bs_b3 : List Int32) : Option (Int32 × Int32 × (List Int32) × (List Int32) × (List Int32)) :=
  some (v6, v5, bs_b2, bs_b1, bs_b3)
def f_RawMessage_mk_188 (k34 : Int32 → Int32 → Int32 → Int32 → Int32 → (List Int32) → (List Int32) → (List Int32) → (List Int32) → Option (Int32 × Int32 × (List Int32) × (List Int32) × (List Int32))) (v5 : Int32) (v6 : Int32) (v7 : Int32) (v9 : Int32) (v10 : Int32) (f_a1_bodyStart : Int32) (f_a1_lines : Int32) (bs_a2 : List Int32) (bs_b1 : List Int32) (bs_b2 : List Int32) (bs_b3 : List Int32) : Option (Int32 × Int32 × (List Int32) × (List Int32) × (List Int32)) :=
  own_ck (own_inb bs_b1 v5) <|
  own_lt (own_wr bs_b1 v5 v7) fun bs416 =>
  own_ck (own_inb bs_b2 v5) <|
  own_lt (own_wr bs_b2 v5 v9) fun bs418 =>
  own_lt (v10 - v7) fun x419 =>
  own_ck (own_inb bs_b3 v5) <|
  own_lt (own_wr bs_b3 v5 x419) fun bs421 =>
  own_lt (v5 + (1 : Int32)) fun x422 =>
  own_lt (v9 + (1 : Int32)) fun x423 =>
  k34 x422 v6 x423 f_a1_bodyStart f_a1_lines bs_a2 bs416 bs418 bs421
def f_RawMessage_mk_148 (k34 : Int32 → Int32 → Int32 → Int32 → Int32 → (List Int32) → (List Int32) → (List Int32) → (List Int32) → Option (Int32 × Int32 × (List Int32) × (List Int32) × (List Int32))) : Nat → Int32 → Int32 → Int32 → Int32 → Int32 → Int32 → Int32 → (List Int32) → (List Int32) → (List Int32) → (List Int32) → Option (Int32 × Int32 × (List Int32) × (List Int32) × (List Int32))
  | 0, _, _, _, _, _, _, _, _, _, _, _ => none
  | n + 1, v5, v6, v7, v9, v10, f_a1_bodyStart, f_a1_lines, bs_a2, bs_b1, bs_b2, bs_b3 =>
    if v10 < v9 then
      own_ck (own_inb bs_a2 v10) <|
      if (own_rd bs_a2 v10) = (58 : Int32) then
        (f_RawMessage_mk_188 k34 v5 v6 v7 v9 v10 f_a1_bodyStart f_a1_lines bs_a2 bs_b1 bs_b2 bs_b3)
      else
        own_ck (own_inb bs_a2 v10) <|
        if (own_rd bs_a2 v10) = (32 : Int32) then
          (f_RawMessage_mk_188 k34 v5 v6 v7 v9 v10 f_a1_bodyStart f_a1_lines bs_a2 bs_b1 bs_b2 bs_b3)
        else
          own_ck (own_inb bs_a2 v10) <|
          if (own_rd bs_a2 v10) = (9 : Int32) then
            (f_RawMessage_mk_188 k34 v5 v6 v7 v9 v10 f_a1_bodyStart f_a1_lines bs_a2 bs_b1 bs_b2 bs_b3)
          else
            own_lt (v10 + (1 : Int32)) fun x425 =>
            (f_RawMessage_mk_148 k34 n) v5 v6 v7 v9 x425 f_a1_bodyStart f_a1_lines bs_a2 bs_b1 bs_b2 bs_b3
    else
      (f_RawMessage_mk_188 k34 v5 v6 v7 v9 v10 f_a1_bodyStart f_a1_lines bs_a2 bs_b1 bs_b2 bs_b3)
def f_RawMessage_mk_108 (k34 : Int32 → Int32 → Int32 → Int32 → Int32 → (List Int32) → (List Int32) → (List Int32) → (List Int32) → Option (Int32 × Int32 × (List Int32) × (List Int32) × (List Int32))) (v5 : Int32) (v6 : Int32) (v7 : Int32) (v9 : Int32) (f_a1_bodyStart : Int32) (f_a1_lines : Int32) (bs_a2 : List Int32) (bs_b1 : List Int32) (bs_b2 : List Int32) (bs_b3 : List Int32) : Option (Int32 × Int32 × (List Int32) × (List Int32) × (List Int32)) :=
  if v5 = (own_sz bs_b1) then
    none
  else
    (f_RawMessage_mk_148 k34 100 v5 v6 v7 v9 v7 f_a1_bodyStart f_a1_lines bs_a2 bs_b1 bs_b2 bs_b3)
def f_RawMessage_mk_63 (k34 : Int32 → Int32 → Int32 → Int32 → Int32 → (List Int32) → (List Int32) → (List Int32) → (List Int32) → Option (Int32 × Int32 × (List Int32) × (List Int32) × (List Int32))) (v5 : Int32) (v6 : Int32) (v7 : Int32) (v8 : Int32) (t0 : Int32) (f_a1_bodyStart : Int32) (f_a1_lines : Int32) (bs_a2 : List Int32) (bs_b1 : List Int32) (bs_b2 : List Int32) (bs_b3 : List Int32) : Option (Int32 × Int32 × (List Int32) × (List Int32) × (List Int32)) :=
  if t0 = v7 then
    if v8 < (0 : Int32) then
      (f_RawMessage_mk_222 v5 (-1 : Int32) f_a1_bodyStart f_a1_lines bs_a2 bs_b1 bs_b2 bs_b3)
    else
      own_lt (v8 + (1 : Int32)) fun x426 =>
      (f_RawMessage_mk_222 v5 x426 f_a1_bodyStart f_a1_lines bs_a2 bs_b1 bs_b2 bs_b3)
  else
    if t0 = (v7 + (1 : Int32)) then
      own_ck (own_inb bs_a2 v7) <|
      if (own_rd bs_a2 v7) = (13 : Int32) then
        if v8 < (0 : Int32) then
          (f_RawMessage_mk_222 v5 (-1 : Int32) f_a1_bodyStart f_a1_lines bs_a2 bs_b1 bs_b2 bs_b3)
        else
          own_lt (v8 + (1 : Int32)) fun x427 =>
          (f_RawMessage_mk_222 v5 x427 f_a1_bodyStart f_a1_lines bs_a2 bs_b1 bs_b2 bs_b3)
      else
        (f_RawMessage_mk_108 k34 v5 v6 v7 t0 f_a1_bodyStart f_a1_lines bs_a2 bs_b1 bs_b2 bs_b3)
    else
      (f_RawMessage_mk_108 k34 v5 v6 v7 t0 f_a1_bodyStart f_a1_lines bs_a2 bs_b1 bs_b2 bs_b3)
def f_RawMessage_mk_34 : Nat → Int32 → Int32 → Int32 → Int32 → Int32 → (List Int32) → (List Int32) → (List Int32) → (List Int32) → Option (Int32 × Int32 × (List Int32) × (List Int32) × (List Int32))
  | 0, _, _, _, _, _, _, _, _, _ => none
  | n + 1, v5, v6, v7, f_a1_bodyStart, f_a1_lines, bs_a2, bs_b1, bs_b2, bs_b3 =>
    if v7 < (own_sz bs_a2) then
      own_bd (f_RawMessage_indexOf (10 : Int32) v7 f_a1_bodyStart f_a1_lines bs_a2) fun r428 =>
      if r428 < (0 : Int32) then
        (f_RawMessage_mk_63 (f_RawMessage_mk_34 n) v5 v6 v7 r428 (own_sz bs_a2) f_a1_bodyStart f_a1_lines bs_a2 bs_b1 bs_b2 bs_b3)
      else
        (f_RawMessage_mk_63 (f_RawMessage_mk_34 n) v5 v6 v7 r428 r428 f_a1_bodyStart f_a1_lines bs_a2 bs_b1 bs_b2 bs_b3)
    else
      (f_RawMessage_mk_222 v5 v6 f_a1_bodyStart f_a1_lines bs_a2 bs_b1 bs_b2 bs_b3)
def f_RawMessage_mk (f_a1_bodyStart : Int32) (f_a1_lines : Int32) (bs_a2 : List Int32) : Option (Int32 × Int32 × (List Int32) × (List Int32) × (List Int32)) :=
  (f_RawMessage_mk_34 100 (0 : Int32) (-1 : Int32) (0 : Int32) f_a1_bodyStart f_a1_lines bs_a2 ([(0 : Int32), (0 : Int32), (0 : Int32), (0 : Int32), (0 : Int32), (0 : Int32), (0 : Int32), (0 : Int32), (0 : Int32), (0 : Int32), (0 : Int32), (0 : Int32), (0 : Int32), (0 : Int32), (0 : Int32), (0 : Int32)] : List Int32) ([(0 : Int32), (0 : Int32), (0 : Int32), (0 : Int32), (0 : Int32), (0 : Int32), (0 : Int32), (0 : Int32), (0 : Int32), (0 : Int32), (0 : Int32), (0 : Int32), (0 : Int32), (0 : Int32), (0 : Int32), (0 : Int32)] : List Int32) ([(0 : Int32), (0 : Int32), (0 : Int32), (0 : Int32), (0 : Int32), (0 : Int32), (0 : Int32), (0 : Int32), (0 : Int32), (0 : Int32), (0 : Int32), (0 : Int32), (0 : Int32), (0 : Int32), (0 : Int32), (0 : Int32)] : List Int32))
def Q_RawMessage_mk (Z : State) (hE : Heap) (n0 : Nat) (a1 : Addr) (a2 : Addr) (r : Int32 × Int32 × (List Int32) × (List Int32) × (List Int32)) (v : Option Value) (h : Heap) (L : List Loc) : Prop := ∃ b1 : Addr, ∃ b2 : Addr, ∃ b3 : Addr, v = none ∧ Fr n0 L ∧ Keep hE h [a1] ∧ Exa Z h a1 "com/example/oxpecker/oxpecker/sip/RawMessage" ∧ Fld Z h a1 "com/example/oxpecker/oxpecker/sip/RawMessage" "bodyStart" "I" (.int r.1) ∧ Fld Z h a1 "com/example/oxpecker/oxpecker/sip/RawMessage" "bytes" "[B" (.ref a2) ∧ Fld Z h a1 "com/example/oxpecker/oxpecker/sip/RawMessage" "lineEnds" "[I" (.ref b1) ∧ Fld Z h a1 "com/example/oxpecker/oxpecker/sip/RawMessage" "lineStarts" "[I" (.ref b2) ∧ Fld Z h a1 "com/example/oxpecker/oxpecker/sip/RawMessage" "lines" "I" (.int r.2.1) ∧ Fld Z h a1 "com/example/oxpecker/oxpecker/sip/RawMessage" "wordLengths" "[I" (.ref b3) ∧ n0 ≤ b1 ∧ hE.size ≤ b1 ∧ own_Ar Z h b1 .int (r.2.2.1.map Value.int) ∧ n0 ≤ b2 ∧ hE.size ≤ b2 ∧ own_Ar Z h b2 .int (r.2.2.2.1.map Value.int) ∧ b2 ≠ b1 ∧ n0 ≤ b3 ∧ hE.size ≤ b3 ∧ own_Ar Z h b3 .int (r.2.2.2.2.map Value.int) ∧ b3 ≠ b1 ∧ b3 ≠ b2
def Cx_RawMessage_mk (p : Program) (s : State) (m : MethodId) (meth : Method) (c : Code) (Z : State) (a0 : Array Value) : Prop := p.tables.exec = Jvm.exec ∧ Z.Warmed39 s.vm ∧ (∀ d ∈ tables_1, d.before a0 Z = true) ∧ c.code = prog_12_method_1_code ∧ c.maxLocals = 11 ∧ s.vm.findClass "com/example/oxpecker/oxpecker/sip/RawMessage" = some m.cls ∧ meth.sig.returnType = none ∧ meth.locks = false ∧ meth.name = "<init>"
set_option maxRecDepth 65536 in
set_option maxHeartbeats 4000000 in
theorem b_RawMessage_mk_222 {p : Program} {l : Launch} {e : Env} {s : State} {m : MethodId} {args : Array Value} {below : List Frame} {meth : Method} {c : Code} {Z : State} {a0 : Array Value} {n0 : Nat} {hE : Heap} (cx : Cx_RawMessage_mk p s m meth c Z a0) (a1 : Addr) (a2 : Addr) :
    ∀ {T : State} {locs : List Loc} {h : Heap} (X : Stand p l e ({ frames := 1, cells := 3, slots := 48, locals := 15 } : Room) s m args below meth c T locs 3 48) (eT : T.heap = h) (N : Fr n0 locs) (K : Keep hE h [a1]) (z : n0 ≤ h.size) (b1 : Addr) (b2 : Addr) (b3 : Addr) (v5 : Int32) (v6 : Int32) (f_a1_bodyStart : Int32) (f_a1_lines : Int32) (bs_a2 : List Int32) (bs_b1 : List Int32) (bs_b2 : List Int32) (bs_b3 : List Int32) (d1 : Slot) (d7 : Slot) (d8 : Slot) (d9 : Slot) (d10 : Slot) (o_d1 : One d1) (o_d7 : One d7) (o_d8 : One d8) (o_d9 : One d9) (o_d10 : One d10) (E_a1 : Exa Z h a1 "com/example/oxpecker/oxpecker/sip/RawMessage") (F_a1_bodyStart : Fld Z h a1 "com/example/oxpecker/oxpecker/sip/RawMessage" "bodyStart" "I" (.int f_a1_bodyStart)) (F_a1_bytes : Fld Z h a1 "com/example/oxpecker/oxpecker/sip/RawMessage" "bytes" "[B" (.ref a2)) (F_a1_lineEnds : Fld Z h a1 "com/example/oxpecker/oxpecker/sip/RawMessage" "lineEnds" "[I" .null) (F_a1_lineStarts : Fld Z h a1 "com/example/oxpecker/oxpecker/sip/RawMessage" "lineStarts" "[I" .null) (F_a1_lines : Fld Z h a1 "com/example/oxpecker/oxpecker/sip/RawMessage" "lines" "I" (.int f_a1_lines)) (F_a1_wordLengths : Fld Z h a1 "com/example/oxpecker/oxpecker/sip/RawMessage" "wordLengths" "[I" .null) (g_a1 : n0 ≤ a1) (A_a2 : own_Ar Z h a2 .byte (bs_a2.map Value.int)) (g_a2 : n0 ≤ a2) (A_b1 : own_Ar Z h b1 .int (bs_b1.map Value.int)) (g_b1 : n0 ≤ b1) (nE_b1 : hE.size ≤ b1) (A_b2 : own_Ar Z h b2 .int (bs_b2.map Value.int)) (g_b2 : n0 ≤ b2) (nE_b2 : hE.size ≤ b2) (A_b3 : own_Ar Z h b3 .int (bs_b3.map Value.int)) (g_b3 : n0 ≤ b3) (nE_b3 : hE.size ≤ b3) (ne_a1_a2 : a1 ≠ a2) (ne_a1_b1 : a1 ≠ b1) (ne_a2_b1 : a2 ≠ b1) (ne_a1_b2 : a1 ≠ b2) (ne_a2_b2 : a2 ≠ b2) (ne_b1_b2 : b1 ≠ b2) (ne_a1_b3 : a1 ≠ b3) (ne_a2_b3 : a2 ≠ b3) (ne_b1_b3 : b1 ≠ b3) (ne_b2_b3 : b2 ≠ b3) (r : Int32 × Int32 × (List Int32) × (List Int32) × (List Int32)), f_RawMessage_mk_222 v5 v6 f_a1_bodyStart f_a1_lines bs_a2 bs_b1 bs_b2 bs_b3 = some r → own_Goes p e below s (Q_RawMessage_mk Z hE n0 a1 a2 r) 3 48 (T.setTop (mkF m 222 #[.val (.ref a1), d1, .val (.ref b1), .val (.ref b2), .val (.ref b3), .val (.int v5), .val (.int v6), d7, d8, d9, d10] [])) := by
  have cx' := cx
  obtain ⟨hx, hZ, hw, hby, hml, hown, hret, hlk, hnm⟩ := cx'
  intro T locs h X eT N K z b1 b2 b3 v5 v6 f_a1_bodyStart f_a1_lines bs_a2 bs_b1 bs_b2 bs_b3 d1 d7 d8 d9 d10 o_d1 o_d7 o_d8 o_d9 o_d10 E_a1 F_a1_bodyStart F_a1_bytes F_a1_lineEnds F_a1_lineStarts F_a1_lines F_a1_wordLengths g_a1 A_a2 g_a2 A_b1 g_b1 nE_b1 A_b2 g_b2 nE_b2 A_b3 g_b3 nE_b3 ne_a1_a2 ne_a1_b1 ne_a2_b1 ne_a1_b2 ne_a2_b2 ne_b1_b2 ne_a1_b3 ne_a2_b3 ne_b1_b3 ne_b2_b3 r hF
  unfold f_RawMessage_mk_222 at hF
  refine own_Goes.via (B := T.setTop (mkF m 224 #[.val (.ref a1), d1, .val (.ref b1), .val (.ref b2), .val (.ref b3), .val (.int v5), .val (.int v6), d7, d8, d9, d10] [(.ref b1), (.ref a1)])) (fun t k => ?_) ?_
  · show Steps p.tables e below (T.setTop (mkF m 222 #[.val (.ref a1), d1, .val (.ref b1), .val (.ref b2), .val (.ref b3), .val (.int v5), .val (.int v6), d7, d8, d9, d10] [])) t
    refine XS.aloadN X.here hx rfl (hb hby dRawMessage_mk_222) rfl rfl ?_
    show Steps p.tables e below (T.setTop (mkF m 223 #[.val (.ref a1), d1, .val (.ref b1), .val (.ref b2), .val (.ref b3), .val (.int v5), .val (.int v6), d7, d8, d9, d10] [(.ref a1)])) t
    refine XS.aloadN X.here hx rfl (hb hby dRawMessage_mk_223) rfl rfl ?_
    exact k
  obtain ⟨T399, h399, X399, e399, W399, st399⟩ := putF X hx hZ hown (host := "") (Or.inl (w26 hw)) Via.refl eT F_a1_lineStarts E_a1 (Or.inr ⟨(w27 hw), rfl, hnm⟩) (w12 hw) (ty := (.array .int)) (by decide) rfl rfl (g := (mkF m 224 #[.val (.ref a1), d1, .val (.ref b1), .val (.ref b2), .val (.ref b3), .val (.int v5), .val (.int v6), d7, d8, d9, d10] [(.ref b1), (.ref a1)])) rfl rfl (hb hby dRawMessage_mk_224)
  refine own_Goes.via st399 ?_
  have E399_a1 := E_a1.wr W399
  have F399_a1_bodyStart := F_a1_bodyStart.other W399 (Or.inr (slot_ne (Or.inr (w35 hw)) (Or.inr (w27 hw)) (by decide) (t := .int) (t' := (.array .int)) (by decide) (by decide)))
  have F399_a1_bytes := F_a1_bytes.other W399 (Or.inr (slot_ne (Or.inr (w21 hw)) (Or.inr (w27 hw)) (by decide) (t := (.array .byte)) (t' := (.array .int)) (by decide) (by decide)))
  have F399_a1_lineEnds := F_a1_lineEnds.other W399 (Or.inr (slot_ne (Or.inr (w29 hw)) (Or.inr (w27 hw)) (by decide) (t := (.array .int)) (t' := (.array .int)) (by decide) (by decide)))
  have F399_a1_lines := F_a1_lines.other W399 (Or.inr (slot_ne (Or.inr (w33 hw)) (Or.inr (w27 hw)) (by decide) (t := .int) (t' := (.array .int)) (by decide) (by decide)))
  have F399_a1_wordLengths := F_a1_wordLengths.other W399 (Or.inr (slot_ne (Or.inr (w31 hw)) (Or.inr (w27 hw)) (by decide) (t := (.array .int)) (t' := (.array .int)) (by decide) (by decide)))
  have A399_a2 := A_a2.other W399 (Ne.symm ne_a1_a2)
  have A399_b1 := A_b1.other W399 (Ne.symm ne_a1_b1)
  have A399_b2 := A_b2.other W399 (Ne.symm ne_a1_b2)
  have A399_b3 := A_b3.other W399 (Ne.symm ne_a1_b3)
  have F399_a1_lineStarts := F_a1_lineStarts.same W399
  have z399 := Nat.le_trans z (Keep.of_wr W399).1
  have K399_ := K.wr W399 (Or.inl (List.mem_of_getElem? (i := 0) rfl))
  have N399 := Fr.snoc X399 N g_a1
  show own_Goes _ _ _ _ _ _ _ (T399.setTop (mkF m 227 #[.val (.ref a1), d1, .val (.ref b1), .val (.ref b2), .val (.ref b3), .val (.int v5), .val (.int v6), d7, d8, d9, d10] []))
  refine own_Goes.via (B := T399.setTop (mkF m 229 #[.val (.ref a1), d1, .val (.ref b1), .val (.ref b2), .val (.ref b3), .val (.int v5), .val (.int v6), d7, d8, d9, d10] [(.ref b2), (.ref a1)])) (fun t k => ?_) ?_
  · show Steps p.tables e below (T399.setTop (mkF m 227 #[.val (.ref a1), d1, .val (.ref b1), .val (.ref b2), .val (.ref b3), .val (.int v5), .val (.int v6), d7, d8, d9, d10] [])) t
    refine XS.aloadN X399.here hx rfl (hb hby dRawMessage_mk_227) rfl rfl ?_
    show Steps p.tables e below (T399.setTop (mkF m 228 #[.val (.ref a1), d1, .val (.ref b1), .val (.ref b2), .val (.ref b3), .val (.int v5), .val (.int v6), d7, d8, d9, d10] [(.ref a1)])) t
    refine XS.aloadN X399.here hx rfl (hb hby dRawMessage_mk_228) rfl rfl ?_
    exact k
  obtain ⟨T400, h400, X400, e400, W400, st400⟩ := putF X399 hx hZ hown (host := "") (Or.inl (w28 hw)) Via.refl e399 F399_a1_lineEnds E399_a1 (Or.inr ⟨(w29 hw), rfl, hnm⟩) (w12 hw) (ty := (.array .int)) (by decide) rfl rfl (g := (mkF m 229 #[.val (.ref a1), d1, .val (.ref b1), .val (.ref b2), .val (.ref b3), .val (.int v5), .val (.int v6), d7, d8, d9, d10] [(.ref b2), (.ref a1)])) rfl rfl (hb hby dRawMessage_mk_229)
  refine own_Goes.via st400 ?_
  have E400_a1 := E399_a1.wr W400
  have F400_a1_bodyStart := F399_a1_bodyStart.other W400 (Or.inr (slot_ne (Or.inr (w35 hw)) (Or.inr (w29 hw)) (by decide) (t := .int) (t' := (.array .int)) (by decide) (by decide)))
  have F400_a1_bytes := F399_a1_bytes.other W400 (Or.inr (slot_ne (Or.inr (w21 hw)) (Or.inr (w29 hw)) (by decide) (t := (.array .byte)) (t' := (.array .int)) (by decide) (by decide)))
  have F400_a1_lineStarts := F399_a1_lineStarts.other W400 (Or.inr (slot_ne (Or.inr (w27 hw)) (Or.inr (w29 hw)) (by decide) (t := (.array .int)) (t' := (.array .int)) (by decide) (by decide)))
  have F400_a1_lines := F399_a1_lines.other W400 (Or.inr (slot_ne (Or.inr (w33 hw)) (Or.inr (w29 hw)) (by decide) (t := .int) (t' := (.array .int)) (by decide) (by decide)))
  have F400_a1_wordLengths := F399_a1_wordLengths.other W400 (Or.inr (slot_ne (Or.inr (w31 hw)) (Or.inr (w29 hw)) (by decide) (t := (.array .int)) (t' := (.array .int)) (by decide) (by decide)))
  have A400_a2 := A399_a2.other W400 (Ne.symm ne_a1_a2)
  have A400_b1 := A399_b1.other W400 (Ne.symm ne_a1_b1)
  have A400_b2 := A399_b2.other W400 (Ne.symm ne_a1_b2)
  have A400_b3 := A399_b3.other W400 (Ne.symm ne_a1_b3)
  have F400_a1_lineEnds := F399_a1_lineEnds.same W400
  have z400 := Nat.le_trans z399 (Keep.of_wr W400).1
  have K400_ := K399_.wr W400 (Or.inl (List.mem_of_getElem? (i := 0) rfl))
  have N400 := Fr.snoc X400 N399 g_a1
  show own_Goes _ _ _ _ _ _ _ (T400.setTop (mkF m 232 #[.val (.ref a1), d1, .val (.ref b1), .val (.ref b2), .val (.ref b3), .val (.int v5), .val (.int v6), d7, d8, d9, d10] []))
  refine own_Goes.via (B := T400.setTop (mkF m 235 #[.val (.ref a1), d1, .val (.ref b1), .val (.ref b2), .val (.ref b3), .val (.int v5), .val (.int v6), d7, d8, d9, d10] [(.ref b3), (.ref a1)])) (fun t k => ?_) ?_
  · show Steps p.tables e below (T400.setTop (mkF m 232 #[.val (.ref a1), d1, .val (.ref b1), .val (.ref b2), .val (.ref b3), .val (.int v5), .val (.int v6), d7, d8, d9, d10] [])) t
    refine XS.aloadN X400.here hx rfl (hb hby dRawMessage_mk_232) rfl rfl ?_
    show Steps p.tables e below (T400.setTop (mkF m 233 #[.val (.ref a1), d1, .val (.ref b1), .val (.ref b2), .val (.ref b3), .val (.int v5), .val (.int v6), d7, d8, d9, d10] [(.ref a1)])) t
    refine XS.aload X400.here hx rfl (hb hby dRawMessage_mk_233) rfl rfl ?_
    exact k
  obtain ⟨T401, h401, X401, e401, W401, st401⟩ := putF X400 hx hZ hown (host := "") (Or.inl (w30 hw)) Via.refl e400 F400_a1_wordLengths E400_a1 (Or.inr ⟨(w31 hw), rfl, hnm⟩) (w12 hw) (ty := (.array .int)) (by decide) rfl rfl (g := (mkF m 235 #[.val (.ref a1), d1, .val (.ref b1), .val (.ref b2), .val (.ref b3), .val (.int v5), .val (.int v6), d7, d8, d9, d10] [(.ref b3), (.ref a1)])) rfl rfl (hb hby dRawMessage_mk_235)
  refine own_Goes.via st401 ?_
  have E401_a1 := E400_a1.wr W401
  have F401_a1_bodyStart := F400_a1_bodyStart.other W401 (Or.inr (slot_ne (Or.inr (w35 hw)) (Or.inr (w31 hw)) (by decide) (t := .int) (t' := (.array .int)) (by decide) (by decide)))
  have F401_a1_bytes := F400_a1_bytes.other W401 (Or.inr (slot_ne (Or.inr (w21 hw)) (Or.inr (w31 hw)) (by decide) (t := (.array .byte)) (t' := (.array .int)) (by decide) (by decide)))
  have F401_a1_lineEnds := F400_a1_lineEnds.other W401 (Or.inr (slot_ne (Or.inr (w29 hw)) (Or.inr (w31 hw)) (by decide) (t := (.array .int)) (t' := (.array .int)) (by decide) (by decide)))
  have F401_a1_lineStarts := F400_a1_lineStarts.other W401 (Or.inr (slot_ne (Or.inr (w27 hw)) (Or.inr (w31 hw)) (by decide) (t := (.array .int)) (t' := (.array .int)) (by decide) (by decide)))
  have F401_a1_lines := F400_a1_lines.other W401 (Or.inr (slot_ne (Or.inr (w33 hw)) (Or.inr (w31 hw)) (by decide) (t := .int) (t' := (.array .int)) (by decide) (by decide)))
  have A401_a2 := A400_a2.other W401 (Ne.symm ne_a1_a2)
  have A401_b1 := A400_b1.other W401 (Ne.symm ne_a1_b1)
  have A401_b2 := A400_b2.other W401 (Ne.symm ne_a1_b2)
  have A401_b3 := A400_b3.other W401 (Ne.symm ne_a1_b3)
  have F401_a1_wordLengths := F400_a1_wordLengths.same W401
  have z401 := Nat.le_trans z400 (Keep.of_wr W401).1
  have K401_ := K400_.wr W401 (Or.inl (List.mem_of_getElem? (i := 0) rfl))
  have N401 := Fr.snoc X401 N400 g_a1
  show own_Goes _ _ _ _ _ _ _ (T401.setTop (mkF m 238 #[.val (.ref a1), d1, .val (.ref b1), .val (.ref b2), .val (.ref b3), .val (.int v5), .val (.int v6), d7, d8, d9, d10] []))
  refine own_Goes.via (B := T401.setTop (mkF m 241 #[.val (.ref a1), d1, .val (.ref b1), .val (.ref b2), .val (.ref b3), .val (.int v5), .val (.int v6), d7, d8, d9, d10] [(.int v5), (.ref a1)])) (fun t k => ?_) ?_
  · show Steps p.tables e below (T401.setTop (mkF m 238 #[.val (.ref a1), d1, .val (.ref b1), .val (.ref b2), .val (.ref b3), .val (.int v5), .val (.int v6), d7, d8, d9, d10] [])) t
    refine XS.aloadN X401.here hx rfl (hb hby dRawMessage_mk_238) rfl rfl ?_
    show Steps p.tables e below (T401.setTop (mkF m 239 #[.val (.ref a1), d1, .val (.ref b1), .val (.ref b2), .val (.ref b3), .val (.int v5), .val (.int v6), d7, d8, d9, d10] [(.ref a1)])) t
    refine XS.iload X401.here hx rfl (hb hby dRawMessage_mk_239) rfl ?_
    exact k
  obtain ⟨T402, h402, X402, e402, W402, st402⟩ := putF X401 hx hZ hown (host := "") (Or.inl (w32 hw)) Via.refl e401 F401_a1_lines E401_a1 (Or.inr ⟨(w33 hw), rfl, hnm⟩) (w12 hw) (ty := .int) (by decide) rfl rfl (g := (mkF m 241 #[.val (.ref a1), d1, .val (.ref b1), .val (.ref b2), .val (.ref b3), .val (.int v5), .val (.int v6), d7, d8, d9, d10] [(.int v5), (.ref a1)])) rfl rfl (hb hby dRawMessage_mk_241)
  refine own_Goes.via st402 ?_
  have E402_a1 := E401_a1.wr W402
  have F402_a1_bodyStart := F401_a1_bodyStart.other W402 (Or.inr (slot_ne (Or.inr (w35 hw)) (Or.inr (w33 hw)) (by decide) (t := .int) (t' := .int) (by decide) (by decide)))
  have F402_a1_bytes := F401_a1_bytes.other W402 (Or.inr (slot_ne (Or.inr (w21 hw)) (Or.inr (w33 hw)) (by decide) (t := (.array .byte)) (t' := .int) (by decide) (by decide)))
  have F402_a1_lineEnds := F401_a1_lineEnds.other W402 (Or.inr (slot_ne (Or.inr (w29 hw)) (Or.inr (w33 hw)) (by decide) (t := (.array .int)) (t' := .int) (by decide) (by decide)))
  have F402_a1_lineStarts := F401_a1_lineStarts.other W402 (Or.inr (slot_ne (Or.inr (w27 hw)) (Or.inr (w33 hw)) (by decide) (t := (.array .int)) (t' := .int) (by decide) (by decide)))
  have F402_a1_wordLengths := F401_a1_wordLengths.other W402 (Or.inr (slot_ne (Or.inr (w31 hw)) (Or.inr (w33 hw)) (by decide) (t := (.array .int)) (t' := .int) (by decide) (by decide)))
  have A402_a2 := A401_a2.other W402 (Ne.symm ne_a1_a2)
  have A402_b1 := A401_b1.other W402 (Ne.symm ne_a1_b1)
  have A402_b2 := A401_b2.other W402 (Ne.symm ne_a1_b2)
  have A402_b3 := A401_b3.other W402 (Ne.symm ne_a1_b3)
  have F402_a1_lines := F401_a1_lines.same W402
  have z402 := Nat.le_trans z401 (Keep.of_wr W402).1
  have K402_ := K401_.wr W402 (Or.inl (List.mem_of_getElem? (i := 0) rfl))
  have N402 := Fr.snoc X402 N401 g_a1
  show own_Goes _ _ _ _ _ _ _ (T402.setTop (mkF m 244 #[.val (.ref a1), d1, .val (.ref b1), .val (.ref b2), .val (.ref b3), .val (.int v5), .val (.int v6), d7, d8, d9, d10] []))
  refine own_Goes.via (B := T402.setTop (mkF m 247 #[.val (.ref a1), d1, .val (.ref b1), .val (.ref b2), .val (.ref b3), .val (.int v5), .val (.int v6), d7, d8, d9, d10] [(.int v6), (.ref a1)])) (fun t k => ?_) ?_
  · show Steps p.tables e below (T402.setTop (mkF m 244 #[.val (.ref a1), d1, .val (.ref b1), .val (.ref b2), .val (.ref b3), .val (.int v5), .val (.int v6), d7, d8, d9, d10] [])) t
    refine XS.aloadN X402.here hx rfl (hb hby dRawMessage_mk_244) rfl rfl ?_
    show Steps p.tables e below (T402.setTop (mkF m 245 #[.val (.ref a1), d1, .val (.ref b1), .val (.ref b2), .val (.ref b3), .val (.int v5), .val (.int v6), d7, d8, d9, d10] [(.ref a1)])) t
    refine XS.iload X402.here hx rfl (hb hby dRawMessage_mk_245) rfl ?_
    exact k
  obtain ⟨T403, h403, X403, e403, W403, st403⟩ := putF X402 hx hZ hown (host := "") (Or.inl (w34 hw)) Via.refl e402 F402_a1_bodyStart E402_a1 (Or.inr ⟨(w35 hw), rfl, hnm⟩) (w12 hw) (ty := .int) (by decide) rfl rfl (g := (mkF m 247 #[.val (.ref a1), d1, .val (.ref b1), .val (.ref b2), .val (.ref b3), .val (.int v5), .val (.int v6), d7, d8, d9, d10] [(.int v6), (.ref a1)])) rfl rfl (hb hby dRawMessage_mk_247)
  refine own_Goes.via st403 ?_
  have E403_a1 := E402_a1.wr W403
  have F403_a1_bytes := F402_a1_bytes.other W403 (Or.inr (slot_ne (Or.inr (w21 hw)) (Or.inr (w35 hw)) (by decide) (t := (.array .byte)) (t' := .int) (by decide) (by decide)))
  have F403_a1_lineEnds := F402_a1_lineEnds.other W403 (Or.inr (slot_ne (Or.inr (w29 hw)) (Or.inr (w35 hw)) (by decide) (t := (.array .int)) (t' := .int) (by decide) (by decide)))
  have F403_a1_lineStarts := F402_a1_lineStarts.other W403 (Or.inr (slot_ne (Or.inr (w27 hw)) (Or.inr (w35 hw)) (by decide) (t := (.array .int)) (t' := .int) (by decide) (by decide)))
  have F403_a1_lines := F402_a1_lines.other W403 (Or.inr (slot_ne (Or.inr (w33 hw)) (Or.inr (w35 hw)) (by decide) (t := .int) (t' := .int) (by decide) (by decide)))
  have F403_a1_wordLengths := F402_a1_wordLengths.other W403 (Or.inr (slot_ne (Or.inr (w31 hw)) (Or.inr (w35 hw)) (by decide) (t := (.array .int)) (t' := .int) (by decide) (by decide)))
  have A403_a2 := A402_a2.other W403 (Ne.symm ne_a1_a2)
  have A403_b1 := A402_b1.other W403 (Ne.symm ne_a1_b1)
  have A403_b2 := A402_b2.other W403 (Ne.symm ne_a1_b2)
  have A403_b3 := A402_b3.other W403 (Ne.symm ne_a1_b3)
  have F403_a1_bodyStart := F402_a1_bodyStart.same W403
  have z403 := Nat.le_trans z402 (Keep.of_wr W403).1
  have K403_ := K402_.wr W403 (Or.inl (List.mem_of_getElem? (i := 0) rfl))
  have N403 := Fr.snoc X403 N402 g_a1
  show own_Goes _ _ _ _ _ _ _ (T403.setTop (mkF m 250 #[.val (.ref a1), d1, .val (.ref b1), .val (.ref b2), .val (.ref b3), .val (.int v5), .val (.int v6), d7, d8, d9, d10] []))
  obtain rfl : (v6, v5, bs_b2, bs_b1, bs_b3) = r := Option.some.inj hF
  exact own_retV X403 hx hret hlk (hb hby dRawMessage_mk_250) e403 ⟨b2, b1, b3, rfl, N403, K403_, E403_a1, F403_a1_bodyStart, F403_a1_bytes, F403_a1_lineEnds, F403_a1_lineStarts, F403_a1_lines, F403_a1_wordLengths, g_b2, nE_b2, A403_b2, g_b1, nE_b1, A403_b1, ne_b1_b2, g_b3, nE_b3, A403_b3, (Ne.symm ne_b2_b3), (Ne.symm ne_b1_b3)⟩ (by decide) (by decide)
set_option maxRecDepth 65536 in
set_option maxHeartbeats 4000000 in
theorem b_RawMessage_mk_188 {p : Program} {l : Launch} {e : Env} {s : State} {m : MethodId} {args : Array Value} {below : List Frame} {meth : Method} {c : Code} {Z : State} {a0 : Array Value} {n0 : Nat} {hE : Heap} (cx : Cx_RawMessage_mk p s m meth c Z a0) (a1 : Addr) (a2 : Addr) {k34 : Int32 → Int32 → Int32 → Int32 → Int32 → (List Int32) → (List Int32) → (List Int32) → (List Int32) → Option (Int32 × Int32 × (List Int32) × (List Int32) × (List Int32))} (hk34 : ∀ {T : State} {locs : List Loc} {h : Heap} (X : Stand p l e ({ frames := 1, cells := 3, slots := 48, locals := 15 } : Room) s m args below meth c T locs 3 48) (eT : T.heap = h) (N : Fr n0 locs) (K : Keep hE h [a1]) (z : n0 ≤ h.size) (b1 : Addr) (b2 : Addr) (b3 : Addr) (v5 : Int32) (v6 : Int32) (v7 : Int32) (f_a1_bodyStart : Int32) (f_a1_lines : Int32) (bs_a2 : List Int32) (bs_b1 : List Int32) (bs_b2 : List Int32) (bs_b3 : List Int32) (d8 : Slot) (d9 : Slot) (d10 : Slot) (o_d8 : One d8) (o_d9 : One d9) (o_d10 : One d10) (E_a1 : Exa Z h a1 "com/example/oxpecker/oxpecker/sip/RawMessage") (F_a1_bodyStart : Fld Z h a1 "com/example/oxpecker/oxpecker/sip/RawMessage" "bodyStart" "I" (.int f_a1_bodyStart)) (F_a1_bytes : Fld Z h a1 "com/example/oxpecker/oxpecker/sip/RawMessage" "bytes" "[B" (.ref a2)) (F_a1_lineEnds : Fld Z h a1 "com/example/oxpecker/oxpecker/sip/RawMessage" "lineEnds" "[I" .null) (F_a1_lineStarts : Fld Z h a1 "com/example/oxpecker/oxpecker/sip/RawMessage" "lineStarts" "[I" .null) (F_a1_lines : Fld Z h a1 "com/example/oxpecker/oxpecker/sip/RawMessage" "lines" "I" (.int f_a1_lines)) (F_a1_wordLengths : Fld Z h a1 "com/example/oxpecker/oxpecker/sip/RawMessage" "wordLengths" "[I" .null) (g_a1 : n0 ≤ a1) (A_a2 : own_Ar Z h a2 .byte (bs_a2.map Value.int)) (g_a2 : n0 ≤ a2) (A_b1 : own_Ar Z h b1 .int (bs_b1.map Value.int)) (g_b1 : n0 ≤ b1) (nE_b1 : hE.size ≤ b1) (A_b2 : own_Ar Z h b2 .int (bs_b2.map Value.int)) (g_b2 : n0 ≤ b2) (nE_b2 : hE.size ≤ b2) (A_b3 : own_Ar Z h b3 .int (bs_b3.map Value.int)) (g_b3 : n0 ≤ b3) (nE_b3 : hE.size ≤ b3) (ne_a1_a2 : a1 ≠ a2) (ne_a1_b1 : a1 ≠ b1) (ne_a2_b1 : a2 ≠ b1) (ne_a1_b2 : a1 ≠ b2) (ne_a2_b2 : a2 ≠ b2) (ne_b1_b2 : b1 ≠ b2) (ne_a1_b3 : a1 ≠ b3) (ne_a2_b3 : a2 ≠ b3) (ne_b1_b3 : b1 ≠ b3) (ne_b2_b3 : b2 ≠ b3) (r : Int32 × Int32 × (List Int32) × (List Int32) × (List Int32)), k34 v5 v6 v7 f_a1_bodyStart f_a1_lines bs_a2 bs_b1 bs_b2 bs_b3 = some r → own_Goes p e below s (Q_RawMessage_mk Z hE n0 a1 a2 r) 3 48 (T.setTop (mkF m 34 #[.val (.ref a1), .val (.ref a2), .val (.ref b1), .val (.ref b2), .val (.ref b3), .val (.int v5), .val (.int v6), .val (.int v7), d8, d9, d10] []))) :
    ∀ {T : State} {locs : List Loc} {h : Heap} (X : Stand p l e ({ frames := 1, cells := 3, slots := 48, locals := 15 } : Room) s m args below meth c T locs 3 48) (eT : T.heap = h) (N : Fr n0 locs) (K : Keep hE h [a1]) (z : n0 ≤ h.size) (b1 : Addr) (b2 : Addr) (b3 : Addr) (v5 : Int32) (v6 : Int32) (v7 : Int32) (v9 : Int32) (v10 : Int32) (f_a1_bodyStart : Int32) (f_a1_lines : Int32) (bs_a2 : List Int32) (bs_b1 : List Int32) (bs_b2 : List Int32) (bs_b3 : List Int32) (d8 : Slot) (o_d8 : One d8) (E_a1 : Exa Z h a1 "com/example/oxpecker/oxpecker/sip/RawMessage") (F_a1_bodyStart : Fld Z h a1 "com/example/oxpecker/oxpecker/sip/RawMessage" "bodyStart" "I" (.int f_a1_bodyStart)) (F_a1_bytes : Fld Z h a1 "com/example/oxpecker/oxpecker/sip/RawMessage" "bytes" "[B" (.ref a2)) (F_a1_lineEnds : Fld Z h a1 "com/example/oxpecker/oxpecker/sip/RawMessage" "lineEnds" "[I" .null) (F_a1_lineStarts : Fld Z h a1 "com/example/oxpecker/oxpecker/sip/RawMessage" "lineStarts" "[I" .null) (F_a1_lines : Fld Z h a1 "com/example/oxpecker/oxpecker/sip/RawMessage" "lines" "I" (.int f_a1_lines)) (F_a1_wordLengths : Fld Z h a1 "com/example/oxpecker/oxpecker/sip/RawMessage" "wordLengths" "[I" .null) (g_a1 : n0 ≤ a1) (A_a2 : own_Ar Z h a2 .byte (bs_a2.map Value.int)) (g_a2 : n0 ≤ a2) (A_b1 : own_Ar Z h b1 .int (bs_b1.map Value.int)) (g_b1 : n0 ≤ b1) (nE_b1 : hE.size ≤ b1) (A_b2 : own_Ar Z h b2 .int (bs_b2.map Value.int)) (g_b2 : n0 ≤ b2) (nE_b2 : hE.size ≤ b2) (A_b3 : own_Ar Z h b3 .int (bs_b3.map Value.int)) (g_b3 : n0 ≤ b3) (nE_b3 : hE.size ≤ b3) (ne_a1_a2 : a1 ≠ a2) (ne_a1_b1 : a1 ≠ b1) (ne_a2_b1 : a2 ≠ b1) (ne_a1_b2 : a1 ≠ b2) (ne_a2_b2 : a2 ≠ b2) (ne_b1_b2 : b1 ≠ b2) (ne_a1_b3 : a1 ≠ b3) (ne_a2_b3 : a2 ≠ b3) (ne_b1_b3 : b1 ≠ b3) (ne_b2_b3 : b2 ≠ b3) (r : Int32 × Int32 × (List Int32) × (List Int32) × (List Int32)), f_RawMessage_mk_188 k34 v5 v6 v7 v9 v10 f_a1_bodyStart f_a1_lines bs_a2 bs_b1 bs_b2 bs_b3 = some r → own_Goes p e below s (Q_RawMessage_mk Z hE n0 a1 a2 r) 3 48 (T.setTop (mkF m 188 #[.val (.ref a1), .val (.ref a2), .val (.ref b1), .val (.ref b2), .val (.ref b3), .val (.int v5), .val (.int v6), .val (.int v7), d8, .val (.int v9), .val (.int v10)] [])) := by
  have cx' := cx
  obtain ⟨hx, hZ, hw, hby, hml, hown, hret, hlk, hnm⟩ := cx'
  intro T locs h X eT N K z b1 b2 b3 v5 v6 v7 v9 v10 f_a1_bodyStart f_a1_lines bs_a2 bs_b1 bs_b2 bs_b3 d8 o_d8 E_a1 F_a1_bodyStart F_a1_bytes F_a1_lineEnds F_a1_lineStarts F_a1_lines F_a1_wordLengths g_a1 A_a2 g_a2 A_b1 g_b1 nE_b1 A_b2 g_b2 nE_b2 A_b3 g_b3 nE_b3 ne_a1_a2 ne_a1_b1 ne_a2_b1 ne_a1_b2 ne_a2_b2 ne_b1_b2 ne_a1_b3 ne_a2_b3 ne_b1_b3 ne_b2_b3 r hF
  unfold f_RawMessage_mk_188 at hF
  refine own_Goes.via (B := T.setTop (mkF m 193 #[.val (.ref a1), .val (.ref a2), .val (.ref b1), .val (.ref b2), .val (.ref b3), .val (.int v5), .val (.int v6), .val (.int v7), d8, .val (.int v9), .val (.int v10)] [(.int v7), (.int v5), (.ref b1)])) (fun t k => ?_) ?_
  · show Steps p.tables e below (T.setTop (mkF m 188 #[.val (.ref a1), .val (.ref a2), .val (.ref b1), .val (.ref b2), .val (.ref b3), .val (.int v5), .val (.int v6), .val (.int v7), d8, .val (.int v9), .val (.int v10)] [])) t
    refine XS.aloadN X.here hx rfl (hb hby dRawMessage_mk_188) rfl rfl ?_
    show Steps p.tables e below (T.setTop (mkF m 189 #[.val (.ref a1), .val (.ref a2), .val (.ref b1), .val (.ref b2), .val (.ref b3), .val (.int v5), .val (.int v6), .val (.int v7), d8, .val (.int v9), .val (.int v10)] [(.ref b1)])) t
    refine XS.iload X.here hx rfl (hb hby dRawMessage_mk_189) rfl ?_
    show Steps p.tables e below (T.setTop (mkF m 191 #[.val (.ref a1), .val (.ref a2), .val (.ref b1), .val (.ref b2), .val (.ref b3), .val (.int v5), .val (.int v6), .val (.int v7), d8, .val (.int v9), .val (.int v10)] [(.int v5), (.ref b1)])) t
    refine XS.iload X.here hx rfl (hb hby dRawMessage_mk_191) rfl ?_
    exact k
  obtain ⟨hi193, hF⟩ := own_ck_e hF
  obtain ⟨T415, h415, X415, e415, W415, A415_b1, st415⟩ := own_stI X hx hZ eT A_b1 hi193 (g := (mkF m 193 #[.val (.ref a1), .val (.ref a2), .val (.ref b1), .val (.ref b2), .val (.ref b3), .val (.int v5), .val (.int v6), .val (.int v7), d8, .val (.int v9), .val (.int v10)] [(.int v7), (.int v5), (.ref b1)])) rfl rfl (hb hby dRawMessage_mk_193)
  refine own_Goes.via st415 ?_
  have E415_a1 := E_a1.wr W415
  have F415_a1_bodyStart := F_a1_bodyStart.other W415 (Or.inl ne_a1_b1)
  have F415_a1_bytes := F_a1_bytes.other W415 (Or.inl ne_a1_b1)
  have F415_a1_lineEnds := F_a1_lineEnds.other W415 (Or.inl ne_a1_b1)
  have F415_a1_lineStarts := F_a1_lineStarts.other W415 (Or.inl ne_a1_b1)
  have F415_a1_lines := F_a1_lines.other W415 (Or.inl ne_a1_b1)
  have F415_a1_wordLengths := F_a1_wordLengths.other W415 (Or.inl ne_a1_b1)
  have A415_a2 := A_a2.other W415 ne_a2_b1
  have A415_b2 := A_b2.other W415 (Ne.symm ne_b1_b2)
  have A415_b3 := A_b3.other W415 (Ne.symm ne_b1_b3)
  have z415 := Nat.le_trans z (Keep.of_wr W415).1
  have K415_ := K.wr W415 (Or.inr nE_b1)
  have N415 := Fr.snoc X415 N g_b1
  have A415_b1 : own_Ar Z h415 b1 .int ((own_wr bs_b1 v5 v7).map Value.int) := A415_b1
  show own_Goes _ _ _ _ _ _ _ (T415.setTop (mkF m 194 #[.val (.ref a1), .val (.ref a2), .val (.ref b1), .val (.ref b2), .val (.ref b3), .val (.int v5), .val (.int v6), .val (.int v7), d8, .val (.int v9), .val (.int v10)] []))
  obtain ⟨bs416, hbs416, hF⟩ := own_lt_e hF
  rw [← hbs416] at A415_b1
  refine own_Goes.via (B := T415.setTop (mkF m 199 #[.val (.ref a1), .val (.ref a2), .val (.ref b1), .val (.ref b2), .val (.ref b3), .val (.int v5), .val (.int v6), .val (.int v7), d8, .val (.int v9), .val (.int v10)] [(.int v9), (.int v5), (.ref b2)])) (fun t k => ?_) ?_
  · show Steps p.tables e below (T415.setTop (mkF m 194 #[.val (.ref a1), .val (.ref a2), .val (.ref b1), .val (.ref b2), .val (.ref b3), .val (.int v5), .val (.int v6), .val (.int v7), d8, .val (.int v9), .val (.int v10)] [])) t
    refine XS.aloadN X415.here hx rfl (hb hby dRawMessage_mk_194) rfl rfl ?_
    show Steps p.tables e below (T415.setTop (mkF m 195 #[.val (.ref a1), .val (.ref a2), .val (.ref b1), .val (.ref b2), .val (.ref b3), .val (.int v5), .val (.int v6), .val (.int v7), d8, .val (.int v9), .val (.int v10)] [(.ref b2)])) t
    refine XS.iload X415.here hx rfl (hb hby dRawMessage_mk_195) rfl ?_
    show Steps p.tables e below (T415.setTop (mkF m 197 #[.val (.ref a1), .val (.ref a2), .val (.ref b1), .val (.ref b2), .val (.ref b3), .val (.int v5), .val (.int v6), .val (.int v7), d8, .val (.int v9), .val (.int v10)] [(.int v5), (.ref b2)])) t
    refine XS.iload X415.here hx rfl (hb hby dRawMessage_mk_197) rfl ?_
    exact k
  obtain ⟨hi199, hF⟩ := own_ck_e hF
  obtain ⟨T417, h417, X417, e417, W417, A417_b2, st417⟩ := own_stI X415 hx hZ e415 A415_b2 hi199 (g := (mkF m 199 #[.val (.ref a1), .val (.ref a2), .val (.ref b1), .val (.ref b2), .val (.ref b3), .val (.int v5), .val (.int v6), .val (.int v7), d8, .val (.int v9), .val (.int v10)] [(.int v9), (.int v5), (.ref b2)])) rfl rfl (hb hby dRawMessage_mk_199)
  refine own_Goes.via st417 ?_
  have E417_a1 := E415_a1.wr W417
  have F417_a1_bodyStart := F415_a1_bodyStart.other W417 (Or.inl ne_a1_b2)
  have F417_a1_bytes := F415_a1_bytes.other W417 (Or.inl ne_a1_b2)
  have F417_a1_lineEnds := F415_a1_lineEnds.other W417 (Or.inl ne_a1_b2)
  have F417_a1_lineStarts := F415_a1_lineStarts.other W417 (Or.inl ne_a1_b2)
  have F417_a1_lines := F415_a1_lines.other W417 (Or.inl ne_a1_b2)
  have F417_a1_wordLengths := F415_a1_wordLengths.other W417 (Or.inl ne_a1_b2)
  have A417_a2 := A415_a2.other W417 ne_a2_b2
  have A417_b1 := A415_b1.other W417 ne_b1_b2
  have A417_b3 := A415_b3.other W417 (Ne.symm ne_b2_b3)
  have z417 := Nat.le_trans z415 (Keep.of_wr W417).1
  have K417_ := K415_.wr W417 (Or.inr nE_b2)
  have N417 := Fr.snoc X417 N415 g_b2
  have A417_b2 : own_Ar Z h417 b2 .int ((own_wr bs_b2 v5 v9).map Value.int) := A417_b2
  show own_Goes _ _ _ _ _ _ _ (T417.setTop (mkF m 200 #[.val (.ref a1), .val (.ref a2), .val (.ref b1), .val (.ref b2), .val (.ref b3), .val (.int v5), .val (.int v6), .val (.int v7), d8, .val (.int v9), .val (.int v10)] []))
  obtain ⟨bs418, hbs418, hF⟩ := own_lt_e hF
  rw [← hbs418] at A417_b2
  refine own_Goes.via (B := T417.setTop (mkF m 209 #[.val (.ref a1), .val (.ref a2), .val (.ref b1), .val (.ref b2), .val (.ref b3), .val (.int v5), .val (.int v6), .val (.int v7), d8, .val (.int v9), .val (.int v10)] [(.int (v10 - v7)), (.int v5), (.ref b3)])) (fun t k => ?_) ?_
  · show Steps p.tables e below (T417.setTop (mkF m 200 #[.val (.ref a1), .val (.ref a2), .val (.ref b1), .val (.ref b2), .val (.ref b3), .val (.int v5), .val (.int v6), .val (.int v7), d8, .val (.int v9), .val (.int v10)] [])) t
    refine XS.aload X417.here hx rfl (hb hby dRawMessage_mk_200) rfl rfl ?_
    show Steps p.tables e below (T417.setTop (mkF m 202 #[.val (.ref a1), .val (.ref a2), .val (.ref b1), .val (.ref b2), .val (.ref b3), .val (.int v5), .val (.int v6), .val (.int v7), d8, .val (.int v9), .val (.int v10)] [(.ref b3)])) t
    refine XS.iload X417.here hx rfl (hb hby dRawMessage_mk_202) rfl ?_
    show Steps p.tables e below (T417.setTop (mkF m 204 #[.val (.ref a1), .val (.ref a2), .val (.ref b1), .val (.ref b2), .val (.ref b3), .val (.int v5), .val (.int v6), .val (.int v7), d8, .val (.int v9), .val (.int v10)] [(.int v5), (.ref b3)])) t
    refine XS.iload X417.here hx rfl (hb hby dRawMessage_mk_204) rfl ?_
    show Steps p.tables e below (T417.setTop (mkF m 206 #[.val (.ref a1), .val (.ref a2), .val (.ref b1), .val (.ref b2), .val (.ref b3), .val (.int v5), .val (.int v6), .val (.int v7), d8, .val (.int v9), .val (.int v10)] [(.int v10), (.int v5), (.ref b3)])) t
    refine XS.iload X417.here hx rfl (hb hby dRawMessage_mk_206) rfl ?_
    show Steps p.tables e below (T417.setTop (mkF m 208 #[.val (.ref a1), .val (.ref a2), .val (.ref b1), .val (.ref b2), .val (.ref b3), .val (.int v5), .val (.int v6), .val (.int v7), d8, .val (.int v9), .val (.int v10)] [(.int v7), (.int v10), (.int v5), (.ref b3)])) t
    refine XS.isub X417.here hx rfl (hb hby dRawMessage_mk_208) rfl ?_
    exact k
  obtain ⟨x419, hx419, hF⟩ := own_lt_e hF
  rw [← hx419]
  obtain ⟨hi209, hF⟩ := own_ck_e hF
  obtain ⟨T420, h420, X420, e420, W420, A420_b3, st420⟩ := own_stI X417 hx hZ e417 A417_b3 hi209 (g := (mkF m 209 #[.val (.ref a1), .val (.ref a2), .val (.ref b1), .val (.ref b2), .val (.ref b3), .val (.int v5), .val (.int v6), .val (.int v7), d8, .val (.int v9), .val (.int v10)] [(.int x419), (.int v5), (.ref b3)])) rfl rfl (hb hby dRawMessage_mk_209)
  refine own_Goes.via st420 ?_
  have E420_a1 := E417_a1.wr W420
  have F420_a1_bodyStart := F417_a1_bodyStart.other W420 (Or.inl ne_a1_b3)
  have F420_a1_bytes := F417_a1_bytes.other W420 (Or.inl ne_a1_b3)
  have F420_a1_lineEnds := F417_a1_lineEnds.other W420 (Or.inl ne_a1_b3)
  have F420_a1_lineStarts := F417_a1_lineStarts.other W420 (Or.inl ne_a1_b3)
  have F420_a1_lines := F417_a1_lines.other W420 (Or.inl ne_a1_b3)
  have F420_a1_wordLengths := F417_a1_wordLengths.other W420 (Or.inl ne_a1_b3)
  have A420_a2 := A417_a2.other W420 ne_a2_b3
  have A420_b1 := A417_b1.other W420 ne_b1_b3
  have A420_b2 := A417_b2.other W420 ne_b2_b3
  have z420 := Nat.le_trans z417 (Keep.of_wr W420).1
  have K420_ := K417_.wr W420 (Or.inr nE_b3)
  have N420 := Fr.snoc X420 N417 g_b3
  have A420_b3 : own_Ar Z h420 b3 .int ((own_wr bs_b3 v5 x419).map Value.int) := A420_b3
  show own_Goes _ _ _ _ _ _ _ (T420.setTop (mkF m 210 #[.val (.ref a1), .val (.ref a2), .val (.ref b1), .val (.ref b2), .val (.ref b3), .val (.int v5), .val (.int v6), .val (.int v7), d8, .val (.int v9), .val (.int v10)] []))
  obtain ⟨bs421, hbs421, hF⟩ := own_lt_e hF
  rw [← hbs421] at A420_b3
  refine own_Goes.via (B := T420.setTop (mkF m 213 #[.val (.ref a1), .val (.ref a2), .val (.ref b1), .val (.ref b2), .val (.ref b3), .val (.int (v5 + (1 : Int32))), .val (.int v6), .val (.int v7), d8, .val (.int v9), .val (.int v10)] [])) (fun t k => ?_) ?_
  · show Steps p.tables e below (T420.setTop (mkF m 210 #[.val (.ref a1), .val (.ref a2), .val (.ref b1), .val (.ref b2), .val (.ref b3), .val (.int v5), .val (.int v6), .val (.int v7), d8, .val (.int v9), .val (.int v10)] [])) t
    refine XS.iinc X420.here hx rfl (hb hby dRawMessage_mk_210) rfl (l' := #[.val (.ref a1), .val (.ref a2), .val (.ref b1), .val (.ref b2), .val (.ref b3), .val (.int (v5 + (1 : Int32))), .val (.int v6), .val (.int v7), d8, .val (.int v9), .val (.int v10)]) rfl ?_
    exact k
  obtain ⟨x422, hx422, hF⟩ := own_lt_e hF
  rw [← hx422]
  refine own_Goes.via (B := T420.setTop (mkF m 217 #[.val (.ref a1), .val (.ref a2), .val (.ref b1), .val (.ref b2), .val (.ref b3), .val (.int x422), .val (.int v6), .val (.int v7), d8, .val (.int v9), .val (.int v10)] [(.int (v9 + (1 : Int32)))])) (fun t k => ?_) ?_
  · show Steps p.tables e below (T420.setTop (mkF m 213 #[.val (.ref a1), .val (.ref a2), .val (.ref b1), .val (.ref b2), .val (.ref b3), .val (.int x422), .val (.int v6), .val (.int v7), d8, .val (.int v9), .val (.int v10)] [])) t
    refine XS.iload X420.here hx rfl (hb hby dRawMessage_mk_213) rfl ?_
    show Steps p.tables e below (T420.setTop (mkF m 215 #[.val (.ref a1), .val (.ref a2), .val (.ref b1), .val (.ref b2), .val (.ref b3), .val (.int x422), .val (.int v6), .val (.int v7), d8, .val (.int v9), .val (.int v10)] [(.int v9)])) t
    refine XS.iconst X420.here hx rfl (hb hby dRawMessage_mk_215) ?_
    show Steps p.tables e below (T420.setTop (mkF m 216 #[.val (.ref a1), .val (.ref a2), .val (.ref b1), .val (.ref b2), .val (.ref b3), .val (.int x422), .val (.int v6), .val (.int v7), d8, .val (.int v9), .val (.int v10)] [(.int (1 : Int32)), (.int v9)])) t
    refine XS.iadd X420.here hx rfl (hb hby dRawMessage_mk_216) rfl ?_
    exact k
  obtain ⟨x423, hx423, hF⟩ := own_lt_e hF
  rw [← hx423]
  refine own_Goes.via (B := T420.setTop (mkF m 34 #[.val (.ref a1), .val (.ref a2), .val (.ref b1), .val (.ref b2), .val (.ref b3), .val (.int x422), .val (.int v6), .val (.int x423), d8, .val (.int v9), .val (.int v10)] [])) (fun t k => ?_) ?_
  · show Steps p.tables e below (T420.setTop (mkF m 217 #[.val (.ref a1), .val (.ref a2), .val (.ref b1), .val (.ref b2), .val (.ref b3), .val (.int x422), .val (.int v6), .val (.int v7), d8, .val (.int v9), .val (.int v10)] [(.int x423)])) t
    refine XS.istore X420.here hx rfl (hb hby dRawMessage_mk_217) rfl (l' := #[.val (.ref a1), .val (.ref a2), .val (.ref b1), .val (.ref b2), .val (.ref b3), .val (.int x422), .val (.int v6), .val (.int x423), d8, .val (.int v9), .val (.int v10)]) rfl ?_
    show Steps p.tables e below (T420.setTop (mkF m 219 #[.val (.ref a1), .val (.ref a2), .val (.ref b1), .val (.ref b2), .val (.ref b3), .val (.int x422), .val (.int v6), .val (.int x423), d8, .val (.int v9), .val (.int v10)] [])) t
    refine XS.goto X420.here hx rfl (pc0 := 219) (pc' := 34) rfl (hb hby dRawMessage_mk_219) (by decide) (by decide) ?_
    exact k
  exact hk34 X420 e420 N420 K420_ z420 b1 b2 b3 x422 v6 x423 f_a1_bodyStart f_a1_lines bs_a2 bs416 bs418 bs421 d8 (.val (.int v9)) (.val (.int v10)) o_d8 (One.val rfl) (One.val rfl) E420_a1 F420_a1_bodyStart F420_a1_bytes F420_a1_lineEnds F420_a1_lineStarts F420_a1_lines F420_a1_wordLengths g_a1 A420_a2 g_a2 A420_b1 g_b1 nE_b1 A420_b2 g_b2 nE_b2 A420_b3 g_b3 nE_b3 ne_a1_a2 ne_a1_b1 ne_a2_b1 ne_a1_b2 ne_a2_b2 ne_b1_b2 ne_a1_b3 ne_a2_b3 ne_b1_b3 ne_b2_b3 _ hF
set_option maxRecDepth 65536 in
set_option maxHeartbeats 4000000 in
theorem b_RawMessage_mk_148 {p : Program} {l : Launch} {e : Env} {s : State} {m : MethodId} {args : Array Value} {below : List Frame} {meth : Method} {c : Code} {Z : State} {a0 : Array Value} {n0 : Nat} {hE : Heap} (cx : Cx_RawMessage_mk p s m meth c Z a0) (a1 : Addr) (a2 : Addr) {k34 : Int32 → Int32 → Int32 → Int32 → Int32 → (List Int32) → (List Int32) → (List Int32) → (List Int32) → Option (Int32 × Int32 × (List Int32) × (List Int32) × (List Int32))} (hk34 : ∀ {T : State} {locs : List Loc} {h : Heap} (X : Stand p l e ({ frames := 1, cells := 3, slots := 48, locals := 15 } : Room) s m args below meth c T locs 3 48) (eT : T.heap = h) (N : Fr n0 locs) (K : Keep hE h [a1]) (z : n0 ≤ h.size) (b1 : Addr) (b2 : Addr) (b3 : Addr) (v5 : Int32) (v6 : Int32) (v7 : Int32) (f_a1_bodyStart : Int32) (f_a1_lines : Int32) (bs_a2 : List Int32) (bs_b1 : List Int32) (bs_b2 : List Int32) (bs_b3 : List Int32) (d8 : Slot) (d9 : Slot) (d10 : Slot) (o_d8 : One d8) (o_d9 : One d9) (o_d10 : One d10) (E_a1 : Exa Z h a1 "com/example/oxpecker/oxpecker/sip/RawMessage") (F_a1_bodyStart : Fld Z h a1 "com/example/oxpecker/oxpecker/sip/RawMessage" "bodyStart" "I" (.int f_a1_bodyStart)) (F_a1_bytes : Fld Z h a1 "com/example/oxpecker/oxpecker/sip/RawMessage" "bytes" "[B" (.ref a2)) (F_a1_lineEnds : Fld Z h a1 "com/example/oxpecker/oxpecker/sip/RawMessage" "lineEnds" "[I" .null) (F_a1_lineStarts : Fld Z h a1 "com/example/oxpecker/oxpecker/sip/RawMessage" "lineStarts" "[I" .null) (F_a1_lines : Fld Z h a1 "com/example/oxpecker/oxpecker/sip/RawMessage" "lines" "I" (.int f_a1_lines)) (F_a1_wordLengths : Fld Z h a1 "com/example/oxpecker/oxpecker/sip/RawMessage" "wordLengths" "[I" .null) (g_a1 : n0 ≤ a1) (A_a2 : own_Ar Z h a2 .byte (bs_a2.map Value.int)) (g_a2 : n0 ≤ a2) (A_b1 : own_Ar Z h b1 .int (bs_b1.map Value.int)) (g_b1 : n0 ≤ b1) (nE_b1 : hE.size ≤ b1) (A_b2 : own_Ar Z h b2 .int (bs_b2.map Value.int)) (g_b2 : n0 ≤ b2) (nE_b2 : hE.size ≤ b2) (A_b3 : own_Ar Z h b3 .int (bs_b3.map Value.int)) (g_b3 : n0 ≤ b3) (nE_b3 : hE.size ≤ b3) (ne_a1_a2 : a1 ≠ a2) (ne_a1_b1 : a1 ≠ b1) (ne_a2_b1 : a2 ≠ b1) (ne_a1_b2 : a1 ≠ b2) (ne_a2_b2 : a2 ≠ b2) (ne_b1_b2 : b1 ≠ b2) (ne_a1_b3 : a1 ≠ b3) (ne_a2_b3 : a2 ≠ b3) (ne_b1_b3 : b1 ≠ b3) (ne_b2_b3 : b2 ≠ b3) (r : Int32 × Int32 × (List Int32) × (List Int32) × (List Int32)), k34 v5 v6 v7 f_a1_bodyStart f_a1_lines bs_a2 bs_b1 bs_b2 bs_b3 = some r → own_Goes p e below s (Q_RawMessage_mk Z hE n0 a1 a2 r) 3 48 (T.setTop (mkF m 34 #[.val (.ref a1), .val (.ref a2), .val (.ref b1), .val (.ref b2), .val (.ref b3), .val (.int v5), .val (.int v6), .val (.int v7), d8, d9, d10] []))) (n : Nat) :
    ∀ {T : State} {locs : List Loc} {h : Heap} (X : Stand p l e ({ frames := 1, cells := 3, slots := 48, locals := 15 } : Room) s m args below meth c T locs 3 48) (eT : T.heap = h) (N : Fr n0 locs) (K : Keep hE h [a1]) (z : n0 ≤ h.size) (b1 : Addr) (b2 : Addr) (b3 : Addr) (v5 : Int32) (v6 : Int32) (v7 : Int32) (v9 : Int32) (v10 : Int32) (f_a1_bodyStart : Int32) (f_a1_lines : Int32) (bs_a2 : List Int32) (bs_b1 : List Int32) (bs_b2 : List Int32) (bs_b3 : List Int32) (d8 : Slot) (o_d8 : One d8) (E_a1 : Exa Z h a1 "com/example/oxpecker/oxpecker/sip/RawMessage") (F_a1_bodyStart : Fld Z h a1 "com/example/oxpecker/oxpecker/sip/RawMessage" "bodyStart" "I" (.int f_a1_bodyStart)) (F_a1_bytes : Fld Z h a1 "com/example/oxpecker/oxpecker/sip/RawMessage" "bytes" "[B" (.ref a2)) (F_a1_lineEnds : Fld Z h a1 "com/example/oxpecker/oxpecker/sip/RawMessage" "lineEnds" "[I" .null) (F_a1_lineStarts : Fld Z h a1 "com/example/oxpecker/oxpecker/sip/RawMessage" "lineStarts" "[I" .null) (F_a1_lines : Fld Z h a1 "com/example/oxpecker/oxpecker/sip/RawMessage" "lines" "I" (.int f_a1_lines)) (F_a1_wordLengths : Fld Z h a1 "com/example/oxpecker/oxpecker/sip/RawMessage" "wordLengths" "[I" .null) (g_a1 : n0 ≤ a1) (A_a2 : own_Ar Z h a2 .byte (bs_a2.map Value.int)) (g_a2 : n0 ≤ a2) (A_b1 : own_Ar Z h b1 .int (bs_b1.map Value.int)) (g_b1 : n0 ≤ b1) (nE_b1 : hE.size ≤ b1) (A_b2 : own_Ar Z h b2 .int (bs_b2.map Value.int)) (g_b2 : n0 ≤ b2) (nE_b2 : hE.size ≤ b2) (A_b3 : own_Ar Z h b3 .int (bs_b3.map Value.int)) (g_b3 : n0 ≤ b3) (nE_b3 : hE.size ≤ b3) (ne_a1_a2 : a1 ≠ a2) (ne_a1_b1 : a1 ≠ b1) (ne_a2_b1 : a2 ≠ b1) (ne_a1_b2 : a1 ≠ b2) (ne_a2_b2 : a2 ≠ b2) (ne_b1_b2 : b1 ≠ b2) (ne_a1_b3 : a1 ≠ b3) (ne_a2_b3 : a2 ≠ b3) (ne_b1_b3 : b1 ≠ b3) (ne_b2_b3 : b2 ≠ b3) (r : Int32 × Int32 × (List Int32) × (List Int32) × (List Int32)), f_RawMessage_mk_148 k34 n v5 v6 v7 v9 v10 f_a1_bodyStart f_a1_lines bs_a2 bs_b1 bs_b2 bs_b3 = some r → own_Goes p e below s (Q_RawMessage_mk Z hE n0 a1 a2 r) 3 48 (T.setTop (mkF m 148 #[.val (.ref a1), .val (.ref a2), .val (.ref b1), .val (.ref b2), .val (.ref b3), .val (.int v5), .val (.int v6), .val (.int v7), d8, .val (.int v9), .val (.int v10)] [])) := by
  have cx' := cx
  obtain ⟨hx, hZ, hw, hby, hml, hown, hret, hlk, hnm⟩ := cx'
  induction n with
  | zero =>
    intro T locs h X eT N K z b1 b2 b3 v5 v6 v7 v9 v10 f_a1_bodyStart f_a1_lines bs_a2 bs_b1 bs_b2 bs_b3 d8 o_d8 E_a1 F_a1_bodyStart F_a1_bytes F_a1_lineEnds F_a1_lineStarts F_a1_lines F_a1_wordLengths g_a1 A_a2 g_a2 A_b1 g_b1 nE_b1 A_b2 g_b2 nE_b2 A_b3 g_b3 nE_b3 ne_a1_a2 ne_a1_b1 ne_a2_b1 ne_a1_b2 ne_a2_b2 ne_b1_b2 ne_a1_b3 ne_a2_b3 ne_b1_b3 ne_b2_b3 r hF
    cases hF
  | succ n ih =>
    intro T locs h X eT N K z b1 b2 b3 v5 v6 v7 v9 v10 f_a1_bodyStart f_a1_lines bs_a2 bs_b1 bs_b2 bs_b3 d8 o_d8 E_a1 F_a1_bodyStart F_a1_bytes F_a1_lineEnds F_a1_lineStarts F_a1_lines F_a1_wordLengths g_a1 A_a2 g_a2 A_b1 g_b1 nE_b1 A_b2 g_b2 nE_b2 A_b3 g_b3 nE_b3 ne_a1_a2 ne_a1_b1 ne_a2_b1 ne_a1_b2 ne_a2_b2 ne_b1_b2 ne_a1_b3 ne_a2_b3 ne_b1_b3 ne_b2_b3 r hF
    rw [f_RawMessage_mk_148] at hF
    refine own_Goes.via (B := T.setTop (mkF m 152 #[.val (.ref a1), .val (.ref a2), .val (.ref b1), .val (.ref b2), .val (.ref b3), .val (.int v5), .val (.int v6), .val (.int v7), d8, .val (.int v9), .val (.int v10)] [(.int v9), (.int v10)])) (fun t k => ?_) ?_
    · show Steps p.tables e below (T.setTop (mkF m 148 #[.val (.ref a1), .val (.ref a2), .val (.ref b1), .val (.ref b2), .val (.ref b3), .val (.int v5), .val (.int v6), .val (.int v7), d8, .val (.int v9), .val (.int v10)] [])) t
      refine XS.iload X.here hx rfl (hb hby dRawMessage_mk_148) rfl ?_
      show Steps p.tables e below (T.setTop (mkF m 150 #[.val (.ref a1), .val (.ref a2), .val (.ref b1), .val (.ref b2), .val (.ref b3), .val (.int v5), .val (.int v6), .val (.int v7), d8, .val (.int v9), .val (.int v10)] [(.int v10)])) t
      refine XS.iload X.here hx rfl (hb hby dRawMessage_mk_150) rfl ?_
      exact k
    by_cases hc152 : v10 < v9
    · rw [if_pos hc152] at hF
      refine own_Goes.via (B := T.setTop (mkF m 158 #[.val (.ref a1), .val (.ref a2), .val (.ref b1), .val (.ref b2), .val (.ref b3), .val (.int v5), .val (.int v6), .val (.int v7), d8, .val (.int v9), .val (.int v10)] [(.int v10), (.ref a2)])) (fun t k => ?_) ?_
      · show Steps p.tables e below (T.setTop (mkF m 152 #[.val (.ref a1), .val (.ref a2), .val (.ref b1), .val (.ref b2), .val (.ref b3), .val (.int v5), .val (.int v6), .val (.int v7), d8, .val (.int v9), .val (.int v10)] [(.int v9), (.int v10)])) t
        refine XS.icmpNo X.here hx rfl (hb hby dRawMessage_mk_152) rfl (tlt hc152).2.1 ?_
        show Steps p.tables e below (T.setTop (mkF m 155 #[.val (.ref a1), .val (.ref a2), .val (.ref b1), .val (.ref b2), .val (.ref b3), .val (.int v5), .val (.int v6), .val (.int v7), d8, .val (.int v9), .val (.int v10)] [])) t
        refine XS.aloadN X.here hx rfl (hb hby dRawMessage_mk_155) rfl rfl ?_
        show Steps p.tables e below (T.setTop (mkF m 156 #[.val (.ref a1), .val (.ref a2), .val (.ref b1), .val (.ref b2), .val (.ref b3), .val (.int v5), .val (.int v6), .val (.int v7), d8, .val (.int v9), .val (.int v10)] [(.ref a2)])) t
        refine XS.iload X.here hx rfl (hb hby dRawMessage_mk_156) rfl ?_
        exact k
      obtain ⟨hi158, hF⟩ := own_ck_e hF
      refine own_Goes.via (B := T.setTop (mkF m 161 #[.val (.ref a1), .val (.ref a2), .val (.ref b1), .val (.ref b2), .val (.ref b3), .val (.int v5), .val (.int v6), .val (.int v7), d8, .val (.int v9), .val (.int v10)] [(.int (58 : Int32)), (.int (own_rd bs_a2 v10))])) (fun t k => ?_) ?_
      · show Steps p.tables e below (T.setTop (mkF m 158 #[.val (.ref a1), .val (.ref a2), .val (.ref b1), .val (.ref b2), .val (.ref b3), .val (.int v5), .val (.int v6), .val (.int v7), d8, .val (.int v9), .val (.int v10)] [(.int v10), (.ref a2)])) t
        refine own_ldB X hx hZ eT A_a2 hi158 rfl (g := (mkF m 158 #[.val (.ref a1), .val (.ref a2), .val (.ref b1), .val (.ref b2), .val (.ref b3), .val (.int v5), .val (.int v6), .val (.int v7), d8, .val (.int v9), .val (.int v10)] [(.int v10), (.ref a2)])) rfl rfl (hb hby dRawMessage_mk_158) ?_
        show Steps p.tables e below (T.setTop (mkF m 159 #[.val (.ref a1), .val (.ref a2), .val (.ref b1), .val (.ref b2), .val (.ref b3), .val (.int v5), .val (.int v6), .val (.int v7), d8, .val (.int v9), .val (.int v10)] [(.int (own_rd bs_a2 v10))])) t
        refine XS.bipush X.here hx rfl (hb hby dRawMessage_mk_159) ?_
        exact k
      by_cases hc161 : (own_rd bs_a2 v10) = (58 : Int32)
      · rw [if_pos hc161] at hF
        refine own_Goes.via (B := T.setTop (mkF m 188 #[.val (.ref a1), .val (.ref a2), .val (.ref b1), .val (.ref b2), .val (.ref b3), .val (.int v5), .val (.int v6), .val (.int v7), d8, .val (.int v9), .val (.int v10)] [])) (fun t k => ?_) ?_
        · show Steps p.tables e below (T.setTop (mkF m 161 #[.val (.ref a1), .val (.ref a2), .val (.ref b1), .val (.ref b2), .val (.ref b3), .val (.int v5), .val (.int v6), .val (.int v7), d8, .val (.int v9), .val (.int v10)] [(.int (58 : Int32)), (.int (own_rd bs_a2 v10))])) t
          refine XS.icmpYes X.here hx rfl (pc0 := 161) (pc' := 188) rfl (hb hby dRawMessage_mk_161) rfl (teq hc161).1 (by decide) (by decide) ?_
          exact k
        exact b_RawMessage_mk_188 cx a1 a2 (k34 := k34) (hk34) X eT N K z b1 b2 b3 v5 v6 v7 v9 v10 f_a1_bodyStart f_a1_lines bs_a2 bs_b1 bs_b2 bs_b3 d8 o_d8 E_a1 F_a1_bodyStart F_a1_bytes F_a1_lineEnds F_a1_lineStarts F_a1_lines F_a1_wordLengths g_a1 A_a2 g_a2 A_b1 g_b1 nE_b1 A_b2 g_b2 nE_b2 A_b3 g_b3 nE_b3 ne_a1_a2 ne_a1_b1 ne_a2_b1 ne_a1_b2 ne_a2_b2 ne_b1_b2 ne_a1_b3 ne_a2_b3 ne_b1_b3 ne_b2_b3 _ hF
      · rw [if_neg hc161] at hF
        refine own_Goes.via (B := T.setTop (mkF m 167 #[.val (.ref a1), .val (.ref a2), .val (.ref b1), .val (.ref b2), .val (.ref b3), .val (.int v5), .val (.int v6), .val (.int v7), d8, .val (.int v9), .val (.int v10)] [(.int v10), (.ref a2)])) (fun t k => ?_) ?_
        · show Steps p.tables e below (T.setTop (mkF m 161 #[.val (.ref a1), .val (.ref a2), .val (.ref b1), .val (.ref b2), .val (.ref b3), .val (.int v5), .val (.int v6), .val (.int v7), d8, .val (.int v9), .val (.int v10)] [(.int (58 : Int32)), (.int (own_rd bs_a2 v10))])) t
          refine XS.icmpNo X.here hx rfl (hb hby dRawMessage_mk_161) rfl (feq hc161).1 ?_
          show Steps p.tables e below (T.setTop (mkF m 164 #[.val (.ref a1), .val (.ref a2), .val (.ref b1), .val (.ref b2), .val (.ref b3), .val (.int v5), .val (.int v6), .val (.int v7), d8, .val (.int v9), .val (.int v10)] [])) t
          refine XS.aloadN X.here hx rfl (hb hby dRawMessage_mk_164) rfl rfl ?_
          show Steps p.tables e below (T.setTop (mkF m 165 #[.val (.ref a1), .val (.ref a2), .val (.ref b1), .val (.ref b2), .val (.ref b3), .val (.int v5), .val (.int v6), .val (.int v7), d8, .val (.int v9), .val (.int v10)] [(.ref a2)])) t
          refine XS.iload X.here hx rfl (hb hby dRawMessage_mk_165) rfl ?_
          exact k
        obtain ⟨hi167, hF⟩ := own_ck_e hF
        refine own_Goes.via (B := T.setTop (mkF m 170 #[.val (.ref a1), .val (.ref a2), .val (.ref b1), .val (.ref b2), .val (.ref b3), .val (.int v5), .val (.int v6), .val (.int v7), d8, .val (.int v9), .val (.int v10)] [(.int (32 : Int32)), (.int (own_rd bs_a2 v10))])) (fun t k => ?_) ?_
        · show Steps p.tables e below (T.setTop (mkF m 167 #[.val (.ref a1), .val (.ref a2), .val (.ref b1), .val (.ref b2), .val (.ref b3), .val (.int v5), .val (.int v6), .val (.int v7), d8, .val (.int v9), .val (.int v10)] [(.int v10), (.ref a2)])) t
          refine own_ldB X hx hZ eT A_a2 hi167 rfl (g := (mkF m 167 #[.val (.ref a1), .val (.ref a2), .val (.ref b1), .val (.ref b2), .val (.ref b3), .val (.int v5), .val (.int v6), .val (.int v7), d8, .val (.int v9), .val (.int v10)] [(.int v10), (.ref a2)])) rfl rfl (hb hby dRawMessage_mk_167) ?_
          show Steps p.tables e below (T.setTop (mkF m 168 #[.val (.ref a1), .val (.ref a2), .val (.ref b1), .val (.ref b2), .val (.ref b3), .val (.int v5), .val (.int v6), .val (.int v7), d8, .val (.int v9), .val (.int v10)] [(.int (own_rd bs_a2 v10))])) t
          refine XS.bipush X.here hx rfl (hb hby dRawMessage_mk_168) ?_
          exact k
        by_cases hc170 : (own_rd bs_a2 v10) = (32 : Int32)
        · rw [if_pos hc170] at hF
          refine own_Goes.via (B := T.setTop (mkF m 188 #[.val (.ref a1), .val (.ref a2), .val (.ref b1), .val (.ref b2), .val (.ref b3), .val (.int v5), .val (.int v6), .val (.int v7), d8, .val (.int v9), .val (.int v10)] [])) (fun t k => ?_) ?_
          · show Steps p.tables e below (T.setTop (mkF m 170 #[.val (.ref a1), .val (.ref a2), .val (.ref b1), .val (.ref b2), .val (.ref b3), .val (.int v5), .val (.int v6), .val (.int v7), d8, .val (.int v9), .val (.int v10)] [(.int (32 : Int32)), (.int (own_rd bs_a2 v10))])) t
            refine XS.icmpYes X.here hx rfl (pc0 := 170) (pc' := 188) rfl (hb hby dRawMessage_mk_170) rfl (teq hc170).1 (by decide) (by decide) ?_
            exact k
          exact b_RawMessage_mk_188 cx a1 a2 (k34 := k34) (hk34) X eT N K z b1 b2 b3 v5 v6 v7 v9 v10 f_a1_bodyStart f_a1_lines bs_a2 bs_b1 bs_b2 bs_b3 d8 o_d8 E_a1 F_a1_bodyStart F_a1_bytes F_a1_lineEnds F_a1_lineStarts F_a1_lines F_a1_wordLengths g_a1 A_a2 g_a2 A_b1 g_b1 nE_b1 A_b2 g_b2 nE_b2 A_b3 g_b3 nE_b3 ne_a1_a2 ne_a1_b1 ne_a2_b1 ne_a1_b2 ne_a2_b2 ne_b1_b2 ne_a1_b3 ne_a2_b3 ne_b1_b3 ne_b2_b3 _ hF
        · rw [if_neg hc170] at hF
          refine own_Goes.via (B := T.setTop (mkF m 176 #[.val (.ref a1), .val (.ref a2), .val (.ref b1), .val (.ref b2), .val (.ref b3), .val (.int v5), .val (.int v6), .val (.int v7), d8, .val (.int v9), .val (.int v10)] [(.int v10), (.ref a2)])) (fun t k => ?_) ?_
          · show Steps p.tables e below (T.setTop (mkF m 170 #[.val (.ref a1), .val (.ref a2), .val (.ref b1), .val (.ref b2), .val (.ref b3), .val (.int v5), .val (.int v6), .val (.int v7), d8, .val (.int v9), .val (.int v10)] [(.int (32 : Int32)), (.int (own_rd bs_a2 v10))])) t
            refine XS.icmpNo X.here hx rfl (hb hby dRawMessage_mk_170) rfl (feq hc170).1 ?_
            show Steps p.tables e below (T.setTop (mkF m 173 #[.val (.ref a1), .val (.ref a2), .val (.ref b1), .val (.ref b2), .val (.ref b3), .val (.int v5), .val (.int v6), .val (.int v7), d8, .val (.int v9), .val (.int v10)] [])) t
            refine XS.aloadN X.here hx rfl (hb hby dRawMessage_mk_173) rfl rfl ?_
            show Steps p.tables e below (T.setTop (mkF m 174 #[.val (.ref a1), .val (.ref a2), .val (.ref b1), .val (.ref b2), .val (.ref b3), .val (.int v5), .val (.int v6), .val (.int v7), d8, .val (.int v9), .val (.int v10)] [(.ref a2)])) t
            refine XS.iload X.here hx rfl (hb hby dRawMessage_mk_174) rfl ?_
            exact k
          obtain ⟨hi176, hF⟩ := own_ck_e hF
          refine own_Goes.via (B := T.setTop (mkF m 179 #[.val (.ref a1), .val (.ref a2), .val (.ref b1), .val (.ref b2), .val (.ref b3), .val (.int v5), .val (.int v6), .val (.int v7), d8, .val (.int v9), .val (.int v10)] [(.int (9 : Int32)), (.int (own_rd bs_a2 v10))])) (fun t k => ?_) ?_
          · show Steps p.tables e below (T.setTop (mkF m 176 #[.val (.ref a1), .val (.ref a2), .val (.ref b1), .val (.ref b2), .val (.ref b3), .val (.int v5), .val (.int v6), .val (.int v7), d8, .val (.int v9), .val (.int v10)] [(.int v10), (.ref a2)])) t
            refine own_ldB X hx hZ eT A_a2 hi176 rfl (g := (mkF m 176 #[.val (.ref a1), .val (.ref a2), .val (.ref b1), .val (.ref b2), .val (.ref b3), .val (.int v5), .val (.int v6), .val (.int v7), d8, .val (.int v9), .val (.int v10)] [(.int v10), (.ref a2)])) rfl rfl (hb hby dRawMessage_mk_176) ?_
            show Steps p.tables e below (T.setTop (mkF m 177 #[.val (.ref a1), .val (.ref a2), .val (.ref b1), .val (.ref b2), .val (.ref b3), .val (.int v5), .val (.int v6), .val (.int v7), d8, .val (.int v9), .val (.int v10)] [(.int (own_rd bs_a2 v10))])) t
            refine XS.bipush X.here hx rfl (hb hby dRawMessage_mk_177) ?_
            exact k
          by_cases hc179 : (own_rd bs_a2 v10) = (9 : Int32)
          · rw [if_pos hc179] at hF
            refine own_Goes.via (B := T.setTop (mkF m 188 #[.val (.ref a1), .val (.ref a2), .val (.ref b1), .val (.ref b2), .val (.ref b3), .val (.int v5), .val (.int v6), .val (.int v7), d8, .val (.int v9), .val (.int v10)] [])) (fun t k => ?_) ?_
            · show Steps p.tables e below (T.setTop (mkF m 179 #[.val (.ref a1), .val (.ref a2), .val (.ref b1), .val (.ref b2), .val (.ref b3), .val (.int v5), .val (.int v6), .val (.int v7), d8, .val (.int v9), .val (.int v10)] [(.int (9 : Int32)), (.int (own_rd bs_a2 v10))])) t
              refine XS.icmpYes X.here hx rfl (pc0 := 179) (pc' := 188) rfl (hb hby dRawMessage_mk_179) rfl (teq hc179).1 (by decide) (by decide) ?_
              exact k
            exact b_RawMessage_mk_188 cx a1 a2 (k34 := k34) (hk34) X eT N K z b1 b2 b3 v5 v6 v7 v9 v10 f_a1_bodyStart f_a1_lines bs_a2 bs_b1 bs_b2 bs_b3 d8 o_d8 E_a1 F_a1_bodyStart F_a1_bytes F_a1_lineEnds F_a1_lineStarts F_a1_lines F_a1_wordLengths g_a1 A_a2 g_a2 A_b1 g_b1 nE_b1 A_b2 g_b2 nE_b2 A_b3 g_b3 nE_b3 ne_a1_a2 ne_a1_b1 ne_a2_b1 ne_a1_b2 ne_a2_b2 ne_b1_b2 ne_a1_b3 ne_a2_b3 ne_b1_b3 ne_b2_b3 _ hF
          · rw [if_neg hc179] at hF
            refine own_Goes.via (B := T.setTop (mkF m 185 #[.val (.ref a1), .val (.ref a2), .val (.ref b1), .val (.ref b2), .val (.ref b3), .val (.int v5), .val (.int v6), .val (.int v7), d8, .val (.int v9), .val (.int (v10 + (1 : Int32)))] [])) (fun t k => ?_) ?_
            · show Steps p.tables e below (T.setTop (mkF m 179 #[.val (.ref a1), .val (.ref a2), .val (.ref b1), .val (.ref b2), .val (.ref b3), .val (.int v5), .val (.int v6), .val (.int v7), d8, .val (.int v9), .val (.int v10)] [(.int (9 : Int32)), (.int (own_rd bs_a2 v10))])) t
              refine XS.icmpNo X.here hx rfl (hb hby dRawMessage_mk_179) rfl (feq hc179).1 ?_
              show Steps p.tables e below (T.setTop (mkF m 182 #[.val (.ref a1), .val (.ref a2), .val (.ref b1), .val (.ref b2), .val (.ref b3), .val (.int v5), .val (.int v6), .val (.int v7), d8, .val (.int v9), .val (.int v10)] [])) t
              refine XS.iinc X.here hx rfl (hb hby dRawMessage_mk_182) rfl (l' := #[.val (.ref a1), .val (.ref a2), .val (.ref b1), .val (.ref b2), .val (.ref b3), .val (.int v5), .val (.int v6), .val (.int v7), d8, .val (.int v9), .val (.int (v10 + (1 : Int32)))]) rfl ?_
              exact k
            obtain ⟨x425, hx425, hF⟩ := own_lt_e hF
            rw [← hx425]
            refine own_Goes.via (B := T.setTop (mkF m 148 #[.val (.ref a1), .val (.ref a2), .val (.ref b1), .val (.ref b2), .val (.ref b3), .val (.int v5), .val (.int v6), .val (.int v7), d8, .val (.int v9), .val (.int x425)] [])) (fun t k => ?_) ?_
            · show Steps p.tables e below (T.setTop (mkF m 185 #[.val (.ref a1), .val (.ref a2), .val (.ref b1), .val (.ref b2), .val (.ref b3), .val (.int v5), .val (.int v6), .val (.int v7), d8, .val (.int v9), .val (.int x425)] [])) t
              refine XS.goto X.here hx rfl (pc0 := 185) (pc' := 148) rfl (hb hby dRawMessage_mk_185) (by decide) (by decide) ?_
              exact k
            exact ih X eT N K z b1 b2 b3 v5 v6 v7 v9 x425 f_a1_bodyStart f_a1_lines bs_a2 bs_b1 bs_b2 bs_b3 d8 o_d8 E_a1 F_a1_bodyStart F_a1_bytes F_a1_lineEnds F_a1_lineStarts F_a1_lines F_a1_wordLengths g_a1 A_a2 g_a2 A_b1 g_b1 nE_b1 A_b2 g_b2 nE_b2 A_b3 g_b3 nE_b3 ne_a1_a2 ne_a1_b1 ne_a2_b1 ne_a1_b2 ne_a2_b2 ne_b1_b2 ne_a1_b3 ne_a2_b3 ne_b1_b3 ne_b2_b3 _ hF
    · rw [if_neg hc152] at hF
      refine own_Goes.via (B := T.setTop (mkF m 188 #[.val (.ref a1), .val (.ref a2), .val (.ref b1), .val (.ref b2), .val (.ref b3), .val (.int v5), .val (.int v6), .val (.int v7), d8, .val (.int v9), .val (.int v10)] [])) (fun t k => ?_) ?_
      · show Steps p.tables e below (T.setTop (mkF m 152 #[.val (.ref a1), .val (.ref a2), .val (.ref b1), .val (.ref b2), .val (.ref b3), .val (.int v5), .val (.int v6), .val (.int v7), d8, .val (.int v9), .val (.int v10)] [(.int v9), (.int v10)])) t
        refine XS.icmpYes X.here hx rfl (pc0 := 152) (pc' := 188) rfl (hb hby dRawMessage_mk_152) rfl (flt hc152).2.1 (by decide) (by decide) ?_
        exact k
      exact b_RawMessage_mk_188 cx a1 a2 (k34 := k34) (hk34) X eT N K z b1 b2 b3 v5 v6 v7 v9 v10 f_a1_bodyStart f_a1_lines bs_a2 bs_b1 bs_b2 bs_b3 d8 o_d8 E_a1 F_a1_bodyStart F_a1_bytes F_a1_lineEnds F_a1_lineStarts F_a1_lines F_a1_wordLengths g_a1 A_a2 g_a2 A_b1 g_b1 nE_b1 A_b2 g_b2 nE_b2 A_b3 g_b3 nE_b3 ne_a1_a2 ne_a1_b1 ne_a2_b1 ne_a1_b2 ne_a2_b2 ne_b1_b2 ne_a1_b3 ne_a2_b3 ne_b1_b3 ne_b2_b3 _ hF
set_option maxRecDepth 65536 in
set_option maxHeartbeats 4000000 in
theorem b_RawMessage_mk_108 {p : Program} {l : Launch} {e : Env} {s : State} {m : MethodId} {args : Array Value} {below : List Frame} {meth : Method} {c : Code} {Z : State} {a0 : Array Value} {n0 : Nat} {hE : Heap} (cx : Cx_RawMessage_mk p s m meth c Z a0) (a1 : Addr) (a2 : Addr) {k34 : Int32 → Int32 → Int32 → Int32 → Int32 → (List Int32) → (List Int32) → (List Int32) → (List Int32) → Option (Int32 × Int32 × (List Int32) × (List Int32) × (List Int32))} (hk34 : ∀ {T : State} {locs : List Loc} {h : Heap} (X : Stand p l e ({ frames := 1, cells := 3, slots := 48, locals := 15 } : Room) s m args below meth c T locs 3 48) (eT : T.heap = h) (N : Fr n0 locs) (K : Keep hE h [a1]) (z : n0 ≤ h.size) (b1 : Addr) (b2 : Addr) (b3 : Addr) (v5 : Int32) (v6 : Int32) (v7 : Int32) (f_a1_bodyStart : Int32) (f_a1_lines : Int32) (bs_a2 : List Int32) (bs_b1 : List Int32) (bs_b2 : List Int32) (bs_b3 : List Int32) (d8 : Slot) (d9 : Slot) (d10 : Slot) (o_d8 : One d8) (o_d9 : One d9) (o_d10 : One d10) (E_a1 : Exa Z h a1 "com/example/oxpecker/oxpecker/sip/RawMessage") (F_a1_bodyStart : Fld Z h a1 "com/example/oxpecker/oxpecker/sip/RawMessage" "bodyStart" "I" (.int f_a1_bodyStart)) (F_a1_bytes : Fld Z h a1 "com/example/oxpecker/oxpecker/sip/RawMessage" "bytes" "[B" (.ref a2)) (F_a1_lineEnds : Fld Z h a1 "com/example/oxpecker/oxpecker/sip/RawMessage" "lineEnds" "[I" .null) (F_a1_lineStarts : Fld Z h a1 "com/example/oxpecker/oxpecker/sip/RawMessage" "lineStarts" "[I" .null) (F_a1_lines : Fld Z h a1 "com/example/oxpecker/oxpecker/sip/RawMessage" "lines" "I" (.int f_a1_lines)) (F_a1_wordLengths : Fld Z h a1 "com/example/oxpecker/oxpecker/sip/RawMessage" "wordLengths" "[I" .null) (g_a1 : n0 ≤ a1) (A_a2 : own_Ar Z h a2 .byte (bs_a2.map Value.int)) (g_a2 : n0 ≤ a2) (A_b1 : own_Ar Z h b1 .int (bs_b1.map Value.int)) (g_b1 : n0 ≤ b1) (nE_b1 : hE.size ≤ b1) (A_b2 : own_Ar Z h b2 .int (bs_b2.map Value.int)) (g_b2 : n0 ≤ b2) (nE_b2 : hE.size ≤ b2) (A_b3 : own_Ar Z h b3 .int (bs_b3.map Value.int)) (g_b3 : n0 ≤ b3) (nE_b3 : hE.size ≤ b3) (ne_a1_a2 : a1 ≠ a2) (ne_a1_b1 : a1 ≠ b1) (ne_a2_b1 : a2 ≠ b1) (ne_a1_b2 : a1 ≠ b2) (ne_a2_b2 : a2 ≠ b2) (ne_b1_b2 : b1 ≠ b2) (ne_a1_b3 : a1 ≠ b3) (ne_a2_b3 : a2 ≠ b3) (ne_b1_b3 : b1 ≠ b3) (ne_b2_b3 : b2 ≠ b3) (r : Int32 × Int32 × (List Int32) × (List Int32) × (List Int32)), k34 v5 v6 v7 f_a1_bodyStart f_a1_lines bs_a2 bs_b1 bs_b2 bs_b3 = some r → own_Goes p e below s (Q_RawMessage_mk Z hE n0 a1 a2 r) 3 48 (T.setTop (mkF m 34 #[.val (.ref a1), .val (.ref a2), .val (.ref b1), .val (.ref b2), .val (.ref b3), .val (.int v5), .val (.int v6), .val (.int v7), d8, d9, d10] []))) :
    ∀ {T : State} {locs : List Loc} {h : Heap} (X : Stand p l e ({ frames := 1, cells := 3, slots := 48, locals := 15 } : Room) s m args below meth c T locs 3 48) (eT : T.heap = h) (N : Fr n0 locs) (K : Keep hE h [a1]) (z : n0 ≤ h.size) (b1 : Addr) (b2 : Addr) (b3 : Addr) (v5 : Int32) (v6 : Int32) (v7 : Int32) (v9 : Int32) (f_a1_bodyStart : Int32) (f_a1_lines : Int32) (bs_a2 : List Int32) (bs_b1 : List Int32) (bs_b2 : List Int32) (bs_b3 : List Int32) (d8 : Slot) (d10 : Slot) (o_d8 : One d8) (o_d10 : One d10) (E_a1 : Exa Z h a1 "com/example/oxpecker/oxpecker/sip/RawMessage") (F_a1_bodyStart : Fld Z h a1 "com/example/oxpecker/oxpecker/sip/RawMessage" "bodyStart" "I" (.int f_a1_bodyStart)) (F_a1_bytes : Fld Z h a1 "com/example/oxpecker/oxpecker/sip/RawMessage" "bytes" "[B" (.ref a2)) (F_a1_lineEnds : Fld Z h a1 "com/example/oxpecker/oxpecker/sip/RawMessage" "lineEnds" "[I" .null) (F_a1_lineStarts : Fld Z h a1 "com/example/oxpecker/oxpecker/sip/RawMessage" "lineStarts" "[I" .null) (F_a1_lines : Fld Z h a1 "com/example/oxpecker/oxpecker/sip/RawMessage" "lines" "I" (.int f_a1_lines)) (F_a1_wordLengths : Fld Z h a1 "com/example/oxpecker/oxpecker/sip/RawMessage" "wordLengths" "[I" .null) (g_a1 : n0 ≤ a1) (A_a2 : own_Ar Z h a2 .byte (bs_a2.map Value.int)) (g_a2 : n0 ≤ a2) (A_b1 : own_Ar Z h b1 .int (bs_b1.map Value.int)) (g_b1 : n0 ≤ b1) (nE_b1 : hE.size ≤ b1) (A_b2 : own_Ar Z h b2 .int (bs_b2.map Value.int)) (g_b2 : n0 ≤ b2) (nE_b2 : hE.size ≤ b2) (A_b3 : own_Ar Z h b3 .int (bs_b3.map Value.int)) (g_b3 : n0 ≤ b3) (nE_b3 : hE.size ≤ b3) (ne_a1_a2 : a1 ≠ a2) (ne_a1_b1 : a1 ≠ b1) (ne_a2_b1 : a2 ≠ b1) (ne_a1_b2 : a1 ≠ b2) (ne_a2_b2 : a2 ≠ b2) (ne_b1_b2 : b1 ≠ b2) (ne_a1_b3 : a1 ≠ b3) (ne_a2_b3 : a2 ≠ b3) (ne_b1_b3 : b1 ≠ b3) (ne_b2_b3 : b2 ≠ b3) (r : Int32 × Int32 × (List Int32) × (List Int32) × (List Int32)), f_RawMessage_mk_108 k34 v5 v6 v7 v9 f_a1_bodyStart f_a1_lines bs_a2 bs_b1 bs_b2 bs_b3 = some r → own_Goes p e below s (Q_RawMessage_mk Z hE n0 a1 a2 r) 3 48 (T.setTop (mkF m 108 #[.val (.ref a1), .val (.ref a2), .val (.ref b1), .val (.ref b2), .val (.ref b3), .val (.int v5), .val (.int v6), .val (.int v7), d8, .val (.int v9), d10] [])) := by
  have cx' := cx
  obtain ⟨hx, hZ, hw, hby, hml, hown, hret, hlk, hnm⟩ := cx'
  intro T locs h X eT N K z b1 b2 b3 v5 v6 v7 v9 f_a1_bodyStart f_a1_lines bs_a2 bs_b1 bs_b2 bs_b3 d8 d10 o_d8 o_d10 E_a1 F_a1_bodyStart F_a1_bytes F_a1_lineEnds F_a1_lineStarts F_a1_lines F_a1_wordLengths g_a1 A_a2 g_a2 A_b1 g_b1 nE_b1 A_b2 g_b2 nE_b2 A_b3 g_b3 nE_b3 ne_a1_a2 ne_a1_b1 ne_a2_b1 ne_a1_b2 ne_a2_b2 ne_b1_b2 ne_a1_b3 ne_a2_b3 ne_b1_b3 ne_b2_b3 r hF
  unfold f_RawMessage_mk_108 at hF
  refine own_Goes.via (B := T.setTop (mkF m 112 #[.val (.ref a1), .val (.ref a2), .val (.ref b1), .val (.ref b2), .val (.ref b3), .val (.int v5), .val (.int v6), .val (.int v7), d8, .val (.int v9), d10] [(.int (own_sz bs_b1)), (.int v5)])) (fun t k => ?_) ?_
  · show Steps p.tables e below (T.setTop (mkF m 108 #[.val (.ref a1), .val (.ref a2), .val (.ref b1), .val (.ref b2), .val (.ref b3), .val (.int v5), .val (.int v6), .val (.int v7), d8, .val (.int v9), d10] [])) t
    refine XS.iload X.here hx rfl (hb hby dRawMessage_mk_108) rfl ?_
    show Steps p.tables e below (T.setTop (mkF m 110 #[.val (.ref a1), .val (.ref a2), .val (.ref b1), .val (.ref b2), .val (.ref b3), .val (.int v5), .val (.int v6), .val (.int v7), d8, .val (.int v9), d10] [(.int v5)])) t
    refine XS.aloadN X.here hx rfl (hb hby dRawMessage_mk_110) rfl rfl ?_
    show Steps p.tables e below (T.setTop (mkF m 111 #[.val (.ref a1), .val (.ref a2), .val (.ref b1), .val (.ref b2), .val (.ref b3), .val (.int v5), .val (.int v6), .val (.int v7), d8, .val (.int v9), d10] [(.ref b1), (.int v5)])) t
    refine own_len X hx hZ eT A_b1 (g := (mkF m 111 #[.val (.ref a1), .val (.ref a2), .val (.ref b1), .val (.ref b2), .val (.ref b3), .val (.int v5), .val (.int v6), .val (.int v7), d8, .val (.int v9), d10] [(.ref b1), (.int v5)])) rfl rfl (hb hby dRawMessage_mk_111) ?_
    exact k
  by_cases hc112 : v5 = (own_sz bs_b1)
  · rw [if_pos hc112] at hF
    refine own_Goes.via (B := T.setTop (mkF m 120 #[.val (.ref a1), .val (.ref a2), .val (.ref b1), .val (.ref b2), .val (.ref b3), .val (.int v5), .val (.int v6), .val (.int v7), d8, .val (.int v9), d10] [(.int ((2 : Int32) * v5)), (.ref b1)])) (fun t k => ?_) ?_
    · show Steps p.tables e below (T.setTop (mkF m 112 #[.val (.ref a1), .val (.ref a2), .val (.ref b1), .val (.ref b2), .val (.ref b3), .val (.int v5), .val (.int v6), .val (.int v7), d8, .val (.int v9), d10] [(.int (own_sz bs_b1)), (.int v5)])) t
      refine XS.icmpNo X.here hx rfl (hb hby dRawMessage_mk_112) rfl (teq hc112).2 ?_
      show Steps p.tables e below (T.setTop (mkF m 115 #[.val (.ref a1), .val (.ref a2), .val (.ref b1), .val (.ref b2), .val (.ref b3), .val (.int v5), .val (.int v6), .val (.int v7), d8, .val (.int v9), d10] [])) t
      refine XS.aloadN X.here hx rfl (hb hby dRawMessage_mk_115) rfl rfl ?_
      show Steps p.tables e below (T.setTop (mkF m 116 #[.val (.ref a1), .val (.ref a2), .val (.ref b1), .val (.ref b2), .val (.ref b3), .val (.int v5), .val (.int v6), .val (.int v7), d8, .val (.int v9), d10] [(.ref b1)])) t
      refine XS.iconst X.here hx rfl (hb hby dRawMessage_mk_116) ?_
      show Steps p.tables e below (T.setTop (mkF m 117 #[.val (.ref a1), .val (.ref a2), .val (.ref b1), .val (.ref b2), .val (.ref b3), .val (.int v5), .val (.int v6), .val (.int v7), d8, .val (.int v9), d10] [(.int (2 : Int32)), (.ref b1)])) t
      refine XS.iload X.here hx rfl (hb hby dRawMessage_mk_117) rfl ?_
      show Steps p.tables e below (T.setTop (mkF m 119 #[.val (.ref a1), .val (.ref a2), .val (.ref b1), .val (.ref b2), .val (.ref b3), .val (.int v5), .val (.int v6), .val (.int v7), d8, .val (.int v9), d10] [(.int v5), (.int (2 : Int32)), (.ref b1)])) t
      refine XS.imul X.here hx rfl (hb hby dRawMessage_mk_119) rfl ?_
      exact k
    cases hF      -- no link word at 120
  · rw [if_neg hc112] at hF
    refine own_Goes.via (B := T.setTop (mkF m 148 #[.val (.ref a1), .val (.ref a2), .val (.ref b1), .val (.ref b2), .val (.ref b3), .val (.int v5), .val (.int v6), .val (.int v7), d8, .val (.int v9), .val (.int v7)] [])) (fun t k => ?_) ?_
    · show Steps p.tables e below (T.setTop (mkF m 112 #[.val (.ref a1), .val (.ref a2), .val (.ref b1), .val (.ref b2), .val (.ref b3), .val (.int v5), .val (.int v6), .val (.int v7), d8, .val (.int v9), d10] [(.int (own_sz bs_b1)), (.int v5)])) t
      refine XS.icmpYes X.here hx rfl (pc0 := 112) (pc' := 144) rfl (hb hby dRawMessage_mk_112) rfl (feq hc112).2 (by decide) (by decide) ?_
      show Steps p.tables e below (T.setTop (mkF m 144 #[.val (.ref a1), .val (.ref a2), .val (.ref b1), .val (.ref b2), .val (.ref b3), .val (.int v5), .val (.int v6), .val (.int v7), d8, .val (.int v9), d10] [])) t
      refine XS.iload X.here hx rfl (hb hby dRawMessage_mk_144) rfl ?_
      show Steps p.tables e below (T.setTop (mkF m 146 #[.val (.ref a1), .val (.ref a2), .val (.ref b1), .val (.ref b2), .val (.ref b3), .val (.int v5), .val (.int v6), .val (.int v7), d8, .val (.int v9), d10] [(.int v7)])) t
      refine XS.istoreS X.here hx rfl (hb hby dRawMessage_mk_146) rfl rfl o_d10 ?_
      exact k
    exact b_RawMessage_mk_148 cx a1 a2 (k34 := k34) (hk34) _ X eT N K z b1 b2 b3 v5 v6 v7 v9 v7 f_a1_bodyStart f_a1_lines bs_a2 bs_b1 bs_b2 bs_b3 d8 o_d8 E_a1 F_a1_bodyStart F_a1_bytes F_a1_lineEnds F_a1_lineStarts F_a1_lines F_a1_wordLengths g_a1 A_a2 g_a2 A_b1 g_b1 nE_b1 A_b2 g_b2 nE_b2 A_b3 g_b3 nE_b3 ne_a1_a2 ne_a1_b1 ne_a2_b1 ne_a1_b2 ne_a2_b2 ne_b1_b2 ne_a1_b3 ne_a2_b3 ne_b1_b3 ne_b2_b3 _ hF
set_option maxRecDepth 65536 in
set_option maxHeartbeats 4000000 in
theorem b_RawMessage_mk_63 {p : Program} {l : Launch} {e : Env} {s : State} {m : MethodId} {args : Array Value} {below : List Frame} {meth : Method} {c : Code} {Z : State} {a0 : Array Value} {n0 : Nat} {hE : Heap} (cx : Cx_RawMessage_mk p s m meth c Z a0) (a1 : Addr) (a2 : Addr) {k34 : Int32 → Int32 → Int32 → Int32 → Int32 → (List Int32) → (List Int32) → (List Int32) → (List Int32) → Option (Int32 × Int32 × (List Int32) × (List Int32) × (List Int32))} (hk34 : ∀ {T : State} {locs : List Loc} {h : Heap} (X : Stand p l e ({ frames := 1, cells := 3, slots := 48, locals := 15 } : Room) s m args below meth c T locs 3 48) (eT : T.heap = h) (N : Fr n0 locs) (K : Keep hE h [a1]) (z : n0 ≤ h.size) (b1 : Addr) (b2 : Addr) (b3 : Addr) (v5 : Int32) (v6 : Int32) (v7 : Int32) (f_a1_bodyStart : Int32) (f_a1_lines : Int32) (bs_a2 : List Int32) (bs_b1 : List Int32) (bs_b2 : List Int32) (bs_b3 : List Int32) (d8 : Slot) (d9 : Slot) (d10 : Slot) (o_d8 : One d8) (o_d9 : One d9) (o_d10 : One d10) (E_a1 : Exa Z h a1 "com/example/oxpecker/oxpecker/sip/RawMessage") (F_a1_bodyStart : Fld Z h a1 "com/example/oxpecker/oxpecker/sip/RawMessage" "bodyStart" "I" (.int f_a1_bodyStart)) (F_a1_bytes : Fld Z h a1 "com/example/oxpecker/oxpecker/sip/RawMessage" "bytes" "[B" (.ref a2)) (F_a1_lineEnds : Fld Z h a1 "com/example/oxpecker/oxpecker/sip/RawMessage" "lineEnds" "[I" .null) (F_a1_lineStarts : Fld Z h a1 "com/example/oxpecker/oxpecker/sip/RawMessage" "lineStarts" "[I" .null) (F_a1_lines : Fld Z h a1 "com/example/oxpecker/oxpecker/sip/RawMessage" "lines" "I" (.int f_a1_lines)) (F_a1_wordLengths : Fld Z h a1 "com/example/oxpecker/oxpecker/sip/RawMessage" "wordLengths" "[I" .null) (g_a1 : n0 ≤ a1) (A_a2 : own_Ar Z h a2 .byte (bs_a2.map Value.int)) (g_a2 : n0 ≤ a2) (A_b1 : own_Ar Z h b1 .int (bs_b1.map Value.int)) (g_b1 : n0 ≤ b1) (nE_b1 : hE.size ≤ b1) (A_b2 : own_Ar Z h b2 .int (bs_b2.map Value.int)) (g_b2 : n0 ≤ b2) (nE_b2 : hE.size ≤ b2) (A_b3 : own_Ar Z h b3 .int (bs_b3.map Value.int)) (g_b3 : n0 ≤ b3) (nE_b3 : hE.size ≤ b3) (ne_a1_a2 : a1 ≠ a2) (ne_a1_b1 : a1 ≠ b1) (ne_a2_b1 : a2 ≠ b1) (ne_a1_b2 : a1 ≠ b2) (ne_a2_b2 : a2 ≠ b2) (ne_b1_b2 : b1 ≠ b2) (ne_a1_b3 : a1 ≠ b3) (ne_a2_b3 : a2 ≠ b3) (ne_b1_b3 : b1 ≠ b3) (ne_b2_b3 : b2 ≠ b3) (r : Int32 × Int32 × (List Int32) × (List Int32) × (List Int32)), k34 v5 v6 v7 f_a1_bodyStart f_a1_lines bs_a2 bs_b1 bs_b2 bs_b3 = some r → own_Goes p e below s (Q_RawMessage_mk Z hE n0 a1 a2 r) 3 48 (T.setTop (mkF m 34 #[.val (.ref a1), .val (.ref a2), .val (.ref b1), .val (.ref b2), .val (.ref b3), .val (.int v5), .val (.int v6), .val (.int v7), d8, d9, d10] []))) :
    ∀ {T : State} {locs : List Loc} {h : Heap} (X : Stand p l e ({ frames := 1, cells := 3, slots := 48, locals := 15 } : Room) s m args below meth c T locs 3 48) (eT : T.heap = h) (N : Fr n0 locs) (K : Keep hE h [a1]) (z : n0 ≤ h.size) (b1 : Addr) (b2 : Addr) (b3 : Addr) (v5 : Int32) (v6 : Int32) (v7 : Int32) (v8 : Int32) (t0 : Int32) (f_a1_bodyStart : Int32) (f_a1_lines : Int32) (bs_a2 : List Int32) (bs_b1 : List Int32) (bs_b2 : List Int32) (bs_b3 : List Int32) (d9 : Slot) (d10 : Slot) (o_d9 : One d9) (o_d10 : One d10) (E_a1 : Exa Z h a1 "com/example/oxpecker/oxpecker/sip/RawMessage") (F_a1_bodyStart : Fld Z h a1 "com/example/oxpecker/oxpecker/sip/RawMessage" "bodyStart" "I" (.int f_a1_bodyStart)) (F_a1_bytes : Fld Z h a1 "com/example/oxpecker/oxpecker/sip/RawMessage" "bytes" "[B" (.ref a2)) (F_a1_lineEnds : Fld Z h a1 "com/example/oxpecker/oxpecker/sip/RawMessage" "lineEnds" "[I" .null) (F_a1_lineStarts : Fld Z h a1 "com/example/oxpecker/oxpecker/sip/RawMessage" "lineStarts" "[I" .null) (F_a1_lines : Fld Z h a1 "com/example/oxpecker/oxpecker/sip/RawMessage" "lines" "I" (.int f_a1_lines)) (F_a1_wordLengths : Fld Z h a1 "com/example/oxpecker/oxpecker/sip/RawMessage" "wordLengths" "[I" .null) (g_a1 : n0 ≤ a1) (A_a2 : own_Ar Z h a2 .byte (bs_a2.map Value.int)) (g_a2 : n0 ≤ a2) (A_b1 : own_Ar Z h b1 .int (bs_b1.map Value.int)) (g_b1 : n0 ≤ b1) (nE_b1 : hE.size ≤ b1) (A_b2 : own_Ar Z h b2 .int (bs_b2.map Value.int)) (g_b2 : n0 ≤ b2) (nE_b2 : hE.size ≤ b2) (A_b3 : own_Ar Z h b3 .int (bs_b3.map Value.int)) (g_b3 : n0 ≤ b3) (nE_b3 : hE.size ≤ b3) (ne_a1_a2 : a1 ≠ a2) (ne_a1_b1 : a1 ≠ b1) (ne_a2_b1 : a2 ≠ b1) (ne_a1_b2 : a1 ≠ b2) (ne_a2_b2 : a2 ≠ b2) (ne_b1_b2 : b1 ≠ b2) (ne_a1_b3 : a1 ≠ b3) (ne_a2_b3 : a2 ≠ b3) (ne_b1_b3 : b1 ≠ b3) (ne_b2_b3 : b2 ≠ b3) (r : Int32 × Int32 × (List Int32) × (List Int32) × (List Int32)), f_RawMessage_mk_63 k34 v5 v6 v7 v8 t0 f_a1_bodyStart f_a1_lines bs_a2 bs_b1 bs_b2 bs_b3 = some r → own_Goes p e below s (Q_RawMessage_mk Z hE n0 a1 a2 r) 3 48 (T.setTop (mkF m 63 #[.val (.ref a1), .val (.ref a2), .val (.ref b1), .val (.ref b2), .val (.ref b3), .val (.int v5), .val (.int v6), .val (.int v7), .val (.int v8), d9, d10] [(.int t0)])) := by
  have cx' := cx
  obtain ⟨hx, hZ, hw, hby, hml, hown, hret, hlk, hnm⟩ := cx'
  intro T locs h X eT N K z b1 b2 b3 v5 v6 v7 v8 t0 f_a1_bodyStart f_a1_lines bs_a2 bs_b1 bs_b2 bs_b3 d9 d10 o_d9 o_d10 E_a1 F_a1_bodyStart F_a1_bytes F_a1_lineEnds F_a1_lineStarts F_a1_lines F_a1_wordLengths g_a1 A_a2 g_a2 A_b1 g_b1 nE_b1 A_b2 g_b2 nE_b2 A_b3 g_b3 nE_b3 ne_a1_a2 ne_a1_b1 ne_a2_b1 ne_a1_b2 ne_a2_b2 ne_b1_b2 ne_a1_b3 ne_a2_b3 ne_b1_b3 ne_b2_b3 r hF
  unfold f_RawMessage_mk_63 at hF
  refine own_Goes.via (B := T.setTop (mkF m 69 #[.val (.ref a1), .val (.ref a2), .val (.ref b1), .val (.ref b2), .val (.ref b3), .val (.int v5), .val (.int v6), .val (.int v7), .val (.int v8), .val (.int t0), d10] [(.int v7), (.int t0)])) (fun t k => ?_) ?_
  · show Steps p.tables e below (T.setTop (mkF m 63 #[.val (.ref a1), .val (.ref a2), .val (.ref b1), .val (.ref b2), .val (.ref b3), .val (.int v5), .val (.int v6), .val (.int v7), .val (.int v8), d9, d10] [(.int t0)])) t
    refine XS.istoreS X.here hx rfl (hb hby dRawMessage_mk_63) rfl rfl o_d9 ?_
    show Steps p.tables e below (T.setTop (mkF m 65 #[.val (.ref a1), .val (.ref a2), .val (.ref b1), .val (.ref b2), .val (.ref b3), .val (.int v5), .val (.int v6), .val (.int v7), .val (.int v8), .val (.int t0), d10] [])) t
    refine XS.iload X.here hx rfl (hb hby dRawMessage_mk_65) rfl ?_
    show Steps p.tables e below (T.setTop (mkF m 67 #[.val (.ref a1), .val (.ref a2), .val (.ref b1), .val (.ref b2), .val (.ref b3), .val (.int v5), .val (.int v6), .val (.int v7), .val (.int v8), .val (.int t0), d10] [(.int t0)])) t
    refine XS.iload X.here hx rfl (hb hby dRawMessage_mk_67) rfl ?_
    exact k
  by_cases hc69 : t0 = v7
  · rw [if_pos hc69] at hF
    refine own_Goes.via (B := T.setTop (mkF m 92 #[.val (.ref a1), .val (.ref a2), .val (.ref b1), .val (.ref b2), .val (.ref b3), .val (.int v5), .val (.int v6), .val (.int v7), .val (.int v8), .val (.int t0), d10] [(.int v8)])) (fun t k => ?_) ?_
    · show Steps p.tables e below (T.setTop (mkF m 69 #[.val (.ref a1), .val (.ref a2), .val (.ref b1), .val (.ref b2), .val (.ref b3), .val (.int v5), .val (.int v6), .val (.int v7), .val (.int v8), .val (.int t0), d10] [(.int v7), (.int t0)])) t
      refine XS.icmpYes X.here hx rfl (pc0 := 69) (pc' := 90) rfl (hb hby dRawMessage_mk_69) rfl (teq hc69).1 (by decide) (by decide) ?_
      show Steps p.tables e below (T.setTop (mkF m 90 #[.val (.ref a1), .val (.ref a2), .val (.ref b1), .val (.ref b2), .val (.ref b3), .val (.int v5), .val (.int v6), .val (.int v7), .val (.int v8), .val (.int t0), d10] [])) t
      refine XS.iload X.here hx rfl (hb hby dRawMessage_mk_90) rfl ?_
      exact k
    by_cases hc92 : v8 < (0 : Int32)
    · rw [if_pos hc92] at hF
      refine own_Goes.via (B := T.setTop (mkF m 222 #[.val (.ref a1), .val (.ref a2), .val (.ref b1), .val (.ref b2), .val (.ref b3), .val (.int v5), .val (.int (-1 : Int32)), .val (.int v7), .val (.int v8), .val (.int t0), d10] [])) (fun t k => ?_) ?_
      · show Steps p.tables e below (T.setTop (mkF m 92 #[.val (.ref a1), .val (.ref a2), .val (.ref b1), .val (.ref b2), .val (.ref b3), .val (.int v5), .val (.int v6), .val (.int v7), .val (.int v8), .val (.int t0), d10] [(.int v8)])) t
        refine XS.ifNo X.here hx rfl (hb hby dRawMessage_mk_92) rfl ((if0 _ _).trans (tlt hc92).2.1) ?_
        show Steps p.tables e below (T.setTop (mkF m 95 #[.val (.ref a1), .val (.ref a2), .val (.ref b1), .val (.ref b2), .val (.ref b3), .val (.int v5), .val (.int v6), .val (.int v7), .val (.int v8), .val (.int t0), d10] [])) t
        refine XS.iconst X.here hx rfl (hb hby dRawMessage_mk_95) ?_
        show Steps p.tables e below (T.setTop (mkF m 96 #[.val (.ref a1), .val (.ref a2), .val (.ref b1), .val (.ref b2), .val (.ref b3), .val (.int v5), .val (.int v6), .val (.int v7), .val (.int v8), .val (.int t0), d10] [(.int (-1 : Int32))])) t
        refine XS.goto X.here hx rfl (pc0 := 96) (pc' := 103) rfl (hb hby dRawMessage_mk_96) (by decide) (by decide) ?_
        show Steps p.tables e below (T.setTop (mkF m 103 #[.val (.ref a1), .val (.ref a2), .val (.ref b1), .val (.ref b2), .val (.ref b3), .val (.int v5), .val (.int v6), .val (.int v7), .val (.int v8), .val (.int t0), d10] [(.int (-1 : Int32))])) t
        refine XS.istore X.here hx rfl (hb hby dRawMessage_mk_103) rfl (l' := #[.val (.ref a1), .val (.ref a2), .val (.ref b1), .val (.ref b2), .val (.ref b3), .val (.int v5), .val (.int (-1 : Int32)), .val (.int v7), .val (.int v8), .val (.int t0), d10]) rfl ?_
        show Steps p.tables e below (T.setTop (mkF m 105 #[.val (.ref a1), .val (.ref a2), .val (.ref b1), .val (.ref b2), .val (.ref b3), .val (.int v5), .val (.int (-1 : Int32)), .val (.int v7), .val (.int v8), .val (.int t0), d10] [])) t
        refine XS.goto X.here hx rfl (pc0 := 105) (pc' := 222) rfl (hb hby dRawMessage_mk_105) (by decide) (by decide) ?_
        exact k
      exact b_RawMessage_mk_222 cx a1 a2 X eT N K z b1 b2 b3 v5 (-1 : Int32) f_a1_bodyStart f_a1_lines bs_a2 bs_b1 bs_b2 bs_b3 (.val (.ref a2)) (.val (.int v7)) (.val (.int v8)) (.val (.int t0)) d10 (One.val rfl) (One.val rfl) (One.val rfl) (One.val rfl) o_d10 E_a1 F_a1_bodyStart F_a1_bytes F_a1_lineEnds F_a1_lineStarts F_a1_lines F_a1_wordLengths g_a1 A_a2 g_a2 A_b1 g_b1 nE_b1 A_b2 g_b2 nE_b2 A_b3 g_b3 nE_b3 ne_a1_a2 ne_a1_b1 ne_a2_b1 ne_a1_b2 ne_a2_b2 ne_b1_b2 ne_a1_b3 ne_a2_b3 ne_b1_b3 ne_b2_b3 _ hF
    · rw [if_neg hc92] at hF
      refine own_Goes.via (B := T.setTop (mkF m 103 #[.val (.ref a1), .val (.ref a2), .val (.ref b1), .val (.ref b2), .val (.ref b3), .val (.int v5), .val (.int v6), .val (.int v7), .val (.int v8), .val (.int t0), d10] [(.int (v8 + (1 : Int32)))])) (fun t k => ?_) ?_
      · show Steps p.tables e below (T.setTop (mkF m 92 #[.val (.ref a1), .val (.ref a2), .val (.ref b1), .val (.ref b2), .val (.ref b3), .val (.int v5), .val (.int v6), .val (.int v7), .val (.int v8), .val (.int t0), d10] [(.int v8)])) t
        refine XS.ifYes X.here hx rfl (pc0 := 92) (pc' := 99) rfl (hb hby dRawMessage_mk_92) rfl ((if0 _ _).trans (flt hc92).2.1) (by decide) (by decide) ?_
        show Steps p.tables e below (T.setTop (mkF m 99 #[.val (.ref a1), .val (.ref a2), .val (.ref b1), .val (.ref b2), .val (.ref b3), .val (.int v5), .val (.int v6), .val (.int v7), .val (.int v8), .val (.int t0), d10] [])) t
        refine XS.iload X.here hx rfl (hb hby dRawMessage_mk_99) rfl ?_
        show Steps p.tables e below (T.setTop (mkF m 101 #[.val (.ref a1), .val (.ref a2), .val (.ref b1), .val (.ref b2), .val (.ref b3), .val (.int v5), .val (.int v6), .val (.int v7), .val (.int v8), .val (.int t0), d10] [(.int v8)])) t
        refine XS.iconst X.here hx rfl (hb hby dRawMessage_mk_101) ?_
        show Steps p.tables e below (T.setTop (mkF m 102 #[.val (.ref a1), .val (.ref a2), .val (.ref b1), .val (.ref b2), .val (.ref b3), .val (.int v5), .val (.int v6), .val (.int v7), .val (.int v8), .val (.int t0), d10] [(.int (1 : Int32)), (.int v8)])) t
        refine XS.iadd X.here hx rfl (hb hby dRawMessage_mk_102) rfl ?_
        exact k
      obtain ⟨x426, hx426, hF⟩ := own_lt_e hF
      rw [← hx426]
      refine own_Goes.via (B := T.setTop (mkF m 222 #[.val (.ref a1), .val (.ref a2), .val (.ref b1), .val (.ref b2), .val (.ref b3), .val (.int v5), .val (.int x426), .val (.int v7), .val (.int v8), .val (.int t0), d10] [])) (fun t k => ?_) ?_
      · show Steps p.tables e below (T.setTop (mkF m 103 #[.val (.ref a1), .val (.ref a2), .val (.ref b1), .val (.ref b2), .val (.ref b3), .val (.int v5), .val (.int v6), .val (.int v7), .val (.int v8), .val (.int t0), d10] [(.int x426)])) t
        refine XS.istore X.here hx rfl (hb hby dRawMessage_mk_103) rfl (l' := #[.val (.ref a1), .val (.ref a2), .val (.ref b1), .val (.ref b2), .val (.ref b3), .val (.int v5), .val (.int x426), .val (.int v7), .val (.int v8), .val (.int t0), d10]) rfl ?_
        show Steps p.tables e below (T.setTop (mkF m 105 #[.val (.ref a1), .val (.ref a2), .val (.ref b1), .val (.ref b2), .val (.ref b3), .val (.int v5), .val (.int x426), .val (.int v7), .val (.int v8), .val (.int t0), d10] [])) t
        refine XS.goto X.here hx rfl (pc0 := 105) (pc' := 222) rfl (hb hby dRawMessage_mk_105) (by decide) (by decide) ?_
        exact k
      exact b_RawMessage_mk_222 cx a1 a2 X eT N K z b1 b2 b3 v5 x426 f_a1_bodyStart f_a1_lines bs_a2 bs_b1 bs_b2 bs_b3 (.val (.ref a2)) (.val (.int v7)) (.val (.int v8)) (.val (.int t0)) d10 (One.val rfl) (One.val rfl) (One.val rfl) (One.val rfl) o_d10 E_a1 F_a1_bodyStart F_a1_bytes F_a1_lineEnds F_a1_lineStarts F_a1_lines F_a1_wordLengths g_a1 A_a2 g_a2 A_b1 g_b1 nE_b1 A_b2 g_b2 nE_b2 A_b3 g_b3 nE_b3 ne_a1_a2 ne_a1_b1 ne_a2_b1 ne_a1_b2 ne_a2_b2 ne_b1_b2 ne_a1_b3 ne_a2_b3 ne_b1_b3 ne_b2_b3 _ hF
  · rw [if_neg hc69] at hF
    refine own_Goes.via (B := T.setTop (mkF m 78 #[.val (.ref a1), .val (.ref a2), .val (.ref b1), .val (.ref b2), .val (.ref b3), .val (.int v5), .val (.int v6), .val (.int v7), .val (.int v8), .val (.int t0), d10] [(.int (v7 + (1 : Int32))), (.int t0)])) (fun t k => ?_) ?_
    · show Steps p.tables e below (T.setTop (mkF m 69 #[.val (.ref a1), .val (.ref a2), .val (.ref b1), .val (.ref b2), .val (.ref b3), .val (.int v5), .val (.int v6), .val (.int v7), .val (.int v8), .val (.int t0), d10] [(.int v7), (.int t0)])) t
      refine XS.icmpNo X.here hx rfl (hb hby dRawMessage_mk_69) rfl (feq hc69).1 ?_
      show Steps p.tables e below (T.setTop (mkF m 72 #[.val (.ref a1), .val (.ref a2), .val (.ref b1), .val (.ref b2), .val (.ref b3), .val (.int v5), .val (.int v6), .val (.int v7), .val (.int v8), .val (.int t0), d10] [])) t
      refine XS.iload X.here hx rfl (hb hby dRawMessage_mk_72) rfl ?_
      show Steps p.tables e below (T.setTop (mkF m 74 #[.val (.ref a1), .val (.ref a2), .val (.ref b1), .val (.ref b2), .val (.ref b3), .val (.int v5), .val (.int v6), .val (.int v7), .val (.int v8), .val (.int t0), d10] [(.int t0)])) t
      refine XS.iload X.here hx rfl (hb hby dRawMessage_mk_74) rfl ?_
      show Steps p.tables e below (T.setTop (mkF m 76 #[.val (.ref a1), .val (.ref a2), .val (.ref b1), .val (.ref b2), .val (.ref b3), .val (.int v5), .val (.int v6), .val (.int v7), .val (.int v8), .val (.int t0), d10] [(.int v7), (.int t0)])) t
      refine XS.iconst X.here hx rfl (hb hby dRawMessage_mk_76) ?_
      show Steps p.tables e below (T.setTop (mkF m 77 #[.val (.ref a1), .val (.ref a2), .val (.ref b1), .val (.ref b2), .val (.ref b3), .val (.int v5), .val (.int v6), .val (.int v7), .val (.int v8), .val (.int t0), d10] [(.int (1 : Int32)), (.int v7), (.int t0)])) t
      refine XS.iadd X.here hx rfl (hb hby dRawMessage_mk_77) rfl ?_
      exact k
    by_cases hc78 : t0 = (v7 + (1 : Int32))
    · rw [if_pos hc78] at hF
      refine own_Goes.via (B := T.setTop (mkF m 84 #[.val (.ref a1), .val (.ref a2), .val (.ref b1), .val (.ref b2), .val (.ref b3), .val (.int v5), .val (.int v6), .val (.int v7), .val (.int v8), .val (.int t0), d10] [(.int v7), (.ref a2)])) (fun t k => ?_) ?_
      · show Steps p.tables e below (T.setTop (mkF m 78 #[.val (.ref a1), .val (.ref a2), .val (.ref b1), .val (.ref b2), .val (.ref b3), .val (.int v5), .val (.int v6), .val (.int v7), .val (.int v8), .val (.int t0), d10] [(.int (v7 + (1 : Int32))), (.int t0)])) t
        refine XS.icmpNo X.here hx rfl (hb hby dRawMessage_mk_78) rfl (teq hc78).2 ?_
        show Steps p.tables e below (T.setTop (mkF m 81 #[.val (.ref a1), .val (.ref a2), .val (.ref b1), .val (.ref b2), .val (.ref b3), .val (.int v5), .val (.int v6), .val (.int v7), .val (.int v8), .val (.int t0), d10] [])) t
        refine XS.aloadN X.here hx rfl (hb hby dRawMessage_mk_81) rfl rfl ?_
        show Steps p.tables e below (T.setTop (mkF m 82 #[.val (.ref a1), .val (.ref a2), .val (.ref b1), .val (.ref b2), .val (.ref b3), .val (.int v5), .val (.int v6), .val (.int v7), .val (.int v8), .val (.int t0), d10] [(.ref a2)])) t
        refine XS.iload X.here hx rfl (hb hby dRawMessage_mk_82) rfl ?_
        exact k
      obtain ⟨hi84, hF⟩ := own_ck_e hF
      refine own_Goes.via (B := T.setTop (mkF m 87 #[.val (.ref a1), .val (.ref a2), .val (.ref b1), .val (.ref b2), .val (.ref b3), .val (.int v5), .val (.int v6), .val (.int v7), .val (.int v8), .val (.int t0), d10] [(.int (13 : Int32)), (.int (own_rd bs_a2 v7))])) (fun t k => ?_) ?_
      · show Steps p.tables e below (T.setTop (mkF m 84 #[.val (.ref a1), .val (.ref a2), .val (.ref b1), .val (.ref b2), .val (.ref b3), .val (.int v5), .val (.int v6), .val (.int v7), .val (.int v8), .val (.int t0), d10] [(.int v7), (.ref a2)])) t
        refine own_ldB X hx hZ eT A_a2 hi84 rfl (g := (mkF m 84 #[.val (.ref a1), .val (.ref a2), .val (.ref b1), .val (.ref b2), .val (.ref b3), .val (.int v5), .val (.int v6), .val (.int v7), .val (.int v8), .val (.int t0), d10] [(.int v7), (.ref a2)])) rfl rfl (hb hby dRawMessage_mk_84) ?_
        show Steps p.tables e below (T.setTop (mkF m 85 #[.val (.ref a1), .val (.ref a2), .val (.ref b1), .val (.ref b2), .val (.ref b3), .val (.int v5), .val (.int v6), .val (.int v7), .val (.int v8), .val (.int t0), d10] [(.int (own_rd bs_a2 v7))])) t
        refine XS.bipush X.here hx rfl (hb hby dRawMessage_mk_85) ?_
        exact k
      by_cases hc87 : (own_rd bs_a2 v7) = (13 : Int32)
      · rw [if_pos hc87] at hF
        refine own_Goes.via (B := T.setTop (mkF m 92 #[.val (.ref a1), .val (.ref a2), .val (.ref b1), .val (.ref b2), .val (.ref b3), .val (.int v5), .val (.int v6), .val (.int v7), .val (.int v8), .val (.int t0), d10] [(.int v8)])) (fun t k => ?_) ?_
        · show Steps p.tables e below (T.setTop (mkF m 87 #[.val (.ref a1), .val (.ref a2), .val (.ref b1), .val (.ref b2), .val (.ref b3), .val (.int v5), .val (.int v6), .val (.int v7), .val (.int v8), .val (.int t0), d10] [(.int (13 : Int32)), (.int (own_rd bs_a2 v7))])) t
          refine XS.icmpNo X.here hx rfl (hb hby dRawMessage_mk_87) rfl (teq hc87).2 ?_
          show Steps p.tables e below (T.setTop (mkF m 90 #[.val (.ref a1), .val (.ref a2), .val (.ref b1), .val (.ref b2), .val (.ref b3), .val (.int v5), .val (.int v6), .val (.int v7), .val (.int v8), .val (.int t0), d10] [])) t
          refine XS.iload X.here hx rfl (hb hby dRawMessage_mk_90) rfl ?_
          exact k
        by_cases hc92 : v8 < (0 : Int32)
        · rw [if_pos hc92] at hF
          refine own_Goes.via (B := T.setTop (mkF m 222 #[.val (.ref a1), .val (.ref a2), .val (.ref b1), .val (.ref b2), .val (.ref b3), .val (.int v5), .val (.int (-1 : Int32)), .val (.int v7), .val (.int v8), .val (.int t0), d10] [])) (fun t k => ?_) ?_
          · show Steps p.tables e below (T.setTop (mkF m 92 #[.val (.ref a1), .val (.ref a2), .val (.ref b1), .val (.ref b2), .val (.ref b3), .val (.int v5), .val (.int v6), .val (.int v7), .val (.int v8), .val (.int t0), d10] [(.int v8)])) t
            refine XS.ifNo X.here hx rfl (hb hby dRawMessage_mk_92) rfl ((if0 _ _).trans (tlt hc92).2.1) ?_
            show Steps p.tables e below (T.setTop (mkF m 95 #[.val (.ref a1), .val (.ref a2), .val (.ref b1), .val (.ref b2), .val (.ref b3), .val (.int v5), .val (.int v6), .val (.int v7), .val (.int v8), .val (.int t0), d10] [])) t
            refine XS.iconst X.here hx rfl (hb hby dRawMessage_mk_95) ?_
            show Steps p.tables e below (T.setTop (mkF m 96 #[.val (.ref a1), .val (.ref a2), .val (.ref b1), .val (.ref b2), .val (.ref b3), .val (.int v5), .val (.int v6), .val (.int v7), .val (.int v8), .val (.int t0), d10] [(.int (-1 : Int32))])) t
            refine XS.goto X.here hx rfl (pc0 := 96) (pc' := 103) rfl (hb hby dRawMessage_mk_96) (by decide) (by decide) ?_
            show Steps p.tables e below (T.setTop (mkF m 103 #[.val (.ref a1), .val (.ref a2), .val (.ref b1), .val (.ref b2), .val (.ref b3), .val (.int v5), .val (.int v6), .val (.int v7), .val (.int v8), .val (.int t0), d10] [(.int (-1 : Int32))])) t
            refine XS.istore X.here hx rfl (hb hby dRawMessage_mk_103) rfl (l' := #[.val (.ref a1), .val (.ref a2), .val (.ref b1), .val (.ref b2), .val (.ref b3), .val (.int v5), .val (.int (-1 : Int32)), .val (.int v7), .val (.int v8), .val (.int t0), d10]) rfl ?_
            show Steps p.tables e below (T.setTop (mkF m 105 #[.val (.ref a1), .val (.ref a2), .val (.ref b1), .val (.ref b2), .val (.ref b3), .val (.int v5), .val (.int (-1 : Int32)), .val (.int v7), .val (.int v8), .val (.int t0), d10] [])) t
            refine XS.goto X.here hx rfl (pc0 := 105) (pc' := 222) rfl (hb hby dRawMessage_mk_105) (by decide) (by decide) ?_
            exact k
          exact b_RawMessage_mk_222 cx a1 a2 X eT N K z b1 b2 b3 v5 (-1 : Int32) f_a1_bodyStart f_a1_lines bs_a2 bs_b1 bs_b2 bs_b3 (.val (.ref a2)) (.val (.int v7)) (.val (.int v8)) (.val (.int t0)) d10 (One.val rfl) (One.val rfl) (One.val rfl) (One.val rfl) o_d10 E_a1 F_a1_bodyStart F_a1_bytes F_a1_lineEnds F_a1_lineStarts F_a1_lines F_a1_wordLengths g_a1 A_a2 g_a2 A_b1 g_b1 nE_b1 A_b2 g_b2 nE_b2 A_b3 g_b3 nE_b3 ne_a1_a2 ne_a1_b1 ne_a2_b1 ne_a1_b2 ne_a2_b2 ne_b1_b2 ne_a1_b3 ne_a2_b3 ne_b1_b3 ne_b2_b3 _ hF
        · rw [if_neg hc92] at hF
          refine own_Goes.via (B := T.setTop (mkF m 103 #[.val (.ref a1), .val (.ref a2), .val (.ref b1), .val (.ref b2), .val (.ref b3), .val (.int v5), .val (.int v6), .val (.int v7), .val (.int v8), .val (.int t0), d10] [(.int (v8 + (1 : Int32)))])) (fun t k => ?_) ?_
          · show Steps p.tables e below (T.setTop (mkF m 92 #[.val (.ref a1), .val (.ref a2), .val (.ref b1), .val (.ref b2), .val (.ref b3), .val (.int v5), .val (.int v6), .val (.int v7), .val (.int v8), .val (.int t0), d10] [(.int v8)])) t
            refine XS.ifYes X.here hx rfl (pc0 := 92) (pc' := 99) rfl (hb hby dRawMessage_mk_92) rfl ((if0 _ _).trans (flt hc92).2.1) (by decide) (by decide) ?_
            show Steps p.tables e below (T.setTop (mkF m 99 #[.val (.ref a1), .val (.ref a2), .val (.ref b1), .val (.ref b2), .val (.ref b3), .val (.int v5), .val (.int v6), .val (.int v7), .val (.int v8), .val (.int t0), d10] [])) t
            refine XS.iload X.here hx rfl (hb hby dRawMessage_mk_99) rfl ?_
            show Steps p.tables e below (T.setTop (mkF m 101 #[.val (.ref a1), .val (.ref a2), .val (.ref b1), .val (.ref b2), .val (.ref b3), .val (.int v5), .val (.int v6), .val (.int v7), .val (.int v8), .val (.int t0), d10] [(.int v8)])) t
            refine XS.iconst X.here hx rfl (hb hby dRawMessage_mk_101) ?_
            show Steps p.tables e below (T.setTop (mkF m 102 #[.val (.ref a1), .val (.ref a2), .val (.ref b1), .val (.ref b2), .val (.ref b3), .val (.int v5), .val (.int v6), .val (.int v7), .val (.int v8), .val (.int t0), d10] [(.int (1 : Int32)), (.int v8)])) t
            refine XS.iadd X.here hx rfl (hb hby dRawMessage_mk_102) rfl ?_
            exact k
          obtain ⟨x427, hx427, hF⟩ := own_lt_e hF
          rw [← hx427]
          refine own_Goes.via (B := T.setTop (mkF m 222 #[.val (.ref a1), .val (.ref a2), .val (.ref b1), .val (.ref b2), .val (.ref b3), .val (.int v5), .val (.int x427), .val (.int v7), .val (.int v8), .val (.int t0), d10] [])) (fun t k => ?_) ?_
          · show Steps p.tables e below (T.setTop (mkF m 103 #[.val (.ref a1), .val (.ref a2), .val (.ref b1), .val (.ref b2), .val (.ref b3), .val (.int v5), .val (.int v6), .val (.int v7), .val (.int v8), .val (.int t0), d10] [(.int x427)])) t
            refine XS.istore X.here hx rfl (hb hby dRawMessage_mk_103) rfl (l' := #[.val (.ref a1), .val (.ref a2), .val (.ref b1), .val (.ref b2), .val (.ref b3), .val (.int v5), .val (.int x427), .val (.int v7), .val (.int v8), .val (.int t0), d10]) rfl ?_
            show Steps p.tables e below (T.setTop (mkF m 105 #[.val (.ref a1), .val (.ref a2), .val (.ref b1), .val (.ref b2), .val (.ref b3), .val (.int v5), .val (.int x427), .val (.int v7), .val (.int v8), .val (.int t0), d10] [])) t
            refine XS.goto X.here hx rfl (pc0 := 105) (pc' := 222) rfl (hb hby dRawMessage_mk_105) (by decide) (by decide) ?_
            exact k
          exact b_RawMessage_mk_222 cx a1 a2 X eT N K z b1 b2 b3 v5 x427 f_a1_bodyStart f_a1_lines bs_a2 bs_b1 bs_b2 bs_b3 (.val (.ref a2)) (.val (.int v7)) (.val (.int v8)) (.val (.int t0)) d10 (One.val rfl) (One.val rfl) (One.val rfl) (One.val rfl) o_d10 E_a1 F_a1_bodyStart F_a1_bytes F_a1_lineEnds F_a1_lineStarts F_a1_lines F_a1_wordLengths g_a1 A_a2 g_a2 A_b1 g_b1 nE_b1 A_b2 g_b2 nE_b2 A_b3 g_b3 nE_b3 ne_a1_a2 ne_a1_b1 ne_a2_b1 ne_a1_b2 ne_a2_b2 ne_b1_b2 ne_a1_b3 ne_a2_b3 ne_b1_b3 ne_b2_b3 _ hF
      · rw [if_neg hc87] at hF
        refine own_Goes.via (B := T.setTop (mkF m 108 #[.val (.ref a1), .val (.ref a2), .val (.ref b1), .val (.ref b2), .val (.ref b3), .val (.int v5), .val (.int v6), .val (.int v7), .val (.int v8), .val (.int t0), d10] [])) (fun t k => ?_) ?_
        · show Steps p.tables e below (T.setTop (mkF m 87 #[.val (.ref a1), .val (.ref a2), .val (.ref b1), .val (.ref b2), .val (.ref b3), .val (.int v5), .val (.int v6), .val (.int v7), .val (.int v8), .val (.int t0), d10] [(.int (13 : Int32)), (.int (own_rd bs_a2 v7))])) t
          refine XS.icmpYes X.here hx rfl (pc0 := 87) (pc' := 108) rfl (hb hby dRawMessage_mk_87) rfl (feq hc87).2 (by decide) (by decide) ?_
          exact k
        exact b_RawMessage_mk_108 cx a1 a2 (k34 := k34) (hk34) X eT N K z b1 b2 b3 v5 v6 v7 t0 f_a1_bodyStart f_a1_lines bs_a2 bs_b1 bs_b2 bs_b3 (.val (.int v8)) d10 (One.val rfl) o_d10 E_a1 F_a1_bodyStart F_a1_bytes F_a1_lineEnds F_a1_lineStarts F_a1_lines F_a1_wordLengths g_a1 A_a2 g_a2 A_b1 g_b1 nE_b1 A_b2 g_b2 nE_b2 A_b3 g_b3 nE_b3 ne_a1_a2 ne_a1_b1 ne_a2_b1 ne_a1_b2 ne_a2_b2 ne_b1_b2 ne_a1_b3 ne_a2_b3 ne_b1_b3 ne_b2_b3 _ hF
    · rw [if_neg hc78] at hF
      refine own_Goes.via (B := T.setTop (mkF m 108 #[.val (.ref a1), .val (.ref a2), .val (.ref b1), .val (.ref b2), .val (.ref b3), .val (.int v5), .val (.int v6), .val (.int v7), .val (.int v8), .val (.int t0), d10] [])) (fun t k => ?_) ?_
      · show Steps p.tables e below (T.setTop (mkF m 78 #[.val (.ref a1), .val (.ref a2), .val (.ref b1), .val (.ref b2), .val (.ref b3), .val (.int v5), .val (.int v6), .val (.int v7), .val (.int v8), .val (.int t0), d10] [(.int (v7 + (1 : Int32))), (.int t0)])) t
        refine XS.icmpYes X.here hx rfl (pc0 := 78) (pc' := 108) rfl (hb hby dRawMessage_mk_78) rfl (feq hc78).2 (by decide) (by decide) ?_
        exact k
      exact b_RawMessage_mk_108 cx a1 a2 (k34 := k34) (hk34) X eT N K z b1 b2 b3 v5 v6 v7 t0 f_a1_bodyStart f_a1_lines bs_a2 bs_b1 bs_b2 bs_b3 (.val (.int v8)) d10 (One.val rfl) o_d10 E_a1 F_a1_bodyStart F_a1_bytes F_a1_lineEnds F_a1_lineStarts F_a1_lines F_a1_wordLengths g_a1 A_a2 g_a2 A_b1 g_b1 nE_b1 A_b2 g_b2 nE_b2 A_b3 g_b3 nE_b3 ne_a1_a2 ne_a1_b1 ne_a2_b1 ne_a1_b2 ne_a2_b2 ne_b1_b2 ne_a1_b3 ne_a2_b3 ne_b1_b3 ne_b2_b3 _ hF
set_option maxRecDepth 65536 in
set_option maxHeartbeats 4000000 in
theorem b_RawMessage_mk_34 {p : Program} {l : Launch} {e : Env} {s : State} {m : MethodId} {args : Array Value} {below : List Frame} {meth : Method} {c : Code} {Z : State} {a0 : Array Value} {n0 : Nat} {hE : Heap} (cx : Cx_RawMessage_mk p s m meth c Z a0) (a1 : Addr) (a2 : Addr) (n : Nat) :
    ∀ {T : State} {locs : List Loc} {h : Heap} (X : Stand p l e ({ frames := 1, cells := 3, slots := 48, locals := 15 } : Room) s m args below meth c T locs 3 48) (eT : T.heap = h) (N : Fr n0 locs) (K : Keep hE h [a1]) (z : n0 ≤ h.size) (b1 : Addr) (b2 : Addr) (b3 : Addr) (v5 : Int32) (v6 : Int32) (v7 : Int32) (f_a1_bodyStart : Int32) (f_a1_lines : Int32) (bs_a2 : List Int32) (bs_b1 : List Int32) (bs_b2 : List Int32) (bs_b3 : List Int32) (d8 : Slot) (d9 : Slot) (d10 : Slot) (o_d8 : One d8) (o_d9 : One d9) (o_d10 : One d10) (E_a1 : Exa Z h a1 "com/example/oxpecker/oxpecker/sip/RawMessage") (F_a1_bodyStart : Fld Z h a1 "com/example/oxpecker/oxpecker/sip/RawMessage" "bodyStart" "I" (.int f_a1_bodyStart)) (F_a1_bytes : Fld Z h a1 "com/example/oxpecker/oxpecker/sip/RawMessage" "bytes" "[B" (.ref a2)) (F_a1_lineEnds : Fld Z h a1 "com/example/oxpecker/oxpecker/sip/RawMessage" "lineEnds" "[I" .null) (F_a1_lineStarts : Fld Z h a1 "com/example/oxpecker/oxpecker/sip/RawMessage" "lineStarts" "[I" .null) (F_a1_lines : Fld Z h a1 "com/example/oxpecker/oxpecker/sip/RawMessage" "lines" "I" (.int f_a1_lines)) (F_a1_wordLengths : Fld Z h a1 "com/example/oxpecker/oxpecker/sip/RawMessage" "wordLengths" "[I" .null) (g_a1 : n0 ≤ a1) (A_a2 : own_Ar Z h a2 .byte (bs_a2.map Value.int)) (g_a2 : n0 ≤ a2) (A_b1 : own_Ar Z h b1 .int (bs_b1.map Value.int)) (g_b1 : n0 ≤ b1) (nE_b1 : hE.size ≤ b1) (A_b2 : own_Ar Z h b2 .int (bs_b2.map Value.int)) (g_b2 : n0 ≤ b2) (nE_b2 : hE.size ≤ b2) (A_b3 : own_Ar Z h b3 .int (bs_b3.map Value.int)) (g_b3 : n0 ≤ b3) (nE_b3 : hE.size ≤ b3) (ne_a1_a2 : a1 ≠ a2) (ne_a1_b1 : a1 ≠ b1) (ne_a2_b1 : a2 ≠ b1) (ne_a1_b2 : a1 ≠ b2) (ne_a2_b2 : a2 ≠ b2) (ne_b1_b2 : b1 ≠ b2) (ne_a1_b3 : a1 ≠ b3) (ne_a2_b3 : a2 ≠ b3) (ne_b1_b3 : b1 ≠ b3) (ne_b2_b3 : b2 ≠ b3) (r : Int32 × Int32 × (List Int32) × (List Int32) × (List Int32)), f_RawMessage_mk_34 n v5 v6 v7 f_a1_bodyStart f_a1_lines bs_a2 bs_b1 bs_b2 bs_b3 = some r → own_Goes p e below s (Q_RawMessage_mk Z hE n0 a1 a2 r) 3 48 (T.setTop (mkF m 34 #[.val (.ref a1), .val (.ref a2), .val (.ref b1), .val (.ref b2), .val (.ref b3), .val (.int v5), .val (.int v6), .val (.int v7), d8, d9, d10] [])) := by
  have cx' := cx
  obtain ⟨hx, hZ, hw, hby, hml, hown, hret, hlk, hnm⟩ := cx'
  induction n with
  | zero =>
    intro T locs h X eT N K z b1 b2 b3 v5 v6 v7 f_a1_bodyStart f_a1_lines bs_a2 bs_b1 bs_b2 bs_b3 d8 d9 d10 o_d8 o_d9 o_d10 E_a1 F_a1_bodyStart F_a1_bytes F_a1_lineEnds F_a1_lineStarts F_a1_lines F_a1_wordLengths g_a1 A_a2 g_a2 A_b1 g_b1 nE_b1 A_b2 g_b2 nE_b2 A_b3 g_b3 nE_b3 ne_a1_a2 ne_a1_b1 ne_a2_b1 ne_a1_b2 ne_a2_b2 ne_b1_b2 ne_a1_b3 ne_a2_b3 ne_b1_b3 ne_b2_b3 r hF
    cases hF
  | succ n ih =>
    intro T locs h X eT N K z b1 b2 b3 v5 v6 v7 f_a1_bodyStart f_a1_lines bs_a2 bs_b1 bs_b2 bs_b3 d8 d9 d10 o_d8 o_d9 o_d10 E_a1 F_a1_bodyStart F_a1_bytes F_a1_lineEnds F_a1_lineStarts F_a1_lines F_a1_wordLengths g_a1 A_a2 g_a2 A_b1 g_b1 nE_b1 A_b2 g_b2 nE_b2 A_b3 g_b3 nE_b3 ne_a1_a2 ne_a1_b1 ne_a2_b1 ne_a1_b2 ne_a2_b2 ne_b1_b2 ne_a1_b3 ne_a2_b3 ne_b1_b3 ne_b2_b3 r hF
    rw [f_RawMessage_mk_34] at hF
    refine own_Goes.via (B := T.setTop (mkF m 38 #[.val (.ref a1), .val (.ref a2), .val (.ref b1), .val (.ref b2), .val (.ref b3), .val (.int v5), .val (.int v6), .val (.int v7), d8, d9, d10] [(.int (own_sz bs_a2)), (.int v7)])) (fun t k => ?_) ?_
    · show Steps p.tables e below (T.setTop (mkF m 34 #[.val (.ref a1), .val (.ref a2), .val (.ref b1), .val (.ref b2), .val (.ref b3), .val (.int v5), .val (.int v6), .val (.int v7), d8, d9, d10] [])) t
      refine XS.iload X.here hx rfl (hb hby dRawMessage_mk_34) rfl ?_
      show Steps p.tables e below (T.setTop (mkF m 36 #[.val (.ref a1), .val (.ref a2), .val (.ref b1), .val (.ref b2), .val (.ref b3), .val (.int v5), .val (.int v6), .val (.int v7), d8, d9, d10] [(.int v7)])) t
      refine XS.aloadN X.here hx rfl (hb hby dRawMessage_mk_36) rfl rfl ?_
      show Steps p.tables e below (T.setTop (mkF m 37 #[.val (.ref a1), .val (.ref a2), .val (.ref b1), .val (.ref b2), .val (.ref b3), .val (.int v5), .val (.int v6), .val (.int v7), d8, d9, d10] [(.ref a2), (.int v7)])) t
      refine own_len X hx hZ eT A_a2 (g := (mkF m 37 #[.val (.ref a1), .val (.ref a2), .val (.ref b1), .val (.ref b2), .val (.ref b3), .val (.int v5), .val (.int v6), .val (.int v7), d8, d9, d10] [(.ref a2), (.int v7)])) rfl rfl (hb hby dRawMessage_mk_37) ?_
      exact k
    by_cases hc38 : v7 < (own_sz bs_a2)
    · rw [if_pos hc38] at hF
      refine own_Goes.via (B := T.setTop (mkF m 46 #[.val (.ref a1), .val (.ref a2), .val (.ref b1), .val (.ref b2), .val (.ref b3), .val (.int v5), .val (.int v6), .val (.int v7), d8, d9, d10] [(.int v7), (.int (10 : Int32)), (.ref a1)])) (fun t k => ?_) ?_
      · show Steps p.tables e below (T.setTop (mkF m 38 #[.val (.ref a1), .val (.ref a2), .val (.ref b1), .val (.ref b2), .val (.ref b3), .val (.int v5), .val (.int v6), .val (.int v7), d8, d9, d10] [(.int (own_sz bs_a2)), (.int v7)])) t
        refine XS.icmpNo X.here hx rfl (hb hby dRawMessage_mk_38) rfl (tlt hc38).2.1 ?_
        show Steps p.tables e below (T.setTop (mkF m 41 #[.val (.ref a1), .val (.ref a2), .val (.ref b1), .val (.ref b2), .val (.ref b3), .val (.int v5), .val (.int v6), .val (.int v7), d8, d9, d10] [])) t
        refine XS.aloadN X.here hx rfl (hb hby dRawMessage_mk_41) rfl rfl ?_
        show Steps p.tables e below (T.setTop (mkF m 42 #[.val (.ref a1), .val (.ref a2), .val (.ref b1), .val (.ref b2), .val (.ref b3), .val (.int v5), .val (.int v6), .val (.int v7), d8, d9, d10] [(.ref a1)])) t
        refine XS.bipush X.here hx rfl (hb hby dRawMessage_mk_42) ?_
        show Steps p.tables e below (T.setTop (mkF m 44 #[.val (.ref a1), .val (.ref a2), .val (.ref b1), .val (.ref b2), .val (.ref b3), .val (.int v5), .val (.int v6), .val (.int v7), d8, d9, d10] [(.int (10 : Int32)), (.ref a1)])) t
        refine XS.iload X.here hx rfl (hb hby dRawMessage_mk_44) rfl ?_
        exact k
      obtain ⟨r428, hr428, hF⟩ := own_bd_e hF
      obtain ⟨cq428, q428, q428'⟩ := E_a1.cell
      obtain ⟨_, _, ⟨T428, L428, k428, n428⟩, -, X428, ⟨Lc428, hQ428, l428, y428, z428⟩, st428⟩ := X.privateBack hx (y := (⟨"com/example/oxpecker/oxpecker/sip/RawMessage", "indexOf", "(BI)I"⟩ : MethodName)) hown (mvT hZ (w22 hw)) (mvT hZ (w23 hw)) (own_privSel (y := (⟨"com/example/oxpecker/oxpecker/sip/RawMessage", "indexOf", "(BI)I"⟩ : MethodName)) (mvT hZ (w12 hw)) (Cond.privateMethod_at (mvP hZ (w24 hw) (args := #[]))) (mvT hZ (w23 hw)) (by decide)) (Cond.privateMethod_at (mvP hZ (w24 hw) (args := #[]))) (mvT hZ (w25 hw)) (by decide) (backOf (W := 0) (rm_RawMessage_indexOf l Z a0 hw [] h n0 z a1 a2 (10 : Int32) v7 f_a1_bodyStart f_a1_lines bs_a2 E_a1 F_a1_bodyStart F_a1_bytes F_a1_lineEnds F_a1_lineStarts F_a1_lines F_a1_wordLengths g_a1 A_a2 g_a2 ne_a1_a2 r428 hr428) hZ (w25 hw) (w13 hw) (by decide) (by decide)) (g := (mkF m 46 #[.val (.ref a1), .val (.ref a2), .val (.ref b1), .val (.ref b2), .val (.ref b3), .val (.int v5), .val (.int v6), .val (.int v7), d8, d9, d10] [(.int v7), (.int (10 : Int32)), (.ref a1)])) rfl (by rw [hml]; rfl) (Steps.refl _) (a := a1) (by rw [eT]; exact q428) q428' (argsL := [(.int (10 : Int32)), (.int v7)]) (rest := []) (lenOf pd_2 rfl) rfl (by show 2 * 0 + _ ≤ _; exact Nat.le_of_eq rfl) (hb hby dRawMessage_mk_46) (fun _ _ => ⟨rfl, eT, (by decide : 3 + 0 ≤ _), (by decide : 48 + 0 ≤ _)⟩)
      dsimp only [Pt.U, Pt.locs, Pt.cells, Pt.slots] at X428 l428 y428 z428 st428 hQ428
      subst l428 y428 z428
      obtain ⟨rfl, N428q, e428⟩ := hQ428
      have N428 := Fr.app N N428q
      refine own_Goes.tr st428 ?_
      show own_Goes _ _ _ _ _ _ _ (T428.setTop (mkF m 49 #[.val (.ref a1), .val (.ref a2), .val (.ref b1), .val (.ref b2), .val (.ref b3), .val (.int v5), .val (.int v6), .val (.int v7), d8, d9, d10] [(.int r428)]))
      refine own_Goes.via (B := T428.setTop (mkF m 53 #[.val (.ref a1), .val (.ref a2), .val (.ref b1), .val (.ref b2), .val (.ref b3), .val (.int v5), .val (.int v6), .val (.int v7), .val (.int r428), d9, d10] [(.int r428)])) (fun t k => ?_) ?_
      · show Steps p.tables e below (T428.setTop (mkF m 49 #[.val (.ref a1), .val (.ref a2), .val (.ref b1), .val (.ref b2), .val (.ref b3), .val (.int v5), .val (.int v6), .val (.int v7), d8, d9, d10] [(.int r428)])) t
        refine XS.istoreS X428.here hx rfl (hb hby dRawMessage_mk_49) rfl rfl o_d8 ?_
        show Steps p.tables e below (T428.setTop (mkF m 51 #[.val (.ref a1), .val (.ref a2), .val (.ref b1), .val (.ref b2), .val (.ref b3), .val (.int v5), .val (.int v6), .val (.int v7), .val (.int r428), d9, d10] [])) t
        refine XS.iload X428.here hx rfl (hb hby dRawMessage_mk_51) rfl ?_
        exact k
      by_cases hc53 : r428 < (0 : Int32)
      · rw [if_pos hc53] at hF
        refine own_Goes.via (B := T428.setTop (mkF m 63 #[.val (.ref a1), .val (.ref a2), .val (.ref b1), .val (.ref b2), .val (.ref b3), .val (.int v5), .val (.int v6), .val (.int v7), .val (.int r428), d9, d10] [(.int (own_sz bs_a2))])) (fun t k => ?_) ?_
        · show Steps p.tables e below (T428.setTop (mkF m 53 #[.val (.ref a1), .val (.ref a2), .val (.ref b1), .val (.ref b2), .val (.ref b3), .val (.int v5), .val (.int v6), .val (.int v7), .val (.int r428), d9, d10] [(.int r428)])) t
          refine XS.ifNo X428.here hx rfl (hb hby dRawMessage_mk_53) rfl ((if0 _ _).trans (tlt hc53).2.1) ?_
          show Steps p.tables e below (T428.setTop (mkF m 56 #[.val (.ref a1), .val (.ref a2), .val (.ref b1), .val (.ref b2), .val (.ref b3), .val (.int v5), .val (.int v6), .val (.int v7), .val (.int r428), d9, d10] [])) t
          refine XS.aloadN X428.here hx rfl (hb hby dRawMessage_mk_56) rfl rfl ?_
          show Steps p.tables e below (T428.setTop (mkF m 57 #[.val (.ref a1), .val (.ref a2), .val (.ref b1), .val (.ref b2), .val (.ref b3), .val (.int v5), .val (.int v6), .val (.int v7), .val (.int r428), d9, d10] [(.ref a2)])) t
          refine own_len X428 hx hZ e428 A_a2 (g := (mkF m 57 #[.val (.ref a1), .val (.ref a2), .val (.ref b1), .val (.ref b2), .val (.ref b3), .val (.int v5), .val (.int v6), .val (.int v7), .val (.int r428), d9, d10] [(.ref a2)])) rfl rfl (hb hby dRawMessage_mk_57) ?_
          show Steps p.tables e below (T428.setTop (mkF m 58 #[.val (.ref a1), .val (.ref a2), .val (.ref b1), .val (.ref b2), .val (.ref b3), .val (.int v5), .val (.int v6), .val (.int v7), .val (.int r428), d9, d10] [(.int (own_sz bs_a2))])) t
          refine XS.goto X428.here hx rfl (pc0 := 58) (pc' := 63) rfl (hb hby dRawMessage_mk_58) (by decide) (by decide) ?_
          exact k
        exact b_RawMessage_mk_63 cx a1 a2 (k34 := (f_RawMessage_mk_34 n)) (ih) X428 e428 N428 K z b1 b2 b3 v5 v6 v7 r428 (own_sz bs_a2) f_a1_bodyStart f_a1_lines bs_a2 bs_b1 bs_b2 bs_b3 d9 d10 o_d9 o_d10 E_a1 F_a1_bodyStart F_a1_bytes F_a1_lineEnds F_a1_lineStarts F_a1_lines F_a1_wordLengths g_a1 A_a2 g_a2 A_b1 g_b1 nE_b1 A_b2 g_b2 nE_b2 A_b3 g_b3 nE_b3 ne_a1_a2 ne_a1_b1 ne_a2_b1 ne_a1_b2 ne_a2_b2 ne_b1_b2 ne_a1_b3 ne_a2_b3 ne_b1_b3 ne_b2_b3 _ hF
      · rw [if_neg hc53] at hF
        refine own_Goes.via (B := T428.setTop (mkF m 63 #[.val (.ref a1), .val (.ref a2), .val (.ref b1), .val (.ref b2), .val (.ref b3), .val (.int v5), .val (.int v6), .val (.int v7), .val (.int r428), d9, d10] [(.int r428)])) (fun t k => ?_) ?_
        · show Steps p.tables e below (T428.setTop (mkF m 53 #[.val (.ref a1), .val (.ref a2), .val (.ref b1), .val (.ref b2), .val (.ref b3), .val (.int v5), .val (.int v6), .val (.int v7), .val (.int r428), d9, d10] [(.int r428)])) t
          refine XS.ifYes X428.here hx rfl (pc0 := 53) (pc' := 61) rfl (hb hby dRawMessage_mk_53) rfl ((if0 _ _).trans (flt hc53).2.1) (by decide) (by decide) ?_
          show Steps p.tables e below (T428.setTop (mkF m 61 #[.val (.ref a1), .val (.ref a2), .val (.ref b1), .val (.ref b2), .val (.ref b3), .val (.int v5), .val (.int v6), .val (.int v7), .val (.int r428), d9, d10] [])) t
          refine XS.iload X428.here hx rfl (hb hby dRawMessage_mk_61) rfl ?_
          exact k
        exact b_RawMessage_mk_63 cx a1 a2 (k34 := (f_RawMessage_mk_34 n)) (ih) X428 e428 N428 K z b1 b2 b3 v5 v6 v7 r428 r428 f_a1_bodyStart f_a1_lines bs_a2 bs_b1 bs_b2 bs_b3 d9 d10 o_d9 o_d10 E_a1 F_a1_bodyStart F_a1_bytes F_a1_lineEnds F_a1_lineStarts F_a1_lines F_a1_wordLengths g_a1 A_a2 g_a2 A_b1 g_b1 nE_b1 A_b2 g_b2 nE_b2 A_b3 g_b3 nE_b3 ne_a1_a2 ne_a1_b1 ne_a2_b1 ne_a1_b2 ne_a2_b2 ne_b1_b2 ne_a1_b3 ne_a2_b3 ne_b1_b3 ne_b2_b3 _ hF
    · rw [if_neg hc38] at hF
      refine own_Goes.via (B := T.setTop (mkF m 222 #[.val (.ref a1), .val (.ref a2), .val (.ref b1), .val (.ref b2), .val (.ref b3), .val (.int v5), .val (.int v6), .val (.int v7), d8, d9, d10] [])) (fun t k => ?_) ?_
      · show Steps p.tables e below (T.setTop (mkF m 38 #[.val (.ref a1), .val (.ref a2), .val (.ref b1), .val (.ref b2), .val (.ref b3), .val (.int v5), .val (.int v6), .val (.int v7), d8, d9, d10] [(.int (own_sz bs_a2)), (.int v7)])) t
        refine XS.icmpYes X.here hx rfl (pc0 := 38) (pc' := 222) rfl (hb hby dRawMessage_mk_38) rfl (flt hc38).2.1 (by decide) (by decide) ?_
        exact k
      exact b_RawMessage_mk_222 cx a1 a2 X eT N K z b1 b2 b3 v5 v6 f_a1_bodyStart f_a1_lines bs_a2 bs_b1 bs_b2 bs_b3 (.val (.ref a2)) (.val (.int v7)) d8 d9 d10 (One.val rfl) (One.val rfl) o_d8 o_d9 o_d10 E_a1 F_a1_bodyStart F_a1_bytes F_a1_lineEnds F_a1_lineStarts F_a1_lines F_a1_wordLengths g_a1 A_a2 g_a2 A_b1 g_b1 nE_b1 A_b2 g_b2 nE_b2 A_b3 g_b3 nE_b3 ne_a1_a2 ne_a1_b1 ne_a2_b1 ne_a1_b2 ne_a2_b2 ne_b1_b2 ne_a1_b3 ne_a2_b3 ne_b1_b3 ne_b2_b3 _ hF
set_option maxRecDepth 65536 in
set_option maxHeartbeats 4000000 in
theorem b_RawMessage_mk {p : Program} {l : Launch} {e : Env} {s : State} {m : MethodId} {args : Array Value} {below : List Frame} {meth : Method} {c : Code} {Z : State} {a0 : Array Value} {n0 : Nat} {hE : Heap} (cx : Cx_RawMessage_mk p s m meth c Z a0) (a1 : Addr) (a2 : Addr) :
    ∀ {T : State} {locs : List Loc} {h : Heap} (X : Stand p l e ({ frames := 1, cells := 3, slots := 48, locals := 15 } : Room) s m args below meth c T locs 0 0) (eT : T.heap = h) (N : Fr n0 locs) (K : Keep hE h [a1]) (z : n0 ≤ h.size) (f_a1_bodyStart : Int32) (f_a1_lines : Int32) (bs_a2 : List Int32) (E_a1 : Exa Z h a1 "com/example/oxpecker/oxpecker/sip/RawMessage") (F_a1_bodyStart : Fld Z h a1 "com/example/oxpecker/oxpecker/sip/RawMessage" "bodyStart" "I" (.int f_a1_bodyStart)) (F_a1_bytes : Fld Z h a1 "com/example/oxpecker/oxpecker/sip/RawMessage" "bytes" "[B" .null) (F_a1_lineEnds : Fld Z h a1 "com/example/oxpecker/oxpecker/sip/RawMessage" "lineEnds" "[I" .null) (F_a1_lineStarts : Fld Z h a1 "com/example/oxpecker/oxpecker/sip/RawMessage" "lineStarts" "[I" .null) (F_a1_lines : Fld Z h a1 "com/example/oxpecker/oxpecker/sip/RawMessage" "lines" "I" (.int f_a1_lines)) (F_a1_wordLengths : Fld Z h a1 "com/example/oxpecker/oxpecker/sip/RawMessage" "wordLengths" "[I" .null) (g_a1 : n0 ≤ a1) (A_a2 : own_Ar Z h a2 .byte (bs_a2.map Value.int)) (g_a2 : n0 ≤ a2) (ne_a1_a2 : a1 ≠ a2) (r : Int32 × Int32 × (List Int32) × (List Int32) × (List Int32)), f_RawMessage_mk f_a1_bodyStart f_a1_lines bs_a2 = some r → own_Goes p e below s (Q_RawMessage_mk Z hE n0 a1 a2 r) 3 48 (T.setTop (mkF m 0 #[.val (.ref a1), .val (.ref a2), .unset, .unset, .unset, .unset, .unset, .unset, .unset, .unset, .unset] [])) := by
  have cx' := cx
  obtain ⟨hx, hZ, hw, hby, hml, hown, hret, hlk, hnm⟩ := cx'
  intro T locs h X eT N K z f_a1_bodyStart f_a1_lines bs_a2 E_a1 F_a1_bodyStart F_a1_bytes F_a1_lineEnds F_a1_lineStarts F_a1_lines F_a1_wordLengths g_a1 A_a2 g_a2 ne_a1_a2 r hF
  unfold f_RawMessage_mk at hF
  refine own_Goes.via (B := T.setTop (mkF m 1 #[.val (.ref a1), .val (.ref a2), .unset, .unset, .unset, .unset, .unset, .unset, .unset, .unset, .unset] [(.ref a1)])) (fun t k => ?_) ?_
  · show Steps p.tables e below (T.setTop (mkF m 0 #[.val (.ref a1), .val (.ref a2), .unset, .unset, .unset, .unset, .unset, .unset, .unset, .unset, .unset] [])) t
    refine XS.aloadN X.here hx rfl (hb hby dRawMessage_mk_0) rfl rfl ?_
    exact k
  obtain ⟨T429, X429, e429, st429⟩ := initO X hx hZ hown (w17 hw) (w18 hw) (w19 hw) eT (g := (mkF m 1 #[.val (.ref a1), .val (.ref a2), .unset, .unset, .unset, .unset, .unset, .unset, .unset, .unset, .unset] [(.ref a1)])) rfl (by rw [hml]; rfl) rfl (hb hby dRawMessage_mk_1) (by decide) (W := 0) (by show 2 * 0 + _ ≤ _; exact Nat.le_of_eq rfl) (by decide)
  refine own_Goes.via st429 ?_
  show own_Goes _ _ _ _ _ _ _ (T429.setTop (mkF m 4 #[.val (.ref a1), .val (.ref a2), .unset, .unset, .unset, .unset, .unset, .unset, .unset, .unset, .unset] []))
  refine own_Goes.via (B := T429.setTop (mkF m 6 #[.val (.ref a1), .val (.ref a2), .unset, .unset, .unset, .unset, .unset, .unset, .unset, .unset, .unset] [(.ref a2), (.ref a1)])) (fun t k => ?_) ?_
  · show Steps p.tables e below (T429.setTop (mkF m 4 #[.val (.ref a1), .val (.ref a2), .unset, .unset, .unset, .unset, .unset, .unset, .unset, .unset, .unset] [])) t
    refine XS.aloadN X429.here hx rfl (hb hby dRawMessage_mk_4) rfl rfl ?_
    show Steps p.tables e below (T429.setTop (mkF m 5 #[.val (.ref a1), .val (.ref a2), .unset, .unset, .unset, .unset, .unset, .unset, .unset, .unset, .unset] [(.ref a1)])) t
    refine XS.aloadN X429.here hx rfl (hb hby dRawMessage_mk_5) rfl rfl ?_
    exact k
  obtain ⟨T430, h430, X430, e430, W430, st430⟩ := putF X429 hx hZ hown (host := "") (Or.inl (w20 hw)) Via.refl e429 F_a1_bytes E_a1 (Or.inr ⟨(w21 hw), rfl, hnm⟩) (w12 hw) (ty := (.array .byte)) (by decide) rfl rfl (g := (mkF m 6 #[.val (.ref a1), .val (.ref a2), .unset, .unset, .unset, .unset, .unset, .unset, .unset, .unset, .unset] [(.ref a2), (.ref a1)])) rfl rfl (hb hby dRawMessage_mk_6)
  refine own_Goes.via st430 ?_
  have E430_a1 := E_a1.wr W430
  have F430_a1_bodyStart := F_a1_bodyStart.other W430 (Or.inr (slot_ne (Or.inr (w35 hw)) (Or.inr (w21 hw)) (by decide) (t := .int) (t' := (.array .byte)) (by decide) (by decide)))
  have F430_a1_lineEnds := F_a1_lineEnds.other W430 (Or.inr (slot_ne (Or.inr (w29 hw)) (Or.inr (w21 hw)) (by decide) (t := (.array .int)) (t' := (.array .byte)) (by decide) (by decide)))
  have F430_a1_lineStarts := F_a1_lineStarts.other W430 (Or.inr (slot_ne (Or.inr (w27 hw)) (Or.inr (w21 hw)) (by decide) (t := (.array .int)) (t' := (.array .byte)) (by decide) (by decide)))
  have F430_a1_lines := F_a1_lines.other W430 (Or.inr (slot_ne (Or.inr (w33 hw)) (Or.inr (w21 hw)) (by decide) (t := .int) (t' := (.array .byte)) (by decide) (by decide)))
  have F430_a1_wordLengths := F_a1_wordLengths.other W430 (Or.inr (slot_ne (Or.inr (w31 hw)) (Or.inr (w21 hw)) (by decide) (t := (.array .int)) (t' := (.array .byte)) (by decide) (by decide)))
  have A430_a2 := A_a2.other W430 (Ne.symm ne_a1_a2)
  have F430_a1_bytes := F_a1_bytes.same W430
  have z430 := Nat.le_trans z (Keep.of_wr W430).1
  have K430_ := K.wr W430 (Or.inl (List.mem_of_getElem? (i := 0) rfl))
  have N430 := Fr.snoc X430 N g_a1
  show own_Goes _ _ _ _ _ _ _ (T430.setTop (mkF m 9 #[.val (.ref a1), .val (.ref a2), .unset, .unset, .unset, .unset, .unset, .unset, .unset, .unset, .unset] []))
  refine own_Goes.via (B := T430.setTop (mkF m 11 #[.val (.ref a1), .val (.ref a2), .unset, .unset, .unset, .unset, .unset, .unset, .unset, .unset, .unset] [(.int (16 : Int32))])) (fun t k => ?_) ?_
  · show Steps p.tables e below (T430.setTop (mkF m 9 #[.val (.ref a1), .val (.ref a2), .unset, .unset, .unset, .unset, .unset, .unset, .unset, .unset, .unset] [])) t
    refine XS.bipush X430.here hx rfl (hb hby dRawMessage_mk_9) ?_
    exact k
  obtain ⟨T431, h431, k431, X431, e431, E431, A431, st431⟩ := newP X430 hx hZ (aty := .int) (w7 hw) e430 (g := (mkF m 11 #[.val (.ref a1), .val (.ref a2), .unset, .unset, .unset, .unset, .unset, .unset, .unset, .unset, .unset] [(.int (16 : Int32))])) rfl (hb hby dRawMessage_mk_11) rfl (by decide) (cap := 16) (by decide) (by decide) (by decide) (by decide)
  obtain ⟨c431, q431⟩ : ∃ z, z = h430.size := ⟨_, rfl⟩
  rw [← q431] at A431 st431
  have A431_c431 : own_Ar Z h431 c431 .int (([(0 : Int32), (0 : Int32), (0 : Int32), (0 : Int32), (0 : Int32), (0 : Int32), (0 : Int32), (0 : Int32), (0 : Int32), (0 : Int32), (0 : Int32), (0 : Int32), (0 : Int32), (0 : Int32), (0 : Int32), (0 : Int32)] : List Int32).map Value.int) := own_newI A431 (by decide) rfl (kk := 16) (by decide)
  have g431_c431 : n0 ≤ c431 := Nat.le_trans z430 (Nat.le_of_eq q431.symm)
  have nE431_c431 : hE.size ≤ c431 := Nat.le_trans K430_.1 (Nat.le_of_eq q431.symm)
  have ne_a1_c431 : a1 ≠ c431 := Nat.ne_of_lt (Nat.lt_of_lt_of_le E430_a1.lt (Nat.le_of_eq q431.symm))
  have ne_a2_c431 : a2 ≠ c431 := Nat.ne_of_lt (Nat.lt_of_lt_of_le A430_a2.lt (Nat.le_of_eq q431.symm))
  have E431_a1 := E430_a1.ext E431
  have F431_a1_bodyStart := F430_a1_bodyStart.ext E431
  have F431_a1_bytes := F430_a1_bytes.ext E431
  have F431_a1_lineEnds := F430_a1_lineEnds.ext E431
  have F431_a1_lineStarts := F430_a1_lineStarts.ext E431
  have F431_a1_lines := F430_a1_lines.ext E431
  have F431_a1_wordLengths := F430_a1_wordLengths.ext E431
  have A431_a2 := A430_a2.ext E431
  have z431 := Nat.le_trans z430 E431.1
  have K431_ := K430_.ext E431
  refine own_Goes.via st431 ?_
  show own_Goes _ _ _ _ _ _ _ (T431.setTop (mkF m 13 #[.val (.ref a1), .val (.ref a2), .unset, .unset, .unset, .unset, .unset, .unset, .unset, .unset, .unset] [(.ref c431)]))
  refine own_Goes.via (B := T431.setTop (mkF m 16 #[.val (.ref a1), .val (.ref a2), .val (.ref c431), .unset, .unset, .unset, .unset, .unset, .unset, .unset, .unset] [(.int (16 : Int32))])) (fun t k => ?_) ?_
  · show Steps p.tables e below (T431.setTop (mkF m 13 #[.val (.ref a1), .val (.ref a2), .unset, .unset, .unset, .unset, .unset, .unset, .unset, .unset, .unset] [(.ref c431)])) t
    refine XS.astoreN X431.here hx rfl (hb hby dRawMessage_mk_13) rfl rfl (l' := #[.val (.ref a1), .val (.ref a2), .val (.ref c431), .unset, .unset, .unset, .unset, .unset, .unset, .unset, .unset]) rfl ?_
    show Steps p.tables e below (T431.setTop (mkF m 14 #[.val (.ref a1), .val (.ref a2), .val (.ref c431), .unset, .unset, .unset, .unset, .unset, .unset, .unset, .unset] [])) t
    refine XS.bipush X431.here hx rfl (hb hby dRawMessage_mk_14) ?_
    exact k
  obtain ⟨T432, h432, k432, X432, e432, E432, A432, st432⟩ := newP X431 hx hZ (aty := .int) (w7 hw) e431 (g := (mkF m 16 #[.val (.ref a1), .val (.ref a2), .val (.ref c431), .unset, .unset, .unset, .unset, .unset, .unset, .unset, .unset] [(.int (16 : Int32))])) rfl (hb hby dRawMessage_mk_16) rfl (by decide) (cap := 16) (by decide) (by decide) (by decide) (by decide)
  obtain ⟨c432, q432⟩ : ∃ z, z = h431.size := ⟨_, rfl⟩
  rw [← q432] at A432 st432
  have A432_c432 : own_Ar Z h432 c432 .int (([(0 : Int32), (0 : Int32), (0 : Int32), (0 : Int32), (0 : Int32), (0 : Int32), (0 : Int32), (0 : Int32), (0 : Int32), (0 : Int32), (0 : Int32), (0 : Int32), (0 : Int32), (0 : Int32), (0 : Int32), (0 : Int32)] : List Int32).map Value.int) := own_newI A432 (by decide) rfl (kk := 16) (by decide)
  have g432_c432 : n0 ≤ c432 := Nat.le_trans z431 (Nat.le_of_eq q432.symm)
  have nE432_c432 : hE.size ≤ c432 := Nat.le_trans K431_.1 (Nat.le_of_eq q432.symm)
  have ne_a1_c432 : a1 ≠ c432 := Nat.ne_of_lt (Nat.lt_of_lt_of_le E431_a1.lt (Nat.le_of_eq q432.symm))
  have ne_a2_c432 : a2 ≠ c432 := Nat.ne_of_lt (Nat.lt_of_lt_of_le A431_a2.lt (Nat.le_of_eq q432.symm))
  have ne_c431_c432 : c431 ≠ c432 := Nat.ne_of_lt (Nat.lt_of_lt_of_le A431_c431.lt (Nat.le_of_eq q432.symm))
  have E432_a1 := E431_a1.ext E432
  have F432_a1_bodyStart := F431_a1_bodyStart.ext E432
  have F432_a1_bytes := F431_a1_bytes.ext E432
  have F432_a1_lineEnds := F431_a1_lineEnds.ext E432
  have F432_a1_lineStarts := F431_a1_lineStarts.ext E432
  have F432_a1_lines := F431_a1_lines.ext E432
  have F432_a1_wordLengths := F431_a1_wordLengths.ext E432
  have A432_a2 := A431_a2.ext E432
  have A432_c431 := A431_c431.ext E432
  have z432 := Nat.le_trans z431 E432.1
  have K432_ := K431_.ext E432
  refine own_Goes.via st432 ?_
  show own_Goes _ _ _ _ _ _ _ (T432.setTop (mkF m 18 #[.val (.ref a1), .val (.ref a2), .val (.ref c431), .unset, .unset, .unset, .unset, .unset, .unset, .unset, .unset] [(.ref c432)]))
  refine own_Goes.via (B := T432.setTop (mkF m 21 #[.val (.ref a1), .val (.ref a2), .val (.ref c431), .val (.ref c432), .unset, .unset, .unset, .unset, .unset, .unset, .unset] [(.int (16 : Int32))])) (fun t k => ?_) ?_
  · show Steps p.tables e below (T432.setTop (mkF m 18 #[.val (.ref a1), .val (.ref a2), .val (.ref c431), .unset, .unset, .unset, .unset, .unset, .unset, .unset, .unset] [(.ref c432)])) t
    refine XS.astoreN X432.here hx rfl (hb hby dRawMessage_mk_18) rfl rfl (l' := #[.val (.ref a1), .val (.ref a2), .val (.ref c431), .val (.ref c432), .unset, .unset, .unset, .unset, .unset, .unset, .unset]) rfl ?_
    show Steps p.tables e below (T432.setTop (mkF m 19 #[.val (.ref a1), .val (.ref a2), .val (.ref c431), .val (.ref c432), .unset, .unset, .unset, .unset, .unset, .unset, .unset] [])) t
    refine XS.bipush X432.here hx rfl (hb hby dRawMessage_mk_19) ?_
    exact k
  obtain ⟨T433, h433, k433, X433, e433, E433, A433, st433⟩ := newP X432 hx hZ (aty := .int) (w7 hw) e432 (g := (mkF m 21 #[.val (.ref a1), .val (.ref a2), .val (.ref c431), .val (.ref c432), .unset, .unset, .unset, .unset, .unset, .unset, .unset] [(.int (16 : Int32))])) rfl (hb hby dRawMessage_mk_21) rfl (by decide) (cap := 16) (by decide) (by decide) (by decide) (by decide)
  obtain ⟨c433, q433⟩ : ∃ z, z = h432.size := ⟨_, rfl⟩
  rw [← q433] at A433 st433
  have A433_c433 : own_Ar Z h433 c433 .int (([(0 : Int32), (0 : Int32), (0 : Int32), (0 : Int32), (0 : Int32), (0 : Int32), (0 : Int32), (0 : Int32), (0 : Int32), (0 : Int32), (0 : Int32), (0 : Int32), (0 : Int32), (0 : Int32), (0 : Int32), (0 : Int32)] : List Int32).map Value.int) := own_newI A433 (by decide) rfl (kk := 16) (by decide)
  have g433_c433 : n0 ≤ c433 := Nat.le_trans z432 (Nat.le_of_eq q433.symm)
  have nE433_c433 : hE.size ≤ c433 := Nat.le_trans K432_.1 (Nat.le_of_eq q433.symm)
  have ne_a1_c433 : a1 ≠ c433 := Nat.ne_of_lt (Nat.lt_of_lt_of_le E432_a1.lt (Nat.le_of_eq q433.symm))
  have ne_a2_c433 : a2 ≠ c433 := Nat.ne_of_lt (Nat.lt_of_lt_of_le A432_a2.lt (Nat.le_of_eq q433.symm))
  have ne_c431_c433 : c431 ≠ c433 := Nat.ne_of_lt (Nat.lt_of_lt_of_le A432_c431.lt (Nat.le_of_eq q433.symm))
  have ne_c432_c433 : c432 ≠ c433 := Nat.ne_of_lt (Nat.lt_of_lt_of_le A432_c432.lt (Nat.le_of_eq q433.symm))
  have E433_a1 := E432_a1.ext E433
  have F433_a1_bodyStart := F432_a1_bodyStart.ext E433
  have F433_a1_bytes := F432_a1_bytes.ext E433
  have F433_a1_lineEnds := F432_a1_lineEnds.ext E433
  have F433_a1_lineStarts := F432_a1_lineStarts.ext E433
  have F433_a1_lines := F432_a1_lines.ext E433
  have F433_a1_wordLengths := F432_a1_wordLengths.ext E433
  have A433_a2 := A432_a2.ext E433
  have A433_c431 := A432_c431.ext E433
  have A433_c432 := A432_c432.ext E433
  have z433 := Nat.le_trans z432 E433.1
  have K433_ := K432_.ext E433
  refine own_Goes.via st433 ?_
  show own_Goes _ _ _ _ _ _ _ (T433.setTop (mkF m 23 #[.val (.ref a1), .val (.ref a2), .val (.ref c431), .val (.ref c432), .unset, .unset, .unset, .unset, .unset, .unset, .unset] [(.ref c433)]))
  refine own_Goes.via (B := T433.setTop (mkF m 34 #[.val (.ref a1), .val (.ref a2), .val (.ref c431), .val (.ref c432), .val (.ref c433), .val (.int (0 : Int32)), .val (.int (-1 : Int32)), .val (.int (0 : Int32)), .unset, .unset, .unset] [])) (fun t k => ?_) ?_
  · show Steps p.tables e below (T433.setTop (mkF m 23 #[.val (.ref a1), .val (.ref a2), .val (.ref c431), .val (.ref c432), .unset, .unset, .unset, .unset, .unset, .unset, .unset] [(.ref c433)])) t
    refine XS.astore X433.here hx rfl (hb hby dRawMessage_mk_23) rfl rfl (l' := #[.val (.ref a1), .val (.ref a2), .val (.ref c431), .val (.ref c432), .val (.ref c433), .unset, .unset, .unset, .unset, .unset, .unset]) rfl ?_
    show Steps p.tables e below (T433.setTop (mkF m 25 #[.val (.ref a1), .val (.ref a2), .val (.ref c431), .val (.ref c432), .val (.ref c433), .unset, .unset, .unset, .unset, .unset, .unset] [])) t
    refine XS.iconst X433.here hx rfl (hb hby dRawMessage_mk_25) ?_
    show Steps p.tables e below (T433.setTop (mkF m 26 #[.val (.ref a1), .val (.ref a2), .val (.ref c431), .val (.ref c432), .val (.ref c433), .unset, .unset, .unset, .unset, .unset, .unset] [(.int (0 : Int32))])) t
    refine XS.istore X433.here hx rfl (hb hby dRawMessage_mk_26) rfl (l' := #[.val (.ref a1), .val (.ref a2), .val (.ref c431), .val (.ref c432), .val (.ref c433), .val (.int (0 : Int32)), .unset, .unset, .unset, .unset, .unset]) rfl ?_
    show Steps p.tables e below (T433.setTop (mkF m 28 #[.val (.ref a1), .val (.ref a2), .val (.ref c431), .val (.ref c432), .val (.ref c433), .val (.int (0 : Int32)), .unset, .unset, .unset, .unset, .unset] [])) t
    refine XS.iconst X433.here hx rfl (hb hby dRawMessage_mk_28) ?_
    show Steps p.tables e below (T433.setTop (mkF m 29 #[.val (.ref a1), .val (.ref a2), .val (.ref c431), .val (.ref c432), .val (.ref c433), .val (.int (0 : Int32)), .unset, .unset, .unset, .unset, .unset] [(.int (-1 : Int32))])) t
    refine XS.istore X433.here hx rfl (hb hby dRawMessage_mk_29) rfl (l' := #[.val (.ref a1), .val (.ref a2), .val (.ref c431), .val (.ref c432), .val (.ref c433), .val (.int (0 : Int32)), .val (.int (-1 : Int32)), .unset, .unset, .unset, .unset]) rfl ?_
    show Steps p.tables e below (T433.setTop (mkF m 31 #[.val (.ref a1), .val (.ref a2), .val (.ref c431), .val (.ref c432), .val (.ref c433), .val (.int (0 : Int32)), .val (.int (-1 : Int32)), .unset, .unset, .unset, .unset] [])) t
    refine XS.iconst X433.here hx rfl (hb hby dRawMessage_mk_31) ?_
    show Steps p.tables e below (T433.setTop (mkF m 32 #[.val (.ref a1), .val (.ref a2), .val (.ref c431), .val (.ref c432), .val (.ref c433), .val (.int (0 : Int32)), .val (.int (-1 : Int32)), .unset, .unset, .unset, .unset] [(.int (0 : Int32))])) t
    refine XS.istore X433.here hx rfl (hb hby dRawMessage_mk_32) rfl (l' := #[.val (.ref a1), .val (.ref a2), .val (.ref c431), .val (.ref c432), .val (.ref c433), .val (.int (0 : Int32)), .val (.int (-1 : Int32)), .val (.int (0 : Int32)), .unset, .unset, .unset]) rfl ?_
    exact k
  exact b_RawMessage_mk_34 cx a1 a2 _ X433 e433 N430 K433_ z433 c431 c432 c433 (0 : Int32) (-1 : Int32) (0 : Int32) f_a1_bodyStart f_a1_lines bs_a2 ([(0 : Int32), (0 : Int32), (0 : Int32), (0 : Int32), (0 : Int32), (0 : Int32), (0 : Int32), (0 : Int32), (0 : Int32), (0 : Int32), (0 : Int32), (0 : Int32), (0 : Int32), (0 : Int32), (0 : Int32), (0 : Int32)] : List Int32) ([(0 : Int32), (0 : Int32), (0 : Int32), (0 : Int32), (0 : Int32), (0 : Int32), (0 : Int32), (0 : Int32), (0 : Int32), (0 : Int32), (0 : Int32), (0 : Int32), (0 : Int32), (0 : Int32), (0 : Int32), (0 : Int32)] : List Int32) ([(0 : Int32), (0 : Int32), (0 : Int32), (0 : Int32), (0 : Int32), (0 : Int32), (0 : Int32), (0 : Int32), (0 : Int32), (0 : Int32), (0 : Int32), (0 : Int32), (0 : Int32), (0 : Int32), (0 : Int32), (0 : Int32)] : List Int32) (.unset) (.unset) (.unset) One.u One.u One.u E433_a1 F433_a1_bodyStart F433_a1_bytes F433_a1_lineEnds F433_a1_lineStarts F433_a1_lines F433_a1_wordLengths g_a1 A433_a2 g_a2 A433_c431 g431_c431 nE431_c431 A433_c432 g432_c432 nE432_c432 A433_c433 g433_c433 nE433_c433 ne_a1_a2 ne_a1_c431 ne_a2_c431 ne_a1_c432 ne_a2_c432 ne_c431_c432 ne_a1_c433 ne_a2_c433 ne_c431_c433 ne_c432_c433 _ hF
theorem ef_RawMessage_mk (m : MethodId) (x0 : Addr) (x1 : Addr) : entryFrame m #[(.ref x0), (.ref x1)] 11 = mkF m 0 #[.val (.ref x0), .val (.ref x1), .unset, .unset, .unset, .unset, .unset, .unset, .unset, .unset, .unset] [] := by first | (simp [entryFrame, mkF, argsToLocals, Value.category]; done) | rfl
set_option maxRecDepth 65536 in
set_option maxHeartbeats 4000000 in
theorem rm_RawMessage_mk (l : Launch) (Z : State) (a0 : Array Value) (hw : ∀ d ∈ tables_1, d.before a0 Z = true) (ws : List Jvm.Cond) (hE : Heap) (n0 : Nat) (z : n0 ≤ hE.size) (a1 : Addr) (a2 : Addr) (f_a1_bodyStart : Int32) (f_a1_lines : Int32) (bs_a2 : List Int32) (E_a1 : Exa Z hE a1 "com/example/oxpecker/oxpecker/sip/RawMessage") (F_a1_bodyStart : Fld Z hE a1 "com/example/oxpecker/oxpecker/sip/RawMessage" "bodyStart" "I" (.int f_a1_bodyStart)) (F_a1_bytes : Fld Z hE a1 "com/example/oxpecker/oxpecker/sip/RawMessage" "bytes" "[B" .null) (F_a1_lineEnds : Fld Z hE a1 "com/example/oxpecker/oxpecker/sip/RawMessage" "lineEnds" "[I" .null) (F_a1_lineStarts : Fld Z hE a1 "com/example/oxpecker/oxpecker/sip/RawMessage" "lineStarts" "[I" .null) (F_a1_lines : Fld Z hE a1 "com/example/oxpecker/oxpecker/sip/RawMessage" "lines" "I" (.int f_a1_lines)) (F_a1_wordLengths : Fld Z hE a1 "com/example/oxpecker/oxpecker/sip/RawMessage" "wordLengths" "[I" .null) (g_a1 : n0 ≤ a1) (A_a2 : own_Ar Z hE a2 .byte (bs_a2.map Value.int)) (g_a2 : n0 ≤ a2) (ne_a1_a2 : a1 ≠ a2) (r : Int32 × Int32 × (List Int32) × (List Int32) × (List Int32)) (hF : (f_RawMessage_mk f_a1_bodyStart f_a1_lines bs_a2) = some r) :
    MetFree l (⟨"com/example/oxpecker/oxpecker/sip/RawMessage", "<init>", "([B)V"⟩ : MethodName) (head1 (Jvm.Cond.code (⟨"com/example/oxpecker/oxpecker/sip/RawMessage", "<init>", "([B)V"⟩ : MethodName) prog_12_method_1_code 11 none :: ws) ({ frames := 1, cells := 3, slots := 48, locals := 15 } : Room)) (fun a U => a = #[(.ref a1), (.ref a2)] ∧ Z.Warmed39 U.vm ∧ U.heap = hE) (fun _ _ _ _ _ => True) (fun _ U o U' => ∃ v L, o = .returned v ∧ (Q_RawMessage_mk Z hE n0 a1 a2 r) v U'.heap L ∧ FrameEnd U o U' L ({ frames := 1, cells := 3, slots := 48, locals := 15 } : Room).cells ({ frames := 1, cells := 3, slots := 48, locals := 15 } : Room).slots) := by
  refine MetFree.of_bodySF (plainFor_of_name pn_com_example_oxpecker_oxpecker_sip_RawMessage) hisR ?_
  intro p e s m args below meth c s₁ Bd hml0 hP hK
  obtain ⟨rfl, hZ, hh⟩ := hP
  have X0 : Stand p l e ({ frames := 1, cells := 3, slots := 48, locals := 15 } : Room) s m #[(.ref a1), (.ref a2)] below meth c s₁ [] 0 0 := Stand.of_body Bd
  have e0 : s₁.heap = hE := by rw [← hh, Bd.state]; rfl
  have cx : Cx_RawMessage_mk p s m meth c Z a0 := ⟨Bd.exec, hZ, hw, Bd.bytes, hml0, findClass_of_methodNamed Bd.named, Bd.returns, Bd.notSynchronized, (name_of_methodNamed Bd.named Bd.method).1⟩
  show own_Goes p e below s (Q_RawMessage_mk Z hE n0 a1 a2 r) ({ frames := 1, cells := 3, slots := 48, locals := 15 } : Room).cells ({ frames := 1, cells := 3, slots := 48, locals := 15 } : Room).slots (s₁.setTop (entryFrame m #[(.ref a1), (.ref a2)] 11))
  rw [ef_RawMessage_mk]
  exact b_RawMessage_mk cx a1 a2 X0 e0 (Fr.nil n0) (Keep.refl _ _) z f_a1_bodyStart f_a1_lines bs_a2 E_a1 F_a1_bodyStart F_a1_bytes F_a1_lineEnds F_a1_lineStarts F_a1_lines F_a1_wordLengths g_a1 A_a2 g_a2 ne_a1_a2 _ hF
/-! com/example/oxpecker/oxpecker/sip/RawMessage.indexOf:(BI)I -/
def f_RawMessage_indexOf_i2_2 : Nat → Int32 → Int32 → Int32 → Int32 → (List Int32) → (List Int32) → (List Int32) → (List Int32) → Option (Int32)
  | 0, _, _, _, _, _, _, _, _ => none
  | n + 1, v1, v3, f_a1_bodyStart, f_a1_lines, bs_a2, bs_a3, bs_a4, bs_a5 =>
    if v3 < (own_sz bs_a2) then
      own_ck (own_inb bs_a2 v3) <|
      if (own_rd bs_a2 v3) = v1 then
        some v3
      else
        own_lt (v3 + (1 : Int32)) fun x454 =>
        (f_RawMessage_indexOf_i2_2 n) v1 x454 f_a1_bodyStart f_a1_lines bs_a2 bs_a3 bs_a4 bs_a5
    else
      some (-1 : Int32)
def f_RawMessage_indexOf_i2 (v1 : Int32) (v2 : Int32) (f_a1_bodyStart : Int32) (f_a1_lines : Int32) (bs_a2 : List Int32) (bs_a3 : List Int32) (bs_a4 : List Int32) (bs_a5 : List Int32) : Option (Int32) :=
  (f_RawMessage_indexOf_i2_2 100 v1 v2 f_a1_bodyStart f_a1_lines bs_a2 bs_a3 bs_a4 bs_a5)
def Q_RawMessage_indexOf_i2 (Z : State) (hE : Heap) (n0 : Nat) (a1 : Addr) (a2 : Addr) (a3 : Addr) (a4 : Addr) (a5 : Addr) (r : Int32) (v : Option Value) (h : Heap) (L : List Loc) : Prop := v = some (.int r) ∧ Fr n0 L ∧ h = hE
def Cx_RawMessage_indexOf_i2 (p : Program) (s : State) (m : MethodId) (meth : Method) (c : Code) (Z : State) (a0 : Array Value) : Prop := p.tables.exec = Jvm.exec ∧ Z.Warmed39 s.vm ∧ (∀ d ∈ tables_1, d.before a0 Z = true) ∧ c.code = prog_12_method_17_code ∧ c.maxLocals = 4 ∧ s.vm.findClass "com/example/oxpecker/oxpecker/sip/RawMessage" = some m.cls ∧ meth.sig.returnType = some .int ∧ meth.locks = false ∧ meth.name = "indexOf"
set_option maxRecDepth 65536 in
set_option maxHeartbeats 4000000 in
theorem b_RawMessage_indexOf_i2_2 {p : Program} {l : Launch} {e : Env} {s : State} {m : MethodId} {args : Array Value} {below : List Frame} {meth : Method} {c : Code} {Z : State} {a0 : Array Value} {n0 : Nat} {hE : Heap} (cx : Cx_RawMessage_indexOf_i2 p s m meth c Z a0) (a1 : Addr) (a2 : Addr) (a3 : Addr) (a4 : Addr) (a5 : Addr) (n : Nat) :
    ∀ {T : State} {locs : List Loc} (X : Stand p l e ({ frames := 0, cells := 0, slots := 0, locals := 0 } : Room) s m args below meth c T locs 0 0) (eT : T.heap = hE) (N : Fr n0 locs) (z : n0 ≤ hE.size) (v1 : Int32) (v3 : Int32) (f_a1_bodyStart : Int32) (f_a1_lines : Int32) (bs_a2 : List Int32) (bs_a3 : List Int32) (bs_a4 : List Int32) (bs_a5 : List Int32) (d2 : Slot) (o_d2 : One d2) (E_a1 : Exa Z hE a1 "com/example/oxpecker/oxpecker/sip/RawMessage") (F_a1_bodyStart : Fld Z hE a1 "com/example/oxpecker/oxpecker/sip/RawMessage" "bodyStart" "I" (.int f_a1_bodyStart)) (F_a1_bytes : Fld Z hE a1 "com/example/oxpecker/oxpecker/sip/RawMessage" "bytes" "[B" (.ref a2)) (F_a1_lineEnds : Fld Z hE a1 "com/example/oxpecker/oxpecker/sip/RawMessage" "lineEnds" "[I" (.ref a3)) (F_a1_lineStarts : Fld Z hE a1 "com/example/oxpecker/oxpecker/sip/RawMessage" "lineStarts" "[I" (.ref a4)) (F_a1_lines : Fld Z hE a1 "com/example/oxpecker/oxpecker/sip/RawMessage" "lines" "I" (.int f_a1_lines)) (F_a1_wordLengths : Fld Z hE a1 "com/example/oxpecker/oxpecker/sip/RawMessage" "wordLengths" "[I" (.ref a5)) (g_a1 : n0 ≤ a1) (A_a2 : own_Ar Z hE a2 .byte (bs_a2.map Value.int)) (g_a2 : n0 ≤ a2) (A_a3 : own_Ar Z hE a3 .int (bs_a3.map Value.int)) (g_a3 : n0 ≤ a3) (A_a4 : own_Ar Z hE a4 .int (bs_a4.map Value.int)) (g_a4 : n0 ≤ a4) (A_a5 : own_Ar Z hE a5 .int (bs_a5.map Value.int)) (g_a5 : n0 ≤ a5) (ne_a1_a2 : a1 ≠ a2) (ne_a1_a3 : a1 ≠ a3) (ne_a2_a3 : a2 ≠ a3) (ne_a1_a4 : a1 ≠ a4) (ne_a2_a4 : a2 ≠ a4) (ne_a3_a4 : a3 ≠ a4) (ne_a1_a5 : a1 ≠ a5) (ne_a2_a5 : a2 ≠ a5) (ne_a3_a5 : a3 ≠ a5) (ne_a4_a5 : a4 ≠ a5) (r : Int32), f_RawMessage_indexOf_i2_2 n v1 v3 f_a1_bodyStart f_a1_lines bs_a2 bs_a3 bs_a4 bs_a5 = some r → own_Goes p e below s (Q_RawMessage_indexOf_i2 Z hE n0 a1 a2 a3 a4 a5 r) 0 0 (T.setTop (mkF m 2 #[.val (.ref a1), .val (.int v1), d2, .val (.int v3)] [])) := by
  have cx' := cx
  obtain ⟨hx, hZ, hw, hby, hml, hown, hret, hlk, hnm⟩ := cx'
  induction n with
  | zero =>
    intro T locs X eT N z v1 v3 f_a1_bodyStart f_a1_lines bs_a2 bs_a3 bs_a4 bs_a5 d2 o_d2 E_a1 F_a1_bodyStart F_a1_bytes F_a1_lineEnds F_a1_lineStarts F_a1_lines F_a1_wordLengths g_a1 A_a2 g_a2 A_a3 g_a3 A_a4 g_a4 A_a5 g_a5 ne_a1_a2 ne_a1_a3 ne_a2_a3 ne_a1_a4 ne_a2_a4 ne_a3_a4 ne_a1_a5 ne_a2_a5 ne_a3_a5 ne_a4_a5 r hF
    cases hF
  | succ n ih =>
    intro T locs X eT N z v1 v3 f_a1_bodyStart f_a1_lines bs_a2 bs_a3 bs_a4 bs_a5 d2 o_d2 E_a1 F_a1_bodyStart F_a1_bytes F_a1_lineEnds F_a1_lineStarts F_a1_lines F_a1_wordLengths g_a1 A_a2 g_a2 A_a3 g_a3 A_a4 g_a4 A_a5 g_a5 ne_a1_a2 ne_a1_a3 ne_a2_a3 ne_a1_a4 ne_a2_a4 ne_a3_a4 ne_a1_a5 ne_a2_a5 ne_a3_a5 ne_a4_a5 r hF
    rw [f_RawMessage_indexOf_i2_2] at hF
    refine own_Goes.via (B := T.setTop (mkF m 4 #[.val (.ref a1), .val (.int v1), d2, .val (.int v3)] [(.ref a1), (.int v3)])) (fun t k => ?_) ?_
    · show Steps p.tables e below (T.setTop (mkF m 2 #[.val (.ref a1), .val (.int v1), d2, .val (.int v3)] [])) t
      refine XS.iloadN X.here hx rfl (hb hby dRawMessage_indexOf_2) rfl ?_
      show Steps p.tables e below (T.setTop (mkF m 3 #[.val (.ref a1), .val (.int v1), d2, .val (.int v3)] [(.int v3)])) t
      refine XS.aloadN X.here hx rfl (hb hby dRawMessage_indexOf_3) rfl rfl ?_
      exact k
    obtain ⟨T452, X452, e452, st452⟩ := getF X hx hZ hown (host := "") (Or.inl (w20 hw)) Via.refl eT F_a1_bytes (g := (mkF m 4 #[.val (.ref a1), .val (.int v1), d2, .val (.int v3)] [(.ref a1), (.int v3)])) rfl rfl (hb hby dRawMessage_indexOf_4)
    refine own_Goes.via st452 ?_
    show own_Goes _ _ _ _ _ _ _ (T452.setTop (mkF m 7 #[.val (.ref a1), .val (.int v1), d2, .val (.int v3)] [(.ref a2), (.int v3)]))
    refine own_Goes.via (B := T452.setTop (mkF m 8 #[.val (.ref a1), .val (.int v1), d2, .val (.int v3)] [(.int (own_sz bs_a2)), (.int v3)])) (fun t k => ?_) ?_
    · show Steps p.tables e below (T452.setTop (mkF m 7 #[.val (.ref a1), .val (.int v1), d2, .val (.int v3)] [(.ref a2), (.int v3)])) t
      refine own_len X452 hx hZ e452 A_a2 (g := (mkF m 7 #[.val (.ref a1), .val (.int v1), d2, .val (.int v3)] [(.ref a2), (.int v3)])) rfl rfl (hb hby dRawMessage_indexOf_7) ?_
      exact k
    by_cases hc8 : v3 < (own_sz bs_a2)
    · rw [if_pos hc8] at hF
      refine own_Goes.via (B := T452.setTop (mkF m 12 #[.val (.ref a1), .val (.int v1), d2, .val (.int v3)] [(.ref a1)])) (fun t k => ?_) ?_
      · show Steps p.tables e below (T452.setTop (mkF m 8 #[.val (.ref a1), .val (.int v1), d2, .val (.int v3)] [(.int (own_sz bs_a2)), (.int v3)])) t
        refine XS.icmpNo X452.here hx rfl (hb hby dRawMessage_indexOf_8) rfl (tlt hc8).2.1 ?_
        show Steps p.tables e below (T452.setTop (mkF m 11 #[.val (.ref a1), .val (.int v1), d2, .val (.int v3)] [])) t
        refine XS.aloadN X452.here hx rfl (hb hby dRawMessage_indexOf_11) rfl rfl ?_
        exact k
      obtain ⟨T453, X453, e453, st453⟩ := getF X452 hx hZ hown (host := "") (Or.inl (w20 hw)) Via.refl e452 F_a1_bytes (g := (mkF m 12 #[.val (.ref a1), .val (.int v1), d2, .val (.int v3)] [(.ref a1)])) rfl rfl (hb hby dRawMessage_indexOf_12)
      refine own_Goes.via st453 ?_
      show own_Goes _ _ _ _ _ _ _ (T453.setTop (mkF m 15 #[.val (.ref a1), .val (.int v1), d2, .val (.int v3)] [(.ref a2)]))
      refine own_Goes.via (B := T453.setTop (mkF m 16 #[.val (.ref a1), .val (.int v1), d2, .val (.int v3)] [(.int v3), (.ref a2)])) (fun t k => ?_) ?_
      · show Steps p.tables e below (T453.setTop (mkF m 15 #[.val (.ref a1), .val (.int v1), d2, .val (.int v3)] [(.ref a2)])) t
        refine XS.iloadN X453.here hx rfl (hb hby dRawMessage_indexOf_15) rfl ?_
        exact k
      obtain ⟨hi16, hF⟩ := own_ck_e hF
      refine own_Goes.via (B := T453.setTop (mkF m 18 #[.val (.ref a1), .val (.int v1), d2, .val (.int v3)] [(.int v1), (.int (own_rd bs_a2 v3))])) (fun t k => ?_) ?_
      · show Steps p.tables e below (T453.setTop (mkF m 16 #[.val (.ref a1), .val (.int v1), d2, .val (.int v3)] [(.int v3), (.ref a2)])) t
        refine own_ldB X453 hx hZ e453 A_a2 hi16 rfl (g := (mkF m 16 #[.val (.ref a1), .val (.int v1), d2, .val (.int v3)] [(.int v3), (.ref a2)])) rfl rfl (hb hby dRawMessage_indexOf_16) ?_
        show Steps p.tables e below (T453.setTop (mkF m 17 #[.val (.ref a1), .val (.int v1), d2, .val (.int v3)] [(.int (own_rd bs_a2 v3))])) t
        refine XS.iloadN X453.here hx rfl (hb hby dRawMessage_indexOf_17) rfl ?_
        exact k
      by_cases hc18 : (own_rd bs_a2 v3) = v1
      · rw [if_pos hc18] at hF
        refine own_Goes.via (B := T453.setTop (mkF m 22 #[.val (.ref a1), .val (.int v1), d2, .val (.int v3)] [(.int v3)])) (fun t k => ?_) ?_
        · show Steps p.tables e below (T453.setTop (mkF m 18 #[.val (.ref a1), .val (.int v1), d2, .val (.int v3)] [(.int v1), (.int (own_rd bs_a2 v3))])) t
          refine XS.icmpNo X453.here hx rfl (hb hby dRawMessage_indexOf_18) rfl (teq hc18).2 ?_
          show Steps p.tables e below (T453.setTop (mkF m 21 #[.val (.ref a1), .val (.int v1), d2, .val (.int v3)] [])) t
          refine XS.iloadN X453.here hx rfl (hb hby dRawMessage_indexOf_21) rfl ?_
          exact k
        obtain rfl : v3 = r := Option.some.inj hF
        exact own_retI X453 hx hret hlk (hb hby dRawMessage_indexOf_22) e453 ⟨rfl, N, rfl⟩ (by decide) (by decide)
      · rw [if_neg hc18] at hF
        refine own_Goes.via (B := T453.setTop (mkF m 26 #[.val (.ref a1), .val (.int v1), d2, .val (.int (v3 + (1 : Int32)))] [])) (fun t k => ?_) ?_
        · show Steps p.tables e below (T453.setTop (mkF m 18 #[.val (.ref a1), .val (.int v1), d2, .val (.int v3)] [(.int v1), (.int (own_rd bs_a2 v3))])) t
          refine XS.icmpYes X453.here hx rfl (pc0 := 18) (pc' := 23) rfl (hb hby dRawMessage_indexOf_18) rfl (feq hc18).2 (by decide) (by decide) ?_
          show Steps p.tables e below (T453.setTop (mkF m 23 #[.val (.ref a1), .val (.int v1), d2, .val (.int v3)] [])) t
          refine XS.iinc X453.here hx rfl (hb hby dRawMessage_indexOf_23) rfl (l' := #[.val (.ref a1), .val (.int v1), d2, .val (.int (v3 + (1 : Int32)))]) rfl ?_
          exact k
        obtain ⟨x454, hx454, hF⟩ := own_lt_e hF
        rw [← hx454]
        refine own_Goes.via (B := T453.setTop (mkF m 2 #[.val (.ref a1), .val (.int v1), d2, .val (.int x454)] [])) (fun t k => ?_) ?_
        · show Steps p.tables e below (T453.setTop (mkF m 26 #[.val (.ref a1), .val (.int v1), d2, .val (.int x454)] [])) t
          refine XS.goto X453.here hx rfl (pc0 := 26) (pc' := 2) rfl (hb hby dRawMessage_indexOf_26) (by decide) (by decide) ?_
          exact k
        exact ih X453 e453 N z v1 x454 f_a1_bodyStart f_a1_lines bs_a2 bs_a3 bs_a4 bs_a5 d2 o_d2 E_a1 F_a1_bodyStart F_a1_bytes F_a1_lineEnds F_a1_lineStarts F_a1_lines F_a1_wordLengths g_a1 A_a2 g_a2 A_a3 g_a3 A_a4 g_a4 A_a5 g_a5 ne_a1_a2 ne_a1_a3 ne_a2_a3 ne_a1_a4 ne_a2_a4 ne_a3_a4 ne_a1_a5 ne_a2_a5 ne_a3_a5 ne_a4_a5 _ hF
    · rw [if_neg hc8] at hF
      refine own_Goes.via (B := T452.setTop (mkF m 30 #[.val (.ref a1), .val (.int v1), d2, .val (.int v3)] [(.int (-1 : Int32))])) (fun t k => ?_) ?_
      · show Steps p.tables e below (T452.setTop (mkF m 8 #[.val (.ref a1), .val (.int v1), d2, .val (.int v3)] [(.int (own_sz bs_a2)), (.int v3)])) t
        refine XS.icmpYes X452.here hx rfl (pc0 := 8) (pc' := 29) rfl (hb hby dRawMessage_indexOf_8) rfl (flt hc8).2.1 (by decide) (by decide) ?_
        show Steps p.tables e below (T452.setTop (mkF m 29 #[.val (.ref a1), .val (.int v1), d2, .val (.int v3)] [])) t
        refine XS.iconst X452.here hx rfl (hb hby dRawMessage_indexOf_29) ?_
        exact k
      obtain rfl : (-1 : Int32) = r := Option.some.inj hF
      exact own_retI X452 hx hret hlk (hb hby dRawMessage_indexOf_30) e452 ⟨rfl, N, rfl⟩ (by decide) (by decide)
set_option maxRecDepth 65536 in
set_option maxHeartbeats 4000000 in
theorem b_RawMessage_indexOf_i2 {p : Program} {l : Launch} {e : Env} {s : State} {m : MethodId} {args : Array Value} {below : List Frame} {meth : Method} {c : Code} {Z : State} {a0 : Array Value} {n0 : Nat} {hE : Heap} (cx : Cx_RawMessage_indexOf_i2 p s m meth c Z a0) (a1 : Addr) (a2 : Addr) (a3 : Addr) (a4 : Addr) (a5 : Addr) :
    ∀ {T : State} {locs : List Loc} (X : Stand p l e ({ frames := 0, cells := 0, slots := 0, locals := 0 } : Room) s m args below meth c T locs 0 0) (eT : T.heap = hE) (N : Fr n0 locs) (z : n0 ≤ hE.size) (v1 : Int32) (v2 : Int32) (f_a1_bodyStart : Int32) (f_a1_lines : Int32) (bs_a2 : List Int32) (bs_a3 : List Int32) (bs_a4 : List Int32) (bs_a5 : List Int32) (E_a1 : Exa Z hE a1 "com/example/oxpecker/oxpecker/sip/RawMessage") (F_a1_bodyStart : Fld Z hE a1 "com/example/oxpecker/oxpecker/sip/RawMessage" "bodyStart" "I" (.int f_a1_bodyStart)) (F_a1_bytes : Fld Z hE a1 "com/example/oxpecker/oxpecker/sip/RawMessage" "bytes" "[B" (.ref a2)) (F_a1_lineEnds : Fld Z hE a1 "com/example/oxpecker/oxpecker/sip/RawMessage" "lineEnds" "[I" (.ref a3)) (F_a1_lineStarts : Fld Z hE a1 "com/example/oxpecker/oxpecker/sip/RawMessage" "lineStarts" "[I" (.ref a4)) (F_a1_lines : Fld Z hE a1 "com/example/oxpecker/oxpecker/sip/RawMessage" "lines" "I" (.int f_a1_lines)) (F_a1_wordLengths : Fld Z hE a1 "com/example/oxpecker/oxpecker/sip/RawMessage" "wordLengths" "[I" (.ref a5)) (g_a1 : n0 ≤ a1) (A_a2 : own_Ar Z hE a2 .byte (bs_a2.map Value.int)) (g_a2 : n0 ≤ a2) (A_a3 : own_Ar Z hE a3 .int (bs_a3.map Value.int)) (g_a3 : n0 ≤ a3) (A_a4 : own_Ar Z hE a4 .int (bs_a4.map Value.int)) (g_a4 : n0 ≤ a4) (A_a5 : own_Ar Z hE a5 .int (bs_a5.map Value.int)) (g_a5 : n0 ≤ a5) (ne_a1_a2 : a1 ≠ a2) (ne_a1_a3 : a1 ≠ a3) (ne_a2_a3 : a2 ≠ a3) (ne_a1_a4 : a1 ≠ a4) (ne_a2_a4 : a2 ≠ a4) (ne_a3_a4 : a3 ≠ a4) (ne_a1_a5 : a1 ≠ a5) (ne_a2_a5 : a2 ≠ a5) (ne_a3_a5 : a3 ≠ a5) (ne_a4_a5 : a4 ≠ a5) (r : Int32), f_RawMessage_indexOf_i2 v1 v2 f_a1_bodyStart f_a1_lines bs_a2 bs_a3 bs_a4 bs_a5 = some r → own_Goes p e below s (Q_RawMessage_indexOf_i2 Z hE n0 a1 a2 a3 a4 a5 r) 0 0 (T.setTop (mkF m 0 #[.val (.ref a1), .val (.int v1), .val (.int v2), .unset] [])) := by
  have cx' := cx
  obtain ⟨hx, hZ, hw, hby, hml, hown, hret, hlk, hnm⟩ := cx'
  intro T locs X eT N z v1 v2 f_a1_bodyStart f_a1_lines bs_a2 bs_a3 bs_a4 bs_a5 E_a1 F_a1_bodyStart F_a1_bytes F_a1_lineEnds F_a1_lineStarts F_a1_lines F_a1_wordLengths g_a1 A_a2 g_a2 A_a3 g_a3 A_a4 g_a4 A_a5 g_a5 ne_a1_a2 ne_a1_a3 ne_a2_a3 ne_a1_a4 ne_a2_a4 ne_a3_a4 ne_a1_a5 ne_a2_a5 ne_a3_a5 ne_a4_a5 r hF
  unfold f_RawMessage_indexOf_i2 at hF
  refine own_Goes.via (B := T.setTop (mkF m 2 #[.val (.ref a1), .val (.int v1), .val (.int v2), .val (.int v2)] [])) (fun t k => ?_) ?_
  · show Steps p.tables e below (T.setTop (mkF m 0 #[.val (.ref a1), .val (.int v1), .val (.int v2), .unset] [])) t
    refine XS.iloadN X.here hx rfl (hb hby dRawMessage_indexOf_0) rfl ?_
    show Steps p.tables e below (T.setTop (mkF m 1 #[.val (.ref a1), .val (.int v1), .val (.int v2), .unset] [(.int v2)])) t
    refine XS.istoreN X.here hx rfl (hb hby dRawMessage_indexOf_1) rfl (l' := #[.val (.ref a1), .val (.int v1), .val (.int v2), .val (.int v2)]) rfl ?_
    exact k
  exact b_RawMessage_indexOf_i2_2 cx a1 a2 a3 a4 a5 _ X eT N z v1 v2 f_a1_bodyStart f_a1_lines bs_a2 bs_a3 bs_a4 bs_a5 (.val (.int v2)) (One.val rfl) E_a1 F_a1_bodyStart F_a1_bytes F_a1_lineEnds F_a1_lineStarts F_a1_lines F_a1_wordLengths g_a1 A_a2 g_a2 A_a3 g_a3 A_a4 g_a4 A_a5 g_a5 ne_a1_a2 ne_a1_a3 ne_a2_a3 ne_a1_a4 ne_a2_a4 ne_a3_a4 ne_a1_a5 ne_a2_a5 ne_a3_a5 ne_a4_a5 _ hF
theorem ef_RawMessage_indexOf_i2 (m : MethodId) (x0 : Addr) (x1 : Int32) (x2 : Int32) : entryFrame m #[(.ref x0), (.int x1), (.int x2)] 4 = mkF m 0 #[.val (.ref x0), .val (.int x1), .val (.int x2), .unset] [] := by first | (simp [entryFrame, mkF, argsToLocals, Value.category]; done) | rfl
set_option maxRecDepth 65536 in
set_option maxHeartbeats 4000000 in
theorem rm_RawMessage_indexOf_i2 (l : Launch) (Z : State) (a0 : Array Value) (hw : ∀ d ∈ tables_1, d.before a0 Z = true) (ws : List Jvm.Cond) (hE : Heap) (n0 : Nat) (z : n0 ≤ hE.size) (a1 : Addr) (a2 : Addr) (a3 : Addr) (a4 : Addr) (a5 : Addr) (v1 : Int32) (v2 : Int32) (f_a1_bodyStart : Int32) (f_a1_lines : Int32) (bs_a2 : List Int32) (bs_a3 : List Int32) (bs_a4 : List Int32) (bs_a5 : List Int32) (E_a1 : Exa Z hE a1 "com/example/oxpecker/oxpecker/sip/RawMessage") (F_a1_bodyStart : Fld Z hE a1 "com/example/oxpecker/oxpecker/sip/RawMessage" "bodyStart" "I" (.int f_a1_bodyStart)) (F_a1_bytes : Fld Z hE a1 "com/example/oxpecker/oxpecker/sip/RawMessage" "bytes" "[B" (.ref a2)) (F_a1_lineEnds : Fld Z hE a1 "com/example/oxpecker/oxpecker/sip/RawMessage" "lineEnds" "[I" (.ref a3)) (F_a1_lineStarts : Fld Z hE a1 "com/example/oxpecker/oxpecker/sip/RawMessage" "lineStarts" "[I" (.ref a4)) (F_a1_lines : Fld Z hE a1 "com/example/oxpecker/oxpecker/sip/RawMessage" "lines" "I" (.int f_a1_lines)) (F_a1_wordLengths : Fld Z hE a1 "com/example/oxpecker/oxpecker/sip/RawMessage" "wordLengths" "[I" (.ref a5)) (g_a1 : n0 ≤ a1) (A_a2 : own_Ar Z hE a2 .byte (bs_a2.map Value.int)) (g_a2 : n0 ≤ a2) (A_a3 : own_Ar Z hE a3 .int (bs_a3.map Value.int)) (g_a3 : n0 ≤ a3) (A_a4 : own_Ar Z hE a4 .int (bs_a4.map Value.int)) (g_a4 : n0 ≤ a4) (A_a5 : own_Ar Z hE a5 .int (bs_a5.map Value.int)) (g_a5 : n0 ≤ a5) (ne_a1_a2 : a1 ≠ a2) (ne_a1_a3 : a1 ≠ a3) (ne_a2_a3 : a2 ≠ a3) (ne_a1_a4 : a1 ≠ a4) (ne_a2_a4 : a2 ≠ a4) (ne_a3_a4 : a3 ≠ a4) (ne_a1_a5 : a1 ≠ a5) (ne_a2_a5 : a2 ≠ a5) (ne_a3_a5 : a3 ≠ a5) (ne_a4_a5 : a4 ≠ a5) (r : Int32) (hF : (f_RawMessage_indexOf_i2 v1 v2 f_a1_bodyStart f_a1_lines bs_a2 bs_a3 bs_a4 bs_a5) = some r) :
    MetFree l (⟨"com/example/oxpecker/oxpecker/sip/RawMessage", "indexOf", "(BI)I"⟩ : MethodName) (head1 (Jvm.Cond.code (⟨"com/example/oxpecker/oxpecker/sip/RawMessage", "indexOf", "(BI)I"⟩ : MethodName) prog_12_method_17_code 4 (some .int) :: ws) ({ frames := 0, cells := 0, slots := 0, locals := 0 } : Room)) (fun a U => a = #[(.ref a1), (.int v1), (.int v2)] ∧ Z.Warmed39 U.vm ∧ U.heap = hE) (fun _ _ _ _ _ => True) (fun _ U o U' => ∃ v L, o = .returned v ∧ (Q_RawMessage_indexOf_i2 Z hE n0 a1 a2 a3 a4 a5 r) v U'.heap L ∧ FrameEnd U o U' L ({ frames := 0, cells := 0, slots := 0, locals := 0 } : Room).cells ({ frames := 0, cells := 0, slots := 0, locals := 0 } : Room).slots) := by
  refine MetFree.of_bodySF (plainFor_of_name pn_com_example_oxpecker_oxpecker_sip_RawMessage) hisR ?_
  intro p e s m args below meth c s₁ Bd hml0 hP hK
  obtain ⟨rfl, hZ, hh⟩ := hP
  have X0 : Stand p l e ({ frames := 0, cells := 0, slots := 0, locals := 0 } : Room) s m #[(.ref a1), (.int v1), (.int v2)] below meth c s₁ [] 0 0 := Stand.of_body Bd
  have e0 : s₁.heap = hE := by rw [← hh, Bd.state]; rfl
  have cx : Cx_RawMessage_indexOf_i2 p s m meth c Z a0 := ⟨Bd.exec, hZ, hw, Bd.bytes, hml0, findClass_of_methodNamed Bd.named, Bd.returns, Bd.notSynchronized, (name_of_methodNamed Bd.named Bd.method).1⟩
  show own_Goes p e below s (Q_RawMessage_indexOf_i2 Z hE n0 a1 a2 a3 a4 a5 r) ({ frames := 0, cells := 0, slots := 0, locals := 0 } : Room).cells ({ frames := 0, cells := 0, slots := 0, locals := 0 } : Room).slots (s₁.setTop (entryFrame m #[(.ref a1), (.int v1), (.int v2)] 4))
  rw [ef_RawMessage_indexOf_i2]
  exact b_RawMessage_indexOf_i2 cx a1 a2 a3 a4 a5 X0 e0 (Fr.nil n0) z v1 v2 f_a1_bodyStart f_a1_lines bs_a2 bs_a3 bs_a4 bs_a5 E_a1 F_a1_bodyStart F_a1_bytes F_a1_lineEnds F_a1_lineStarts F_a1_lines F_a1_wordLengths g_a1 A_a2 g_a2 A_a3 g_a3 A_a4 g_a4 A_a5 g_a5 ne_a1_a2 ne_a1_a3 ne_a2_a3 ne_a1_a4 ne_a2_a4 ne_a3_a4 ne_a1_a5 ne_a2_a5 ne_a3_a5 ne_a4_a5 _ hF
/-! com/example/oxpecker/oxpecker/sip/RawMessage.isPlain:()Z -/
def f_RawMessage_isPlain_113 (k11 : Int32 → Int32 → Int32 → (List Int32) → (List Int32) → (List Int32) → (List Int32) → Option (Int32)) : Nat → Int32 → Int32 → Int32 → Int32 → Int32 → (List Int32) → (List Int32) → (List Int32) → (List Int32) → Option (Int32)
  | 0, _, _, _, _, _, _, _, _, _ => none
  | n + 1, v1, v3, v5, f_a1_bodyStart, f_a1_lines, bs_a2, bs_a3, bs_a4, bs_a5 =>
    if v5 < v3 then
      own_ck (own_inb bs_a2 v5) <|
      if (own_rd bs_a2 v5) < (32 : Int32) then
        own_ck (own_inb bs_a2 v5) <|
        if (own_rd bs_a2 v5) = (9 : Int32) then
          own_ck (own_inb bs_a2 v5) <|
          if (own_rd bs_a2 v5) = (127 : Int32) then
            some (0 : Int32)
          else
            own_lt (v5 + (1 : Int32)) fun x515 =>
            (f_RawMessage_isPlain_113 k11 n) v1 v3 x515 f_a1_bodyStart f_a1_lines bs_a2 bs_a3 bs_a4 bs_a5
        else
          own_ck (own_inb bs_a2 v5) <|
          if (own_rd bs_a2 v5) < (0 : Int32) then
            own_ck (own_inb bs_a2 v5) <|
            if (own_rd bs_a2 v5) = (127 : Int32) then
              some (0 : Int32)
            else
              own_lt (v5 + (1 : Int32)) fun x518 =>
              (f_RawMessage_isPlain_113 k11 n) v1 v3 x518 f_a1_bodyStart f_a1_lines bs_a2 bs_a3 bs_a4 bs_a5
          else
            some (0 : Int32)
      else
        own_ck (own_inb bs_a2 v5) <|
        if (own_rd bs_a2 v5) = (127 : Int32) then
          some (0 : Int32)
        else
          own_lt (v5 + (1 : Int32)) fun x520 =>
          (f_RawMessage_isPlain_113 k11 n) v1 v3 x520 f_a1_bodyStart f_a1_lines bs_a2 bs_a3 bs_a4 bs_a5
    else
      own_lt (v1 + (1 : Int32)) fun x521 =>
      k11 x521 f_a1_bodyStart f_a1_lines bs_a2 bs_a3 bs_a4 bs_a5
def f_RawMessage_isPlain_61 (k11 : Int32 → Int32 → Int32 → (List Int32) → (List Int32) → (List Int32) → (List Int32) → Option (Int32)) (v1 : Int32) (v2 : Int32) (t0 : Int32) (f_a1_bodyStart : Int32) (f_a1_lines : Int32) (bs_a2 : List Int32) (bs_a3 : List Int32) (bs_a4 : List Int32) (bs_a5 : List Int32) : Option (Int32) :=
  own_bd (f_RawMessage_indexOf_i2 (58 : Int32) v2 f_a1_bodyStart f_a1_lines bs_a2 bs_a3 bs_a4 bs_a5) fun r522 =>
  if (0 : Int32) < v1 then
    own_ck (own_inb bs_a2 v2) <|
    if (own_rd bs_a2 v2) = (32 : Int32) then
      some (0 : Int32)
    else
      own_ck (own_inb bs_a2 v2) <|
      if (own_rd bs_a2 v2) = (9 : Int32) then
        some (0 : Int32)
      else
        if r522 < (0 : Int32) then
          some (0 : Int32)
        else
          if r522 < t0 then
            (f_RawMessage_isPlain_113 k11 100 v1 t0 v2 f_a1_bodyStart f_a1_lines bs_a2 bs_a3 bs_a4 bs_a5)
          else
            some (0 : Int32)
  else
    (f_RawMessage_isPlain_113 k11 100 v1 t0 v2 f_a1_bodyStart f_a1_lines bs_a2 bs_a3 bs_a4 bs_a5)
def f_RawMessage_isPlain_11 : Nat → Int32 → Int32 → Int32 → (List Int32) → (List Int32) → (List Int32) → (List Int32) → Option (Int32)
  | 0, _, _, _, _, _, _, _ => none
  | n + 1, v1, f_a1_bodyStart, f_a1_lines, bs_a2, bs_a3, bs_a4, bs_a5 =>
    if v1 < f_a1_lines then
      own_ck (own_inb bs_a4 v1) <|
      own_lt (own_rd bs_a4 v1) fun x528 =>
      own_ck (own_inb bs_a3 v1) <|
      own_lt ((own_rd bs_a3 v1) - (1 : Int32)) fun x531 =>
      own_ck (own_inb bs_a2 x531) <|
      if (own_rd bs_a2 x531) = (13 : Int32) then
        own_ck (own_inb bs_a3 v1) <|
        (f_RawMessage_isPlain_61 (f_RawMessage_isPlain_11 n) v1 x528 ((own_rd bs_a3 v1) - (1 : Int32)) f_a1_bodyStart f_a1_lines bs_a2 bs_a3 bs_a4 bs_a5)
      else
        own_ck (own_inb bs_a3 v1) <|
        (f_RawMessage_isPlain_61 (f_RawMessage_isPlain_11 n) v1 x528 (own_rd bs_a3 v1) f_a1_bodyStart f_a1_lines bs_a2 bs_a3 bs_a4 bs_a5)
    else
      some (1 : Int32)
def f_RawMessage_isPlain (f_a1_bodyStart : Int32) (f_a1_lines : Int32) (bs_a2 : List Int32) (bs_a3 : List Int32) (bs_a4 : List Int32) (bs_a5 : List Int32) : Option (Int32) :=
  if f_a1_bodyStart < (0 : Int32) then
    some (0 : Int32)
  else
    (f_RawMessage_isPlain_11 100 (0 : Int32) f_a1_bodyStart f_a1_lines bs_a2 bs_a3 bs_a4 bs_a5)
def Q_RawMessage_isPlain (Z : State) (hE : Heap) (n0 : Nat) (a1 : Addr) (a2 : Addr) (a3 : Addr) (a4 : Addr) (a5 : Addr) (r : Int32) (v : Option Value) (h : Heap) (L : List Loc) : Prop := v = some (.int r) ∧ Fr n0 L ∧ h = hE
def Cx_RawMessage_isPlain (p : Program) (s : State) (m : MethodId) (meth : Method) (c : Code) (Z : State) (a0 : Array Value) : Prop := p.tables.exec = Jvm.exec ∧ Z.Warmed39 s.vm ∧ (∀ d ∈ tables_1, d.before a0 Z = true) ∧ c.code = prog_12_method_4_code ∧ c.maxLocals = 6 ∧ s.vm.findClass "com/example/oxpecker/oxpecker/sip/RawMessage" = some m.cls ∧ meth.sig.returnType = some .boolean ∧ meth.locks = false ∧ meth.name = "isPlain"
set_option maxRecDepth 65536 in
set_option maxHeartbeats 4000000 in
theorem b_RawMessage_isPlain_113 {p : Program} {l : Launch} {e : Env} {s : State} {m : MethodId} {args : Array Value} {below : List Frame} {meth : Method} {c : Code} {Z : State} {a0 : Array Value} {n0 : Nat} {hE : Heap} (cx : Cx_RawMessage_isPlain p s m meth c Z a0) (a1 : Addr) (a2 : Addr) (a3 : Addr) (a4 : Addr) (a5 : Addr) {k11 : Int32 → Int32 → Int32 → (List Int32) → (List Int32) → (List Int32) → (List Int32) → Option (Int32)} (hk11 : ∀ {T : State} {locs : List Loc} (X : Stand p l e ({ frames := 1, cells := 0, slots := 0, locals := 15 } : Room) s m args below meth c T locs 0 0) (eT : T.heap = hE) (N : Fr n0 locs) (z : n0 ≤ hE.size) (v1 : Int32) (f_a1_bodyStart : Int32) (f_a1_lines : Int32) (bs_a2 : List Int32) (bs_a3 : List Int32) (bs_a4 : List Int32) (bs_a5 : List Int32) (d2 : Slot) (d3 : Slot) (d4 : Slot) (d5 : Slot) (o_d2 : One d2) (o_d3 : One d3) (o_d4 : One d4) (o_d5 : One d5) (E_a1 : Exa Z hE a1 "com/example/oxpecker/oxpecker/sip/RawMessage") (F_a1_bodyStart : Fld Z hE a1 "com/example/oxpecker/oxpecker/sip/RawMessage" "bodyStart" "I" (.int f_a1_bodyStart)) (F_a1_bytes : Fld Z hE a1 "com/example/oxpecker/oxpecker/sip/RawMessage" "bytes" "[B" (.ref a2)) (F_a1_lineEnds : Fld Z hE a1 "com/example/oxpecker/oxpecker/sip/RawMessage" "lineEnds" "[I" (.ref a3)) (F_a1_lineStarts : Fld Z hE a1 "com/example/oxpecker/oxpecker/sip/RawMessage" "lineStarts" "[I" (.ref a4)) (F_a1_lines : Fld Z hE a1 "com/example/oxpecker/oxpecker/sip/RawMessage" "lines" "I" (.int f_a1_lines)) (F_a1_wordLengths : Fld Z hE a1 "com/example/oxpecker/oxpecker/sip/RawMessage" "wordLengths" "[I" (.ref a5)) (g_a1 : n0 ≤ a1) (A_a2 : own_Ar Z hE a2 .byte (bs_a2.map Value.int)) (g_a2 : n0 ≤ a2) (A_a3 : own_Ar Z hE a3 .int (bs_a3.map Value.int)) (g_a3 : n0 ≤ a3) (A_a4 : own_Ar Z hE a4 .int (bs_a4.map Value.int)) (g_a4 : n0 ≤ a4) (A_a5 : own_Ar Z hE a5 .int (bs_a5.map Value.int)) (g_a5 : n0 ≤ a5) (ne_a1_a2 : a1 ≠ a2) (ne_a1_a3 : a1 ≠ a3) (ne_a2_a3 : a2 ≠ a3) (ne_a1_a4 : a1 ≠ a4) (ne_a2_a4 : a2 ≠ a4) (ne_a3_a4 : a3 ≠ a4) (ne_a1_a5 : a1 ≠ a5) (ne_a2_a5 : a2 ≠ a5) (ne_a3_a5 : a3 ≠ a5) (ne_a4_a5 : a4 ≠ a5) (r : Int32), k11 v1 f_a1_bodyStart f_a1_lines bs_a2 bs_a3 bs_a4 bs_a5 = some r → own_Goes p e below s (Q_RawMessage_isPlain Z hE n0 a1 a2 a3 a4 a5 r) 0 0 (T.setTop (mkF m 11 #[.val (.ref a1), .val (.int v1), d2, d3, d4, d5] []))) (n : Nat) :
    ∀ {T : State} {locs : List Loc} (X : Stand p l e ({ frames := 1, cells := 0, slots := 0, locals := 15 } : Room) s m args below meth c T locs 0 0) (eT : T.heap = hE) (N : Fr n0 locs) (z : n0 ≤ hE.size) (v1 : Int32) (v3 : Int32) (v5 : Int32) (f_a1_bodyStart : Int32) (f_a1_lines : Int32) (bs_a2 : List Int32) (bs_a3 : List Int32) (bs_a4 : List Int32) (bs_a5 : List Int32) (d2 : Slot) (d4 : Slot) (o_d2 : One d2) (o_d4 : One d4) (E_a1 : Exa Z hE a1 "com/example/oxpecker/oxpecker/sip/RawMessage") (F_a1_bodyStart : Fld Z hE a1 "com/example/oxpecker/oxpecker/sip/RawMessage" "bodyStart" "I" (.int f_a1_bodyStart)) (F_a1_bytes : Fld Z hE a1 "com/example/oxpecker/oxpecker/sip/RawMessage" "bytes" "[B" (.ref a2)) (F_a1_lineEnds : Fld Z hE a1 "com/example/oxpecker/oxpecker/sip/RawMessage" "lineEnds" "[I" (.ref a3)) (F_a1_lineStarts : Fld Z hE a1 "com/example/oxpecker/oxpecker/sip/RawMessage" "lineStarts" "[I" (.ref a4)) (F_a1_lines : Fld Z hE a1 "com/example/oxpecker/oxpecker/sip/RawMessage" "lines" "I" (.int f_a1_lines)) (F_a1_wordLengths : Fld Z hE a1 "com/example/oxpecker/oxpecker/sip/RawMessage" "wordLengths" "[I" (.ref a5)) (g_a1 : n0 ≤ a1) (A_a2 : own_Ar Z hE a2 .byte (bs_a2.map Value.int)) (g_a2 : n0 ≤ a2) (A_a3 : own_Ar Z hE a3 .int (bs_a3.map Value.int)) (g_a3 : n0 ≤ a3) (A_a4 : own_Ar Z hE a4 .int (bs_a4.map Value.int)) (g_a4 : n0 ≤ a4) (A_a5 : own_Ar Z hE a5 .int (bs_a5.map Value.int)) (g_a5 : n0 ≤ a5) (ne_a1_a2 : a1 ≠ a2) (ne_a1_a3 : a1 ≠ a3) (ne_a2_a3 : a2 ≠ a3) (ne_a1_a4 : a1 ≠ a4) (ne_a2_a4 : a2 ≠ a4) (ne_a3_a4 : a3 ≠ a4) (ne_a1_a5 : a1 ≠ a5) (ne_a2_a5 : a2 ≠ a5) (ne_a3_a5 : a3 ≠ a5) (ne_a4_a5 : a4 ≠ a5) (r : Int32), f_RawMessage_isPlain_113 k11 n v1 v3 v5 f_a1_bodyStart f_a1_lines bs_a2 bs_a3 bs_a4 bs_a5 = some r → own_Goes p e below s (Q_RawMessage_isPlain Z hE n0 a1 a2 a3 a4 a5 r) 0 0 (T.setTop (mkF m 113 #[.val (.ref a1), .val (.int v1), d2, .val (.int v3), d4, .val (.int v5)] [])) := by
  have cx' := cx
  obtain ⟨hx, hZ, hw, hby, hml, hown, hret, hlk, hnm⟩ := cx'
  induction n with
  | zero =>
    intro T locs X eT N z v1 v3 v5 f_a1_bodyStart f_a1_lines bs_a2 bs_a3 bs_a4 bs_a5 d2 d4 o_d2 o_d4 E_a1 F_a1_bodyStart F_a1_bytes F_a1_lineEnds F_a1_lineStarts F_a1_lines F_a1_wordLengths g_a1 A_a2 g_a2 A_a3 g_a3 A_a4 g_a4 A_a5 g_a5 ne_a1_a2 ne_a1_a3 ne_a2_a3 ne_a1_a4 ne_a2_a4 ne_a3_a4 ne_a1_a5 ne_a2_a5 ne_a3_a5 ne_a4_a5 r hF
    cases hF
  | succ n ih =>
    intro T locs X eT N z v1 v3 v5 f_a1_bodyStart f_a1_lines bs_a2 bs_a3 bs_a4 bs_a5 d2 d4 o_d2 o_d4 E_a1 F_a1_bodyStart F_a1_bytes F_a1_lineEnds F_a1_lineStarts F_a1_lines F_a1_wordLengths g_a1 A_a2 g_a2 A_a3 g_a3 A_a4 g_a4 A_a5 g_a5 ne_a1_a2 ne_a1_a3 ne_a2_a3 ne_a1_a4 ne_a2_a4 ne_a3_a4 ne_a1_a5 ne_a2_a5 ne_a3_a5 ne_a4_a5 r hF
    rw [f_RawMessage_isPlain_113] at hF
    refine own_Goes.via (B := T.setTop (mkF m 116 #[.val (.ref a1), .val (.int v1), d2, .val (.int v3), d4, .val (.int v5)] [(.int v3), (.int v5)])) (fun t k => ?_) ?_
    · show Steps p.tables e below (T.setTop (mkF m 113 #[.val (.ref a1), .val (.int v1), d2, .val (.int v3), d4, .val (.int v5)] [])) t
      refine XS.iload X.here hx rfl (hb hby dRawMessage_isPlain_113) rfl ?_
      show Steps p.tables e below (T.setTop (mkF m 115 #[.val (.ref a1), .val (.int v1), d2, .val (.int v3), d4, .val (.int v5)] [(.int v5)])) t
      refine XS.iloadN X.here hx rfl (hb hby dRawMessage_isPlain_115) rfl ?_
      exact k
    by_cases hc116 : v5 < v3
    · rw [if_pos hc116] at hF
      refine own_Goes.via (B := T.setTop (mkF m 120 #[.val (.ref a1), .val (.int v1), d2, .val (.int v3), d4, .val (.int v5)] [(.ref a1)])) (fun t k => ?_) ?_
      · show Steps p.tables e below (T.setTop (mkF m 116 #[.val (.ref a1), .val (.int v1), d2, .val (.int v3), d4, .val (.int v5)] [(.int v3), (.int v5)])) t
        refine XS.icmpNo X.here hx rfl (hb hby dRawMessage_isPlain_116) rfl (tlt hc116).2.1 ?_
        show Steps p.tables e below (T.setTop (mkF m 119 #[.val (.ref a1), .val (.int v1), d2, .val (.int v3), d4, .val (.int v5)] [])) t
        refine XS.aloadN X.here hx rfl (hb hby dRawMessage_isPlain_119) rfl rfl ?_
        exact k
      obtain ⟨T512, X512, e512, st512⟩ := getF X hx hZ hown (host := "") (Or.inl (w20 hw)) Via.refl eT F_a1_bytes (g := (mkF m 120 #[.val (.ref a1), .val (.int v1), d2, .val (.int v3), d4, .val (.int v5)] [(.ref a1)])) rfl rfl (hb hby dRawMessage_isPlain_120)
      refine own_Goes.via st512 ?_
      show own_Goes _ _ _ _ _ _ _ (T512.setTop (mkF m 123 #[.val (.ref a1), .val (.int v1), d2, .val (.int v3), d4, .val (.int v5)] [(.ref a2)]))
      refine own_Goes.via (B := T512.setTop (mkF m 125 #[.val (.ref a1), .val (.int v1), d2, .val (.int v3), d4, .val (.int v5)] [(.int v5), (.ref a2)])) (fun t k => ?_) ?_
      · show Steps p.tables e below (T512.setTop (mkF m 123 #[.val (.ref a1), .val (.int v1), d2, .val (.int v3), d4, .val (.int v5)] [(.ref a2)])) t
        refine XS.iload X512.here hx rfl (hb hby dRawMessage_isPlain_123) rfl ?_
        exact k
      obtain ⟨hi125, hF⟩ := own_ck_e hF
      refine own_Goes.via (B := T512.setTop (mkF m 128 #[.val (.ref a1), .val (.int v1), d2, .val (.int v3), d4, .val (.int v5)] [(.int (32 : Int32)), (.int (own_rd bs_a2 v5))])) (fun t k => ?_) ?_
      · show Steps p.tables e below (T512.setTop (mkF m 125 #[.val (.ref a1), .val (.int v1), d2, .val (.int v3), d4, .val (.int v5)] [(.int v5), (.ref a2)])) t
        refine own_ldB X512 hx hZ e512 A_a2 hi125 rfl (g := (mkF m 125 #[.val (.ref a1), .val (.int v1), d2, .val (.int v3), d4, .val (.int v5)] [(.int v5), (.ref a2)])) rfl rfl (hb hby dRawMessage_isPlain_125) ?_
        show Steps p.tables e below (T512.setTop (mkF m 126 #[.val (.ref a1), .val (.int v1), d2, .val (.int v3), d4, .val (.int v5)] [(.int (own_rd bs_a2 v5))])) t
        refine XS.bipush X512.here hx rfl (hb hby dRawMessage_isPlain_126) ?_
        exact k
      by_cases hc128 : (own_rd bs_a2 v5) < (32 : Int32)
      · rw [if_pos hc128] at hF
        refine own_Goes.via (B := T512.setTop (mkF m 132 #[.val (.ref a1), .val (.int v1), d2, .val (.int v3), d4, .val (.int v5)] [(.ref a1)])) (fun t k => ?_) ?_
        · show Steps p.tables e below (T512.setTop (mkF m 128 #[.val (.ref a1), .val (.int v1), d2, .val (.int v3), d4, .val (.int v5)] [(.int (32 : Int32)), (.int (own_rd bs_a2 v5))])) t
          refine XS.icmpNo X512.here hx rfl (hb hby dRawMessage_isPlain_128) rfl (tlt hc128).2.1 ?_
          show Steps p.tables e below (T512.setTop (mkF m 131 #[.val (.ref a1), .val (.int v1), d2, .val (.int v3), d4, .val (.int v5)] [])) t
          refine XS.aloadN X512.here hx rfl (hb hby dRawMessage_isPlain_131) rfl rfl ?_
          exact k
        obtain ⟨T513, X513, e513, st513⟩ := getF X512 hx hZ hown (host := "") (Or.inl (w20 hw)) Via.refl e512 F_a1_bytes (g := (mkF m 132 #[.val (.ref a1), .val (.int v1), d2, .val (.int v3), d4, .val (.int v5)] [(.ref a1)])) rfl rfl (hb hby dRawMessage_isPlain_132)
        refine own_Goes.via st513 ?_
        show own_Goes _ _ _ _ _ _ _ (T513.setTop (mkF m 135 #[.val (.ref a1), .val (.int v1), d2, .val (.int v3), d4, .val (.int v5)] [(.ref a2)]))
        refine own_Goes.via (B := T513.setTop (mkF m 137 #[.val (.ref a1), .val (.int v1), d2, .val (.int v3), d4, .val (.int v5)] [(.int v5), (.ref a2)])) (fun t k => ?_) ?_
        · show Steps p.tables e below (T513.setTop (mkF m 135 #[.val (.ref a1), .val (.int v1), d2, .val (.int v3), d4, .val (.int v5)] [(.ref a2)])) t
          refine XS.iload X513.here hx rfl (hb hby dRawMessage_isPlain_135) rfl ?_
          exact k
        obtain ⟨hi137, hF⟩ := own_ck_e hF
        refine own_Goes.via (B := T513.setTop (mkF m 140 #[.val (.ref a1), .val (.int v1), d2, .val (.int v3), d4, .val (.int v5)] [(.int (9 : Int32)), (.int (own_rd bs_a2 v5))])) (fun t k => ?_) ?_
        · show Steps p.tables e below (T513.setTop (mkF m 137 #[.val (.ref a1), .val (.int v1), d2, .val (.int v3), d4, .val (.int v5)] [(.int v5), (.ref a2)])) t
          refine own_ldB X513 hx hZ e513 A_a2 hi137 rfl (g := (mkF m 137 #[.val (.ref a1), .val (.int v1), d2, .val (.int v3), d4, .val (.int v5)] [(.int v5), (.ref a2)])) rfl rfl (hb hby dRawMessage_isPlain_137) ?_
          show Steps p.tables e below (T513.setTop (mkF m 138 #[.val (.ref a1), .val (.int v1), d2, .val (.int v3), d4, .val (.int v5)] [(.int (own_rd bs_a2 v5))])) t
          refine XS.bipush X513.here hx rfl (hb hby dRawMessage_isPlain_138) ?_
          exact k
        by_cases hc140 : (own_rd bs_a2 v5) = (9 : Int32)
        · rw [if_pos hc140] at hF
          refine own_Goes.via (B := T513.setTop (mkF m 154 #[.val (.ref a1), .val (.int v1), d2, .val (.int v3), d4, .val (.int v5)] [(.ref a1)])) (fun t k => ?_) ?_
          · show Steps p.tables e below (T513.setTop (mkF m 140 #[.val (.ref a1), .val (.int v1), d2, .val (.int v3), d4, .val (.int v5)] [(.int (9 : Int32)), (.int (own_rd bs_a2 v5))])) t
            refine XS.icmpYes X513.here hx rfl (pc0 := 140) (pc' := 153) rfl (hb hby dRawMessage_isPlain_140) rfl (teq hc140).1 (by decide) (by decide) ?_
            show Steps p.tables e below (T513.setTop (mkF m 153 #[.val (.ref a1), .val (.int v1), d2, .val (.int v3), d4, .val (.int v5)] [])) t
            refine XS.aloadN X513.here hx rfl (hb hby dRawMessage_isPlain_153) rfl rfl ?_
            exact k
          obtain ⟨T514, X514, e514, st514⟩ := getF X513 hx hZ hown (host := "") (Or.inl (w20 hw)) Via.refl e513 F_a1_bytes (g := (mkF m 154 #[.val (.ref a1), .val (.int v1), d2, .val (.int v3), d4, .val (.int v5)] [(.ref a1)])) rfl rfl (hb hby dRawMessage_isPlain_154)
          refine own_Goes.via st514 ?_
          show own_Goes _ _ _ _ _ _ _ (T514.setTop (mkF m 157 #[.val (.ref a1), .val (.int v1), d2, .val (.int v3), d4, .val (.int v5)] [(.ref a2)]))
          refine own_Goes.via (B := T514.setTop (mkF m 159 #[.val (.ref a1), .val (.int v1), d2, .val (.int v3), d4, .val (.int v5)] [(.int v5), (.ref a2)])) (fun t k => ?_) ?_
          · show Steps p.tables e below (T514.setTop (mkF m 157 #[.val (.ref a1), .val (.int v1), d2, .val (.int v3), d4, .val (.int v5)] [(.ref a2)])) t
            refine XS.iload X514.here hx rfl (hb hby dRawMessage_isPlain_157) rfl ?_
            exact k
          obtain ⟨hi159, hF⟩ := own_ck_e hF
          refine own_Goes.via (B := T514.setTop (mkF m 162 #[.val (.ref a1), .val (.int v1), d2, .val (.int v3), d4, .val (.int v5)] [(.int (127 : Int32)), (.int (own_rd bs_a2 v5))])) (fun t k => ?_) ?_
          · show Steps p.tables e below (T514.setTop (mkF m 159 #[.val (.ref a1), .val (.int v1), d2, .val (.int v3), d4, .val (.int v5)] [(.int v5), (.ref a2)])) t
            refine own_ldB X514 hx hZ e514 A_a2 hi159 rfl (g := (mkF m 159 #[.val (.ref a1), .val (.int v1), d2, .val (.int v3), d4, .val (.int v5)] [(.int v5), (.ref a2)])) rfl rfl (hb hby dRawMessage_isPlain_159) ?_
            show Steps p.tables e below (T514.setTop (mkF m 160 #[.val (.ref a1), .val (.int v1), d2, .val (.int v3), d4, .val (.int v5)] [(.int (own_rd bs_a2 v5))])) t
            refine XS.bipush X514.here hx rfl (hb hby dRawMessage_isPlain_160) ?_
            exact k
          by_cases hc162 : (own_rd bs_a2 v5) = (127 : Int32)
          · rw [if_pos hc162] at hF
            refine own_Goes.via (B := T514.setTop (mkF m 166 #[.val (.ref a1), .val (.int v1), d2, .val (.int v3), d4, .val (.int v5)] [(.int (0 : Int32))])) (fun t k => ?_) ?_
            · show Steps p.tables e below (T514.setTop (mkF m 162 #[.val (.ref a1), .val (.int v1), d2, .val (.int v3), d4, .val (.int v5)] [(.int (127 : Int32)), (.int (own_rd bs_a2 v5))])) t
              refine XS.icmpNo X514.here hx rfl (hb hby dRawMessage_isPlain_162) rfl (teq hc162).2 ?_
              show Steps p.tables e below (T514.setTop (mkF m 165 #[.val (.ref a1), .val (.int v1), d2, .val (.int v3), d4, .val (.int v5)] [])) t
              refine XS.iconst X514.here hx rfl (hb hby dRawMessage_isPlain_165) ?_
              exact k
            obtain rfl : (0 : Int32) = r := Option.some.inj hF
            exact own_retN X514 hx (t := .boolean) hret hlk (by simp) (hb hby dRawMessage_isPlain_166) e514 (v := (0 : Int32)) (by decide) ⟨rfl, N, rfl⟩ (by decide) (by decide)
          · rw [if_neg hc162] at hF
            refine own_Goes.via (B := T514.setTop (mkF m 170 #[.val (.ref a1), .val (.int v1), d2, .val (.int v3), d4, .val (.int (v5 + (1 : Int32)))] [])) (fun t k => ?_) ?_
            · show Steps p.tables e below (T514.setTop (mkF m 162 #[.val (.ref a1), .val (.int v1), d2, .val (.int v3), d4, .val (.int v5)] [(.int (127 : Int32)), (.int (own_rd bs_a2 v5))])) t
              refine XS.icmpYes X514.here hx rfl (pc0 := 162) (pc' := 167) rfl (hb hby dRawMessage_isPlain_162) rfl (feq hc162).2 (by decide) (by decide) ?_
              show Steps p.tables e below (T514.setTop (mkF m 167 #[.val (.ref a1), .val (.int v1), d2, .val (.int v3), d4, .val (.int v5)] [])) t
              refine XS.iinc X514.here hx rfl (hb hby dRawMessage_isPlain_167) rfl (l' := #[.val (.ref a1), .val (.int v1), d2, .val (.int v3), d4, .val (.int (v5 + (1 : Int32)))]) rfl ?_
              exact k
            obtain ⟨x515, hx515, hF⟩ := own_lt_e hF
            rw [← hx515]
            refine own_Goes.via (B := T514.setTop (mkF m 113 #[.val (.ref a1), .val (.int v1), d2, .val (.int v3), d4, .val (.int x515)] [])) (fun t k => ?_) ?_
            · show Steps p.tables e below (T514.setTop (mkF m 170 #[.val (.ref a1), .val (.int v1), d2, .val (.int v3), d4, .val (.int x515)] [])) t
              refine XS.goto X514.here hx rfl (pc0 := 170) (pc' := 113) rfl (hb hby dRawMessage_isPlain_170) (by decide) (by decide) ?_
              exact k
            exact ih X514 e514 N z v1 v3 x515 f_a1_bodyStart f_a1_lines bs_a2 bs_a3 bs_a4 bs_a5 d2 d4 o_d2 o_d4 E_a1 F_a1_bodyStart F_a1_bytes F_a1_lineEnds F_a1_lineStarts F_a1_lines F_a1_wordLengths g_a1 A_a2 g_a2 A_a3 g_a3 A_a4 g_a4 A_a5 g_a5 ne_a1_a2 ne_a1_a3 ne_a2_a3 ne_a1_a4 ne_a2_a4 ne_a3_a4 ne_a1_a5 ne_a2_a5 ne_a3_a5 ne_a4_a5 _ hF
        · rw [if_neg hc140] at hF
          refine own_Goes.via (B := T513.setTop (mkF m 144 #[.val (.ref a1), .val (.int v1), d2, .val (.int v3), d4, .val (.int v5)] [(.ref a1)])) (fun t k => ?_) ?_
          · show Steps p.tables e below (T513.setTop (mkF m 140 #[.val (.ref a1), .val (.int v1), d2, .val (.int v3), d4, .val (.int v5)] [(.int (9 : Int32)), (.int (own_rd bs_a2 v5))])) t
            refine XS.icmpNo X513.here hx rfl (hb hby dRawMessage_isPlain_140) rfl (feq hc140).1 ?_
            show Steps p.tables e below (T513.setTop (mkF m 143 #[.val (.ref a1), .val (.int v1), d2, .val (.int v3), d4, .val (.int v5)] [])) t
            refine XS.aloadN X513.here hx rfl (hb hby dRawMessage_isPlain_143) rfl rfl ?_
            exact k
          obtain ⟨T516, X516, e516, st516⟩ := getF X513 hx hZ hown (host := "") (Or.inl (w20 hw)) Via.refl e513 F_a1_bytes (g := (mkF m 144 #[.val (.ref a1), .val (.int v1), d2, .val (.int v3), d4, .val (.int v5)] [(.ref a1)])) rfl rfl (hb hby dRawMessage_isPlain_144)
          refine own_Goes.via st516 ?_
          show own_Goes _ _ _ _ _ _ _ (T516.setTop (mkF m 147 #[.val (.ref a1), .val (.int v1), d2, .val (.int v3), d4, .val (.int v5)] [(.ref a2)]))
          refine own_Goes.via (B := T516.setTop (mkF m 149 #[.val (.ref a1), .val (.int v1), d2, .val (.int v3), d4, .val (.int v5)] [(.int v5), (.ref a2)])) (fun t k => ?_) ?_
          · show Steps p.tables e below (T516.setTop (mkF m 147 #[.val (.ref a1), .val (.int v1), d2, .val (.int v3), d4, .val (.int v5)] [(.ref a2)])) t
            refine XS.iload X516.here hx rfl (hb hby dRawMessage_isPlain_147) rfl ?_
            exact k
          obtain ⟨hi149, hF⟩ := own_ck_e hF
          refine own_Goes.via (B := T516.setTop (mkF m 150 #[.val (.ref a1), .val (.int v1), d2, .val (.int v3), d4, .val (.int v5)] [(.int (own_rd bs_a2 v5))])) (fun t k => ?_) ?_
          · show Steps p.tables e below (T516.setTop (mkF m 149 #[.val (.ref a1), .val (.int v1), d2, .val (.int v3), d4, .val (.int v5)] [(.int v5), (.ref a2)])) t
            refine own_ldB X516 hx hZ e516 A_a2 hi149 rfl (g := (mkF m 149 #[.val (.ref a1), .val (.int v1), d2, .val (.int v3), d4, .val (.int v5)] [(.int v5), (.ref a2)])) rfl rfl (hb hby dRawMessage_isPlain_149) ?_
            exact k
          by_cases hc150 : (own_rd bs_a2 v5) < (0 : Int32)
          · rw [if_pos hc150] at hF
            refine own_Goes.via (B := T516.setTop (mkF m 154 #[.val (.ref a1), .val (.int v1), d2, .val (.int v3), d4, .val (.int v5)] [(.ref a1)])) (fun t k => ?_) ?_
            · show Steps p.tables e below (T516.setTop (mkF m 150 #[.val (.ref a1), .val (.int v1), d2, .val (.int v3), d4, .val (.int v5)] [(.int (own_rd bs_a2 v5))])) t
              refine XS.ifNo X516.here hx rfl (hb hby dRawMessage_isPlain_150) rfl ((if0 _ _).trans (tlt hc150).2.1) ?_
              show Steps p.tables e below (T516.setTop (mkF m 153 #[.val (.ref a1), .val (.int v1), d2, .val (.int v3), d4, .val (.int v5)] [])) t
              refine XS.aloadN X516.here hx rfl (hb hby dRawMessage_isPlain_153) rfl rfl ?_
              exact k
            obtain ⟨T517, X517, e517, st517⟩ := getF X516 hx hZ hown (host := "") (Or.inl (w20 hw)) Via.refl e516 F_a1_bytes (g := (mkF m 154 #[.val (.ref a1), .val (.int v1), d2, .val (.int v3), d4, .val (.int v5)] [(.ref a1)])) rfl rfl (hb hby dRawMessage_isPlain_154)
            refine own_Goes.via st517 ?_
            show own_Goes _ _ _ _ _ _ _ (T517.setTop (mkF m 157 #[.val (.ref a1), .val (.int v1), d2, .val (.int v3), d4, .val (.int v5)] [(.ref a2)]))
            refine own_Goes.via (B := T517.setTop (mkF m 159 #[.val (.ref a1), .val (.int v1), d2, .val (.int v3), d4, .val (.int v5)] [(.int v5), (.ref a2)])) (fun t k => ?_) ?_
            · show Steps p.tables e below (T517.setTop (mkF m 157 #[.val (.ref a1), .val (.int v1), d2, .val (.int v3), d4, .val (.int v5)] [(.ref a2)])) t
              refine XS.iload X517.here hx rfl (hb hby dRawMessage_isPlain_157) rfl ?_
              exact k
            obtain ⟨hi159, hF⟩ := own_ck_e hF
            refine own_Goes.via (B := T517.setTop (mkF m 162 #[.val (.ref a1), .val (.int v1), d2, .val (.int v3), d4, .val (.int v5)] [(.int (127 : Int32)), (.int (own_rd bs_a2 v5))])) (fun t k => ?_) ?_
            · show Steps p.tables e below (T517.setTop (mkF m 159 #[.val (.ref a1), .val (.int v1), d2, .val (.int v3), d4, .val (.int v5)] [(.int v5), (.ref a2)])) t
              refine own_ldB X517 hx hZ e517 A_a2 hi159 rfl (g := (mkF m 159 #[.val (.ref a1), .val (.int v1), d2, .val (.int v3), d4, .val (.int v5)] [(.int v5), (.ref a2)])) rfl rfl (hb hby dRawMessage_isPlain_159) ?_
              show Steps p.tables e below (T517.setTop (mkF m 160 #[.val (.ref a1), .val (.int v1), d2, .val (.int v3), d4, .val (.int v5)] [(.int (own_rd bs_a2 v5))])) t
              refine XS.bipush X517.here hx rfl (hb hby dRawMessage_isPlain_160) ?_
              exact k
            by_cases hc162 : (own_rd bs_a2 v5) = (127 : Int32)
            · rw [if_pos hc162] at hF
              refine own_Goes.via (B := T517.setTop (mkF m 166 #[.val (.ref a1), .val (.int v1), d2, .val (.int v3), d4, .val (.int v5)] [(.int (0 : Int32))])) (fun t k => ?_) ?_
              · show Steps p.tables e below (T517.setTop (mkF m 162 #[.val (.ref a1), .val (.int v1), d2, .val (.int v3), d4, .val (.int v5)] [(.int (127 : Int32)), (.int (own_rd bs_a2 v5))])) t
                refine XS.icmpNo X517.here hx rfl (hb hby dRawMessage_isPlain_162) rfl (teq hc162).2 ?_
                show Steps p.tables e below (T517.setTop (mkF m 165 #[.val (.ref a1), .val (.int v1), d2, .val (.int v3), d4, .val (.int v5)] [])) t
                refine XS.iconst X517.here hx rfl (hb hby dRawMessage_isPlain_165) ?_
                exact k
              obtain rfl : (0 : Int32) = r := Option.some.inj hF
              exact own_retN X517 hx (t := .boolean) hret hlk (by simp) (hb hby dRawMessage_isPlain_166) e517 (v := (0 : Int32)) (by decide) ⟨rfl, N, rfl⟩ (by decide) (by decide)
            · rw [if_neg hc162] at hF
              refine own_Goes.via (B := T517.setTop (mkF m 170 #[.val (.ref a1), .val (.int v1), d2, .val (.int v3), d4, .val (.int (v5 + (1 : Int32)))] [])) (fun t k => ?_) ?_
              · show Steps p.tables e below (T517.setTop (mkF m 162 #[.val (.ref a1), .val (.int v1), d2, .val (.int v3), d4, .val (.int v5)] [(.int (127 : Int32)), (.int (own_rd bs_a2 v5))])) t
                refine XS.icmpYes X517.here hx rfl (pc0 := 162) (pc' := 167) rfl (hb hby dRawMessage_isPlain_162) rfl (feq hc162).2 (by decide) (by decide) ?_
                show Steps p.tables e below (T517.setTop (mkF m 167 #[.val (.ref a1), .val (.int v1), d2, .val (.int v3), d4, .val (.int v5)] [])) t
                refine XS.iinc X517.here hx rfl (hb hby dRawMessage_isPlain_167) rfl (l' := #[.val (.ref a1), .val (.int v1), d2, .val (.int v3), d4, .val (.int (v5 + (1 : Int32)))]) rfl ?_
                exact k
              obtain ⟨x518, hx518, hF⟩ := own_lt_e hF
              rw [← hx518]
              refine own_Goes.via (B := T517.setTop (mkF m 113 #[.val (.ref a1), .val (.int v1), d2, .val (.int v3), d4, .val (.int x518)] [])) (fun t k => ?_) ?_
              · show Steps p.tables e below (T517.setTop (mkF m 170 #[.val (.ref a1), .val (.int v1), d2, .val (.int v3), d4, .val (.int x518)] [])) t
                refine XS.goto X517.here hx rfl (pc0 := 170) (pc' := 113) rfl (hb hby dRawMessage_isPlain_170) (by decide) (by decide) ?_
                exact k
              exact ih X517 e517 N z v1 v3 x518 f_a1_bodyStart f_a1_lines bs_a2 bs_a3 bs_a4 bs_a5 d2 d4 o_d2 o_d4 E_a1 F_a1_bodyStart F_a1_bytes F_a1_lineEnds F_a1_lineStarts F_a1_lines F_a1_wordLengths g_a1 A_a2 g_a2 A_a3 g_a3 A_a4 g_a4 A_a5 g_a5 ne_a1_a2 ne_a1_a3 ne_a2_a3 ne_a1_a4 ne_a2_a4 ne_a3_a4 ne_a1_a5 ne_a2_a5 ne_a3_a5 ne_a4_a5 _ hF
          · rw [if_neg hc150] at hF
            refine own_Goes.via (B := T516.setTop (mkF m 166 #[.val (.ref a1), .val (.int v1), d2, .val (.int v3), d4, .val (.int v5)] [(.int (0 : Int32))])) (fun t k => ?_) ?_
            · show Steps p.tables e below (T516.setTop (mkF m 150 #[.val (.ref a1), .val (.int v1), d2, .val (.int v3), d4, .val (.int v5)] [(.int (own_rd bs_a2 v5))])) t
              refine XS.ifYes X516.here hx rfl (pc0 := 150) (pc' := 165) rfl (hb hby dRawMessage_isPlain_150) rfl ((if0 _ _).trans (flt hc150).2.1) (by decide) (by decide) ?_
              show Steps p.tables e below (T516.setTop (mkF m 165 #[.val (.ref a1), .val (.int v1), d2, .val (.int v3), d4, .val (.int v5)] [])) t
              refine XS.iconst X516.here hx rfl (hb hby dRawMessage_isPlain_165) ?_
              exact k
            obtain rfl : (0 : Int32) = r := Option.some.inj hF
            exact own_retN X516 hx (t := .boolean) hret hlk (by simp) (hb hby dRawMessage_isPlain_166) e516 (v := (0 : Int32)) (by decide) ⟨rfl, N, rfl⟩ (by decide) (by decide)
      · rw [if_neg hc128] at hF
        refine own_Goes.via (B := T512.setTop (mkF m 154 #[.val (.ref a1), .val (.int v1), d2, .val (.int v3), d4, .val (.int v5)] [(.ref a1)])) (fun t k => ?_) ?_
        · show Steps p.tables e below (T512.setTop (mkF m 128 #[.val (.ref a1), .val (.int v1), d2, .val (.int v3), d4, .val (.int v5)] [(.int (32 : Int32)), (.int (own_rd bs_a2 v5))])) t
          refine XS.icmpYes X512.here hx rfl (pc0 := 128) (pc' := 153) rfl (hb hby dRawMessage_isPlain_128) rfl (flt hc128).2.1 (by decide) (by decide) ?_
          show Steps p.tables e below (T512.setTop (mkF m 153 #[.val (.ref a1), .val (.int v1), d2, .val (.int v3), d4, .val (.int v5)] [])) t
          refine XS.aloadN X512.here hx rfl (hb hby dRawMessage_isPlain_153) rfl rfl ?_
          exact k
        obtain ⟨T519, X519, e519, st519⟩ := getF X512 hx hZ hown (host := "") (Or.inl (w20 hw)) Via.refl e512 F_a1_bytes (g := (mkF m 154 #[.val (.ref a1), .val (.int v1), d2, .val (.int v3), d4, .val (.int v5)] [(.ref a1)])) rfl rfl (hb hby dRawMessage_isPlain_154)
        refine own_Goes.via st519 ?_
        show own_Goes _ _ _ _ _ _ _ (T519.setTop (mkF m 157 #[.val (.ref a1), .val (.int v1), d2, .val (.int v3), d4, .val (.int v5)] [(.ref a2)]))
        refine own_Goes.via (B := T519.setTop (mkF m 159 #[.val (.ref a1), .val (.int v1), d2, .val (.int v3), d4, .val (.int v5)] [(.int v5), (.ref a2)])) (fun t k => ?_) ?_
        · show Steps p.tables e below (T519.setTop (mkF m 157 #[.val (.ref a1), .val (.int v1), d2, .val (.int v3), d4, .val (.int v5)] [(.ref a2)])) t
          refine XS.iload X519.here hx rfl (hb hby dRawMessage_isPlain_157) rfl ?_
          exact k
        obtain ⟨hi159, hF⟩ := own_ck_e hF
        refine own_Goes.via (B := T519.setTop (mkF m 162 #[.val (.ref a1), .val (.int v1), d2, .val (.int v3), d4, .val (.int v5)] [(.int (127 : Int32)), (.int (own_rd bs_a2 v5))])) (fun t k => ?_) ?_
        · show Steps p.tables e below (T519.setTop (mkF m 159 #[.val (.ref a1), .val (.int v1), d2, .val (.int v3), d4, .val (.int v5)] [(.int v5), (.ref a2)])) t
          refine own_ldB X519 hx hZ e519 A_a2 hi159 rfl (g := (mkF m 159 #[.val (.ref a1), .val (.int v1), d2, .val (.int v3), d4, .val (.int v5)] [(.int v5), (.ref a2)])) rfl rfl (hb hby dRawMessage_isPlain_159) ?_
          show Steps p.tables e below (T519.setTop (mkF m 160 #[.val (.ref a1), .val (.int v1), d2, .val (.int v3), d4, .val (.int v5)] [(.int (own_rd bs_a2 v5))])) t
          refine XS.bipush X519.here hx rfl (hb hby dRawMessage_isPlain_160) ?_
          exact k
        by_cases hc162 : (own_rd bs_a2 v5) = (127 : Int32)
        · rw [if_pos hc162] at hF
          refine own_Goes.via (B := T519.setTop (mkF m 166 #[.val (.ref a1), .val (.int v1), d2, .val (.int v3), d4, .val (.int v5)] [(.int (0 : Int32))])) (fun t k => ?_) ?_
          · show Steps p.tables e below (T519.setTop (mkF m 162 #[.val (.ref a1), .val (.int v1), d2, .val (.int v3), d4, .val (.int v5)] [(.int (127 : Int32)), (.int (own_rd bs_a2 v5))])) t
            refine XS.icmpNo X519.here hx rfl (hb hby dRawMessage_isPlain_162) rfl (teq hc162).2 ?_
            show Steps p.tables e below (T519.setTop (mkF m 165 #[.val (.ref a1), .val (.int v1), d2, .val (.int v3), d4, .val (.int v5)] [])) t
            refine XS.iconst X519.here hx rfl (hb hby dRawMessage_isPlain_165) ?_
            exact k
          obtain rfl : (0 : Int32) = r := Option.some.inj hF
          exact own_retN X519 hx (t := .boolean) hret hlk (by simp) (hb hby dRawMessage_isPlain_166) e519 (v := (0 : Int32)) (by decide) ⟨rfl, N, rfl⟩ (by decide) (by decide)
        · rw [if_neg hc162] at hF
          refine own_Goes.via (B := T519.setTop (mkF m 170 #[.val (.ref a1), .val (.int v1), d2, .val (.int v3), d4, .val (.int (v5 + (1 : Int32)))] [])) (fun t k => ?_) ?_
          · show Steps p.tables e below (T519.setTop (mkF m 162 #[.val (.ref a1), .val (.int v1), d2, .val (.int v3), d4, .val (.int v5)] [(.int (127 : Int32)), (.int (own_rd bs_a2 v5))])) t
            refine XS.icmpYes X519.here hx rfl (pc0 := 162) (pc' := 167) rfl (hb hby dRawMessage_isPlain_162) rfl (feq hc162).2 (by decide) (by decide) ?_
            show Steps p.tables e below (T519.setTop (mkF m 167 #[.val (.ref a1), .val (.int v1), d2, .val (.int v3), d4, .val (.int v5)] [])) t
            refine XS.iinc X519.here hx rfl (hb hby dRawMessage_isPlain_167) rfl (l' := #[.val (.ref a1), .val (.int v1), d2, .val (.int v3), d4, .val (.int (v5 + (1 : Int32)))]) rfl ?_
            exact k
          obtain ⟨x520, hx520, hF⟩ := own_lt_e hF
          rw [← hx520]
          refine own_Goes.via (B := T519.setTop (mkF m 113 #[.val (.ref a1), .val (.int v1), d2, .val (.int v3), d4, .val (.int x520)] [])) (fun t k => ?_) ?_
          · show Steps p.tables e below (T519.setTop (mkF m 170 #[.val (.ref a1), .val (.int v1), d2, .val (.int v3), d4, .val (.int x520)] [])) t
            refine XS.goto X519.here hx rfl (pc0 := 170) (pc' := 113) rfl (hb hby dRawMessage_isPlain_170) (by decide) (by decide) ?_
            exact k
          exact ih X519 e519 N z v1 v3 x520 f_a1_bodyStart f_a1_lines bs_a2 bs_a3 bs_a4 bs_a5 d2 d4 o_d2 o_d4 E_a1 F_a1_bodyStart F_a1_bytes F_a1_lineEnds F_a1_lineStarts F_a1_lines F_a1_wordLengths g_a1 A_a2 g_a2 A_a3 g_a3 A_a4 g_a4 A_a5 g_a5 ne_a1_a2 ne_a1_a3 ne_a2_a3 ne_a1_a4 ne_a2_a4 ne_a3_a4 ne_a1_a5 ne_a2_a5 ne_a3_a5 ne_a4_a5 _ hF
    · rw [if_neg hc116] at hF
      refine own_Goes.via (B := T.setTop (mkF m 176 #[.val (.ref a1), .val (.int (v1 + (1 : Int32))), d2, .val (.int v3), d4, .val (.int v5)] [])) (fun t k => ?_) ?_
      · show Steps p.tables e below (T.setTop (mkF m 116 #[.val (.ref a1), .val (.int v1), d2, .val (.int v3), d4, .val (.int v5)] [(.int v3), (.int v5)])) t
        refine XS.icmpYes X.here hx rfl (pc0 := 116) (pc' := 173) rfl (hb hby dRawMessage_isPlain_116) rfl (flt hc116).2.1 (by decide) (by decide) ?_
        show Steps p.tables e below (T.setTop (mkF m 173 #[.val (.ref a1), .val (.int v1), d2, .val (.int v3), d4, .val (.int v5)] [])) t
        refine XS.iinc X.here hx rfl (hb hby dRawMessage_isPlain_173) rfl (l' := #[.val (.ref a1), .val (.int (v1 + (1 : Int32))), d2, .val (.int v3), d4, .val (.int v5)]) rfl ?_
        exact k
      obtain ⟨x521, hx521, hF⟩ := own_lt_e hF
      rw [← hx521]
      refine own_Goes.via (B := T.setTop (mkF m 11 #[.val (.ref a1), .val (.int x521), d2, .val (.int v3), d4, .val (.int v5)] [])) (fun t k => ?_) ?_
      · show Steps p.tables e below (T.setTop (mkF m 176 #[.val (.ref a1), .val (.int x521), d2, .val (.int v3), d4, .val (.int v5)] [])) t
        refine XS.goto X.here hx rfl (pc0 := 176) (pc' := 11) rfl (hb hby dRawMessage_isPlain_176) (by decide) (by decide) ?_
        exact k
      exact hk11 X eT N z x521 f_a1_bodyStart f_a1_lines bs_a2 bs_a3 bs_a4 bs_a5 d2 (.val (.int v3)) d4 (.val (.int v5)) o_d2 (One.val rfl) o_d4 (One.val rfl) E_a1 F_a1_bodyStart F_a1_bytes F_a1_lineEnds F_a1_lineStarts F_a1_lines F_a1_wordLengths g_a1 A_a2 g_a2 A_a3 g_a3 A_a4 g_a4 A_a5 g_a5 ne_a1_a2 ne_a1_a3 ne_a2_a3 ne_a1_a4 ne_a2_a4 ne_a3_a4 ne_a1_a5 ne_a2_a5 ne_a3_a5 ne_a4_a5 _ hF
set_option maxRecDepth 65536 in
set_option maxHeartbeats 4000000 in
theorem b_RawMessage_isPlain_61 {p : Program} {l : Launch} {e : Env} {s : State} {m : MethodId} {args : Array Value} {below : List Frame} {meth : Method} {c : Code} {Z : State} {a0 : Array Value} {n0 : Nat} {hE : Heap} (cx : Cx_RawMessage_isPlain p s m meth c Z a0) (a1 : Addr) (a2 : Addr) (a3 : Addr) (a4 : Addr) (a5 : Addr) {k11 : Int32 → Int32 → Int32 → (List Int32) → (List Int32) → (List Int32) → (List Int32) → Option (Int32)} (hk11 : ∀ {T : State} {locs : List Loc} (X : Stand p l e ({ frames := 1, cells := 0, slots := 0, locals := 15 } : Room) s m args below meth c T locs 0 0) (eT : T.heap = hE) (N : Fr n0 locs) (z : n0 ≤ hE.size) (v1 : Int32) (f_a1_bodyStart : Int32) (f_a1_lines : Int32) (bs_a2 : List Int32) (bs_a3 : List Int32) (bs_a4 : List Int32) (bs_a5 : List Int32) (d2 : Slot) (d3 : Slot) (d4 : Slot) (d5 : Slot) (o_d2 : One d2) (o_d3 : One d3) (o_d4 : One d4) (o_d5 : One d5) (E_a1 : Exa Z hE a1 "com/example/oxpecker/oxpecker/sip/RawMessage") (F_a1_bodyStart : Fld Z hE a1 "com/example/oxpecker/oxpecker/sip/RawMessage" "bodyStart" "I" (.int f_a1_bodyStart)) (F_a1_bytes : Fld Z hE a1 "com/example/oxpecker/oxpecker/sip/RawMessage" "bytes" "[B" (.ref a2)) (F_a1_lineEnds : Fld Z hE a1 "com/example/oxpecker/oxpecker/sip/RawMessage" "lineEnds" "[I" (.ref a3)) (F_a1_lineStarts : Fld Z hE a1 "com/example/oxpecker/oxpecker/sip/RawMessage" "lineStarts" "[I" (.ref a4)) (F_a1_lines : Fld Z hE a1 "com/example/oxpecker/oxpecker/sip/RawMessage" "lines" "I" (.int f_a1_lines)) (F_a1_wordLengths : Fld Z hE a1 "com/example/oxpecker/oxpecker/sip/RawMessage" "wordLengths" "[I" (.ref a5)) (g_a1 : n0 ≤ a1) (A_a2 : own_Ar Z hE a2 .byte (bs_a2.map Value.int)) (g_a2 : n0 ≤ a2) (A_a3 : own_Ar Z hE a3 .int (bs_a3.map Value.int)) (g_a3 : n0 ≤ a3) (A_a4 : own_Ar Z hE a4 .int (bs_a4.map Value.int)) (g_a4 : n0 ≤ a4) (A_a5 : own_Ar Z hE a5 .int (bs_a5.map Value.int)) (g_a5 : n0 ≤ a5) (ne_a1_a2 : a1 ≠ a2) (ne_a1_a3 : a1 ≠ a3) (ne_a2_a3 : a2 ≠ a3) (ne_a1_a4 : a1 ≠ a4) (ne_a2_a4 : a2 ≠ a4) (ne_a3_a4 : a3 ≠ a4) (ne_a1_a5 : a1 ≠ a5) (ne_a2_a5 : a2 ≠ a5) (ne_a3_a5 : a3 ≠ a5) (ne_a4_a5 : a4 ≠ a5) (r : Int32), k11 v1 f_a1_bodyStart f_a1_lines bs_a2 bs_a3 bs_a4 bs_a5 = some r → own_Goes p e below s (Q_RawMessage_isPlain Z hE n0 a1 a2 a3 a4 a5 r) 0 0 (T.setTop (mkF m 11 #[.val (.ref a1), .val (.int v1), d2, d3, d4, d5] []))) :
    ∀ {T : State} {locs : List Loc} (X : Stand p l e ({ frames := 1, cells := 0, slots := 0, locals := 15 } : Room) s m args below meth c T locs 0 0) (eT : T.heap = hE) (N : Fr n0 locs) (z : n0 ≤ hE.size) (v1 : Int32) (v2 : Int32) (t0 : Int32) (f_a1_bodyStart : Int32) (f_a1_lines : Int32) (bs_a2 : List Int32) (bs_a3 : List Int32) (bs_a4 : List Int32) (bs_a5 : List Int32) (d3 : Slot) (d4 : Slot) (d5 : Slot) (o_d3 : One d3) (o_d4 : One d4) (o_d5 : One d5) (E_a1 : Exa Z hE a1 "com/example/oxpecker/oxpecker/sip/RawMessage") (F_a1_bodyStart : Fld Z hE a1 "com/example/oxpecker/oxpecker/sip/RawMessage" "bodyStart" "I" (.int f_a1_bodyStart)) (F_a1_bytes : Fld Z hE a1 "com/example/oxpecker/oxpecker/sip/RawMessage" "bytes" "[B" (.ref a2)) (F_a1_lineEnds : Fld Z hE a1 "com/example/oxpecker/oxpecker/sip/RawMessage" "lineEnds" "[I" (.ref a3)) (F_a1_lineStarts : Fld Z hE a1 "com/example/oxpecker/oxpecker/sip/RawMessage" "lineStarts" "[I" (.ref a4)) (F_a1_lines : Fld Z hE a1 "com/example/oxpecker/oxpecker/sip/RawMessage" "lines" "I" (.int f_a1_lines)) (F_a1_wordLengths : Fld Z hE a1 "com/example/oxpecker/oxpecker/sip/RawMessage" "wordLengths" "[I" (.ref a5)) (g_a1 : n0 ≤ a1) (A_a2 : own_Ar Z hE a2 .byte (bs_a2.map Value.int)) (g_a2 : n0 ≤ a2) (A_a3 : own_Ar Z hE a3 .int (bs_a3.map Value.int)) (g_a3 : n0 ≤ a3) (A_a4 : own_Ar Z hE a4 .int (bs_a4.map Value.int)) (g_a4 : n0 ≤ a4) (A_a5 : own_Ar Z hE a5 .int (bs_a5.map Value.int)) (g_a5 : n0 ≤ a5) (ne_a1_a2 : a1 ≠ a2) (ne_a1_a3 : a1 ≠ a3) (ne_a2_a3 : a2 ≠ a3) (ne_a1_a4 : a1 ≠ a4) (ne_a2_a4 : a2 ≠ a4) (ne_a3_a4 : a3 ≠ a4) (ne_a1_a5 : a1 ≠ a5) (ne_a2_a5 : a2 ≠ a5) (ne_a3_a5 : a3 ≠ a5) (ne_a4_a5 : a4 ≠ a5) (r : Int32), f_RawMessage_isPlain_61 k11 v1 v2 t0 f_a1_bodyStart f_a1_lines bs_a2 bs_a3 bs_a4 bs_a5 = some r → own_Goes p e below s (Q_RawMessage_isPlain Z hE n0 a1 a2 a3 a4 a5 r) 0 0 (T.setTop (mkF m 61 #[.val (.ref a1), .val (.int v1), .val (.int v2), d3, d4, d5] [(.int t0)])) := by
  have cx' := cx
  obtain ⟨hx, hZ, hw, hby, hml, hown, hret, hlk, hnm⟩ := cx'
  intro T locs X eT N z v1 v2 t0 f_a1_bodyStart f_a1_lines bs_a2 bs_a3 bs_a4 bs_a5 d3 d4 d5 o_d3 o_d4 o_d5 E_a1 F_a1_bodyStart F_a1_bytes F_a1_lineEnds F_a1_lineStarts F_a1_lines F_a1_wordLengths g_a1 A_a2 g_a2 A_a3 g_a3 A_a4 g_a4 A_a5 g_a5 ne_a1_a2 ne_a1_a3 ne_a2_a3 ne_a1_a4 ne_a2_a4 ne_a3_a4 ne_a1_a5 ne_a2_a5 ne_a3_a5 ne_a4_a5 r hF
  unfold f_RawMessage_isPlain_61 at hF
  refine own_Goes.via (B := T.setTop (mkF m 66 #[.val (.ref a1), .val (.int v1), .val (.int v2), .val (.int t0), d4, d5] [(.int v2), (.int (58 : Int32)), (.ref a1)])) (fun t k => ?_) ?_
  · show Steps p.tables e below (T.setTop (mkF m 61 #[.val (.ref a1), .val (.int v1), .val (.int v2), d3, d4, d5] [(.int t0)])) t
    refine XS.istoreNS X.here hx rfl (hb hby dRawMessage_isPlain_61) rfl rfl o_d3 ?_
    show Steps p.tables e below (T.setTop (mkF m 62 #[.val (.ref a1), .val (.int v1), .val (.int v2), .val (.int t0), d4, d5] [])) t
    refine XS.aloadN X.here hx rfl (hb hby dRawMessage_isPlain_62) rfl rfl ?_
    show Steps p.tables e below (T.setTop (mkF m 63 #[.val (.ref a1), .val (.int v1), .val (.int v2), .val (.int t0), d4, d5] [(.ref a1)])) t
    refine XS.bipush X.here hx rfl (hb hby dRawMessage_isPlain_63) ?_
    show Steps p.tables e below (T.setTop (mkF m 65 #[.val (.ref a1), .val (.int v1), .val (.int v2), .val (.int t0), d4, d5] [(.int (58 : Int32)), (.ref a1)])) t
    refine XS.iloadN X.here hx rfl (hb hby dRawMessage_isPlain_65) rfl ?_
    exact k
  obtain ⟨r522, hr522, hF⟩ := own_bd_e hF
  obtain ⟨cq522, q522, q522'⟩ := E_a1.cell
  obtain ⟨_, _, ⟨T522, L522, k522, n522⟩, -, X522, ⟨Lc522, hQ522, l522, y522, z522⟩, st522⟩ := X.privateBack hx (y := (⟨"com/example/oxpecker/oxpecker/sip/RawMessage", "indexOf", "(BI)I"⟩ : MethodName)) hown (mvT hZ (w22 hw)) (mvT hZ (w23 hw)) (own_privSel (y := (⟨"com/example/oxpecker/oxpecker/sip/RawMessage", "indexOf", "(BI)I"⟩ : MethodName)) (mvT hZ (w12 hw)) (Cond.privateMethod_at (mvP hZ (w24 hw) (args := #[]))) (mvT hZ (w23 hw)) (by decide)) (Cond.privateMethod_at (mvP hZ (w24 hw) (args := #[]))) (mvT hZ (w25 hw)) (by decide) (backOf (W := 0) (rm_RawMessage_indexOf_i2 l Z a0 hw [] hE n0 z a1 a2 a3 a4 a5 (58 : Int32) v2 f_a1_bodyStart f_a1_lines bs_a2 bs_a3 bs_a4 bs_a5 E_a1 F_a1_bodyStart F_a1_bytes F_a1_lineEnds F_a1_lineStarts F_a1_lines F_a1_wordLengths g_a1 A_a2 g_a2 A_a3 g_a3 A_a4 g_a4 A_a5 g_a5 ne_a1_a2 ne_a1_a3 ne_a2_a3 ne_a1_a4 ne_a2_a4 ne_a3_a4 ne_a1_a5 ne_a2_a5 ne_a3_a5 ne_a4_a5 r522 hr522) hZ (w25 hw) (w13 hw) (by decide) (by decide)) (g := (mkF m 66 #[.val (.ref a1), .val (.int v1), .val (.int v2), .val (.int t0), d4, d5] [(.int v2), (.int (58 : Int32)), (.ref a1)])) rfl (by rw [hml]; rfl) (Steps.refl _) (a := a1) (by rw [eT]; exact q522) q522' (argsL := [(.int (58 : Int32)), (.int v2)]) (rest := []) (lenOf pd_2 rfl) rfl (by show 2 * 0 + _ ≤ _; exact Nat.le_of_eq rfl) (hb hby dRawMessage_isPlain_66) (fun _ _ => ⟨rfl, eT, (by decide : 0 + 0 ≤ _), (by decide : 0 + 0 ≤ _)⟩)
  dsimp only [Pt.U, Pt.locs, Pt.cells, Pt.slots] at X522 l522 y522 z522 st522 hQ522
  subst l522 y522 z522
  obtain ⟨rfl, N522q, e522⟩ := hQ522
  have N522 := Fr.app N N522q
  refine own_Goes.tr st522 ?_
  show own_Goes _ _ _ _ _ _ _ (T522.setTop (mkF m 69 #[.val (.ref a1), .val (.int v1), .val (.int v2), .val (.int t0), d4, d5] [(.int r522)]))
  refine own_Goes.via (B := T522.setTop (mkF m 72 #[.val (.ref a1), .val (.int v1), .val (.int v2), .val (.int t0), .val (.int r522), d5] [(.int v1)])) (fun t k => ?_) ?_
  · show Steps p.tables e below (T522.setTop (mkF m 69 #[.val (.ref a1), .val (.int v1), .val (.int v2), .val (.int t0), d4, d5] [(.int r522)])) t
    refine XS.istoreS X522.here hx rfl (hb hby dRawMessage_isPlain_69) rfl rfl o_d4 ?_
    show Steps p.tables e below (T522.setTop (mkF m 71 #[.val (.ref a1), .val (.int v1), .val (.int v2), .val (.int t0), .val (.int r522), d5] [])) t
    refine XS.iloadN X522.here hx rfl (hb hby dRawMessage_isPlain_71) rfl ?_
    exact k
  by_cases hc72 : (0 : Int32) < v1
  · rw [if_pos hc72] at hF
    refine own_Goes.via (B := T522.setTop (mkF m 76 #[.val (.ref a1), .val (.int v1), .val (.int v2), .val (.int t0), .val (.int r522), d5] [(.ref a1)])) (fun t k => ?_) ?_
    · show Steps p.tables e below (T522.setTop (mkF m 72 #[.val (.ref a1), .val (.int v1), .val (.int v2), .val (.int t0), .val (.int r522), d5] [(.int v1)])) t
      refine XS.ifNo X522.here hx rfl (hb hby dRawMessage_isPlain_72) rfl ((if0 _ _).trans (tlt hc72).2.2.2) ?_
      show Steps p.tables e below (T522.setTop (mkF m 75 #[.val (.ref a1), .val (.int v1), .val (.int v2), .val (.int t0), .val (.int r522), d5] [])) t
      refine XS.aloadN X522.here hx rfl (hb hby dRawMessage_isPlain_75) rfl rfl ?_
      exact k
    obtain ⟨T523, X523, e523, st523⟩ := getF X522 hx hZ hown (host := "") (Or.inl (w20 hw)) Via.refl e522 F_a1_bytes (g := (mkF m 76 #[.val (.ref a1), .val (.int v1), .val (.int v2), .val (.int t0), .val (.int r522), d5] [(.ref a1)])) rfl rfl (hb hby dRawMessage_isPlain_76)
    refine own_Goes.via st523 ?_
    show own_Goes _ _ _ _ _ _ _ (T523.setTop (mkF m 79 #[.val (.ref a1), .val (.int v1), .val (.int v2), .val (.int t0), .val (.int r522), d5] [(.ref a2)]))
    refine own_Goes.via (B := T523.setTop (mkF m 80 #[.val (.ref a1), .val (.int v1), .val (.int v2), .val (.int t0), .val (.int r522), d5] [(.int v2), (.ref a2)])) (fun t k => ?_) ?_
    · show Steps p.tables e below (T523.setTop (mkF m 79 #[.val (.ref a1), .val (.int v1), .val (.int v2), .val (.int t0), .val (.int r522), d5] [(.ref a2)])) t
      refine XS.iloadN X523.here hx rfl (hb hby dRawMessage_isPlain_79) rfl ?_
      exact k
    obtain ⟨hi80, hF⟩ := own_ck_e hF
    refine own_Goes.via (B := T523.setTop (mkF m 83 #[.val (.ref a1), .val (.int v1), .val (.int v2), .val (.int t0), .val (.int r522), d5] [(.int (32 : Int32)), (.int (own_rd bs_a2 v2))])) (fun t k => ?_) ?_
    · show Steps p.tables e below (T523.setTop (mkF m 80 #[.val (.ref a1), .val (.int v1), .val (.int v2), .val (.int t0), .val (.int r522), d5] [(.int v2), (.ref a2)])) t
      refine own_ldB X523 hx hZ e523 A_a2 hi80 rfl (g := (mkF m 80 #[.val (.ref a1), .val (.int v1), .val (.int v2), .val (.int t0), .val (.int r522), d5] [(.int v2), (.ref a2)])) rfl rfl (hb hby dRawMessage_isPlain_80) ?_
      show Steps p.tables e below (T523.setTop (mkF m 81 #[.val (.ref a1), .val (.int v1), .val (.int v2), .val (.int t0), .val (.int r522), d5] [(.int (own_rd bs_a2 v2))])) t
      refine XS.bipush X523.here hx rfl (hb hby dRawMessage_isPlain_81) ?_
      exact k
    by_cases hc83 : (own_rd bs_a2 v2) = (32 : Int32)
    · rw [if_pos hc83] at hF
      refine own_Goes.via (B := T523.setTop (mkF m 109 #[.val (.ref a1), .val (.int v1), .val (.int v2), .val (.int t0), .val (.int r522), d5] [(.int (0 : Int32))])) (fun t k => ?_) ?_
      · show Steps p.tables e below (T523.setTop (mkF m 83 #[.val (.ref a1), .val (.int v1), .val (.int v2), .val (.int t0), .val (.int r522), d5] [(.int (32 : Int32)), (.int (own_rd bs_a2 v2))])) t
        refine XS.icmpYes X523.here hx rfl (pc0 := 83) (pc' := 108) rfl (hb hby dRawMessage_isPlain_83) rfl (teq hc83).1 (by decide) (by decide) ?_
        show Steps p.tables e below (T523.setTop (mkF m 108 #[.val (.ref a1), .val (.int v1), .val (.int v2), .val (.int t0), .val (.int r522), d5] [])) t
        refine XS.iconst X523.here hx rfl (hb hby dRawMessage_isPlain_108) ?_
        exact k
      obtain rfl : (0 : Int32) = r := Option.some.inj hF
      exact own_retN X523 hx (t := .boolean) hret hlk (by simp) (hb hby dRawMessage_isPlain_109) e523 (v := (0 : Int32)) (by decide) ⟨rfl, N522, rfl⟩ (by decide) (by decide)
    · rw [if_neg hc83] at hF
      refine own_Goes.via (B := T523.setTop (mkF m 87 #[.val (.ref a1), .val (.int v1), .val (.int v2), .val (.int t0), .val (.int r522), d5] [(.ref a1)])) (fun t k => ?_) ?_
      · show Steps p.tables e below (T523.setTop (mkF m 83 #[.val (.ref a1), .val (.int v1), .val (.int v2), .val (.int t0), .val (.int r522), d5] [(.int (32 : Int32)), (.int (own_rd bs_a2 v2))])) t
        refine XS.icmpNo X523.here hx rfl (hb hby dRawMessage_isPlain_83) rfl (feq hc83).1 ?_
        show Steps p.tables e below (T523.setTop (mkF m 86 #[.val (.ref a1), .val (.int v1), .val (.int v2), .val (.int t0), .val (.int r522), d5] [])) t
        refine XS.aloadN X523.here hx rfl (hb hby dRawMessage_isPlain_86) rfl rfl ?_
        exact k
      obtain ⟨T524, X524, e524, st524⟩ := getF X523 hx hZ hown (host := "") (Or.inl (w20 hw)) Via.refl e523 F_a1_bytes (g := (mkF m 87 #[.val (.ref a1), .val (.int v1), .val (.int v2), .val (.int t0), .val (.int r522), d5] [(.ref a1)])) rfl rfl (hb hby dRawMessage_isPlain_87)
      refine own_Goes.via st524 ?_
      show own_Goes _ _ _ _ _ _ _ (T524.setTop (mkF m 90 #[.val (.ref a1), .val (.int v1), .val (.int v2), .val (.int t0), .val (.int r522), d5] [(.ref a2)]))
      refine own_Goes.via (B := T524.setTop (mkF m 91 #[.val (.ref a1), .val (.int v1), .val (.int v2), .val (.int t0), .val (.int r522), d5] [(.int v2), (.ref a2)])) (fun t k => ?_) ?_
      · show Steps p.tables e below (T524.setTop (mkF m 90 #[.val (.ref a1), .val (.int v1), .val (.int v2), .val (.int t0), .val (.int r522), d5] [(.ref a2)])) t
        refine XS.iloadN X524.here hx rfl (hb hby dRawMessage_isPlain_90) rfl ?_
        exact k
      obtain ⟨hi91, hF⟩ := own_ck_e hF
      refine own_Goes.via (B := T524.setTop (mkF m 94 #[.val (.ref a1), .val (.int v1), .val (.int v2), .val (.int t0), .val (.int r522), d5] [(.int (9 : Int32)), (.int (own_rd bs_a2 v2))])) (fun t k => ?_) ?_
      · show Steps p.tables e below (T524.setTop (mkF m 91 #[.val (.ref a1), .val (.int v1), .val (.int v2), .val (.int t0), .val (.int r522), d5] [(.int v2), (.ref a2)])) t
        refine own_ldB X524 hx hZ e524 A_a2 hi91 rfl (g := (mkF m 91 #[.val (.ref a1), .val (.int v1), .val (.int v2), .val (.int t0), .val (.int r522), d5] [(.int v2), (.ref a2)])) rfl rfl (hb hby dRawMessage_isPlain_91) ?_
        show Steps p.tables e below (T524.setTop (mkF m 92 #[.val (.ref a1), .val (.int v1), .val (.int v2), .val (.int t0), .val (.int r522), d5] [(.int (own_rd bs_a2 v2))])) t
        refine XS.bipush X524.here hx rfl (hb hby dRawMessage_isPlain_92) ?_
        exact k
      by_cases hc94 : (own_rd bs_a2 v2) = (9 : Int32)
      · rw [if_pos hc94] at hF
        refine own_Goes.via (B := T524.setTop (mkF m 109 #[.val (.ref a1), .val (.int v1), .val (.int v2), .val (.int t0), .val (.int r522), d5] [(.int (0 : Int32))])) (fun t k => ?_) ?_
        · show Steps p.tables e below (T524.setTop (mkF m 94 #[.val (.ref a1), .val (.int v1), .val (.int v2), .val (.int t0), .val (.int r522), d5] [(.int (9 : Int32)), (.int (own_rd bs_a2 v2))])) t
          refine XS.icmpYes X524.here hx rfl (pc0 := 94) (pc' := 108) rfl (hb hby dRawMessage_isPlain_94) rfl (teq hc94).1 (by decide) (by decide) ?_
          show Steps p.tables e below (T524.setTop (mkF m 108 #[.val (.ref a1), .val (.int v1), .val (.int v2), .val (.int t0), .val (.int r522), d5] [])) t
          refine XS.iconst X524.here hx rfl (hb hby dRawMessage_isPlain_108) ?_
          exact k
        obtain rfl : (0 : Int32) = r := Option.some.inj hF
        exact own_retN X524 hx (t := .boolean) hret hlk (by simp) (hb hby dRawMessage_isPlain_109) e524 (v := (0 : Int32)) (by decide) ⟨rfl, N522, rfl⟩ (by decide) (by decide)
      · rw [if_neg hc94] at hF
        refine own_Goes.via (B := T524.setTop (mkF m 99 #[.val (.ref a1), .val (.int v1), .val (.int v2), .val (.int t0), .val (.int r522), d5] [(.int r522)])) (fun t k => ?_) ?_
        · show Steps p.tables e below (T524.setTop (mkF m 94 #[.val (.ref a1), .val (.int v1), .val (.int v2), .val (.int t0), .val (.int r522), d5] [(.int (9 : Int32)), (.int (own_rd bs_a2 v2))])) t
          refine XS.icmpNo X524.here hx rfl (hb hby dRawMessage_isPlain_94) rfl (feq hc94).1 ?_
          show Steps p.tables e below (T524.setTop (mkF m 97 #[.val (.ref a1), .val (.int v1), .val (.int v2), .val (.int t0), .val (.int r522), d5] [])) t
          refine XS.iload X524.here hx rfl (hb hby dRawMessage_isPlain_97) rfl ?_
          exact k
        by_cases hc99 : r522 < (0 : Int32)
        · rw [if_pos hc99] at hF
          refine own_Goes.via (B := T524.setTop (mkF m 109 #[.val (.ref a1), .val (.int v1), .val (.int v2), .val (.int t0), .val (.int r522), d5] [(.int (0 : Int32))])) (fun t k => ?_) ?_
          · show Steps p.tables e below (T524.setTop (mkF m 99 #[.val (.ref a1), .val (.int v1), .val (.int v2), .val (.int t0), .val (.int r522), d5] [(.int r522)])) t
            refine XS.ifYes X524.here hx rfl (pc0 := 99) (pc' := 108) rfl (hb hby dRawMessage_isPlain_99) rfl ((if0 _ _).trans (tlt hc99).1) (by decide) (by decide) ?_
            show Steps p.tables e below (T524.setTop (mkF m 108 #[.val (.ref a1), .val (.int v1), .val (.int v2), .val (.int t0), .val (.int r522), d5] [])) t
            refine XS.iconst X524.here hx rfl (hb hby dRawMessage_isPlain_108) ?_
            exact k
          obtain rfl : (0 : Int32) = r := Option.some.inj hF
          exact own_retN X524 hx (t := .boolean) hret hlk (by simp) (hb hby dRawMessage_isPlain_109) e524 (v := (0 : Int32)) (by decide) ⟨rfl, N522, rfl⟩ (by decide) (by decide)
        · rw [if_neg hc99] at hF
          refine own_Goes.via (B := T524.setTop (mkF m 105 #[.val (.ref a1), .val (.int v1), .val (.int v2), .val (.int t0), .val (.int r522), d5] [(.int t0), (.int r522)])) (fun t k => ?_) ?_
          · show Steps p.tables e below (T524.setTop (mkF m 99 #[.val (.ref a1), .val (.int v1), .val (.int v2), .val (.int t0), .val (.int r522), d5] [(.int r522)])) t
            refine XS.ifNo X524.here hx rfl (hb hby dRawMessage_isPlain_99) rfl ((if0 _ _).trans (flt hc99).1) ?_
            show Steps p.tables e below (T524.setTop (mkF m 102 #[.val (.ref a1), .val (.int v1), .val (.int v2), .val (.int t0), .val (.int r522), d5] [])) t
            refine XS.iload X524.here hx rfl (hb hby dRawMessage_isPlain_102) rfl ?_
            show Steps p.tables e below (T524.setTop (mkF m 104 #[.val (.ref a1), .val (.int v1), .val (.int v2), .val (.int t0), .val (.int r522), d5] [(.int r522)])) t
            refine XS.iloadN X524.here hx rfl (hb hby dRawMessage_isPlain_104) rfl ?_
            exact k
          by_cases hc105 : r522 < t0
          · rw [if_pos hc105] at hF
            refine own_Goes.via (B := T524.setTop (mkF m 113 #[.val (.ref a1), .val (.int v1), .val (.int v2), .val (.int t0), .val (.int r522), .val (.int v2)] [])) (fun t k => ?_) ?_
            · show Steps p.tables e below (T524.setTop (mkF m 105 #[.val (.ref a1), .val (.int v1), .val (.int v2), .val (.int t0), .val (.int r522), d5] [(.int t0), (.int r522)])) t
              refine XS.icmpYes X524.here hx rfl (pc0 := 105) (pc' := 110) rfl (hb hby dRawMessage_isPlain_105) rfl (tlt hc105).1 (by decide) (by decide) ?_
              show Steps p.tables e below (T524.setTop (mkF m 110 #[.val (.ref a1), .val (.int v1), .val (.int v2), .val (.int t0), .val (.int r522), d5] [])) t
              refine XS.iloadN X524.here hx rfl (hb hby dRawMessage_isPlain_110) rfl ?_
              show Steps p.tables e below (T524.setTop (mkF m 111 #[.val (.ref a1), .val (.int v1), .val (.int v2), .val (.int t0), .val (.int r522), d5] [(.int v2)])) t
              refine XS.istoreS X524.here hx rfl (hb hby dRawMessage_isPlain_111) rfl rfl o_d5 ?_
              exact k
            exact b_RawMessage_isPlain_113 cx a1 a2 a3 a4 a5 (k11 := k11) (hk11) _ X524 e524 N522 z v1 t0 v2 f_a1_bodyStart f_a1_lines bs_a2 bs_a3 bs_a4 bs_a5 (.val (.int v2)) (.val (.int r522)) (One.val rfl) (One.val rfl) E_a1 F_a1_bodyStart F_a1_bytes F_a1_lineEnds F_a1_lineStarts F_a1_lines F_a1_wordLengths g_a1 A_a2 g_a2 A_a3 g_a3 A_a4 g_a4 A_a5 g_a5 ne_a1_a2 ne_a1_a3 ne_a2_a3 ne_a1_a4 ne_a2_a4 ne_a3_a4 ne_a1_a5 ne_a2_a5 ne_a3_a5 ne_a4_a5 _ hF
          · rw [if_neg hc105] at hF
            refine own_Goes.via (B := T524.setTop (mkF m 109 #[.val (.ref a1), .val (.int v1), .val (.int v2), .val (.int t0), .val (.int r522), d5] [(.int (0 : Int32))])) (fun t k => ?_) ?_
            · show Steps p.tables e below (T524.setTop (mkF m 105 #[.val (.ref a1), .val (.int v1), .val (.int v2), .val (.int t0), .val (.int r522), d5] [(.int t0), (.int r522)])) t
              refine XS.icmpNo X524.here hx rfl (hb hby dRawMessage_isPlain_105) rfl (flt hc105).1 ?_
              show Steps p.tables e below (T524.setTop (mkF m 108 #[.val (.ref a1), .val (.int v1), .val (.int v2), .val (.int t0), .val (.int r522), d5] [])) t
              refine XS.iconst X524.here hx rfl (hb hby dRawMessage_isPlain_108) ?_
              exact k
            obtain rfl : (0 : Int32) = r := Option.some.inj hF
            exact own_retN X524 hx (t := .boolean) hret hlk (by simp) (hb hby dRawMessage_isPlain_109) e524 (v := (0 : Int32)) (by decide) ⟨rfl, N522, rfl⟩ (by decide) (by decide)
  · rw [if_neg hc72] at hF
    refine own_Goes.via (B := T522.setTop (mkF m 113 #[.val (.ref a1), .val (.int v1), .val (.int v2), .val (.int t0), .val (.int r522), .val (.int v2)] [])) (fun t k => ?_) ?_
    · show Steps p.tables e below (T522.setTop (mkF m 72 #[.val (.ref a1), .val (.int v1), .val (.int v2), .val (.int t0), .val (.int r522), d5] [(.int v1)])) t
      refine XS.ifYes X522.here hx rfl (pc0 := 72) (pc' := 110) rfl (hb hby dRawMessage_isPlain_72) rfl ((if0 _ _).trans (flt hc72).2.2.2) (by decide) (by decide) ?_
      show Steps p.tables e below (T522.setTop (mkF m 110 #[.val (.ref a1), .val (.int v1), .val (.int v2), .val (.int t0), .val (.int r522), d5] [])) t
      refine XS.iloadN X522.here hx rfl (hb hby dRawMessage_isPlain_110) rfl ?_
      show Steps p.tables e below (T522.setTop (mkF m 111 #[.val (.ref a1), .val (.int v1), .val (.int v2), .val (.int t0), .val (.int r522), d5] [(.int v2)])) t
      refine XS.istoreS X522.here hx rfl (hb hby dRawMessage_isPlain_111) rfl rfl o_d5 ?_
      exact k
    exact b_RawMessage_isPlain_113 cx a1 a2 a3 a4 a5 (k11 := k11) (hk11) _ X522 e522 N522 z v1 t0 v2 f_a1_bodyStart f_a1_lines bs_a2 bs_a3 bs_a4 bs_a5 (.val (.int v2)) (.val (.int r522)) (One.val rfl) (One.val rfl) E_a1 F_a1_bodyStart F_a1_bytes F_a1_lineEnds F_a1_lineStarts F_a1_lines F_a1_wordLengths g_a1 A_a2 g_a2 A_a3 g_a3 A_a4 g_a4 A_a5 g_a5 ne_a1_a2 ne_a1_a3 ne_a2_a3 ne_a1_a4 ne_a2_a4 ne_a3_a4 ne_a1_a5 ne_a2_a5 ne_a3_a5 ne_a4_a5 _ hF
set_option maxRecDepth 65536 in
set_option maxHeartbeats 4000000 in
theorem b_RawMessage_isPlain_11 {p : Program} {l : Launch} {e : Env} {s : State} {m : MethodId} {args : Array Value} {below : List Frame} {meth : Method} {c : Code} {Z : State} {a0 : Array Value} {n0 : Nat} {hE : Heap} (cx : Cx_RawMessage_isPlain p s m meth c Z a0) (a1 : Addr) (a2 : Addr) (a3 : Addr) (a4 : Addr) (a5 : Addr) (n : Nat) :
    ∀ {T : State} {locs : List Loc} (X : Stand p l e ({ frames := 1, cells := 0, slots := 0, locals := 15 } : Room) s m args below meth c T locs 0 0) (eT : T.heap = hE) (N : Fr n0 locs) (z : n0 ≤ hE.size) (v1 : Int32) (f_a1_bodyStart : Int32) (f_a1_lines : Int32) (bs_a2 : List Int32) (bs_a3 : List Int32) (bs_a4 : List Int32) (bs_a5 : List Int32) (d2 : Slot) (d3 : Slot) (d4 : Slot) (d5 : Slot) (o_d2 : One d2) (o_d3 : One d3) (o_d4 : One d4) (o_d5 : One d5) (E_a1 : Exa Z hE a1 "com/example/oxpecker/oxpecker/sip/RawMessage") (F_a1_bodyStart : Fld Z hE a1 "com/example/oxpecker/oxpecker/sip/RawMessage" "bodyStart" "I" (.int f_a1_bodyStart)) (F_a1_bytes : Fld Z hE a1 "com/example/oxpecker/oxpecker/sip/RawMessage" "bytes" "[B" (.ref a2)) (F_a1_lineEnds : Fld Z hE a1 "com/example/oxpecker/oxpecker/sip/RawMessage" "lineEnds" "[I" (.ref a3)) (F_a1_lineStarts : Fld Z hE a1 "com/example/oxpecker/oxpecker/sip/RawMessage" "lineStarts" "[I" (.ref a4)) (F_a1_lines : Fld Z hE a1 "com/example/oxpecker/oxpecker/sip/RawMessage" "lines" "I" (.int f_a1_lines)) (F_a1_wordLengths : Fld Z hE a1 "com/example/oxpecker/oxpecker/sip/RawMessage" "wordLengths" "[I" (.ref a5)) (g_a1 : n0 ≤ a1) (A_a2 : own_Ar Z hE a2 .byte (bs_a2.map Value.int)) (g_a2 : n0 ≤ a2) (A_a3 : own_Ar Z hE a3 .int (bs_a3.map Value.int)) (g_a3 : n0 ≤ a3) (A_a4 : own_Ar Z hE a4 .int (bs_a4.map Value.int)) (g_a4 : n0 ≤ a4) (A_a5 : own_Ar Z hE a5 .int (bs_a5.map Value.int)) (g_a5 : n0 ≤ a5) (ne_a1_a2 : a1 ≠ a2) (ne_a1_a3 : a1 ≠ a3) (ne_a2_a3 : a2 ≠ a3) (ne_a1_a4 : a1 ≠ a4) (ne_a2_a4 : a2 ≠ a4) (ne_a3_a4 : a3 ≠ a4) (ne_a1_a5 : a1 ≠ a5) (ne_a2_a5 : a2 ≠ a5) (ne_a3_a5 : a3 ≠ a5) (ne_a4_a5 : a4 ≠ a5) (r : Int32), f_RawMessage_isPlain_11 n v1 f_a1_bodyStart f_a1_lines bs_a2 bs_a3 bs_a4 bs_a5 = some r → own_Goes p e below s (Q_RawMessage_isPlain Z hE n0 a1 a2 a3 a4 a5 r) 0 0 (T.setTop (mkF m 11 #[.val (.ref a1), .val (.int v1), d2, d3, d4, d5] [])) := by
  have cx' := cx
  obtain ⟨hx, hZ, hw, hby, hml, hown, hret, hlk, hnm⟩ := cx'
  induction n with
  | zero =>
    intro T locs X eT N z v1 f_a1_bodyStart f_a1_lines bs_a2 bs_a3 bs_a4 bs_a5 d2 d3 d4 d5 o_d2 o_d3 o_d4 o_d5 E_a1 F_a1_bodyStart F_a1_bytes F_a1_lineEnds F_a1_lineStarts F_a1_lines F_a1_wordLengths g_a1 A_a2 g_a2 A_a3 g_a3 A_a4 g_a4 A_a5 g_a5 ne_a1_a2 ne_a1_a3 ne_a2_a3 ne_a1_a4 ne_a2_a4 ne_a3_a4 ne_a1_a5 ne_a2_a5 ne_a3_a5 ne_a4_a5 r hF
    cases hF
  | succ n ih =>
    intro T locs X eT N z v1 f_a1_bodyStart f_a1_lines bs_a2 bs_a3 bs_a4 bs_a5 d2 d3 d4 d5 o_d2 o_d3 o_d4 o_d5 E_a1 F_a1_bodyStart F_a1_bytes F_a1_lineEnds F_a1_lineStarts F_a1_lines F_a1_wordLengths g_a1 A_a2 g_a2 A_a3 g_a3 A_a4 g_a4 A_a5 g_a5 ne_a1_a2 ne_a1_a3 ne_a2_a3 ne_a1_a4 ne_a2_a4 ne_a3_a4 ne_a1_a5 ne_a2_a5 ne_a3_a5 ne_a4_a5 r hF
    rw [f_RawMessage_isPlain_11] at hF
    refine own_Goes.via (B := T.setTop (mkF m 13 #[.val (.ref a1), .val (.int v1), d2, d3, d4, d5] [(.ref a1), (.int v1)])) (fun t k => ?_) ?_
    · show Steps p.tables e below (T.setTop (mkF m 11 #[.val (.ref a1), .val (.int v1), d2, d3, d4, d5] [])) t
      refine XS.iloadN X.here hx rfl (hb hby dRawMessage_isPlain_11) rfl ?_
      show Steps p.tables e below (T.setTop (mkF m 12 #[.val (.ref a1), .val (.int v1), d2, d3, d4, d5] [(.int v1)])) t
      refine XS.aloadN X.here hx rfl (hb hby dRawMessage_isPlain_12) rfl rfl ?_
      exact k
    obtain ⟨T526, X526, e526, st526⟩ := getF X hx hZ hown (host := "") (Or.inl (w32 hw)) Via.refl eT F_a1_lines (g := (mkF m 13 #[.val (.ref a1), .val (.int v1), d2, d3, d4, d5] [(.ref a1), (.int v1)])) rfl rfl (hb hby dRawMessage_isPlain_13)
    refine own_Goes.via st526 ?_
    show own_Goes _ _ _ _ _ _ _ (T526.setTop (mkF m 16 #[.val (.ref a1), .val (.int v1), d2, d3, d4, d5] [(.int f_a1_lines), (.int v1)]))
    by_cases hc16 : v1 < f_a1_lines
    · rw [if_pos hc16] at hF
      refine own_Goes.via (B := T526.setTop (mkF m 20 #[.val (.ref a1), .val (.int v1), d2, d3, d4, d5] [(.ref a1)])) (fun t k => ?_) ?_
      · show Steps p.tables e below (T526.setTop (mkF m 16 #[.val (.ref a1), .val (.int v1), d2, d3, d4, d5] [(.int f_a1_lines), (.int v1)])) t
        refine XS.icmpNo X526.here hx rfl (hb hby dRawMessage_isPlain_16) rfl (tlt hc16).2.1 ?_
        show Steps p.tables e below (T526.setTop (mkF m 19 #[.val (.ref a1), .val (.int v1), d2, d3, d4, d5] [])) t
        refine XS.aloadN X526.here hx rfl (hb hby dRawMessage_isPlain_19) rfl rfl ?_
        exact k
      obtain ⟨T527, X527, e527, st527⟩ := getF X526 hx hZ hown (host := "") (Or.inl (w26 hw)) Via.refl e526 F_a1_lineStarts (g := (mkF m 20 #[.val (.ref a1), .val (.int v1), d2, d3, d4, d5] [(.ref a1)])) rfl rfl (hb hby dRawMessage_isPlain_20)
      refine own_Goes.via st527 ?_
      show own_Goes _ _ _ _ _ _ _ (T527.setTop (mkF m 23 #[.val (.ref a1), .val (.int v1), d2, d3, d4, d5] [(.ref a4)]))
      refine own_Goes.via (B := T527.setTop (mkF m 24 #[.val (.ref a1), .val (.int v1), d2, d3, d4, d5] [(.int v1), (.ref a4)])) (fun t k => ?_) ?_
      · show Steps p.tables e below (T527.setTop (mkF m 23 #[.val (.ref a1), .val (.int v1), d2, d3, d4, d5] [(.ref a4)])) t
        refine XS.iloadN X527.here hx rfl (hb hby dRawMessage_isPlain_23) rfl ?_
        exact k
      obtain ⟨hi24, hF⟩ := own_ck_e hF
      refine own_Goes.via (B := T527.setTop (mkF m 25 #[.val (.ref a1), .val (.int v1), d2, d3, d4, d5] [(.int (own_rd bs_a4 v1))])) (fun t k => ?_) ?_
      · show Steps p.tables e below (T527.setTop (mkF m 24 #[.val (.ref a1), .val (.int v1), d2, d3, d4, d5] [(.int v1), (.ref a4)])) t
        refine own_ldI X527 hx hZ e527 A_a4 hi24 rfl (g := (mkF m 24 #[.val (.ref a1), .val (.int v1), d2, d3, d4, d5] [(.int v1), (.ref a4)])) rfl rfl (hb hby dRawMessage_isPlain_24) ?_
        exact k
      obtain ⟨x528, hx528, hF⟩ := own_lt_e hF
      rw [← hx528]
      refine own_Goes.via (B := T527.setTop (mkF m 27 #[.val (.ref a1), .val (.int v1), .val (.int x528), d3, d4, d5] [(.ref a1)])) (fun t k => ?_) ?_
      · show Steps p.tables e below (T527.setTop (mkF m 25 #[.val (.ref a1), .val (.int v1), d2, d3, d4, d5] [(.int x528)])) t
        refine XS.istoreNS X527.here hx rfl (hb hby dRawMessage_isPlain_25) rfl rfl o_d2 ?_
        show Steps p.tables e below (T527.setTop (mkF m 26 #[.val (.ref a1), .val (.int v1), .val (.int x528), d3, d4, d5] [])) t
        refine XS.aloadN X527.here hx rfl (hb hby dRawMessage_isPlain_26) rfl rfl ?_
        exact k
      obtain ⟨T529, X529, e529, st529⟩ := getF X527 hx hZ hown (host := "") (Or.inl (w20 hw)) Via.refl e527 F_a1_bytes (g := (mkF m 27 #[.val (.ref a1), .val (.int v1), .val (.int x528), d3, d4, d5] [(.ref a1)])) rfl rfl (hb hby dRawMessage_isPlain_27)
      refine own_Goes.via st529 ?_
      show own_Goes _ _ _ _ _ _ _ (T529.setTop (mkF m 30 #[.val (.ref a1), .val (.int v1), .val (.int x528), d3, d4, d5] [(.ref a2)]))
      refine own_Goes.via (B := T529.setTop (mkF m 31 #[.val (.ref a1), .val (.int v1), .val (.int x528), d3, d4, d5] [(.ref a1), (.ref a2)])) (fun t k => ?_) ?_
      · show Steps p.tables e below (T529.setTop (mkF m 30 #[.val (.ref a1), .val (.int v1), .val (.int x528), d3, d4, d5] [(.ref a2)])) t
        refine XS.aloadN X529.here hx rfl (hb hby dRawMessage_isPlain_30) rfl rfl ?_
        exact k
      obtain ⟨T530, X530, e530, st530⟩ := getF X529 hx hZ hown (host := "") (Or.inl (w28 hw)) Via.refl e529 F_a1_lineEnds (g := (mkF m 31 #[.val (.ref a1), .val (.int v1), .val (.int x528), d3, d4, d5] [(.ref a1), (.ref a2)])) rfl rfl (hb hby dRawMessage_isPlain_31)
      refine own_Goes.via st530 ?_
      show own_Goes _ _ _ _ _ _ _ (T530.setTop (mkF m 34 #[.val (.ref a1), .val (.int v1), .val (.int x528), d3, d4, d5] [(.ref a3), (.ref a2)]))
      refine own_Goes.via (B := T530.setTop (mkF m 35 #[.val (.ref a1), .val (.int v1), .val (.int x528), d3, d4, d5] [(.int v1), (.ref a3), (.ref a2)])) (fun t k => ?_) ?_
      · show Steps p.tables e below (T530.setTop (mkF m 34 #[.val (.ref a1), .val (.int v1), .val (.int x528), d3, d4, d5] [(.ref a3), (.ref a2)])) t
        refine XS.iloadN X530.here hx rfl (hb hby dRawMessage_isPlain_34) rfl ?_
        exact k
      obtain ⟨hi35, hF⟩ := own_ck_e hF
      refine own_Goes.via (B := T530.setTop (mkF m 38 #[.val (.ref a1), .val (.int v1), .val (.int x528), d3, d4, d5] [(.int ((own_rd bs_a3 v1) - (1 : Int32))), (.ref a2)])) (fun t k => ?_) ?_
      · show Steps p.tables e below (T530.setTop (mkF m 35 #[.val (.ref a1), .val (.int v1), .val (.int x528), d3, d4, d5] [(.int v1), (.ref a3), (.ref a2)])) t
        refine own_ldI X530 hx hZ e530 A_a3 hi35 rfl (g := (mkF m 35 #[.val (.ref a1), .val (.int v1), .val (.int x528), d3, d4, d5] [(.int v1), (.ref a3), (.ref a2)])) rfl rfl (hb hby dRawMessage_isPlain_35) ?_
        show Steps p.tables e below (T530.setTop (mkF m 36 #[.val (.ref a1), .val (.int v1), .val (.int x528), d3, d4, d5] [(.int (own_rd bs_a3 v1)), (.ref a2)])) t
        refine XS.iconst X530.here hx rfl (hb hby dRawMessage_isPlain_36) ?_
        show Steps p.tables e below (T530.setTop (mkF m 37 #[.val (.ref a1), .val (.int v1), .val (.int x528), d3, d4, d5] [(.int (1 : Int32)), (.int (own_rd bs_a3 v1)), (.ref a2)])) t
        refine XS.isub X530.here hx rfl (hb hby dRawMessage_isPlain_37) rfl ?_
        exact k
      obtain ⟨x531, hx531, hF⟩ := own_lt_e hF
      rw [← hx531]
      obtain ⟨hi38, hF⟩ := own_ck_e hF
      refine own_Goes.via (B := T530.setTop (mkF m 41 #[.val (.ref a1), .val (.int v1), .val (.int x528), d3, d4, d5] [(.int (13 : Int32)), (.int (own_rd bs_a2 x531))])) (fun t k => ?_) ?_
      · show Steps p.tables e below (T530.setTop (mkF m 38 #[.val (.ref a1), .val (.int v1), .val (.int x528), d3, d4, d5] [(.int x531), (.ref a2)])) t
        refine own_ldB X530 hx hZ e530 A_a2 hi38 rfl (g := (mkF m 38 #[.val (.ref a1), .val (.int v1), .val (.int x528), d3, d4, d5] [(.int x531), (.ref a2)])) rfl rfl (hb hby dRawMessage_isPlain_38) ?_
        show Steps p.tables e below (T530.setTop (mkF m 39 #[.val (.ref a1), .val (.int v1), .val (.int x528), d3, d4, d5] [(.int (own_rd bs_a2 x531))])) t
        refine XS.bipush X530.here hx rfl (hb hby dRawMessage_isPlain_39) ?_
        exact k
      by_cases hc41 : (own_rd bs_a2 x531) = (13 : Int32)
      · rw [if_pos hc41] at hF
        refine own_Goes.via (B := T530.setTop (mkF m 45 #[.val (.ref a1), .val (.int v1), .val (.int x528), d3, d4, d5] [(.ref a1)])) (fun t k => ?_) ?_
        · show Steps p.tables e below (T530.setTop (mkF m 41 #[.val (.ref a1), .val (.int v1), .val (.int x528), d3, d4, d5] [(.int (13 : Int32)), (.int (own_rd bs_a2 x531))])) t
          refine XS.icmpNo X530.here hx rfl (hb hby dRawMessage_isPlain_41) rfl (teq hc41).2 ?_
          show Steps p.tables e below (T530.setTop (mkF m 44 #[.val (.ref a1), .val (.int v1), .val (.int x528), d3, d4, d5] [])) t
          refine XS.aloadN X530.here hx rfl (hb hby dRawMessage_isPlain_44) rfl rfl ?_
          exact k
        obtain ⟨T532, X532, e532, st532⟩ := getF X530 hx hZ hown (host := "") (Or.inl (w28 hw)) Via.refl e530 F_a1_lineEnds (g := (mkF m 45 #[.val (.ref a1), .val (.int v1), .val (.int x528), d3, d4, d5] [(.ref a1)])) rfl rfl (hb hby dRawMessage_isPlain_45)
        refine own_Goes.via st532 ?_
        show own_Goes _ _ _ _ _ _ _ (T532.setTop (mkF m 48 #[.val (.ref a1), .val (.int v1), .val (.int x528), d3, d4, d5] [(.ref a3)]))
        refine own_Goes.via (B := T532.setTop (mkF m 49 #[.val (.ref a1), .val (.int v1), .val (.int x528), d3, d4, d5] [(.int v1), (.ref a3)])) (fun t k => ?_) ?_
        · show Steps p.tables e below (T532.setTop (mkF m 48 #[.val (.ref a1), .val (.int v1), .val (.int x528), d3, d4, d5] [(.ref a3)])) t
          refine XS.iloadN X532.here hx rfl (hb hby dRawMessage_isPlain_48) rfl ?_
          exact k
        obtain ⟨hi49, hF⟩ := own_ck_e hF
        refine own_Goes.via (B := T532.setTop (mkF m 61 #[.val (.ref a1), .val (.int v1), .val (.int x528), d3, d4, d5] [(.int ((own_rd bs_a3 v1) - (1 : Int32)))])) (fun t k => ?_) ?_
        · show Steps p.tables e below (T532.setTop (mkF m 49 #[.val (.ref a1), .val (.int v1), .val (.int x528), d3, d4, d5] [(.int v1), (.ref a3)])) t
          refine own_ldI X532 hx hZ e532 A_a3 hi49 rfl (g := (mkF m 49 #[.val (.ref a1), .val (.int v1), .val (.int x528), d3, d4, d5] [(.int v1), (.ref a3)])) rfl rfl (hb hby dRawMessage_isPlain_49) ?_
          show Steps p.tables e below (T532.setTop (mkF m 50 #[.val (.ref a1), .val (.int v1), .val (.int x528), d3, d4, d5] [(.int (own_rd bs_a3 v1))])) t
          refine XS.iconst X532.here hx rfl (hb hby dRawMessage_isPlain_50) ?_
          show Steps p.tables e below (T532.setTop (mkF m 51 #[.val (.ref a1), .val (.int v1), .val (.int x528), d3, d4, d5] [(.int (1 : Int32)), (.int (own_rd bs_a3 v1))])) t
          refine XS.isub X532.here hx rfl (hb hby dRawMessage_isPlain_51) rfl ?_
          show Steps p.tables e below (T532.setTop (mkF m 52 #[.val (.ref a1), .val (.int v1), .val (.int x528), d3, d4, d5] [(.int ((own_rd bs_a3 v1) - (1 : Int32)))])) t
          refine XS.goto X532.here hx rfl (pc0 := 52) (pc' := 61) rfl (hb hby dRawMessage_isPlain_52) (by decide) (by decide) ?_
          exact k
        exact b_RawMessage_isPlain_61 cx a1 a2 a3 a4 a5 (k11 := (f_RawMessage_isPlain_11 n)) (ih) X532 e532 N z v1 x528 ((own_rd bs_a3 v1) - (1 : Int32)) f_a1_bodyStart f_a1_lines bs_a2 bs_a3 bs_a4 bs_a5 d3 d4 d5 o_d3 o_d4 o_d5 E_a1 F_a1_bodyStart F_a1_bytes F_a1_lineEnds F_a1_lineStarts F_a1_lines F_a1_wordLengths g_a1 A_a2 g_a2 A_a3 g_a3 A_a4 g_a4 A_a5 g_a5 ne_a1_a2 ne_a1_a3 ne_a2_a3 ne_a1_a4 ne_a2_a4 ne_a3_a4 ne_a1_a5 ne_a2_a5 ne_a3_a5 ne_a4_a5 _ hF
      · rw [if_neg hc41] at hF
        refine own_Goes.via (B := T530.setTop (mkF m 56 #[.val (.ref a1), .val (.int v1), .val (.int x528), d3, d4, d5] [(.ref a1)])) (fun t k => ?_) ?_
        · show Steps p.tables e below (T530.setTop (mkF m 41 #[.val (.ref a1), .val (.int v1), .val (.int x528), d3, d4, d5] [(.int (13 : Int32)), (.int (own_rd bs_a2 x531))])) t
          refine XS.icmpYes X530.here hx rfl (pc0 := 41) (pc' := 55) rfl (hb hby dRawMessage_isPlain_41) rfl (feq hc41).2 (by decide) (by decide) ?_
          show Steps p.tables e below (T530.setTop (mkF m 55 #[.val (.ref a1), .val (.int v1), .val (.int x528), d3, d4, d5] [])) t
          refine XS.aloadN X530.here hx rfl (hb hby dRawMessage_isPlain_55) rfl rfl ?_
          exact k
        obtain ⟨T533, X533, e533, st533⟩ := getF X530 hx hZ hown (host := "") (Or.inl (w28 hw)) Via.refl e530 F_a1_lineEnds (g := (mkF m 56 #[.val (.ref a1), .val (.int v1), .val (.int x528), d3, d4, d5] [(.ref a1)])) rfl rfl (hb hby dRawMessage_isPlain_56)
        refine own_Goes.via st533 ?_
        show own_Goes _ _ _ _ _ _ _ (T533.setTop (mkF m 59 #[.val (.ref a1), .val (.int v1), .val (.int x528), d3, d4, d5] [(.ref a3)]))
        refine own_Goes.via (B := T533.setTop (mkF m 60 #[.val (.ref a1), .val (.int v1), .val (.int x528), d3, d4, d5] [(.int v1), (.ref a3)])) (fun t k => ?_) ?_
        · show Steps p.tables e below (T533.setTop (mkF m 59 #[.val (.ref a1), .val (.int v1), .val (.int x528), d3, d4, d5] [(.ref a3)])) t
          refine XS.iloadN X533.here hx rfl (hb hby dRawMessage_isPlain_59) rfl ?_
          exact k
        obtain ⟨hi60, hF⟩ := own_ck_e hF
        refine own_Goes.via (B := T533.setTop (mkF m 61 #[.val (.ref a1), .val (.int v1), .val (.int x528), d3, d4, d5] [(.int (own_rd bs_a3 v1))])) (fun t k => ?_) ?_
        · show Steps p.tables e below (T533.setTop (mkF m 60 #[.val (.ref a1), .val (.int v1), .val (.int x528), d3, d4, d5] [(.int v1), (.ref a3)])) t
          refine own_ldI X533 hx hZ e533 A_a3 hi60 rfl (g := (mkF m 60 #[.val (.ref a1), .val (.int v1), .val (.int x528), d3, d4, d5] [(.int v1), (.ref a3)])) rfl rfl (hb hby dRawMessage_isPlain_60) ?_
          exact k
        exact b_RawMessage_isPlain_61 cx a1 a2 a3 a4 a5 (k11 := (f_RawMessage_isPlain_11 n)) (ih) X533 e533 N z v1 x528 (own_rd bs_a3 v1) f_a1_bodyStart f_a1_lines bs_a2 bs_a3 bs_a4 bs_a5 d3 d4 d5 o_d3 o_d4 o_d5 E_a1 F_a1_bodyStart F_a1_bytes F_a1_lineEnds F_a1_lineStarts F_a1_lines F_a1_wordLengths g_a1 A_a2 g_a2 A_a3 g_a3 A_a4 g_a4 A_a5 g_a5 ne_a1_a2 ne_a1_a3 ne_a2_a3 ne_a1_a4 ne_a2_a4 ne_a3_a4 ne_a1_a5 ne_a2_a5 ne_a3_a5 ne_a4_a5 _ hF
    · rw [if_neg hc16] at hF
      refine own_Goes.via (B := T526.setTop (mkF m 180 #[.val (.ref a1), .val (.int v1), d2, d3, d4, d5] [(.int (1 : Int32))])) (fun t k => ?_) ?_
      · show Steps p.tables e below (T526.setTop (mkF m 16 #[.val (.ref a1), .val (.int v1), d2, d3, d4, d5] [(.int f_a1_lines), (.int v1)])) t
        refine XS.icmpYes X526.here hx rfl (pc0 := 16) (pc' := 179) rfl (hb hby dRawMessage_isPlain_16) rfl (flt hc16).2.1 (by decide) (by decide) ?_
        show Steps p.tables e below (T526.setTop (mkF m 179 #[.val (.ref a1), .val (.int v1), d2, d3, d4, d5] [])) t
        refine XS.iconst X526.here hx rfl (hb hby dRawMessage_isPlain_179) ?_
        exact k
      obtain rfl : (1 : Int32) = r := Option.some.inj hF
      exact own_retN X526 hx (t := .boolean) hret hlk (by simp) (hb hby dRawMessage_isPlain_180) e526 (v := (1 : Int32)) (by decide) ⟨rfl, N, rfl⟩ (by decide) (by decide)
set_option maxRecDepth 65536 in
set_option maxHeartbeats 4000000 in
theorem b_RawMessage_isPlain {p : Program} {l : Launch} {e : Env} {s : State} {m : MethodId} {args : Array Value} {below : List Frame} {meth : Method} {c : Code} {Z : State} {a0 : Array Value} {n0 : Nat} {hE : Heap} (cx : Cx_RawMessage_isPlain p s m meth c Z a0) (a1 : Addr) (a2 : Addr) (a3 : Addr) (a4 : Addr) (a5 : Addr) :
    ∀ {T : State} {locs : List Loc} (X : Stand p l e ({ frames := 1, cells := 0, slots := 0, locals := 15 } : Room) s m args below meth c T locs 0 0) (eT : T.heap = hE) (N : Fr n0 locs) (z : n0 ≤ hE.size) (f_a1_bodyStart : Int32) (f_a1_lines : Int32) (bs_a2 : List Int32) (bs_a3 : List Int32) (bs_a4 : List Int32) (bs_a5 : List Int32) (E_a1 : Exa Z hE a1 "com/example/oxpecker/oxpecker/sip/RawMessage") (F_a1_bodyStart : Fld Z hE a1 "com/example/oxpecker/oxpecker/sip/RawMessage" "bodyStart" "I" (.int f_a1_bodyStart)) (F_a1_bytes : Fld Z hE a1 "com/example/oxpecker/oxpecker/sip/RawMessage" "bytes" "[B" (.ref a2)) (F_a1_lineEnds : Fld Z hE a1 "com/example/oxpecker/oxpecker/sip/RawMessage" "lineEnds" "[I" (.ref a3)) (F_a1_lineStarts : Fld Z hE a1 "com/example/oxpecker/oxpecker/sip/RawMessage" "lineStarts" "[I" (.ref a4)) (F_a1_lines : Fld Z hE a1 "com/example/oxpecker/oxpecker/sip/RawMessage" "lines" "I" (.int f_a1_lines)) (F_a1_wordLengths : Fld Z hE a1 "com/example/oxpecker/oxpecker/sip/RawMessage" "wordLengths" "[I" (.ref a5)) (g_a1 : n0 ≤ a1) (A_a2 : own_Ar Z hE a2 .byte (bs_a2.map Value.int)) (g_a2 : n0 ≤ a2) (A_a3 : own_Ar Z hE a3 .int (bs_a3.map Value.int)) (g_a3 : n0 ≤ a3) (A_a4 : own_Ar Z hE a4 .int (bs_a4.map Value.int)) (g_a4 : n0 ≤ a4) (A_a5 : own_Ar Z hE a5 .int (bs_a5.map Value.int)) (g_a5 : n0 ≤ a5) (ne_a1_a2 : a1 ≠ a2) (ne_a1_a3 : a1 ≠ a3) (ne_a2_a3 : a2 ≠ a3) (ne_a1_a4 : a1 ≠ a4) (ne_a2_a4 : a2 ≠ a4) (ne_a3_a4 : a3 ≠ a4) (ne_a1_a5 : a1 ≠ a5) (ne_a2_a5 : a2 ≠ a5) (ne_a3_a5 : a3 ≠ a5) (ne_a4_a5 : a4 ≠ a5) (r : Int32), f_RawMessage_isPlain f_a1_bodyStart f_a1_lines bs_a2 bs_a3 bs_a4 bs_a5 = some r → own_Goes p e below s (Q_RawMessage_isPlain Z hE n0 a1 a2 a3 a4 a5 r) 0 0 (T.setTop (mkF m 0 #[.val (.ref a1), .unset, .unset, .unset, .unset, .unset] [])) := by
  have cx' := cx
  obtain ⟨hx, hZ, hw, hby, hml, hown, hret, hlk, hnm⟩ := cx'
  intro T locs X eT N z f_a1_bodyStart f_a1_lines bs_a2 bs_a3 bs_a4 bs_a5 E_a1 F_a1_bodyStart F_a1_bytes F_a1_lineEnds F_a1_lineStarts F_a1_lines F_a1_wordLengths g_a1 A_a2 g_a2 A_a3 g_a3 A_a4 g_a4 A_a5 g_a5 ne_a1_a2 ne_a1_a3 ne_a2_a3 ne_a1_a4 ne_a2_a4 ne_a3_a4 ne_a1_a5 ne_a2_a5 ne_a3_a5 ne_a4_a5 r hF
  unfold f_RawMessage_isPlain at hF
  refine own_Goes.via (B := T.setTop (mkF m 1 #[.val (.ref a1), .unset, .unset, .unset, .unset, .unset] [(.ref a1)])) (fun t k => ?_) ?_
  · show Steps p.tables e below (T.setTop (mkF m 0 #[.val (.ref a1), .unset, .unset, .unset, .unset, .unset] [])) t
    refine XS.aloadN X.here hx rfl (hb hby dRawMessage_isPlain_0) rfl rfl ?_
    exact k
  obtain ⟨T534, X534, e534, st534⟩ := getF X hx hZ hown (host := "") (Or.inl (w34 hw)) Via.refl eT F_a1_bodyStart (g := (mkF m 1 #[.val (.ref a1), .unset, .unset, .unset, .unset, .unset] [(.ref a1)])) rfl rfl (hb hby dRawMessage_isPlain_1)
  refine own_Goes.via st534 ?_
  show own_Goes _ _ _ _ _ _ _ (T534.setTop (mkF m 4 #[.val (.ref a1), .unset, .unset, .unset, .unset, .unset] [(.int f_a1_bodyStart)]))
  by_cases hc4 : f_a1_bodyStart < (0 : Int32)
  · rw [if_pos hc4] at hF
    refine own_Goes.via (B := T534.setTop (mkF m 8 #[.val (.ref a1), .unset, .unset, .unset, .unset, .unset] [(.int (0 : Int32))])) (fun t k => ?_) ?_
    · show Steps p.tables e below (T534.setTop (mkF m 4 #[.val (.ref a1), .unset, .unset, .unset, .unset, .unset] [(.int f_a1_bodyStart)])) t
      refine XS.ifNo X534.here hx rfl (hb hby dRawMessage_isPlain_4) rfl ((if0 _ _).trans (tlt hc4).2.1) ?_
      show Steps p.tables e below (T534.setTop (mkF m 7 #[.val (.ref a1), .unset, .unset, .unset, .unset, .unset] [])) t
      refine XS.iconst X534.here hx rfl (hb hby dRawMessage_isPlain_7) ?_
      exact k
    obtain rfl : (0 : Int32) = r := Option.some.inj hF
    exact own_retN X534 hx (t := .boolean) hret hlk (by simp) (hb hby dRawMessage_isPlain_8) e534 (v := (0 : Int32)) (by decide) ⟨rfl, N, rfl⟩ (by decide) (by decide)
  · rw [if_neg hc4] at hF
    refine own_Goes.via (B := T534.setTop (mkF m 11 #[.val (.ref a1), .val (.int (0 : Int32)), .unset, .unset, .unset, .unset] [])) (fun t k => ?_) ?_
    · show Steps p.tables e below (T534.setTop (mkF m 4 #[.val (.ref a1), .unset, .unset, .unset, .unset, .unset] [(.int f_a1_bodyStart)])) t
      refine XS.ifYes X534.here hx rfl (pc0 := 4) (pc' := 9) rfl (hb hby dRawMessage_isPlain_4) rfl ((if0 _ _).trans (flt hc4).2.1) (by decide) (by decide) ?_
      show Steps p.tables e below (T534.setTop (mkF m 9 #[.val (.ref a1), .unset, .unset, .unset, .unset, .unset] [])) t
      refine XS.iconst X534.here hx rfl (hb hby dRawMessage_isPlain_9) ?_
      show Steps p.tables e below (T534.setTop (mkF m 10 #[.val (.ref a1), .unset, .unset, .unset, .unset, .unset] [(.int (0 : Int32))])) t
      refine XS.istoreN X534.here hx rfl (hb hby dRawMessage_isPlain_10) rfl (l' := #[.val (.ref a1), .val (.int (0 : Int32)), .unset, .unset, .unset, .unset]) rfl ?_
      exact k
    exact b_RawMessage_isPlain_11 cx a1 a2 a3 a4 a5 _ X534 e534 N z (0 : Int32) f_a1_bodyStart f_a1_lines bs_a2 bs_a3 bs_a4 bs_a5 (.unset) (.unset) (.unset) (.unset) One.u One.u One.u One.u E_a1 F_a1_bodyStart F_a1_bytes F_a1_lineEnds F_a1_lineStarts F_a1_lines F_a1_wordLengths g_a1 A_a2 g_a2 A_a3 g_a3 A_a4 g_a4 A_a5 g_a5 ne_a1_a2 ne_a1_a3 ne_a2_a3 ne_a1_a4 ne_a2_a4 ne_a3_a4 ne_a1_a5 ne_a2_a5 ne_a3_a5 ne_a4_a5 _ hF
theorem ef_RawMessage_isPlain (m : MethodId) (x0 : Addr) : entryFrame m #[(.ref x0)] 6 = mkF m 0 #[.val (.ref x0), .unset, .unset, .unset, .unset, .unset] [] := by first | (simp [entryFrame, mkF, argsToLocals, Value.category]; done) | rfl
set_option maxRecDepth 65536 in
set_option maxHeartbeats 4000000 in
theorem rm_RawMessage_isPlain (l : Launch) (Z : State) (a0 : Array Value) (hw : ∀ d ∈ tables_1, d.before a0 Z = true) (ws : List Jvm.Cond) (hE : Heap) (n0 : Nat) (z : n0 ≤ hE.size) (a1 : Addr) (a2 : Addr) (a3 : Addr) (a4 : Addr) (a5 : Addr) (f_a1_bodyStart : Int32) (f_a1_lines : Int32) (bs_a2 : List Int32) (bs_a3 : List Int32) (bs_a4 : List Int32) (bs_a5 : List Int32) (E_a1 : Exa Z hE a1 "com/example/oxpecker/oxpecker/sip/RawMessage") (F_a1_bodyStart : Fld Z hE a1 "com/example/oxpecker/oxpecker/sip/RawMessage" "bodyStart" "I" (.int f_a1_bodyStart)) (F_a1_bytes : Fld Z hE a1 "com/example/oxpecker/oxpecker/sip/RawMessage" "bytes" "[B" (.ref a2)) (F_a1_lineEnds : Fld Z hE a1 "com/example/oxpecker/oxpecker/sip/RawMessage" "lineEnds" "[I" (.ref a3)) (F_a1_lineStarts : Fld Z hE a1 "com/example/oxpecker/oxpecker/sip/RawMessage" "lineStarts" "[I" (.ref a4)) (F_a1_lines : Fld Z hE a1 "com/example/oxpecker/oxpecker/sip/RawMessage" "lines" "I" (.int f_a1_lines)) (F_a1_wordLengths : Fld Z hE a1 "com/example/oxpecker/oxpecker/sip/RawMessage" "wordLengths" "[I" (.ref a5)) (g_a1 : n0 ≤ a1) (A_a2 : own_Ar Z hE a2 .byte (bs_a2.map Value.int)) (g_a2 : n0 ≤ a2) (A_a3 : own_Ar Z hE a3 .int (bs_a3.map Value.int)) (g_a3 : n0 ≤ a3) (A_a4 : own_Ar Z hE a4 .int (bs_a4.map Value.int)) (g_a4 : n0 ≤ a4) (A_a5 : own_Ar Z hE a5 .int (bs_a5.map Value.int)) (g_a5 : n0 ≤ a5) (ne_a1_a2 : a1 ≠ a2) (ne_a1_a3 : a1 ≠ a3) (ne_a2_a3 : a2 ≠ a3) (ne_a1_a4 : a1 ≠ a4) (ne_a2_a4 : a2 ≠ a4) (ne_a3_a4 : a3 ≠ a4) (ne_a1_a5 : a1 ≠ a5) (ne_a2_a5 : a2 ≠ a5) (ne_a3_a5 : a3 ≠ a5) (ne_a4_a5 : a4 ≠ a5) (r : Int32) (hF : (f_RawMessage_isPlain f_a1_bodyStart f_a1_lines bs_a2 bs_a3 bs_a4 bs_a5) = some r) :
    MetFree l (⟨"com/example/oxpecker/oxpecker/sip/RawMessage", "isPlain", "()Z"⟩ : MethodName) (head1 (Jvm.Cond.code (⟨"com/example/oxpecker/oxpecker/sip/RawMessage", "isPlain", "()Z"⟩ : MethodName) prog_12_method_4_code 6 (some .boolean) :: ws) ({ frames := 1, cells := 0, slots := 0, locals := 15 } : Room)) (fun a U => a = #[(.ref a1)] ∧ Z.Warmed39 U.vm ∧ U.heap = hE) (fun _ _ _ _ _ => True) (fun _ U o U' => ∃ v L, o = .returned v ∧ (Q_RawMessage_isPlain Z hE n0 a1 a2 a3 a4 a5 r) v U'.heap L ∧ FrameEnd U o U' L ({ frames := 1, cells := 0, slots := 0, locals := 15 } : Room).cells ({ frames := 1, cells := 0, slots := 0, locals := 15 } : Room).slots) := by
  refine MetFree.of_bodySF (plainFor_of_name pn_com_example_oxpecker_oxpecker_sip_RawMessage) hisR ?_
  intro p e s m args below meth c s₁ Bd hml0 hP hK
  obtain ⟨rfl, hZ, hh⟩ := hP
  have X0 : Stand p l e ({ frames := 1, cells := 0, slots := 0, locals := 15 } : Room) s m #[(.ref a1)] below meth c s₁ [] 0 0 := Stand.of_body Bd
  have e0 : s₁.heap = hE := by rw [← hh, Bd.state]; rfl
  have cx : Cx_RawMessage_isPlain p s m meth c Z a0 := ⟨Bd.exec, hZ, hw, Bd.bytes, hml0, findClass_of_methodNamed Bd.named, Bd.returns, Bd.notSynchronized, (name_of_methodNamed Bd.named Bd.method).1⟩
  show own_Goes p e below s (Q_RawMessage_isPlain Z hE n0 a1 a2 a3 a4 a5 r) ({ frames := 1, cells := 0, slots := 0, locals := 15 } : Room).cells ({ frames := 1, cells := 0, slots := 0, locals := 15 } : Room).slots (s₁.setTop (entryFrame m #[(.ref a1)] 6))
  rw [ef_RawMessage_isPlain]
  exact b_RawMessage_isPlain cx a1 a2 a3 a4 a5 X0 e0 (Fr.nil n0) z f_a1_bodyStart f_a1_lines bs_a2 bs_a3 bs_a4 bs_a5 E_a1 F_a1_bodyStart F_a1_bytes F_a1_lineEnds F_a1_lineStarts F_a1_lines F_a1_wordLengths g_a1 A_a2 g_a2 A_a3 g_a3 A_a4 g_a4 A_a5 g_a5 ne_a1_a2 ne_a1_a3 ne_a2_a3 ne_a1_a4 ne_a2_a4 ne_a3_a4 ne_a1_a5 ne_a2_a5 ne_a3_a5 ne_a4_a5 _ hF
/-! com/example/oxpecker/oxpecker/sip/RawMessageIsPlainPinLaw.law:(JI)Z -/
def f_law_277 (t0 : Int32) (bs_b1 : List Int32) : Option (Int32) :=
  own_bd (f_RawMessage_mk (0 : Int32) (0 : Int32) bs_b1) fun r671 =>
  own_bd (f_RawMessage_isPlain r671.1 r671.2.1 bs_b1 r671.2.2.1 r671.2.2.2.1 r671.2.2.2.2) fun r672 =>
  if r672 = t0 then
    some (1 : Int32)
  else
    some (0 : Int32)
def f_law_256 (bs_b1 : List Int32) (bs_b2 : List Int32) : Option (Int32) :=
  own_ck (own_inb bs_b2 (0 : Int32)) <|
  if (own_rd bs_b2 (0 : Int32)) = (1 : Int32) then
    own_ck (own_inb bs_b2 (1 : Int32)) <|
    if (own_rd bs_b2 (1 : Int32)) = (1 : Int32) then
      (f_law_277 (1 : Int32) bs_b1)
    else
      (f_law_277 (0 : Int32) bs_b1)
  else
    (f_law_277 (0 : Int32) bs_b1)
def f_law_224 (v3 : Int32) (bs_b1 : List Int32) (bs_b2 : List Int32) : Option (Int32) :=
  if (6 : Int32) < v3 then
    own_ck (own_inb bs_b1 (6 : Int32)) <|
    own_lt (own_rd bs_b1 (6 : Int32)) fun x675 =>
    own_bd (f_RawMessageIsPlainPinLaw_step x675 bs_b2) fun r676 =>
    if (7 : Int32) < v3 then
      own_ck (own_inb bs_b1 (7 : Int32)) <|
      own_lt (own_rd bs_b1 (7 : Int32)) fun x677 =>
      own_bd (f_RawMessageIsPlainPinLaw_step x677 r676) fun r678 =>
      (f_law_256 bs_b1 r678)
    else
      (f_law_256 bs_b1 r676)
  else
    if (7 : Int32) < v3 then
      own_ck (own_inb bs_b1 (7 : Int32)) <|
      own_lt (own_rd bs_b1 (7 : Int32)) fun x679 =>
      own_bd (f_RawMessageIsPlainPinLaw_step x679 bs_b2) fun r680 =>
      (f_law_256 bs_b1 r680)
    else
      (f_law_256 bs_b1 bs_b2)
def f_law_196 (v3 : Int32) (bs_b1 : List Int32) (bs_b2 : List Int32) : Option (Int32) :=
  if (4 : Int32) < v3 then
    own_ck (own_inb bs_b1 (4 : Int32)) <|
    own_lt (own_rd bs_b1 (4 : Int32)) fun x683 =>
    own_bd (f_RawMessageIsPlainPinLaw_step x683 bs_b2) fun r684 =>
    if (5 : Int32) < v3 then
      own_ck (own_inb bs_b1 (5 : Int32)) <|
      own_lt (own_rd bs_b1 (5 : Int32)) fun x685 =>
      own_bd (f_RawMessageIsPlainPinLaw_step x685 r684) fun r686 =>
      (f_law_224 v3 bs_b1 r686)
    else
      (f_law_224 v3 bs_b1 r684)
  else
    if (5 : Int32) < v3 then
      own_ck (own_inb bs_b1 (5 : Int32)) <|
      own_lt (own_rd bs_b1 (5 : Int32)) fun x687 =>
      own_bd (f_RawMessageIsPlainPinLaw_step x687 bs_b2) fun r688 =>
      (f_law_224 v3 bs_b1 r688)
    else
      (f_law_224 v3 bs_b1 bs_b2)
def f_law_168 (v3 : Int32) (bs_b1 : List Int32) (bs_b2 : List Int32) : Option (Int32) :=
  if (2 : Int32) < v3 then
    own_ck (own_inb bs_b1 (2 : Int32)) <|
    own_lt (own_rd bs_b1 (2 : Int32)) fun x691 =>
    own_bd (f_RawMessageIsPlainPinLaw_step x691 bs_b2) fun r692 =>
    if (3 : Int32) < v3 then
      own_ck (own_inb bs_b1 (3 : Int32)) <|
      own_lt (own_rd bs_b1 (3 : Int32)) fun x693 =>
      own_bd (f_RawMessageIsPlainPinLaw_step x693 r692) fun r694 =>
      (f_law_196 v3 bs_b1 r694)
    else
      (f_law_196 v3 bs_b1 r692)
  else
    if (3 : Int32) < v3 then
      own_ck (own_inb bs_b1 (3 : Int32)) <|
      own_lt (own_rd bs_b1 (3 : Int32)) fun x695 =>
      own_bd (f_RawMessageIsPlainPinLaw_step x695 bs_b2) fun r696 =>
      (f_law_196 v3 bs_b1 r696)
    else
      (f_law_196 v3 bs_b1 bs_b2)
def f_law_130 (v3 : Int32) (bs_b1 : List Int32) : Option (Int32) :=
  if (0 : Int32) < v3 then
    own_ck (own_inb bs_b1 (0 : Int32)) <|
    own_lt (own_rd bs_b1 (0 : Int32)) fun x701 =>
    own_bd (f_RawMessageIsPlainPinLaw_step x701 ([(0 : Int32), (0 : Int32), (1 : Int32), (0 : Int32), (0 : Int32), (0 : Int32), (0 : Int32), (0 : Int32), (0 : Int32), (0 : Int32)] : List Int32)) fun r702 =>
    if (1 : Int32) < v3 then
      own_ck (own_inb bs_b1 (1 : Int32)) <|
      own_lt (own_rd bs_b1 (1 : Int32)) fun x703 =>
      own_bd (f_RawMessageIsPlainPinLaw_step x703 r702) fun r704 =>
      (f_law_168 v3 bs_b1 r704)
    else
      (f_law_168 v3 bs_b1 r702)
  else
    if (1 : Int32) < v3 then
      own_ck (own_inb bs_b1 (1 : Int32)) <|
      own_lt (own_rd bs_b1 (1 : Int32)) fun x705 =>
      own_bd (f_RawMessageIsPlainPinLaw_step x705 ([(0 : Int32), (0 : Int32), (1 : Int32), (0 : Int32), (0 : Int32), (0 : Int32), (0 : Int32), (0 : Int32), (0 : Int32), (0 : Int32)] : List Int32)) fun r706 =>
      (f_law_168 v3 bs_b1 r706)
    else
      (f_law_168 v3 bs_b1 ([(0 : Int32), (0 : Int32), (1 : Int32), (0 : Int32), (0 : Int32), (0 : Int32), (0 : Int32), (0 : Int32), (0 : Int32), (0 : Int32)] : List Int32))
def f_law_96 (v0 : Int64) (v3 : Int32) (bs_b1 : List Int32) : Option (Int32) :=
  if (6 : Int32) < v3 then
    own_bd (f_RawMessageIsPlainPinLaw_pick v0 (6 : Int32)) fun r710 =>
    own_ck (own_inb bs_b1 (6 : Int32)) <|
    own_lt (own_wr bs_b1 (6 : Int32) (r710.toInt8.toInt32)) fun bs712 =>
    if (7 : Int32) < v3 then
      own_bd (f_RawMessageIsPlainPinLaw_pick v0 (7 : Int32)) fun r713 =>
      own_ck (own_inb bs712 (7 : Int32)) <|
      own_lt (own_wr bs712 (7 : Int32) (r713.toInt8.toInt32)) fun bs715 =>
      (f_law_130 v3 bs715)
    else
      (f_law_130 v3 bs712)
  else
    if (7 : Int32) < v3 then
      own_bd (f_RawMessageIsPlainPinLaw_pick v0 (7 : Int32)) fun r716 =>
      own_ck (own_inb bs_b1 (7 : Int32)) <|
      own_lt (own_wr bs_b1 (7 : Int32) (r716.toInt8.toInt32)) fun bs718 =>
      (f_law_130 v3 bs718)
    else
      (f_law_130 v3 bs_b1)
def f_law_68 (v0 : Int64) (v3 : Int32) (bs_b1 : List Int32) : Option (Int32) :=
  if (4 : Int32) < v3 then
    own_bd (f_RawMessageIsPlainPinLaw_pick v0 (4 : Int32)) fun r722 =>
    own_ck (own_inb bs_b1 (4 : Int32)) <|
    own_lt (own_wr bs_b1 (4 : Int32) (r722.toInt8.toInt32)) fun bs724 =>
    if (5 : Int32) < v3 then
      own_bd (f_RawMessageIsPlainPinLaw_pick v0 (5 : Int32)) fun r725 =>
      own_ck (own_inb bs724 (5 : Int32)) <|
      own_lt (own_wr bs724 (5 : Int32) (r725.toInt8.toInt32)) fun bs727 =>
      (f_law_96 v0 v3 bs727)
    else
      (f_law_96 v0 v3 bs724)
  else
    if (5 : Int32) < v3 then
      own_bd (f_RawMessageIsPlainPinLaw_pick v0 (5 : Int32)) fun r728 =>
      own_ck (own_inb bs_b1 (5 : Int32)) <|
      own_lt (own_wr bs_b1 (5 : Int32) (r728.toInt8.toInt32)) fun bs730 =>
      (f_law_96 v0 v3 bs730)
    else
      (f_law_96 v0 v3 bs_b1)
def f_law_40 (v0 : Int64) (v3 : Int32) (bs_b1 : List Int32) : Option (Int32) :=
  if (2 : Int32) < v3 then
    own_bd (f_RawMessageIsPlainPinLaw_pick v0 (2 : Int32)) fun r734 =>
    own_ck (own_inb bs_b1 (2 : Int32)) <|
    own_lt (own_wr bs_b1 (2 : Int32) (r734.toInt8.toInt32)) fun bs736 =>
    if (3 : Int32) < v3 then
      own_bd (f_RawMessageIsPlainPinLaw_pick v0 (3 : Int32)) fun r737 =>
      own_ck (own_inb bs736 (3 : Int32)) <|
      own_lt (own_wr bs736 (3 : Int32) (r737.toInt8.toInt32)) fun bs739 =>
      (f_law_68 v0 v3 bs739)
    else
      (f_law_68 v0 v3 bs736)
  else
    if (3 : Int32) < v3 then
      own_bd (f_RawMessageIsPlainPinLaw_pick v0 (3 : Int32)) fun r740 =>
      own_ck (own_inb bs_b1 (3 : Int32)) <|
      own_lt (own_wr bs_b1 (3 : Int32) (r740.toInt8.toInt32)) fun bs742 =>
      (f_law_68 v0 v3 bs742)
    else
      (f_law_68 v0 v3 bs_b1)
def f_law (v0 : Int64) (v2 : Int32) : Option (Int32) :=
  own_lt ((v2 &&& (2147483647 : Int32)) % (9 : Int32)) fun x746 =>
  own_ck (¬ x746 < 0 ∧ x746.toNatClampNeg ≤ 8) <|
  if (0 : Int32) < x746 then
    own_bd (f_RawMessageIsPlainPinLaw_pick v0 (0 : Int32)) fun r748 =>
    own_ck (own_inb (List.replicate x746.toNatClampNeg (0 : Int32)) (0 : Int32)) <|
    own_lt (own_wr (List.replicate x746.toNatClampNeg (0 : Int32)) (0 : Int32) (r748.toInt8.toInt32)) fun bs750 =>
    if (1 : Int32) < x746 then
      own_bd (f_RawMessageIsPlainPinLaw_pick v0 (1 : Int32)) fun r751 =>
      own_ck (own_inb bs750 (1 : Int32)) <|
      own_lt (own_wr bs750 (1 : Int32) (r751.toInt8.toInt32)) fun bs753 =>
      (f_law_40 v0 x746 bs753)
    else
      (f_law_40 v0 x746 bs750)
  else
    if (1 : Int32) < x746 then
      own_bd (f_RawMessageIsPlainPinLaw_pick v0 (1 : Int32)) fun r754 =>
      own_ck (own_inb (List.replicate x746.toNatClampNeg (0 : Int32)) (1 : Int32)) <|
      own_lt (own_wr (List.replicate x746.toNatClampNeg (0 : Int32)) (1 : Int32) (r754.toInt8.toInt32)) fun bs756 =>
      (f_law_40 v0 x746 bs756)
    else
      (f_law_40 v0 x746 (List.replicate x746.toNatClampNeg (0 : Int32)))
def Q_law (Z : State) (hE : Heap) (n0 : Nat)  (r : Int32) (v : Option Value) (h : Heap) (L : List Loc) : Prop := v = some (.int r) ∧ Fr n0 L ∧ Keep hE h []
def Cx_law (p : Program) (s : State) (m : MethodId) (meth : Method) (c : Code) (Z : State) (a0 : Array Value) : Prop := p.tables.exec = Jvm.exec ∧ Z.Warmed39 s.vm ∧ (∀ d ∈ tables_1, d.before a0 Z = true) ∧ c.code = code ∧ c.maxLocals = 8 ∧ s.vm.findClass "com/example/oxpecker/oxpecker/sip/RawMessageIsPlainPinLaw" = some m.cls ∧ meth.sig.returnType = some .boolean ∧ meth.locks = false ∧ meth.name = "law"
set_option maxRecDepth 65536 in
set_option maxHeartbeats 4000000 in
theorem b_law_277 {p : Program} {l : Launch} {e : Env} {s : State} {m : MethodId} {args : Array Value} {below : List Frame} {meth : Method} {c : Code} {Z : State} {a0 : Array Value} {n0 : Nat} {hE : Heap} (cx : Cx_law p s m meth c Z a0) :
    ∀ {T : State} {locs : List Loc} {h : Heap} (X : Stand p l e room_1 s m args below meth c T locs 2 18) (eT : T.heap = h) (N : Fr n0 locs) (K : Keep hE h []) (z : n0 ≤ h.size) (b1 : Addr) (t0 : Int32) (bs_b1 : List Int32) (v0 : Int64) (d2 : Slot) (d3 : Slot) (d5 : Slot) (d6 : Slot) (d7 : Slot) (o_d2 : One d2) (o_d3 : One d3) (o_d5 : One d5) (o_d6 : One d6) (o_d7 : One d7) (A_b1 : own_Ar Z h b1 .byte (bs_b1.map Value.int)) (g_b1 : n0 ≤ b1) (nE_b1 : hE.size ≤ b1) (r : Int32), f_law_277 t0 bs_b1 = some r → own_Goes p e below s (Q_law Z hE n0 r) 6 72 (T.setTop (mkF m 277 #[.val (.long v0), .second, d2, d3, .val (.ref b1), d5, d6, d7] [(.int t0)])) := by
  have cx' := cx
  obtain ⟨hx, hZ, hw, hby, hml, hown, hret, hlk, hnm⟩ := cx'
  intro T locs h X eT N K z b1 t0 bs_b1 v0 d2 d3 d5 d6 d7 o_d2 o_d3 o_d5 o_d6 o_d7 A_b1 g_b1 nE_b1 r hF
  unfold f_law_277 at hF
  refine own_Goes.via (B := T.setTop (mkF m 279 #[.val (.long v0), .second, d2, d3, .val (.ref b1), d5, .val (.int t0), d7] [])) (fun t k => ?_) ?_
  · show Steps p.tables e below (T.setTop (mkF m 277 #[.val (.long v0), .second, d2, d3, .val (.ref b1), d5, d6, d7] [(.int t0)])) t
    refine XS.istoreS X.here hx rfl (hb hby at_277) rfl rfl o_d6 ?_
    exact k
  obtain ⟨T670, h670, X670, e670, E670, A670, D670, -, st670⟩ := newO X hx hZ hown (w11 hw) (w12 hw) (w13 hw) eT (g := (mkF m 279 #[.val (.long v0), .second, d2, d3, .val (.ref b1), d5, .val (.int t0), d7] [])) rfl (hb hby at_279) (by decide) (by decide)
  obtain ⟨c670, q670⟩ : ∃ z, z = h.size := ⟨_, rfl⟩
  rw [← q670] at A670 D670 st670
  have F670_c670_bytes : Fld Z h670 c670 "com/example/oxpecker/oxpecker/sip/RawMessage" "bytes" "[B" .null := D670 (Or.inr (w21 hw)) (ty := (.array .byte)) (by decide)
  have F670_c670_lineStarts : Fld Z h670 c670 "com/example/oxpecker/oxpecker/sip/RawMessage" "lineStarts" "[I" .null := D670 (Or.inr (w27 hw)) (ty := (.array .int)) (by decide)
  have F670_c670_lineEnds : Fld Z h670 c670 "com/example/oxpecker/oxpecker/sip/RawMessage" "lineEnds" "[I" .null := D670 (Or.inr (w29 hw)) (ty := (.array .int)) (by decide)
  have F670_c670_wordLengths : Fld Z h670 c670 "com/example/oxpecker/oxpecker/sip/RawMessage" "wordLengths" "[I" .null := D670 (Or.inr (w31 hw)) (ty := (.array .int)) (by decide)
  have F670_c670_lines : Fld Z h670 c670 "com/example/oxpecker/oxpecker/sip/RawMessage" "lines" "I" (.int (0 : Int32)) := D670 (Or.inr (w33 hw)) (ty := .int) (by decide)
  have F670_c670_bodyStart : Fld Z h670 c670 "com/example/oxpecker/oxpecker/sip/RawMessage" "bodyStart" "I" (.int (0 : Int32)) := D670 (Or.inr (w35 hw)) (ty := .int) (by decide)
  have g670_c670 : n0 ≤ c670 := Nat.le_trans z (Nat.le_of_eq q670.symm)
  have nE670_c670 : hE.size ≤ c670 := Nat.le_trans K.1 (Nat.le_of_eq q670.symm)
  have ne_b1_c670 : b1 ≠ c670 := Nat.ne_of_lt (Nat.lt_of_lt_of_le A_b1.lt (Nat.le_of_eq q670.symm))
  have A670_b1 := A_b1.ext E670
  have z670 := Nat.le_trans z E670.1
  have K670_ := K.ext E670
  refine own_Goes.via st670 ?_
  show own_Goes _ _ _ _ _ _ _ (T670.setTop (mkF m 282 #[.val (.long v0), .second, d2, d3, .val (.ref b1), d5, .val (.int t0), d7] [(.ref c670)]))
  refine own_Goes.via (B := T670.setTop (mkF m 285 #[.val (.long v0), .second, d2, d3, .val (.ref b1), d5, .val (.int t0), d7] [(.ref b1), (.ref c670), (.ref c670)])) (fun t k => ?_) ?_
  · show Steps p.tables e below (T670.setTop (mkF m 282 #[.val (.long v0), .second, d2, d3, .val (.ref b1), d5, .val (.int t0), d7] [(.ref c670)])) t
    refine XS.dup X670.here hx rfl (hb hby at_282) rfl rfl ?_
    show Steps p.tables e below (T670.setTop (mkF m 283 #[.val (.long v0), .second, d2, d3, .val (.ref b1), d5, .val (.int t0), d7] [(.ref c670), (.ref c670)])) t
    refine XS.aload X670.here hx rfl (hb hby at_283) rfl rfl ?_
    exact k
  obtain ⟨r671, hr671, hF⟩ := own_bd_e hF
  obtain ⟨_, _, ⟨T671, L671, k671, n671⟩, -, X671, ⟨Lc671, hQ671, l671, y671, z671⟩, st671⟩ := X670.specialBack hx (y := (⟨"com/example/oxpecker/oxpecker/sip/RawMessage", "<init>", "([B)V"⟩ : MethodName)) rfl hown (mvT hZ (w14 hw)) (mvT hZ (w15 hw)) (mvT hZ (w16 hw)) (by decide) (backOf (W := 1) (rm_RawMessage_mk l Z a0 hw [] h670 n0 z670 c670 b1 (0 : Int32) (0 : Int32) bs_b1 A670 F670_c670_bodyStart F670_c670_bytes F670_c670_lineEnds F670_c670_lineStarts F670_c670_lines F670_c670_wordLengths g670_c670 A670_b1 g_b1 (Ne.symm ne_b1_c670) r671 hr671) hZ (w16 hw) (w13 hw) (by decide) (by decide)) (g := (mkF m 285 #[.val (.long v0), .second, d2, d3, .val (.ref b1), d5, .val (.int t0), d7] [(.ref b1), (.ref c670), (.ref c670)])) rfl (by rw [hml]; rfl) (Steps.refl _) (a := c670) (argsL := [(.ref b1)]) (rest := [(.ref c670)]) (lenOf pd_3 rfl) rfl (by show 2 * 0 + _ ≤ _; exact Nat.le_of_eq rfl) (hb hby at_285) (fun _ _ => ⟨rfl, e670, (by decide : 3 + 3 ≤ _), (by decide : 24 + 48 ≤ _)⟩)
  dsimp only [Pt.U, Pt.locs, Pt.cells, Pt.slots] at X671 l671 y671 z671 st671 hQ671
  subst l671 y671 z671
  obtain ⟨c671_0, c671_1, c671_2, rfl, N671q, K671, E671_c670, F671_c670_bodyStart, F671_c670_bytes, F671_c670_lineEnds, F671_c670_lineStarts, F671_c670_lines, F671_c670_wordLengths, g671_c671_0, s671_c671_0, A671_c671_0, g671_c671_1, s671_c671_1, A671_c671_1, ne_c671_1_c671_0', g671_c671_2, s671_c671_2, A671_c671_2, ne_c671_2_c671_0', ne_c671_2_c671_1'⟩ := hQ671
  have N671 := Fr.app N N671q
  have ne_b1_c671_0 : b1 ≠ c671_0 := Nat.ne_of_lt (Nat.lt_of_lt_of_le A670_b1.lt s671_c671_0)
  have ne_b1_c671_1 : b1 ≠ c671_1 := Nat.ne_of_lt (Nat.lt_of_lt_of_le A670_b1.lt s671_c671_1)
  have ne_b1_c671_2 : b1 ≠ c671_2 := Nat.ne_of_lt (Nat.lt_of_lt_of_le A670_b1.lt s671_c671_2)
  have ne_c670_c671_0 : c670 ≠ c671_0 := Nat.ne_of_lt (Nat.lt_of_lt_of_le A670.lt s671_c671_0)
  have ne_c670_c671_1 : c670 ≠ c671_1 := Nat.ne_of_lt (Nat.lt_of_lt_of_le A670.lt s671_c671_1)
  have ne_c670_c671_2 : c670 ≠ c671_2 := Nat.ne_of_lt (Nat.lt_of_lt_of_le A670.lt s671_c671_2)
  have ne_c671_0_c671_1 := Ne.symm ne_c671_1_c671_0'
  have ne_c671_0_c671_2 := Ne.symm ne_c671_2_c671_0'
  have ne_c671_1_c671_2 := Ne.symm ne_c671_2_c671_1'
  have A671_b1 := A670_b1.keep K671 (ninS ne_b1_c670 nin0)
  have nE671_c671_0 : hE.size ≤ c671_0 := Nat.le_trans K670_.1 s671_c671_0
  have nE671_c671_1 : hE.size ≤ c671_1 := Nat.le_trans K670_.1 s671_c671_1
  have nE671_c671_2 : hE.size ≤ c671_2 := Nat.le_trans K670_.1 s671_c671_2
  have K671_ := K670_.trans K671 (allS (Or.inr nE670_c670) all0)
  have z671_ := Nat.le_trans z670 K671.1
  refine own_Goes.tr st671 ?_
  show own_Goes _ _ _ _ _ _ _ (T671.setTop (mkF m 288 #[.val (.long v0), .second, d2, d3, .val (.ref b1), d5, .val (.int t0), d7] [(.ref c670)]))
  obtain ⟨r672, hr672, hF⟩ := own_bd_e hF
  obtain ⟨cq672, kq672, q672a, q672b, q672c⟩ := isOf hZ rfl E671_c670
  obtain ⟨_, _, ⟨T672, L672, k672, n672⟩, -, X672, ⟨Lc672, hQ672, l672, y672, z672⟩, st672⟩ := X671.virtualBack hx (y := (⟨"com/example/oxpecker/oxpecker/sip/RawMessage", "isPlain", "()Z"⟩ : MethodName)) (z := (⟨"com/example/oxpecker/oxpecker/sip/RawMessage", "isPlain", "()Z"⟩ : MethodName)) hown (mvT hZ (w36 hw)) (mvT hZ (w37 hw)) (notFace_of_selects (args := #[]) (mvT hZ (w39 hw))) (mvT hZ (w39 hw)) (mvT hZ (w38 hw)) (by decide) (backOf (W := 0) (rm_RawMessage_isPlain l Z a0 hw [] T671.heap n0 z671_ c670 b1 c671_0 c671_1 c671_2 r671.1 r671.2.1 bs_b1 r671.2.2.1 r671.2.2.2.1 r671.2.2.2.2 E671_c670 F671_c670_bodyStart F671_c670_bytes F671_c670_lineEnds F671_c670_lineStarts F671_c670_lines F671_c670_wordLengths g670_c670 A671_b1 g_b1 A671_c671_0 g671_c671_0 A671_c671_1 g671_c671_1 A671_c671_2 g671_c671_2 (Ne.symm ne_b1_c670) ne_c670_c671_0 ne_b1_c671_0 ne_c670_c671_1 ne_b1_c671_1 ne_c671_0_c671_1 ne_c670_c671_2 ne_b1_c671_2 ne_c671_0_c671_2 ne_c671_1_c671_2 r672 hr672) hZ (w40 hw) (w13 hw) (by decide) (by decide)) q672a q672c (g := (mkF m 288 #[.val (.long v0), .second, d2, d3, .val (.ref b1), d5, .val (.int t0), d7] [(.ref c670)])) rfl (by rw [hml]; rfl) (Steps.refl _) (argsL := []) (rest := []) (lenOf pd_4 rfl) rfl (by show 2 * 0 + _ ≤ _; exact Nat.le_of_eq rfl) (hb hby at_288) (fun _ _ => ⟨rfl, rfl, (by decide : 6 + 0 ≤ _), (by decide : 72 + 0 ≤ _)⟩)
  dsimp only [Pt.U, Pt.locs, Pt.cells, Pt.slots] at X672 l672 y672 z672 st672 hQ672
  subst l672 y672 z672
  obtain ⟨rfl, N672q, e672⟩ := hQ672
  have N672 := Fr.app N671 N672q
  refine own_Goes.tr st672 ?_
  show own_Goes _ _ _ _ _ _ _ (T672.setTop (mkF m 291 #[.val (.long v0), .second, d2, d3, .val (.ref b1), d5, .val (.int t0), d7] [(.int r672)]))
  refine own_Goes.via (B := T672.setTop (mkF m 297 #[.val (.long v0), .second, d2, d3, .val (.ref b1), d5, .val (.int t0), .val (.int r672)] [(.int t0), (.int r672)])) (fun t k => ?_) ?_
  · show Steps p.tables e below (T672.setTop (mkF m 291 #[.val (.long v0), .second, d2, d3, .val (.ref b1), d5, .val (.int t0), d7] [(.int r672)])) t
    refine XS.istoreS X672.here hx rfl (hb hby at_291) rfl rfl o_d7 ?_
    show Steps p.tables e below (T672.setTop (mkF m 293 #[.val (.long v0), .second, d2, d3, .val (.ref b1), d5, .val (.int t0), .val (.int r672)] [])) t
    refine XS.iload X672.here hx rfl (hb hby at_293) rfl ?_
    show Steps p.tables e below (T672.setTop (mkF m 295 #[.val (.long v0), .second, d2, d3, .val (.ref b1), d5, .val (.int t0), .val (.int r672)] [(.int r672)])) t
    refine XS.iload X672.here hx rfl (hb hby at_295) rfl ?_
    exact k
  by_cases hc297 : r672 = t0
  · rw [if_pos hc297] at hF
    refine own_Goes.via (B := T672.setTop (mkF m 305 #[.val (.long v0), .second, d2, d3, .val (.ref b1), d5, .val (.int t0), .val (.int r672)] [(.int (1 : Int32))])) (fun t k => ?_) ?_
    · show Steps p.tables e below (T672.setTop (mkF m 297 #[.val (.long v0), .second, d2, d3, .val (.ref b1), d5, .val (.int t0), .val (.int r672)] [(.int t0), (.int r672)])) t
      refine XS.icmpNo X672.here hx rfl (hb hby at_297) rfl (teq hc297).2 ?_
      show Steps p.tables e below (T672.setTop (mkF m 300 #[.val (.long v0), .second, d2, d3, .val (.ref b1), d5, .val (.int t0), .val (.int r672)] [])) t
      refine XS.iconst X672.here hx rfl (hb hby at_300) ?_
      show Steps p.tables e below (T672.setTop (mkF m 301 #[.val (.long v0), .second, d2, d3, .val (.ref b1), d5, .val (.int t0), .val (.int r672)] [(.int (1 : Int32))])) t
      refine XS.goto X672.here hx rfl (pc0 := 301) (pc' := 305) rfl (hb hby at_301) (by decide) (by decide) ?_
      exact k
    obtain rfl : (1 : Int32) = r := Option.some.inj hF
    exact own_retN X672 hx (t := .boolean) hret hlk (by simp) (hb hby at_305) e672 (v := (1 : Int32)) (by decide) ⟨rfl, N672, K671_⟩ (by decide) (by decide)
  · rw [if_neg hc297] at hF
    refine own_Goes.via (B := T672.setTop (mkF m 305 #[.val (.long v0), .second, d2, d3, .val (.ref b1), d5, .val (.int t0), .val (.int r672)] [(.int (0 : Int32))])) (fun t k => ?_) ?_
    · show Steps p.tables e below (T672.setTop (mkF m 297 #[.val (.long v0), .second, d2, d3, .val (.ref b1), d5, .val (.int t0), .val (.int r672)] [(.int t0), (.int r672)])) t
      refine XS.icmpYes X672.here hx rfl (pc0 := 297) (pc' := 304) rfl (hb hby at_297) rfl (feq hc297).2 (by decide) (by decide) ?_
      show Steps p.tables e below (T672.setTop (mkF m 304 #[.val (.long v0), .second, d2, d3, .val (.ref b1), d5, .val (.int t0), .val (.int r672)] [])) t
      refine XS.iconst X672.here hx rfl (hb hby at_304) ?_
      exact k
    obtain rfl : (0 : Int32) = r := Option.some.inj hF
    exact own_retN X672 hx (t := .boolean) hret hlk (by simp) (hb hby at_305) e672 (v := (0 : Int32)) (by decide) ⟨rfl, N672, K671_⟩ (by decide) (by decide)
set_option maxRecDepth 65536 in
set_option maxHeartbeats 4000000 in
theorem b_law_256 {p : Program} {l : Launch} {e : Env} {s : State} {m : MethodId} {args : Array Value} {below : List Frame} {meth : Method} {c : Code} {Z : State} {a0 : Array Value} {n0 : Nat} {hE : Heap} (cx : Cx_law p s m meth c Z a0) :
    ∀ {T : State} {locs : List Loc} {h : Heap} (X : Stand p l e room_1 s m args below meth c T locs 2 18) (eT : T.heap = h) (N : Fr n0 locs) (K : Keep hE h []) (z : n0 ≤ h.size) (b1 : Addr) (b2 : Addr) (bs_b1 : List Int32) (bs_b2 : List Int32) (v0 : Int64) (d2 : Slot) (d3 : Slot) (d6 : Slot) (d7 : Slot) (o_d2 : One d2) (o_d3 : One d3) (o_d6 : One d6) (o_d7 : One d7) (A_b1 : own_Ar Z h b1 .byte (bs_b1.map Value.int)) (g_b1 : n0 ≤ b1) (nE_b1 : hE.size ≤ b1) (A_b2 : own_Ar Z h b2 .int (bs_b2.map Value.int)) (g_b2 : n0 ≤ b2) (nE_b2 : hE.size ≤ b2) (ne_b1_b2 : b1 ≠ b2) (r : Int32), f_law_256 bs_b1 bs_b2 = some r → own_Goes p e below s (Q_law Z hE n0 r) 6 72 (T.setTop (mkF m 256 #[.val (.long v0), .second, d2, d3, .val (.ref b1), .val (.ref b2), d6, d7] [])) := by
  have cx' := cx
  obtain ⟨hx, hZ, hw, hby, hml, hown, hret, hlk, hnm⟩ := cx'
  intro T locs h X eT N K z b1 b2 bs_b1 bs_b2 v0 d2 d3 d6 d7 o_d2 o_d3 o_d6 o_d7 A_b1 g_b1 nE_b1 A_b2 g_b2 nE_b2 ne_b1_b2 r hF
  unfold f_law_256 at hF
  refine own_Goes.via (B := T.setTop (mkF m 259 #[.val (.long v0), .second, d2, d3, .val (.ref b1), .val (.ref b2), d6, d7] [(.int (0 : Int32)), (.ref b2)])) (fun t k => ?_) ?_
  · show Steps p.tables e below (T.setTop (mkF m 256 #[.val (.long v0), .second, d2, d3, .val (.ref b1), .val (.ref b2), d6, d7] [])) t
    refine XS.aload X.here hx rfl (hb hby at_256) rfl rfl ?_
    show Steps p.tables e below (T.setTop (mkF m 258 #[.val (.long v0), .second, d2, d3, .val (.ref b1), .val (.ref b2), d6, d7] [(.ref b2)])) t
    refine XS.iconst X.here hx rfl (hb hby at_258) ?_
    exact k
  obtain ⟨hi259, hF⟩ := own_ck_e hF
  refine own_Goes.via (B := T.setTop (mkF m 261 #[.val (.long v0), .second, d2, d3, .val (.ref b1), .val (.ref b2), d6, d7] [(.int (1 : Int32)), (.int (own_rd bs_b2 (0 : Int32)))])) (fun t k => ?_) ?_
  · show Steps p.tables e below (T.setTop (mkF m 259 #[.val (.long v0), .second, d2, d3, .val (.ref b1), .val (.ref b2), d6, d7] [(.int (0 : Int32)), (.ref b2)])) t
    refine own_ldI X hx hZ eT A_b2 hi259 rfl (g := (mkF m 259 #[.val (.long v0), .second, d2, d3, .val (.ref b1), .val (.ref b2), d6, d7] [(.int (0 : Int32)), (.ref b2)])) rfl rfl (hb hby at_259) ?_
    show Steps p.tables e below (T.setTop (mkF m 260 #[.val (.long v0), .second, d2, d3, .val (.ref b1), .val (.ref b2), d6, d7] [(.int (own_rd bs_b2 (0 : Int32)))])) t
    refine XS.iconst X.here hx rfl (hb hby at_260) ?_
    exact k
  by_cases hc261 : (own_rd bs_b2 (0 : Int32)) = (1 : Int32)
  · rw [if_pos hc261] at hF
    refine own_Goes.via (B := T.setTop (mkF m 267 #[.val (.long v0), .second, d2, d3, .val (.ref b1), .val (.ref b2), d6, d7] [(.int (1 : Int32)), (.ref b2)])) (fun t k => ?_) ?_
    · show Steps p.tables e below (T.setTop (mkF m 261 #[.val (.long v0), .second, d2, d3, .val (.ref b1), .val (.ref b2), d6, d7] [(.int (1 : Int32)), (.int (own_rd bs_b2 (0 : Int32)))])) t
      refine XS.icmpNo X.here hx rfl (hb hby at_261) rfl (teq hc261).2 ?_
      show Steps p.tables e below (T.setTop (mkF m 264 #[.val (.long v0), .second, d2, d3, .val (.ref b1), .val (.ref b2), d6, d7] [])) t
      refine XS.aload X.here hx rfl (hb hby at_264) rfl rfl ?_
      show Steps p.tables e below (T.setTop (mkF m 266 #[.val (.long v0), .second, d2, d3, .val (.ref b1), .val (.ref b2), d6, d7] [(.ref b2)])) t
      refine XS.iconst X.here hx rfl (hb hby at_266) ?_
      exact k
    obtain ⟨hi267, hF⟩ := own_ck_e hF
    refine own_Goes.via (B := T.setTop (mkF m 269 #[.val (.long v0), .second, d2, d3, .val (.ref b1), .val (.ref b2), d6, d7] [(.int (1 : Int32)), (.int (own_rd bs_b2 (1 : Int32)))])) (fun t k => ?_) ?_
    · show Steps p.tables e below (T.setTop (mkF m 267 #[.val (.long v0), .second, d2, d3, .val (.ref b1), .val (.ref b2), d6, d7] [(.int (1 : Int32)), (.ref b2)])) t
      refine own_ldI X hx hZ eT A_b2 hi267 rfl (g := (mkF m 267 #[.val (.long v0), .second, d2, d3, .val (.ref b1), .val (.ref b2), d6, d7] [(.int (1 : Int32)), (.ref b2)])) rfl rfl (hb hby at_267) ?_
      show Steps p.tables e below (T.setTop (mkF m 268 #[.val (.long v0), .second, d2, d3, .val (.ref b1), .val (.ref b2), d6, d7] [(.int (own_rd bs_b2 (1 : Int32)))])) t
      refine XS.iconst X.here hx rfl (hb hby at_268) ?_
      exact k
    by_cases hc269 : (own_rd bs_b2 (1 : Int32)) = (1 : Int32)
    · rw [if_pos hc269] at hF
      refine own_Goes.via (B := T.setTop (mkF m 277 #[.val (.long v0), .second, d2, d3, .val (.ref b1), .val (.ref b2), d6, d7] [(.int (1 : Int32))])) (fun t k => ?_) ?_
      · show Steps p.tables e below (T.setTop (mkF m 269 #[.val (.long v0), .second, d2, d3, .val (.ref b1), .val (.ref b2), d6, d7] [(.int (1 : Int32)), (.int (own_rd bs_b2 (1 : Int32)))])) t
        refine XS.icmpNo X.here hx rfl (hb hby at_269) rfl (teq hc269).2 ?_
        show Steps p.tables e below (T.setTop (mkF m 272 #[.val (.long v0), .second, d2, d3, .val (.ref b1), .val (.ref b2), d6, d7] [])) t
        refine XS.iconst X.here hx rfl (hb hby at_272) ?_
        show Steps p.tables e below (T.setTop (mkF m 273 #[.val (.long v0), .second, d2, d3, .val (.ref b1), .val (.ref b2), d6, d7] [(.int (1 : Int32))])) t
        refine XS.goto X.here hx rfl (pc0 := 273) (pc' := 277) rfl (hb hby at_273) (by decide) (by decide) ?_
        exact k
      exact b_law_277 cx X eT N K z b1 (1 : Int32) bs_b1 v0 d2 d3 (.val (.ref b2)) d6 d7 o_d2 o_d3 (One.val rfl) o_d6 o_d7 A_b1 g_b1 nE_b1 _ hF
    · rw [if_neg hc269] at hF
      refine own_Goes.via (B := T.setTop (mkF m 277 #[.val (.long v0), .second, d2, d3, .val (.ref b1), .val (.ref b2), d6, d7] [(.int (0 : Int32))])) (fun t k => ?_) ?_
      · show Steps p.tables e below (T.setTop (mkF m 269 #[.val (.long v0), .second, d2, d3, .val (.ref b1), .val (.ref b2), d6, d7] [(.int (1 : Int32)), (.int (own_rd bs_b2 (1 : Int32)))])) t
        refine XS.icmpYes X.here hx rfl (pc0 := 269) (pc' := 276) rfl (hb hby at_269) rfl (feq hc269).2 (by decide) (by decide) ?_
        show Steps p.tables e below (T.setTop (mkF m 276 #[.val (.long v0), .second, d2, d3, .val (.ref b1), .val (.ref b2), d6, d7] [])) t
        refine XS.iconst X.here hx rfl (hb hby at_276) ?_
        exact k
      exact b_law_277 cx X eT N K z b1 (0 : Int32) bs_b1 v0 d2 d3 (.val (.ref b2)) d6 d7 o_d2 o_d3 (One.val rfl) o_d6 o_d7 A_b1 g_b1 nE_b1 _ hF
  · rw [if_neg hc261] at hF
    refine own_Goes.via (B := T.setTop (mkF m 277 #[.val (.long v0), .second, d2, d3, .val (.ref b1), .val (.ref b2), d6, d7] [(.int (0 : Int32))])) (fun t k => ?_) ?_
    · show Steps p.tables e below (T.setTop (mkF m 261 #[.val (.long v0), .second, d2, d3, .val (.ref b1), .val (.ref b2), d6, d7] [(.int (1 : Int32)), (.int (own_rd bs_b2 (0 : Int32)))])) t
      refine XS.icmpYes X.here hx rfl (pc0 := 261) (pc' := 276) rfl (hb hby at_261) rfl (feq hc261).2 (by decide) (by decide) ?_
      show Steps p.tables e below (T.setTop (mkF m 276 #[.val (.long v0), .second, d2, d3, .val (.ref b1), .val (.ref b2), d6, d7] [])) t
      refine XS.iconst X.here hx rfl (hb hby at_276) ?_
      exact k
    exact b_law_277 cx X eT N K z b1 (0 : Int32) bs_b1 v0 d2 d3 (.val (.ref b2)) d6 d7 o_d2 o_d3 (One.val rfl) o_d6 o_d7 A_b1 g_b1 nE_b1 _ hF
set_option maxRecDepth 65536 in
set_option maxHeartbeats 4000000 in
theorem b_law_224 {p : Program} {l : Launch} {e : Env} {s : State} {m : MethodId} {args : Array Value} {below : List Frame} {meth : Method} {c : Code} {Z : State} {a0 : Array Value} {n0 : Nat} {hE : Heap} (cx : Cx_law p s m meth c Z a0) :
    ∀ {T : State} {locs : List Loc} {h : Heap} (X : Stand p l e room_1 s m args below meth c T locs 2 18) (eT : T.heap = h) (N : Fr n0 locs) (K : Keep hE h []) (z : n0 ≤ h.size) (b1 : Addr) (b2 : Addr) (v3 : Int32) (bs_b1 : List Int32) (bs_b2 : List Int32) (v0 : Int64) (d2 : Slot) (d6 : Slot) (d7 : Slot) (o_d2 : One d2) (o_d6 : One d6) (o_d7 : One d7) (A_b1 : own_Ar Z h b1 .byte (bs_b1.map Value.int)) (g_b1 : n0 ≤ b1) (nE_b1 : hE.size ≤ b1) (A_b2 : own_Ar Z h b2 .int (bs_b2.map Value.int)) (g_b2 : n0 ≤ b2) (nE_b2 : hE.size ≤ b2) (ne_b1_b2 : b1 ≠ b2) (r : Int32), f_law_224 v3 bs_b1 bs_b2 = some r → own_Goes p e below s (Q_law Z hE n0 r) 6 72 (T.setTop (mkF m 224 #[.val (.long v0), .second, d2, .val (.int v3), .val (.ref b1), .val (.ref b2), d6, d7] [])) := by
  have cx' := cx
  obtain ⟨hx, hZ, hw, hby, hml, hown, hret, hlk, hnm⟩ := cx'
  intro T locs h X eT N K z b1 b2 v3 bs_b1 bs_b2 v0 d2 d6 d7 o_d2 o_d6 o_d7 A_b1 g_b1 nE_b1 A_b2 g_b2 nE_b2 ne_b1_b2 r hF
  unfold f_law_224 at hF
  refine own_Goes.via (B := T.setTop (mkF m 227 #[.val (.long v0), .second, d2, .val (.int v3), .val (.ref b1), .val (.ref b2), d6, d7] [(.int (6 : Int32)), (.int v3)])) (fun t k => ?_) ?_
  · show Steps p.tables e below (T.setTop (mkF m 224 #[.val (.long v0), .second, d2, .val (.int v3), .val (.ref b1), .val (.ref b2), d6, d7] [])) t
    refine XS.iloadN X.here hx rfl (hb hby at_224) rfl ?_
    show Steps p.tables e below (T.setTop (mkF m 225 #[.val (.long v0), .second, d2, .val (.int v3), .val (.ref b1), .val (.ref b2), d6, d7] [(.int v3)])) t
    refine XS.bipush X.here hx rfl (hb hby at_225) ?_
    exact k
  by_cases hc227 : (6 : Int32) < v3
  · rw [if_pos hc227] at hF
    refine own_Goes.via (B := T.setTop (mkF m 236 #[.val (.long v0), .second, d2, .val (.int v3), .val (.ref b1), .val (.ref b2), d6, d7] [(.int (6 : Int32)), (.ref b1), (.ref b2)])) (fun t k => ?_) ?_
    · show Steps p.tables e below (T.setTop (mkF m 227 #[.val (.long v0), .second, d2, .val (.int v3), .val (.ref b1), .val (.ref b2), d6, d7] [(.int (6 : Int32)), (.int v3)])) t
      refine XS.icmpNo X.here hx rfl (hb hby at_227) rfl (tlt hc227).2.2.2 ?_
      show Steps p.tables e below (T.setTop (mkF m 230 #[.val (.long v0), .second, d2, .val (.int v3), .val (.ref b1), .val (.ref b2), d6, d7] [])) t
      refine XS.aload X.here hx rfl (hb hby at_230) rfl rfl ?_
      show Steps p.tables e below (T.setTop (mkF m 232 #[.val (.long v0), .second, d2, .val (.int v3), .val (.ref b1), .val (.ref b2), d6, d7] [(.ref b2)])) t
      refine XS.aload X.here hx rfl (hb hby at_232) rfl rfl ?_
      show Steps p.tables e below (T.setTop (mkF m 234 #[.val (.long v0), .second, d2, .val (.int v3), .val (.ref b1), .val (.ref b2), d6, d7] [(.ref b1), (.ref b2)])) t
      refine XS.bipush X.here hx rfl (hb hby at_234) ?_
      exact k
    obtain ⟨hi236, hF⟩ := own_ck_e hF
    refine own_Goes.via (B := T.setTop (mkF m 237 #[.val (.long v0), .second, d2, .val (.int v3), .val (.ref b1), .val (.ref b2), d6, d7] [(.int (own_rd bs_b1 (6 : Int32))), (.ref b2)])) (fun t k => ?_) ?_
    · show Steps p.tables e below (T.setTop (mkF m 236 #[.val (.long v0), .second, d2, .val (.int v3), .val (.ref b1), .val (.ref b2), d6, d7] [(.int (6 : Int32)), (.ref b1), (.ref b2)])) t
      refine own_ldB X hx hZ eT A_b1 hi236 rfl (g := (mkF m 236 #[.val (.long v0), .second, d2, .val (.int v3), .val (.ref b1), .val (.ref b2), d6, d7] [(.int (6 : Int32)), (.ref b1), (.ref b2)])) rfl rfl (hb hby at_236) ?_
      exact k
    obtain ⟨x675, hx675, hF⟩ := own_lt_e hF
    rw [← hx675]
    obtain ⟨r676, hr676, hF⟩ := own_bd_e hF
    obtain ⟨_, _, ⟨T676, L676, k676, n676⟩, -, X676, ⟨Lc676, hQ676, l676, y676, z676⟩, st676⟩ := Jvm.LawKit.callS X hx (y := (⟨"com/example/oxpecker/oxpecker/sip/RawMessageIsPlainPinLaw", "step", "([IB)V"⟩ : MethodName)) hown (mvT hZ (w8 hw)) (mvT hZ (w9 hw)) (mvT hZ (w4 hw)) (mvT hZ (w10 hw)) (by decide) (backOf (W := 0) (rm_RawMessageIsPlainPinLaw_step l Z a0 hw [] h n0 z b2 x675 bs_b2 A_b2 g_b2 r676 hr676) hZ (w10 hw) (w4 hw) (by decide) (by decide)) (g := (mkF m 237 #[.val (.long v0), .second, d2, .val (.int v3), .val (.ref b1), .val (.ref b2), d6, d7] [(.int x675), (.ref b2)])) rfl (by rw [hml]; rfl) (argsL := [(.ref b2), (.int x675)]) (rest := []) (lenOf pd_1 rfl) rfl (by show 2 * 0 + _ ≤ _; exact Nat.le_of_eq rfl) (hb hby at_237) (fun _ _ => ⟨rfl, eT, (by decide : 2 + 0 ≤ _), (by decide : 18 + 0 ≤ _)⟩)
    dsimp only [Pt.U, Pt.locs, Pt.cells, Pt.slots] at X676 l676 y676 z676 st676 hQ676
    subst l676 y676 z676
    obtain ⟨rfl, N676q, K676, A676_b2⟩ := hQ676
    have N676 := Fr.app N N676q
    have A676_b1 := A_b1.keep K676 (ninS ne_b1_b2 nin0)
    have K676_ := K.trans K676 (allS (Or.inr nE_b2) all0)
    have z676_ := Nat.le_trans z K676.1
    refine own_Goes.via st676 ?_
    show own_Goes _ _ _ _ _ _ _ (T676.setTop (mkF m 240 #[.val (.long v0), .second, d2, .val (.int v3), .val (.ref b1), .val (.ref b2), d6, d7] []))
    refine own_Goes.via (B := T676.setTop (mkF m 243 #[.val (.long v0), .second, d2, .val (.int v3), .val (.ref b1), .val (.ref b2), d6, d7] [(.int (7 : Int32)), (.int v3)])) (fun t k => ?_) ?_
    · show Steps p.tables e below (T676.setTop (mkF m 240 #[.val (.long v0), .second, d2, .val (.int v3), .val (.ref b1), .val (.ref b2), d6, d7] [])) t
      refine XS.iloadN X676.here hx rfl (hb hby at_240) rfl ?_
      show Steps p.tables e below (T676.setTop (mkF m 241 #[.val (.long v0), .second, d2, .val (.int v3), .val (.ref b1), .val (.ref b2), d6, d7] [(.int v3)])) t
      refine XS.bipush X676.here hx rfl (hb hby at_241) ?_
      exact k
    by_cases hc243 : (7 : Int32) < v3
    · rw [if_pos hc243] at hF
      refine own_Goes.via (B := T676.setTop (mkF m 252 #[.val (.long v0), .second, d2, .val (.int v3), .val (.ref b1), .val (.ref b2), d6, d7] [(.int (7 : Int32)), (.ref b1), (.ref b2)])) (fun t k => ?_) ?_
      · show Steps p.tables e below (T676.setTop (mkF m 243 #[.val (.long v0), .second, d2, .val (.int v3), .val (.ref b1), .val (.ref b2), d6, d7] [(.int (7 : Int32)), (.int v3)])) t
        refine XS.icmpNo X676.here hx rfl (hb hby at_243) rfl (tlt hc243).2.2.2 ?_
        show Steps p.tables e below (T676.setTop (mkF m 246 #[.val (.long v0), .second, d2, .val (.int v3), .val (.ref b1), .val (.ref b2), d6, d7] [])) t
        refine XS.aload X676.here hx rfl (hb hby at_246) rfl rfl ?_
        show Steps p.tables e below (T676.setTop (mkF m 248 #[.val (.long v0), .second, d2, .val (.int v3), .val (.ref b1), .val (.ref b2), d6, d7] [(.ref b2)])) t
        refine XS.aload X676.here hx rfl (hb hby at_248) rfl rfl ?_
        show Steps p.tables e below (T676.setTop (mkF m 250 #[.val (.long v0), .second, d2, .val (.int v3), .val (.ref b1), .val (.ref b2), d6, d7] [(.ref b1), (.ref b2)])) t
        refine XS.bipush X676.here hx rfl (hb hby at_250) ?_
        exact k
      obtain ⟨hi252, hF⟩ := own_ck_e hF
      refine own_Goes.via (B := T676.setTop (mkF m 253 #[.val (.long v0), .second, d2, .val (.int v3), .val (.ref b1), .val (.ref b2), d6, d7] [(.int (own_rd bs_b1 (7 : Int32))), (.ref b2)])) (fun t k => ?_) ?_
      · show Steps p.tables e below (T676.setTop (mkF m 252 #[.val (.long v0), .second, d2, .val (.int v3), .val (.ref b1), .val (.ref b2), d6, d7] [(.int (7 : Int32)), (.ref b1), (.ref b2)])) t
        refine own_ldB X676 hx hZ rfl A676_b1 hi252 rfl (g := (mkF m 252 #[.val (.long v0), .second, d2, .val (.int v3), .val (.ref b1), .val (.ref b2), d6, d7] [(.int (7 : Int32)), (.ref b1), (.ref b2)])) rfl rfl (hb hby at_252) ?_
        exact k
      obtain ⟨x677, hx677, hF⟩ := own_lt_e hF
      rw [← hx677]
      obtain ⟨r678, hr678, hF⟩ := own_bd_e hF
      obtain ⟨_, _, ⟨T678, L678, k678, n678⟩, -, X678, ⟨Lc678, hQ678, l678, y678, z678⟩, st678⟩ := Jvm.LawKit.callS X676 hx (y := (⟨"com/example/oxpecker/oxpecker/sip/RawMessageIsPlainPinLaw", "step", "([IB)V"⟩ : MethodName)) hown (mvT hZ (w8 hw)) (mvT hZ (w9 hw)) (mvT hZ (w4 hw)) (mvT hZ (w10 hw)) (by decide) (backOf (W := 0) (rm_RawMessageIsPlainPinLaw_step l Z a0 hw [] T676.heap n0 z676_ b2 x677 r676 A676_b2 g_b2 r678 hr678) hZ (w10 hw) (w4 hw) (by decide) (by decide)) (g := (mkF m 253 #[.val (.long v0), .second, d2, .val (.int v3), .val (.ref b1), .val (.ref b2), d6, d7] [(.int x677), (.ref b2)])) rfl (by rw [hml]; rfl) (argsL := [(.ref b2), (.int x677)]) (rest := []) (lenOf pd_1 rfl) rfl (by show 2 * 0 + _ ≤ _; exact Nat.le_of_eq rfl) (hb hby at_253) (fun _ _ => ⟨rfl, rfl, (by decide : 2 + 0 ≤ _), (by decide : 18 + 0 ≤ _)⟩)
      dsimp only [Pt.U, Pt.locs, Pt.cells, Pt.slots] at X678 l678 y678 z678 st678 hQ678
      subst l678 y678 z678
      obtain ⟨rfl, N678q, K678, A678_b2⟩ := hQ678
      have N678 := Fr.app N676 N678q
      have A678_b1 := A676_b1.keep K678 (ninS ne_b1_b2 nin0)
      have K678_ := K676_.trans K678 (allS (Or.inr nE_b2) all0)
      have z678_ := Nat.le_trans z676_ K678.1
      refine own_Goes.via st678 ?_
      show own_Goes _ _ _ _ _ _ _ (T678.setTop (mkF m 256 #[.val (.long v0), .second, d2, .val (.int v3), .val (.ref b1), .val (.ref b2), d6, d7] []))
      exact b_law_256 cx X678 rfl N678 K678_ z678_ b1 b2 bs_b1 r678 v0 d2 (.val (.int v3)) d6 d7 o_d2 (One.val rfl) o_d6 o_d7 A678_b1 g_b1 nE_b1 A678_b2 g_b2 nE_b2 ne_b1_b2 _ hF
    · rw [if_neg hc243] at hF
      refine own_Goes.via (B := T676.setTop (mkF m 256 #[.val (.long v0), .second, d2, .val (.int v3), .val (.ref b1), .val (.ref b2), d6, d7] [])) (fun t k => ?_) ?_
      · show Steps p.tables e below (T676.setTop (mkF m 243 #[.val (.long v0), .second, d2, .val (.int v3), .val (.ref b1), .val (.ref b2), d6, d7] [(.int (7 : Int32)), (.int v3)])) t
        refine XS.icmpYes X676.here hx rfl (pc0 := 243) (pc' := 256) rfl (hb hby at_243) rfl (flt hc243).2.2.2 (by decide) (by decide) ?_
        exact k
      exact b_law_256 cx X676 rfl N676 K676_ z676_ b1 b2 bs_b1 r676 v0 d2 (.val (.int v3)) d6 d7 o_d2 (One.val rfl) o_d6 o_d7 A676_b1 g_b1 nE_b1 A676_b2 g_b2 nE_b2 ne_b1_b2 _ hF
  · rw [if_neg hc227] at hF
    refine own_Goes.via (B := T.setTop (mkF m 243 #[.val (.long v0), .second, d2, .val (.int v3), .val (.ref b1), .val (.ref b2), d6, d7] [(.int (7 : Int32)), (.int v3)])) (fun t k => ?_) ?_
    · show Steps p.tables e below (T.setTop (mkF m 227 #[.val (.long v0), .second, d2, .val (.int v3), .val (.ref b1), .val (.ref b2), d6, d7] [(.int (6 : Int32)), (.int v3)])) t
      refine XS.icmpYes X.here hx rfl (pc0 := 227) (pc' := 240) rfl (hb hby at_227) rfl (flt hc227).2.2.2 (by decide) (by decide) ?_
      show Steps p.tables e below (T.setTop (mkF m 240 #[.val (.long v0), .second, d2, .val (.int v3), .val (.ref b1), .val (.ref b2), d6, d7] [])) t
      refine XS.iloadN X.here hx rfl (hb hby at_240) rfl ?_
      show Steps p.tables e below (T.setTop (mkF m 241 #[.val (.long v0), .second, d2, .val (.int v3), .val (.ref b1), .val (.ref b2), d6, d7] [(.int v3)])) t
      refine XS.bipush X.here hx rfl (hb hby at_241) ?_
      exact k
    by_cases hc243 : (7 : Int32) < v3
    · rw [if_pos hc243] at hF
      refine own_Goes.via (B := T.setTop (mkF m 252 #[.val (.long v0), .second, d2, .val (.int v3), .val (.ref b1), .val (.ref b2), d6, d7] [(.int (7 : Int32)), (.ref b1), (.ref b2)])) (fun t k => ?_) ?_
      · show Steps p.tables e below (T.setTop (mkF m 243 #[.val (.long v0), .second, d2, .val (.int v3), .val (.ref b1), .val (.ref b2), d6, d7] [(.int (7 : Int32)), (.int v3)])) t
        refine XS.icmpNo X.here hx rfl (hb hby at_243) rfl (tlt hc243).2.2.2 ?_
        show Steps p.tables e below (T.setTop (mkF m 246 #[.val (.long v0), .second, d2, .val (.int v3), .val (.ref b1), .val (.ref b2), d6, d7] [])) t
        refine XS.aload X.here hx rfl (hb hby at_246) rfl rfl ?_
        show Steps p.tables e below (T.setTop (mkF m 248 #[.val (.long v0), .second, d2, .val (.int v3), .val (.ref b1), .val (.ref b2), d6, d7] [(.ref b2)])) t
        refine XS.aload X.here hx rfl (hb hby at_248) rfl rfl ?_
        show Steps p.tables e below (T.setTop (mkF m 250 #[.val (.long v0), .second, d2, .val (.int v3), .val (.ref b1), .val (.ref b2), d6, d7] [(.ref b1), (.ref b2)])) t
        refine XS.bipush X.here hx rfl (hb hby at_250) ?_
        exact k
      obtain ⟨hi252, hF⟩ := own_ck_e hF
      refine own_Goes.via (B := T.setTop (mkF m 253 #[.val (.long v0), .second, d2, .val (.int v3), .val (.ref b1), .val (.ref b2), d6, d7] [(.int (own_rd bs_b1 (7 : Int32))), (.ref b2)])) (fun t k => ?_) ?_
      · show Steps p.tables e below (T.setTop (mkF m 252 #[.val (.long v0), .second, d2, .val (.int v3), .val (.ref b1), .val (.ref b2), d6, d7] [(.int (7 : Int32)), (.ref b1), (.ref b2)])) t
        refine own_ldB X hx hZ eT A_b1 hi252 rfl (g := (mkF m 252 #[.val (.long v0), .second, d2, .val (.int v3), .val (.ref b1), .val (.ref b2), d6, d7] [(.int (7 : Int32)), (.ref b1), (.ref b2)])) rfl rfl (hb hby at_252) ?_
        exact k
      obtain ⟨x679, hx679, hF⟩ := own_lt_e hF
      rw [← hx679]
      obtain ⟨r680, hr680, hF⟩ := own_bd_e hF
      obtain ⟨_, _, ⟨T680, L680, k680, n680⟩, -, X680, ⟨Lc680, hQ680, l680, y680, z680⟩, st680⟩ := Jvm.LawKit.callS X hx (y := (⟨"com/example/oxpecker/oxpecker/sip/RawMessageIsPlainPinLaw", "step", "([IB)V"⟩ : MethodName)) hown (mvT hZ (w8 hw)) (mvT hZ (w9 hw)) (mvT hZ (w4 hw)) (mvT hZ (w10 hw)) (by decide) (backOf (W := 0) (rm_RawMessageIsPlainPinLaw_step l Z a0 hw [] h n0 z b2 x679 bs_b2 A_b2 g_b2 r680 hr680) hZ (w10 hw) (w4 hw) (by decide) (by decide)) (g := (mkF m 253 #[.val (.long v0), .second, d2, .val (.int v3), .val (.ref b1), .val (.ref b2), d6, d7] [(.int x679), (.ref b2)])) rfl (by rw [hml]; rfl) (argsL := [(.ref b2), (.int x679)]) (rest := []) (lenOf pd_1 rfl) rfl (by show 2 * 0 + _ ≤ _; exact Nat.le_of_eq rfl) (hb hby at_253) (fun _ _ => ⟨rfl, eT, (by decide : 2 + 0 ≤ _), (by decide : 18 + 0 ≤ _)⟩)
      dsimp only [Pt.U, Pt.locs, Pt.cells, Pt.slots] at X680 l680 y680 z680 st680 hQ680
      subst l680 y680 z680
      obtain ⟨rfl, N680q, K680, A680_b2⟩ := hQ680
      have N680 := Fr.app N N680q
      have A680_b1 := A_b1.keep K680 (ninS ne_b1_b2 nin0)
      have K680_ := K.trans K680 (allS (Or.inr nE_b2) all0)
      have z680_ := Nat.le_trans z K680.1
      refine own_Goes.via st680 ?_
      show own_Goes _ _ _ _ _ _ _ (T680.setTop (mkF m 256 #[.val (.long v0), .second, d2, .val (.int v3), .val (.ref b1), .val (.ref b2), d6, d7] []))
      exact b_law_256 cx X680 rfl N680 K680_ z680_ b1 b2 bs_b1 r680 v0 d2 (.val (.int v3)) d6 d7 o_d2 (One.val rfl) o_d6 o_d7 A680_b1 g_b1 nE_b1 A680_b2 g_b2 nE_b2 ne_b1_b2 _ hF
    · rw [if_neg hc243] at hF
      refine own_Goes.via (B := T.setTop (mkF m 256 #[.val (.long v0), .second, d2, .val (.int v3), .val (.ref b1), .val (.ref b2), d6, d7] [])) (fun t k => ?_) ?_
      · show Steps p.tables e below (T.setTop (mkF m 243 #[.val (.long v0), .second, d2, .val (.int v3), .val (.ref b1), .val (.ref b2), d6, d7] [(.int (7 : Int32)), (.int v3)])) t
        refine XS.icmpYes X.here hx rfl (pc0 := 243) (pc' := 256) rfl (hb hby at_243) rfl (flt hc243).2.2.2 (by decide) (by decide) ?_
        exact k
      exact b_law_256 cx X eT N K z b1 b2 bs_b1 bs_b2 v0 d2 (.val (.int v3)) d6 d7 o_d2 (One.val rfl) o_d6 o_d7 A_b1 g_b1 nE_b1 A_b2 g_b2 nE_b2 ne_b1_b2 _ hF
set_option maxRecDepth 65536 in
set_option maxHeartbeats 4000000 in
theorem b_law_196 {p : Program} {l : Launch} {e : Env} {s : State} {m : MethodId} {args : Array Value} {below : List Frame} {meth : Method} {c : Code} {Z : State} {a0 : Array Value} {n0 : Nat} {hE : Heap} (cx : Cx_law p s m meth c Z a0) :
    ∀ {T : State} {locs : List Loc} {h : Heap} (X : Stand p l e room_1 s m args below meth c T locs 2 18) (eT : T.heap = h) (N : Fr n0 locs) (K : Keep hE h []) (z : n0 ≤ h.size) (b1 : Addr) (b2 : Addr) (v3 : Int32) (bs_b1 : List Int32) (bs_b2 : List Int32) (v0 : Int64) (d2 : Slot) (d6 : Slot) (d7 : Slot) (o_d2 : One d2) (o_d6 : One d6) (o_d7 : One d7) (A_b1 : own_Ar Z h b1 .byte (bs_b1.map Value.int)) (g_b1 : n0 ≤ b1) (nE_b1 : hE.size ≤ b1) (A_b2 : own_Ar Z h b2 .int (bs_b2.map Value.int)) (g_b2 : n0 ≤ b2) (nE_b2 : hE.size ≤ b2) (ne_b1_b2 : b1 ≠ b2) (r : Int32), f_law_196 v3 bs_b1 bs_b2 = some r → own_Goes p e below s (Q_law Z hE n0 r) 6 72 (T.setTop (mkF m 196 #[.val (.long v0), .second, d2, .val (.int v3), .val (.ref b1), .val (.ref b2), d6, d7] [])) := by
  have cx' := cx
  obtain ⟨hx, hZ, hw, hby, hml, hown, hret, hlk, hnm⟩ := cx'
  intro T locs h X eT N K z b1 b2 v3 bs_b1 bs_b2 v0 d2 d6 d7 o_d2 o_d6 o_d7 A_b1 g_b1 nE_b1 A_b2 g_b2 nE_b2 ne_b1_b2 r hF
  unfold f_law_196 at hF
  refine own_Goes.via (B := T.setTop (mkF m 198 #[.val (.long v0), .second, d2, .val (.int v3), .val (.ref b1), .val (.ref b2), d6, d7] [(.int (4 : Int32)), (.int v3)])) (fun t k => ?_) ?_
  · show Steps p.tables e below (T.setTop (mkF m 196 #[.val (.long v0), .second, d2, .val (.int v3), .val (.ref b1), .val (.ref b2), d6, d7] [])) t
    refine XS.iloadN X.here hx rfl (hb hby at_196) rfl ?_
    show Steps p.tables e below (T.setTop (mkF m 197 #[.val (.long v0), .second, d2, .val (.int v3), .val (.ref b1), .val (.ref b2), d6, d7] [(.int v3)])) t
    refine XS.iconst X.here hx rfl (hb hby at_197) ?_
    exact k
  by_cases hc198 : (4 : Int32) < v3
  · rw [if_pos hc198] at hF
    refine own_Goes.via (B := T.setTop (mkF m 206 #[.val (.long v0), .second, d2, .val (.int v3), .val (.ref b1), .val (.ref b2), d6, d7] [(.int (4 : Int32)), (.ref b1), (.ref b2)])) (fun t k => ?_) ?_
    · show Steps p.tables e below (T.setTop (mkF m 198 #[.val (.long v0), .second, d2, .val (.int v3), .val (.ref b1), .val (.ref b2), d6, d7] [(.int (4 : Int32)), (.int v3)])) t
      refine XS.icmpNo X.here hx rfl (hb hby at_198) rfl (tlt hc198).2.2.2 ?_
      show Steps p.tables e below (T.setTop (mkF m 201 #[.val (.long v0), .second, d2, .val (.int v3), .val (.ref b1), .val (.ref b2), d6, d7] [])) t
      refine XS.aload X.here hx rfl (hb hby at_201) rfl rfl ?_
      show Steps p.tables e below (T.setTop (mkF m 203 #[.val (.long v0), .second, d2, .val (.int v3), .val (.ref b1), .val (.ref b2), d6, d7] [(.ref b2)])) t
      refine XS.aload X.here hx rfl (hb hby at_203) rfl rfl ?_
      show Steps p.tables e below (T.setTop (mkF m 205 #[.val (.long v0), .second, d2, .val (.int v3), .val (.ref b1), .val (.ref b2), d6, d7] [(.ref b1), (.ref b2)])) t
      refine XS.iconst X.here hx rfl (hb hby at_205) ?_
      exact k
    obtain ⟨hi206, hF⟩ := own_ck_e hF
    refine own_Goes.via (B := T.setTop (mkF m 207 #[.val (.long v0), .second, d2, .val (.int v3), .val (.ref b1), .val (.ref b2), d6, d7] [(.int (own_rd bs_b1 (4 : Int32))), (.ref b2)])) (fun t k => ?_) ?_
    · show Steps p.tables e below (T.setTop (mkF m 206 #[.val (.long v0), .second, d2, .val (.int v3), .val (.ref b1), .val (.ref b2), d6, d7] [(.int (4 : Int32)), (.ref b1), (.ref b2)])) t
      refine own_ldB X hx hZ eT A_b1 hi206 rfl (g := (mkF m 206 #[.val (.long v0), .second, d2, .val (.int v3), .val (.ref b1), .val (.ref b2), d6, d7] [(.int (4 : Int32)), (.ref b1), (.ref b2)])) rfl rfl (hb hby at_206) ?_
      exact k
    obtain ⟨x683, hx683, hF⟩ := own_lt_e hF
    rw [← hx683]
    obtain ⟨r684, hr684, hF⟩ := own_bd_e hF
    obtain ⟨_, _, ⟨T684, L684, k684, n684⟩, -, X684, ⟨Lc684, hQ684, l684, y684, z684⟩, st684⟩ := Jvm.LawKit.callS X hx (y := (⟨"com/example/oxpecker/oxpecker/sip/RawMessageIsPlainPinLaw", "step", "([IB)V"⟩ : MethodName)) hown (mvT hZ (w8 hw)) (mvT hZ (w9 hw)) (mvT hZ (w4 hw)) (mvT hZ (w10 hw)) (by decide) (backOf (W := 0) (rm_RawMessageIsPlainPinLaw_step l Z a0 hw [] h n0 z b2 x683 bs_b2 A_b2 g_b2 r684 hr684) hZ (w10 hw) (w4 hw) (by decide) (by decide)) (g := (mkF m 207 #[.val (.long v0), .second, d2, .val (.int v3), .val (.ref b1), .val (.ref b2), d6, d7] [(.int x683), (.ref b2)])) rfl (by rw [hml]; rfl) (argsL := [(.ref b2), (.int x683)]) (rest := []) (lenOf pd_1 rfl) rfl (by show 2 * 0 + _ ≤ _; exact Nat.le_of_eq rfl) (hb hby at_207) (fun _ _ => ⟨rfl, eT, (by decide : 2 + 0 ≤ _), (by decide : 18 + 0 ≤ _)⟩)
    dsimp only [Pt.U, Pt.locs, Pt.cells, Pt.slots] at X684 l684 y684 z684 st684 hQ684
    subst l684 y684 z684
    obtain ⟨rfl, N684q, K684, A684_b2⟩ := hQ684
    have N684 := Fr.app N N684q
    have A684_b1 := A_b1.keep K684 (ninS ne_b1_b2 nin0)
    have K684_ := K.trans K684 (allS (Or.inr nE_b2) all0)
    have z684_ := Nat.le_trans z K684.1
    refine own_Goes.via st684 ?_
    show own_Goes _ _ _ _ _ _ _ (T684.setTop (mkF m 210 #[.val (.long v0), .second, d2, .val (.int v3), .val (.ref b1), .val (.ref b2), d6, d7] []))
    refine own_Goes.via (B := T684.setTop (mkF m 212 #[.val (.long v0), .second, d2, .val (.int v3), .val (.ref b1), .val (.ref b2), d6, d7] [(.int (5 : Int32)), (.int v3)])) (fun t k => ?_) ?_
    · show Steps p.tables e below (T684.setTop (mkF m 210 #[.val (.long v0), .second, d2, .val (.int v3), .val (.ref b1), .val (.ref b2), d6, d7] [])) t
      refine XS.iloadN X684.here hx rfl (hb hby at_210) rfl ?_
      show Steps p.tables e below (T684.setTop (mkF m 211 #[.val (.long v0), .second, d2, .val (.int v3), .val (.ref b1), .val (.ref b2), d6, d7] [(.int v3)])) t
      refine XS.iconst X684.here hx rfl (hb hby at_211) ?_
      exact k
    by_cases hc212 : (5 : Int32) < v3
    · rw [if_pos hc212] at hF
      refine own_Goes.via (B := T684.setTop (mkF m 220 #[.val (.long v0), .second, d2, .val (.int v3), .val (.ref b1), .val (.ref b2), d6, d7] [(.int (5 : Int32)), (.ref b1), (.ref b2)])) (fun t k => ?_) ?_
      · show Steps p.tables e below (T684.setTop (mkF m 212 #[.val (.long v0), .second, d2, .val (.int v3), .val (.ref b1), .val (.ref b2), d6, d7] [(.int (5 : Int32)), (.int v3)])) t
        refine XS.icmpNo X684.here hx rfl (hb hby at_212) rfl (tlt hc212).2.2.2 ?_
        show Steps p.tables e below (T684.setTop (mkF m 215 #[.val (.long v0), .second, d2, .val (.int v3), .val (.ref b1), .val (.ref b2), d6, d7] [])) t
        refine XS.aload X684.here hx rfl (hb hby at_215) rfl rfl ?_
        show Steps p.tables e below (T684.setTop (mkF m 217 #[.val (.long v0), .second, d2, .val (.int v3), .val (.ref b1), .val (.ref b2), d6, d7] [(.ref b2)])) t
        refine XS.aload X684.here hx rfl (hb hby at_217) rfl rfl ?_
        show Steps p.tables e below (T684.setTop (mkF m 219 #[.val (.long v0), .second, d2, .val (.int v3), .val (.ref b1), .val (.ref b2), d6, d7] [(.ref b1), (.ref b2)])) t
        refine XS.iconst X684.here hx rfl (hb hby at_219) ?_
        exact k
      obtain ⟨hi220, hF⟩ := own_ck_e hF
      refine own_Goes.via (B := T684.setTop (mkF m 221 #[.val (.long v0), .second, d2, .val (.int v3), .val (.ref b1), .val (.ref b2), d6, d7] [(.int (own_rd bs_b1 (5 : Int32))), (.ref b2)])) (fun t k => ?_) ?_
      · show Steps p.tables e below (T684.setTop (mkF m 220 #[.val (.long v0), .second, d2, .val (.int v3), .val (.ref b1), .val (.ref b2), d6, d7] [(.int (5 : Int32)), (.ref b1), (.ref b2)])) t
        refine own_ldB X684 hx hZ rfl A684_b1 hi220 rfl (g := (mkF m 220 #[.val (.long v0), .second, d2, .val (.int v3), .val (.ref b1), .val (.ref b2), d6, d7] [(.int (5 : Int32)), (.ref b1), (.ref b2)])) rfl rfl (hb hby at_220) ?_
        exact k
      obtain ⟨x685, hx685, hF⟩ := own_lt_e hF
      rw [← hx685]
      obtain ⟨r686, hr686, hF⟩ := own_bd_e hF
      obtain ⟨_, _, ⟨T686, L686, k686, n686⟩, -, X686, ⟨Lc686, hQ686, l686, y686, z686⟩, st686⟩ := Jvm.LawKit.callS X684 hx (y := (⟨"com/example/oxpecker/oxpecker/sip/RawMessageIsPlainPinLaw", "step", "([IB)V"⟩ : MethodName)) hown (mvT hZ (w8 hw)) (mvT hZ (w9 hw)) (mvT hZ (w4 hw)) (mvT hZ (w10 hw)) (by decide) (backOf (W := 0) (rm_RawMessageIsPlainPinLaw_step l Z a0 hw [] T684.heap n0 z684_ b2 x685 r684 A684_b2 g_b2 r686 hr686) hZ (w10 hw) (w4 hw) (by decide) (by decide)) (g := (mkF m 221 #[.val (.long v0), .second, d2, .val (.int v3), .val (.ref b1), .val (.ref b2), d6, d7] [(.int x685), (.ref b2)])) rfl (by rw [hml]; rfl) (argsL := [(.ref b2), (.int x685)]) (rest := []) (lenOf pd_1 rfl) rfl (by show 2 * 0 + _ ≤ _; exact Nat.le_of_eq rfl) (hb hby at_221) (fun _ _ => ⟨rfl, rfl, (by decide : 2 + 0 ≤ _), (by decide : 18 + 0 ≤ _)⟩)
      dsimp only [Pt.U, Pt.locs, Pt.cells, Pt.slots] at X686 l686 y686 z686 st686 hQ686
      subst l686 y686 z686
      obtain ⟨rfl, N686q, K686, A686_b2⟩ := hQ686
      have N686 := Fr.app N684 N686q
      have A686_b1 := A684_b1.keep K686 (ninS ne_b1_b2 nin0)
      have K686_ := K684_.trans K686 (allS (Or.inr nE_b2) all0)
      have z686_ := Nat.le_trans z684_ K686.1
      refine own_Goes.via st686 ?_
      show own_Goes _ _ _ _ _ _ _ (T686.setTop (mkF m 224 #[.val (.long v0), .second, d2, .val (.int v3), .val (.ref b1), .val (.ref b2), d6, d7] []))
      exact b_law_224 cx X686 rfl N686 K686_ z686_ b1 b2 v3 bs_b1 r686 v0 d2 d6 d7 o_d2 o_d6 o_d7 A686_b1 g_b1 nE_b1 A686_b2 g_b2 nE_b2 ne_b1_b2 _ hF
    · rw [if_neg hc212] at hF
      refine own_Goes.via (B := T684.setTop (mkF m 224 #[.val (.long v0), .second, d2, .val (.int v3), .val (.ref b1), .val (.ref b2), d6, d7] [])) (fun t k => ?_) ?_
      · show Steps p.tables e below (T684.setTop (mkF m 212 #[.val (.long v0), .second, d2, .val (.int v3), .val (.ref b1), .val (.ref b2), d6, d7] [(.int (5 : Int32)), (.int v3)])) t
        refine XS.icmpYes X684.here hx rfl (pc0 := 212) (pc' := 224) rfl (hb hby at_212) rfl (flt hc212).2.2.2 (by decide) (by decide) ?_
        exact k
      exact b_law_224 cx X684 rfl N684 K684_ z684_ b1 b2 v3 bs_b1 r684 v0 d2 d6 d7 o_d2 o_d6 o_d7 A684_b1 g_b1 nE_b1 A684_b2 g_b2 nE_b2 ne_b1_b2 _ hF
  · rw [if_neg hc198] at hF
    refine own_Goes.via (B := T.setTop (mkF m 212 #[.val (.long v0), .second, d2, .val (.int v3), .val (.ref b1), .val (.ref b2), d6, d7] [(.int (5 : Int32)), (.int v3)])) (fun t k => ?_) ?_
    · show Steps p.tables e below (T.setTop (mkF m 198 #[.val (.long v0), .second, d2, .val (.int v3), .val (.ref b1), .val (.ref b2), d6, d7] [(.int (4 : Int32)), (.int v3)])) t
      refine XS.icmpYes X.here hx rfl (pc0 := 198) (pc' := 210) rfl (hb hby at_198) rfl (flt hc198).2.2.2 (by decide) (by decide) ?_
      show Steps p.tables e below (T.setTop (mkF m 210 #[.val (.long v0), .second, d2, .val (.int v3), .val (.ref b1), .val (.ref b2), d6, d7] [])) t
      refine XS.iloadN X.here hx rfl (hb hby at_210) rfl ?_
      show Steps p.tables e below (T.setTop (mkF m 211 #[.val (.long v0), .second, d2, .val (.int v3), .val (.ref b1), .val (.ref b2), d6, d7] [(.int v3)])) t
      refine XS.iconst X.here hx rfl (hb hby at_211) ?_
      exact k
    by_cases hc212 : (5 : Int32) < v3
    · rw [if_pos hc212] at hF
      refine own_Goes.via (B := T.setTop (mkF m 220 #[.val (.long v0), .second, d2, .val (.int v3), .val (.ref b1), .val (.ref b2), d6, d7] [(.int (5 : Int32)), (.ref b1), (.ref b2)])) (fun t k => ?_) ?_
      · show Steps p.tables e below (T.setTop (mkF m 212 #[.val (.long v0), .second, d2, .val (.int v3), .val (.ref b1), .val (.ref b2), d6, d7] [(.int (5 : Int32)), (.int v3)])) t
        refine XS.icmpNo X.here hx rfl (hb hby at_212) rfl (tlt hc212).2.2.2 ?_
        show Steps p.tables e below (T.setTop (mkF m 215 #[.val (.long v0), .second, d2, .val (.int v3), .val (.ref b1), .val (.ref b2), d6, d7] [])) t
        refine XS.aload X.here hx rfl (hb hby at_215) rfl rfl ?_
        show Steps p.tables e below (T.setTop (mkF m 217 #[.val (.long v0), .second, d2, .val (.int v3), .val (.ref b1), .val (.ref b2), d6, d7] [(.ref b2)])) t
        refine XS.aload X.here hx rfl (hb hby at_217) rfl rfl ?_
        show Steps p.tables e below (T.setTop (mkF m 219 #[.val (.long v0), .second, d2, .val (.int v3), .val (.ref b1), .val (.ref b2), d6, d7] [(.ref b1), (.ref b2)])) t
        refine XS.iconst X.here hx rfl (hb hby at_219) ?_
        exact k
      obtain ⟨hi220, hF⟩ := own_ck_e hF
      refine own_Goes.via (B := T.setTop (mkF m 221 #[.val (.long v0), .second, d2, .val (.int v3), .val (.ref b1), .val (.ref b2), d6, d7] [(.int (own_rd bs_b1 (5 : Int32))), (.ref b2)])) (fun t k => ?_) ?_
      · show Steps p.tables e below (T.setTop (mkF m 220 #[.val (.long v0), .second, d2, .val (.int v3), .val (.ref b1), .val (.ref b2), d6, d7] [(.int (5 : Int32)), (.ref b1), (.ref b2)])) t
        refine own_ldB X hx hZ eT A_b1 hi220 rfl (g := (mkF m 220 #[.val (.long v0), .second, d2, .val (.int v3), .val (.ref b1), .val (.ref b2), d6, d7] [(.int (5 : Int32)), (.ref b1), (.ref b2)])) rfl rfl (hb hby at_220) ?_
        exact k
      obtain ⟨x687, hx687, hF⟩ := own_lt_e hF
      rw [← hx687]
      obtain ⟨r688, hr688, hF⟩ := own_bd_e hF
      obtain ⟨_, _, ⟨T688, L688, k688, n688⟩, -, X688, ⟨Lc688, hQ688, l688, y688, z688⟩, st688⟩ := Jvm.LawKit.callS X hx (y := (⟨"com/example/oxpecker/oxpecker/sip/RawMessageIsPlainPinLaw", "step", "([IB)V"⟩ : MethodName)) hown (mvT hZ (w8 hw)) (mvT hZ (w9 hw)) (mvT hZ (w4 hw)) (mvT hZ (w10 hw)) (by decide) (backOf (W := 0) (rm_RawMessageIsPlainPinLaw_step l Z a0 hw [] h n0 z b2 x687 bs_b2 A_b2 g_b2 r688 hr688) hZ (w10 hw) (w4 hw) (by decide) (by decide)) (g := (mkF m 221 #[.val (.long v0), .second, d2, .val (.int v3), .val (.ref b1), .val (.ref b2), d6, d7] [(.int x687), (.ref b2)])) rfl (by rw [hml]; rfl) (argsL := [(.ref b2), (.int x687)]) (rest := []) (lenOf pd_1 rfl) rfl (by show 2 * 0 + _ ≤ _; exact Nat.le_of_eq rfl) (hb hby at_221) (fun _ _ => ⟨rfl, eT, (by decide : 2 + 0 ≤ _), (by decide : 18 + 0 ≤ _)⟩)
      dsimp only [Pt.U, Pt.locs, Pt.cells, Pt.slots] at X688 l688 y688 z688 st688 hQ688
      subst l688 y688 z688
      obtain ⟨rfl, N688q, K688, A688_b2⟩ := hQ688
      have N688 := Fr.app N N688q
      have A688_b1 := A_b1.keep K688 (ninS ne_b1_b2 nin0)
      have K688_ := K.trans K688 (allS (Or.inr nE_b2) all0)
      have z688_ := Nat.le_trans z K688.1
      refine own_Goes.via st688 ?_
      show own_Goes _ _ _ _ _ _ _ (T688.setTop (mkF m 224 #[.val (.long v0), .second, d2, .val (.int v3), .val (.ref b1), .val (.ref b2), d6, d7] []))
      exact b_law_224 cx X688 rfl N688 K688_ z688_ b1 b2 v3 bs_b1 r688 v0 d2 d6 d7 o_d2 o_d6 o_d7 A688_b1 g_b1 nE_b1 A688_b2 g_b2 nE_b2 ne_b1_b2 _ hF
    · rw [if_neg hc212] at hF
      refine own_Goes.via (B := T.setTop (mkF m 224 #[.val (.long v0), .second, d2, .val (.int v3), .val (.ref b1), .val (.ref b2), d6, d7] [])) (fun t k => ?_) ?_
      · show Steps p.tables e below (T.setTop (mkF m 212 #[.val (.long v0), .second, d2, .val (.int v3), .val (.ref b1), .val (.ref b2), d6, d7] [(.int (5 : Int32)), (.int v3)])) t
        refine XS.icmpYes X.here hx rfl (pc0 := 212) (pc' := 224) rfl (hb hby at_212) rfl (flt hc212).2.2.2 (by decide) (by decide) ?_
        exact k
      exact b_law_224 cx X eT N K z b1 b2 v3 bs_b1 bs_b2 v0 d2 d6 d7 o_d2 o_d6 o_d7 A_b1 g_b1 nE_b1 A_b2 g_b2 nE_b2 ne_b1_b2 _ hF
set_option maxRecDepth 65536 in
set_option maxHeartbeats 4000000 in
theorem b_law_168 {p : Program} {l : Launch} {e : Env} {s : State} {m : MethodId} {args : Array Value} {below : List Frame} {meth : Method} {c : Code} {Z : State} {a0 : Array Value} {n0 : Nat} {hE : Heap} (cx : Cx_law p s m meth c Z a0) :
    ∀ {T : State} {locs : List Loc} {h : Heap} (X : Stand p l e room_1 s m args below meth c T locs 2 18) (eT : T.heap = h) (N : Fr n0 locs) (K : Keep hE h []) (z : n0 ≤ h.size) (b1 : Addr) (b2 : Addr) (v3 : Int32) (bs_b1 : List Int32) (bs_b2 : List Int32) (v0 : Int64) (d2 : Slot) (d6 : Slot) (d7 : Slot) (o_d2 : One d2) (o_d6 : One d6) (o_d7 : One d7) (A_b1 : own_Ar Z h b1 .byte (bs_b1.map Value.int)) (g_b1 : n0 ≤ b1) (nE_b1 : hE.size ≤ b1) (A_b2 : own_Ar Z h b2 .int (bs_b2.map Value.int)) (g_b2 : n0 ≤ b2) (nE_b2 : hE.size ≤ b2) (ne_b1_b2 : b1 ≠ b2) (r : Int32), f_law_168 v3 bs_b1 bs_b2 = some r → own_Goes p e below s (Q_law Z hE n0 r) 6 72 (T.setTop (mkF m 168 #[.val (.long v0), .second, d2, .val (.int v3), .val (.ref b1), .val (.ref b2), d6, d7] [])) := by
  have cx' := cx
  obtain ⟨hx, hZ, hw, hby, hml, hown, hret, hlk, hnm⟩ := cx'
  intro T locs h X eT N K z b1 b2 v3 bs_b1 bs_b2 v0 d2 d6 d7 o_d2 o_d6 o_d7 A_b1 g_b1 nE_b1 A_b2 g_b2 nE_b2 ne_b1_b2 r hF
  unfold f_law_168 at hF
  refine own_Goes.via (B := T.setTop (mkF m 170 #[.val (.long v0), .second, d2, .val (.int v3), .val (.ref b1), .val (.ref b2), d6, d7] [(.int (2 : Int32)), (.int v3)])) (fun t k => ?_) ?_
  · show Steps p.tables e below (T.setTop (mkF m 168 #[.val (.long v0), .second, d2, .val (.int v3), .val (.ref b1), .val (.ref b2), d6, d7] [])) t
    refine XS.iloadN X.here hx rfl (hb hby at_168) rfl ?_
    show Steps p.tables e below (T.setTop (mkF m 169 #[.val (.long v0), .second, d2, .val (.int v3), .val (.ref b1), .val (.ref b2), d6, d7] [(.int v3)])) t
    refine XS.iconst X.here hx rfl (hb hby at_169) ?_
    exact k
  by_cases hc170 : (2 : Int32) < v3
  · rw [if_pos hc170] at hF
    refine own_Goes.via (B := T.setTop (mkF m 178 #[.val (.long v0), .second, d2, .val (.int v3), .val (.ref b1), .val (.ref b2), d6, d7] [(.int (2 : Int32)), (.ref b1), (.ref b2)])) (fun t k => ?_) ?_
    · show Steps p.tables e below (T.setTop (mkF m 170 #[.val (.long v0), .second, d2, .val (.int v3), .val (.ref b1), .val (.ref b2), d6, d7] [(.int (2 : Int32)), (.int v3)])) t
      refine XS.icmpNo X.here hx rfl (hb hby at_170) rfl (tlt hc170).2.2.2 ?_
      show Steps p.tables e below (T.setTop (mkF m 173 #[.val (.long v0), .second, d2, .val (.int v3), .val (.ref b1), .val (.ref b2), d6, d7] [])) t
      refine XS.aload X.here hx rfl (hb hby at_173) rfl rfl ?_
      show Steps p.tables e below (T.setTop (mkF m 175 #[.val (.long v0), .second, d2, .val (.int v3), .val (.ref b1), .val (.ref b2), d6, d7] [(.ref b2)])) t
      refine XS.aload X.here hx rfl (hb hby at_175) rfl rfl ?_
      show Steps p.tables e below (T.setTop (mkF m 177 #[.val (.long v0), .second, d2, .val (.int v3), .val (.ref b1), .val (.ref b2), d6, d7] [(.ref b1), (.ref b2)])) t
      refine XS.iconst X.here hx rfl (hb hby at_177) ?_
      exact k
    obtain ⟨hi178, hF⟩ := own_ck_e hF
    refine own_Goes.via (B := T.setTop (mkF m 179 #[.val (.long v0), .second, d2, .val (.int v3), .val (.ref b1), .val (.ref b2), d6, d7] [(.int (own_rd bs_b1 (2 : Int32))), (.ref b2)])) (fun t k => ?_) ?_
    · show Steps p.tables e below (T.setTop (mkF m 178 #[.val (.long v0), .second, d2, .val (.int v3), .val (.ref b1), .val (.ref b2), d6, d7] [(.int (2 : Int32)), (.ref b1), (.ref b2)])) t
      refine own_ldB X hx hZ eT A_b1 hi178 rfl (g := (mkF m 178 #[.val (.long v0), .second, d2, .val (.int v3), .val (.ref b1), .val (.ref b2), d6, d7] [(.int (2 : Int32)), (.ref b1), (.ref b2)])) rfl rfl (hb hby at_178) ?_
      exact k
    obtain ⟨x691, hx691, hF⟩ := own_lt_e hF
    rw [← hx691]
    obtain ⟨r692, hr692, hF⟩ := own_bd_e hF
    obtain ⟨_, _, ⟨T692, L692, k692, n692⟩, -, X692, ⟨Lc692, hQ692, l692, y692, z692⟩, st692⟩ := Jvm.LawKit.callS X hx (y := (⟨"com/example/oxpecker/oxpecker/sip/RawMessageIsPlainPinLaw", "step", "([IB)V"⟩ : MethodName)) hown (mvT hZ (w8 hw)) (mvT hZ (w9 hw)) (mvT hZ (w4 hw)) (mvT hZ (w10 hw)) (by decide) (backOf (W := 0) (rm_RawMessageIsPlainPinLaw_step l Z a0 hw [] h n0 z b2 x691 bs_b2 A_b2 g_b2 r692 hr692) hZ (w10 hw) (w4 hw) (by decide) (by decide)) (g := (mkF m 179 #[.val (.long v0), .second, d2, .val (.int v3), .val (.ref b1), .val (.ref b2), d6, d7] [(.int x691), (.ref b2)])) rfl (by rw [hml]; rfl) (argsL := [(.ref b2), (.int x691)]) (rest := []) (lenOf pd_1 rfl) rfl (by show 2 * 0 + _ ≤ _; exact Nat.le_of_eq rfl) (hb hby at_179) (fun _ _ => ⟨rfl, eT, (by decide : 2 + 0 ≤ _), (by decide : 18 + 0 ≤ _)⟩)
    dsimp only [Pt.U, Pt.locs, Pt.cells, Pt.slots] at X692 l692 y692 z692 st692 hQ692
    subst l692 y692 z692
    obtain ⟨rfl, N692q, K692, A692_b2⟩ := hQ692
    have N692 := Fr.app N N692q
    have A692_b1 := A_b1.keep K692 (ninS ne_b1_b2 nin0)
    have K692_ := K.trans K692 (allS (Or.inr nE_b2) all0)
    have z692_ := Nat.le_trans z K692.1
    refine own_Goes.via st692 ?_
    show own_Goes _ _ _ _ _ _ _ (T692.setTop (mkF m 182 #[.val (.long v0), .second, d2, .val (.int v3), .val (.ref b1), .val (.ref b2), d6, d7] []))
    refine own_Goes.via (B := T692.setTop (mkF m 184 #[.val (.long v0), .second, d2, .val (.int v3), .val (.ref b1), .val (.ref b2), d6, d7] [(.int (3 : Int32)), (.int v3)])) (fun t k => ?_) ?_
    · show Steps p.tables e below (T692.setTop (mkF m 182 #[.val (.long v0), .second, d2, .val (.int v3), .val (.ref b1), .val (.ref b2), d6, d7] [])) t
      refine XS.iloadN X692.here hx rfl (hb hby at_182) rfl ?_
      show Steps p.tables e below (T692.setTop (mkF m 183 #[.val (.long v0), .second, d2, .val (.int v3), .val (.ref b1), .val (.ref b2), d6, d7] [(.int v3)])) t
      refine XS.iconst X692.here hx rfl (hb hby at_183) ?_
      exact k
    by_cases hc184 : (3 : Int32) < v3
    · rw [if_pos hc184] at hF
      refine own_Goes.via (B := T692.setTop (mkF m 192 #[.val (.long v0), .second, d2, .val (.int v3), .val (.ref b1), .val (.ref b2), d6, d7] [(.int (3 : Int32)), (.ref b1), (.ref b2)])) (fun t k => ?_) ?_
      · show Steps p.tables e below (T692.setTop (mkF m 184 #[.val (.long v0), .second, d2, .val (.int v3), .val (.ref b1), .val (.ref b2), d6, d7] [(.int (3 : Int32)), (.int v3)])) t
        refine XS.icmpNo X692.here hx rfl (hb hby at_184) rfl (tlt hc184).2.2.2 ?_
        show Steps p.tables e below (T692.setTop (mkF m 187 #[.val (.long v0), .second, d2, .val (.int v3), .val (.ref b1), .val (.ref b2), d6, d7] [])) t
        refine XS.aload X692.here hx rfl (hb hby at_187) rfl rfl ?_
        show Steps p.tables e below (T692.setTop (mkF m 189 #[.val (.long v0), .second, d2, .val (.int v3), .val (.ref b1), .val (.ref b2), d6, d7] [(.ref b2)])) t
        refine XS.aload X692.here hx rfl (hb hby at_189) rfl rfl ?_
        show Steps p.tables e below (T692.setTop (mkF m 191 #[.val (.long v0), .second, d2, .val (.int v3), .val (.ref b1), .val (.ref b2), d6, d7] [(.ref b1), (.ref b2)])) t
        refine XS.iconst X692.here hx rfl (hb hby at_191) ?_
        exact k
      obtain ⟨hi192, hF⟩ := own_ck_e hF
      refine own_Goes.via (B := T692.setTop (mkF m 193 #[.val (.long v0), .second, d2, .val (.int v3), .val (.ref b1), .val (.ref b2), d6, d7] [(.int (own_rd bs_b1 (3 : Int32))), (.ref b2)])) (fun t k => ?_) ?_
      · show Steps p.tables e below (T692.setTop (mkF m 192 #[.val (.long v0), .second, d2, .val (.int v3), .val (.ref b1), .val (.ref b2), d6, d7] [(.int (3 : Int32)), (.ref b1), (.ref b2)])) t
        refine own_ldB X692 hx hZ rfl A692_b1 hi192 rfl (g := (mkF m 192 #[.val (.long v0), .second, d2, .val (.int v3), .val (.ref b1), .val (.ref b2), d6, d7] [(.int (3 : Int32)), (.ref b1), (.ref b2)])) rfl rfl (hb hby at_192) ?_
        exact k
      obtain ⟨x693, hx693, hF⟩ := own_lt_e hF
      rw [← hx693]
      obtain ⟨r694, hr694, hF⟩ := own_bd_e hF
      obtain ⟨_, _, ⟨T694, L694, k694, n694⟩, -, X694, ⟨Lc694, hQ694, l694, y694, z694⟩, st694⟩ := Jvm.LawKit.callS X692 hx (y := (⟨"com/example/oxpecker/oxpecker/sip/RawMessageIsPlainPinLaw", "step", "([IB)V"⟩ : MethodName)) hown (mvT hZ (w8 hw)) (mvT hZ (w9 hw)) (mvT hZ (w4 hw)) (mvT hZ (w10 hw)) (by decide) (backOf (W := 0) (rm_RawMessageIsPlainPinLaw_step l Z a0 hw [] T692.heap n0 z692_ b2 x693 r692 A692_b2 g_b2 r694 hr694) hZ (w10 hw) (w4 hw) (by decide) (by decide)) (g := (mkF m 193 #[.val (.long v0), .second, d2, .val (.int v3), .val (.ref b1), .val (.ref b2), d6, d7] [(.int x693), (.ref b2)])) rfl (by rw [hml]; rfl) (argsL := [(.ref b2), (.int x693)]) (rest := []) (lenOf pd_1 rfl) rfl (by show 2 * 0 + _ ≤ _; exact Nat.le_of_eq rfl) (hb hby at_193) (fun _ _ => ⟨rfl, rfl, (by decide : 2 + 0 ≤ _), (by decide : 18 + 0 ≤ _)⟩)
      dsimp only [Pt.U, Pt.locs, Pt.cells, Pt.slots] at X694 l694 y694 z694 st694 hQ694
      subst l694 y694 z694
      obtain ⟨rfl, N694q, K694, A694_b2⟩ := hQ694
      have N694 := Fr.app N692 N694q
      have A694_b1 := A692_b1.keep K694 (ninS ne_b1_b2 nin0)
      have K694_ := K692_.trans K694 (allS (Or.inr nE_b2) all0)
      have z694_ := Nat.le_trans z692_ K694.1
      refine own_Goes.via st694 ?_
      show own_Goes _ _ _ _ _ _ _ (T694.setTop (mkF m 196 #[.val (.long v0), .second, d2, .val (.int v3), .val (.ref b1), .val (.ref b2), d6, d7] []))
      exact b_law_196 cx X694 rfl N694 K694_ z694_ b1 b2 v3 bs_b1 r694 v0 d2 d6 d7 o_d2 o_d6 o_d7 A694_b1 g_b1 nE_b1 A694_b2 g_b2 nE_b2 ne_b1_b2 _ hF
    · rw [if_neg hc184] at hF
      refine own_Goes.via (B := T692.setTop (mkF m 196 #[.val (.long v0), .second, d2, .val (.int v3), .val (.ref b1), .val (.ref b2), d6, d7] [])) (fun t k => ?_) ?_
      · show Steps p.tables e below (T692.setTop (mkF m 184 #[.val (.long v0), .second, d2, .val (.int v3), .val (.ref b1), .val (.ref b2), d6, d7] [(.int (3 : Int32)), (.int v3)])) t
        refine XS.icmpYes X692.here hx rfl (pc0 := 184) (pc' := 196) rfl (hb hby at_184) rfl (flt hc184).2.2.2 (by decide) (by decide) ?_
        exact k
      exact b_law_196 cx X692 rfl N692 K692_ z692_ b1 b2 v3 bs_b1 r692 v0 d2 d6 d7 o_d2 o_d6 o_d7 A692_b1 g_b1 nE_b1 A692_b2 g_b2 nE_b2 ne_b1_b2 _ hF
  · rw [if_neg hc170] at hF
    refine own_Goes.via (B := T.setTop (mkF m 184 #[.val (.long v0), .second, d2, .val (.int v3), .val (.ref b1), .val (.ref b2), d6, d7] [(.int (3 : Int32)), (.int v3)])) (fun t k => ?_) ?_
    · show Steps p.tables e below (T.setTop (mkF m 170 #[.val (.long v0), .second, d2, .val (.int v3), .val (.ref b1), .val (.ref b2), d6, d7] [(.int (2 : Int32)), (.int v3)])) t
      refine XS.icmpYes X.here hx rfl (pc0 := 170) (pc' := 182) rfl (hb hby at_170) rfl (flt hc170).2.2.2 (by decide) (by decide) ?_
      show Steps p.tables e below (T.setTop (mkF m 182 #[.val (.long v0), .second, d2, .val (.int v3), .val (.ref b1), .val (.ref b2), d6, d7] [])) t
      refine XS.iloadN X.here hx rfl (hb hby at_182) rfl ?_
      show Steps p.tables e below (T.setTop (mkF m 183 #[.val (.long v0), .second, d2, .val (.int v3), .val (.ref b1), .val (.ref b2), d6, d7] [(.int v3)])) t
      refine XS.iconst X.here hx rfl (hb hby at_183) ?_
      exact k
    by_cases hc184 : (3 : Int32) < v3
    · rw [if_pos hc184] at hF
      refine own_Goes.via (B := T.setTop (mkF m 192 #[.val (.long v0), .second, d2, .val (.int v3), .val (.ref b1), .val (.ref b2), d6, d7] [(.int (3 : Int32)), (.ref b1), (.ref b2)])) (fun t k => ?_) ?_
      · show Steps p.tables e below (T.setTop (mkF m 184 #[.val (.long v0), .second, d2, .val (.int v3), .val (.ref b1), .val (.ref b2), d6, d7] [(.int (3 : Int32)), (.int v3)])) t
        refine XS.icmpNo X.here hx rfl (hb hby at_184) rfl (tlt hc184).2.2.2 ?_
        show Steps p.tables e below (T.setTop (mkF m 187 #[.val (.long v0), .second, d2, .val (.int v3), .val (.ref b1), .val (.ref b2), d6, d7] [])) t
        refine XS.aload X.here hx rfl (hb hby at_187) rfl rfl ?_
        show Steps p.tables e below (T.setTop (mkF m 189 #[.val (.long v0), .second, d2, .val (.int v3), .val (.ref b1), .val (.ref b2), d6, d7] [(.ref b2)])) t
        refine XS.aload X.here hx rfl (hb hby at_189) rfl rfl ?_
        show Steps p.tables e below (T.setTop (mkF m 191 #[.val (.long v0), .second, d2, .val (.int v3), .val (.ref b1), .val (.ref b2), d6, d7] [(.ref b1), (.ref b2)])) t
        refine XS.iconst X.here hx rfl (hb hby at_191) ?_
        exact k
      obtain ⟨hi192, hF⟩ := own_ck_e hF
      refine own_Goes.via (B := T.setTop (mkF m 193 #[.val (.long v0), .second, d2, .val (.int v3), .val (.ref b1), .val (.ref b2), d6, d7] [(.int (own_rd bs_b1 (3 : Int32))), (.ref b2)])) (fun t k => ?_) ?_
      · show Steps p.tables e below (T.setTop (mkF m 192 #[.val (.long v0), .second, d2, .val (.int v3), .val (.ref b1), .val (.ref b2), d6, d7] [(.int (3 : Int32)), (.ref b1), (.ref b2)])) t
        refine own_ldB X hx hZ eT A_b1 hi192 rfl (g := (mkF m 192 #[.val (.long v0), .second, d2, .val (.int v3), .val (.ref b1), .val (.ref b2), d6, d7] [(.int (3 : Int32)), (.ref b1), (.ref b2)])) rfl rfl (hb hby at_192) ?_
        exact k
      obtain ⟨x695, hx695, hF⟩ := own_lt_e hF
      rw [← hx695]
      obtain ⟨r696, hr696, hF⟩ := own_bd_e hF
      obtain ⟨_, _, ⟨T696, L696, k696, n696⟩, -, X696, ⟨Lc696, hQ696, l696, y696, z696⟩, st696⟩ := Jvm.LawKit.callS X hx (y := (⟨"com/example/oxpecker/oxpecker/sip/RawMessageIsPlainPinLaw", "step", "([IB)V"⟩ : MethodName)) hown (mvT hZ (w8 hw)) (mvT hZ (w9 hw)) (mvT hZ (w4 hw)) (mvT hZ (w10 hw)) (by decide) (backOf (W := 0) (rm_RawMessageIsPlainPinLaw_step l Z a0 hw [] h n0 z b2 x695 bs_b2 A_b2 g_b2 r696 hr696) hZ (w10 hw) (w4 hw) (by decide) (by decide)) (g := (mkF m 193 #[.val (.long v0), .second, d2, .val (.int v3), .val (.ref b1), .val (.ref b2), d6, d7] [(.int x695), (.ref b2)])) rfl (by rw [hml]; rfl) (argsL := [(.ref b2), (.int x695)]) (rest := []) (lenOf pd_1 rfl) rfl (by show 2 * 0 + _ ≤ _; exact Nat.le_of_eq rfl) (hb hby at_193) (fun _ _ => ⟨rfl, eT, (by decide : 2 + 0 ≤ _), (by decide : 18 + 0 ≤ _)⟩)
      dsimp only [Pt.U, Pt.locs, Pt.cells, Pt.slots] at X696 l696 y696 z696 st696 hQ696
      subst l696 y696 z696
      obtain ⟨rfl, N696q, K696, A696_b2⟩ := hQ696
      have N696 := Fr.app N N696q
      have A696_b1 := A_b1.keep K696 (ninS ne_b1_b2 nin0)
      have K696_ := K.trans K696 (allS (Or.inr nE_b2) all0)
      have z696_ := Nat.le_trans z K696.1
      refine own_Goes.via st696 ?_
      show own_Goes _ _ _ _ _ _ _ (T696.setTop (mkF m 196 #[.val (.long v0), .second, d2, .val (.int v3), .val (.ref b1), .val (.ref b2), d6, d7] []))
      exact b_law_196 cx X696 rfl N696 K696_ z696_ b1 b2 v3 bs_b1 r696 v0 d2 d6 d7 o_d2 o_d6 o_d7 A696_b1 g_b1 nE_b1 A696_b2 g_b2 nE_b2 ne_b1_b2 _ hF
    · rw [if_neg hc184] at hF
      refine own_Goes.via (B := T.setTop (mkF m 196 #[.val (.long v0), .second, d2, .val (.int v3), .val (.ref b1), .val (.ref b2), d6, d7] [])) (fun t k => ?_) ?_
      · show Steps p.tables e below (T.setTop (mkF m 184 #[.val (.long v0), .second, d2, .val (.int v3), .val (.ref b1), .val (.ref b2), d6, d7] [(.int (3 : Int32)), (.int v3)])) t
        refine XS.icmpYes X.here hx rfl (pc0 := 184) (pc' := 196) rfl (hb hby at_184) rfl (flt hc184).2.2.2 (by decide) (by decide) ?_
        exact k
      exact b_law_196 cx X eT N K z b1 b2 v3 bs_b1 bs_b2 v0 d2 d6 d7 o_d2 o_d6 o_d7 A_b1 g_b1 nE_b1 A_b2 g_b2 nE_b2 ne_b1_b2 _ hF
set_option maxRecDepth 65536 in
set_option maxHeartbeats 4000000 in
theorem b_law_130 {p : Program} {l : Launch} {e : Env} {s : State} {m : MethodId} {args : Array Value} {below : List Frame} {meth : Method} {c : Code} {Z : State} {a0 : Array Value} {n0 : Nat} {hE : Heap} (cx : Cx_law p s m meth c Z a0) :
    ∀ {T : State} {locs : List Loc} {h : Heap} (X : Stand p l e room_1 s m args below meth c T locs 1 8) (eT : T.heap = h) (N : Fr n0 locs) (K : Keep hE h []) (z : n0 ≤ h.size) (b1 : Addr) (v3 : Int32) (bs_b1 : List Int32) (v0 : Int64) (d2 : Slot) (d5 : Slot) (d6 : Slot) (d7 : Slot) (o_d2 : One d2) (o_d5 : One d5) (o_d6 : One d6) (o_d7 : One d7) (A_b1 : own_Ar Z h b1 .byte (bs_b1.map Value.int)) (g_b1 : n0 ≤ b1) (nE_b1 : hE.size ≤ b1) (r : Int32), f_law_130 v3 bs_b1 = some r → own_Goes p e below s (Q_law Z hE n0 r) 6 72 (T.setTop (mkF m 130 #[.val (.long v0), .second, d2, .val (.int v3), .val (.ref b1), d5, d6, d7] [])) := by
  have cx' := cx
  obtain ⟨hx, hZ, hw, hby, hml, hown, hret, hlk, hnm⟩ := cx'
  intro T locs h X eT N K z b1 v3 bs_b1 v0 d2 d5 d6 d7 o_d2 o_d5 o_d6 o_d7 A_b1 g_b1 nE_b1 r hF
  unfold f_law_130 at hF
  refine own_Goes.via (B := T.setTop (mkF m 132 #[.val (.long v0), .second, d2, .val (.int v3), .val (.ref b1), d5, d6, d7] [(.int (10 : Int32))])) (fun t k => ?_) ?_
  · show Steps p.tables e below (T.setTop (mkF m 130 #[.val (.long v0), .second, d2, .val (.int v3), .val (.ref b1), d5, d6, d7] [])) t
    refine XS.bipush X.here hx rfl (hb hby at_130) ?_
    exact k
  obtain ⟨T699, h699, k699, X699, e699, E699, A699, st699⟩ := newP X hx hZ (aty := .int) (w7 hw) eT (g := (mkF m 132 #[.val (.long v0), .second, d2, .val (.int v3), .val (.ref b1), d5, d6, d7] [(.int (10 : Int32))])) rfl (hb hby at_132) rfl (by decide) (cap := 10) (by decide) (by decide) (by decide) (by decide)
  obtain ⟨c699, q699⟩ : ∃ z, z = h.size := ⟨_, rfl⟩
  rw [← q699] at A699 st699
  have A699_c699 : own_Ar Z h699 c699 .int (([(0 : Int32), (0 : Int32), (0 : Int32), (0 : Int32), (0 : Int32), (0 : Int32), (0 : Int32), (0 : Int32), (0 : Int32), (0 : Int32)] : List Int32).map Value.int) := own_newI A699 (by decide) rfl (kk := 10) (by decide)
  have g699_c699 : n0 ≤ c699 := Nat.le_trans z (Nat.le_of_eq q699.symm)
  have nE699_c699 : hE.size ≤ c699 := Nat.le_trans K.1 (Nat.le_of_eq q699.symm)
  have ne_b1_c699 : b1 ≠ c699 := Nat.ne_of_lt (Nat.lt_of_lt_of_le A_b1.lt (Nat.le_of_eq q699.symm))
  have A699_b1 := A_b1.ext E699
  have z699 := Nat.le_trans z E699.1
  have K699_ := K.ext E699
  refine own_Goes.via st699 ?_
  show own_Goes _ _ _ _ _ _ _ (T699.setTop (mkF m 134 #[.val (.long v0), .second, d2, .val (.int v3), .val (.ref b1), d5, d6, d7] [(.ref c699)]))
  refine own_Goes.via (B := T699.setTop (mkF m 140 #[.val (.long v0), .second, d2, .val (.int v3), .val (.ref b1), .val (.ref c699), d6, d7] [(.int (1 : Int32)), (.int (2 : Int32)), (.ref c699)])) (fun t k => ?_) ?_
  · show Steps p.tables e below (T699.setTop (mkF m 134 #[.val (.long v0), .second, d2, .val (.int v3), .val (.ref b1), d5, d6, d7] [(.ref c699)])) t
    refine XS.astoreS X699.here hx rfl (hb hby at_134) rfl rfl rfl rfl o_d5 ?_
    show Steps p.tables e below (T699.setTop (mkF m 136 #[.val (.long v0), .second, d2, .val (.int v3), .val (.ref b1), .val (.ref c699), d6, d7] [])) t
    refine XS.aload X699.here hx rfl (hb hby at_136) rfl rfl ?_
    show Steps p.tables e below (T699.setTop (mkF m 138 #[.val (.long v0), .second, d2, .val (.int v3), .val (.ref b1), .val (.ref c699), d6, d7] [(.ref c699)])) t
    refine XS.iconst X699.here hx rfl (hb hby at_138) ?_
    show Steps p.tables e below (T699.setTop (mkF m 139 #[.val (.long v0), .second, d2, .val (.int v3), .val (.ref b1), .val (.ref c699), d6, d7] [(.int (2 : Int32)), (.ref c699)])) t
    refine XS.iconst X699.here hx rfl (hb hby at_139) ?_
    exact k
  obtain ⟨T700, h700, X700, e700, W700, A700_c699, st700⟩ := own_stI X699 hx hZ e699 A699_c699 (own_inbk 2 10 (by decide) (by decide) rfl (by decide)) (g := (mkF m 140 #[.val (.long v0), .second, d2, .val (.int v3), .val (.ref b1), .val (.ref c699), d6, d7] [(.int (1 : Int32)), (.int (2 : Int32)), (.ref c699)])) rfl rfl (hb hby at_140)
  refine own_Goes.via st700 ?_
  have A700_b1 := A699_b1.other W700 ne_b1_c699
  have z700 := Nat.le_trans z699 (Keep.of_wr W700).1
  have K700_ := K699_.wr W700 (Or.inr nE699_c699)
  have N700 := Fr.snoc X700 N g699_c699
  rw [own_wrk 2 (by decide)] at A700_c699
  have A700_c699 : own_Ar Z h700 c699 .int (([(0 : Int32), (0 : Int32), (1 : Int32), (0 : Int32), (0 : Int32), (0 : Int32), (0 : Int32), (0 : Int32), (0 : Int32), (0 : Int32)] : List Int32).map Value.int) := A700_c699
  show own_Goes _ _ _ _ _ _ _ (T700.setTop (mkF m 141 #[.val (.long v0), .second, d2, .val (.int v3), .val (.ref b1), .val (.ref c699), d6, d7] []))
  refine own_Goes.via (B := T700.setTop (mkF m 142 #[.val (.long v0), .second, d2, .val (.int v3), .val (.ref b1), .val (.ref c699), d6, d7] [(.int v3)])) (fun t k => ?_) ?_
  · show Steps p.tables e below (T700.setTop (mkF m 141 #[.val (.long v0), .second, d2, .val (.int v3), .val (.ref b1), .val (.ref c699), d6, d7] [])) t
    refine XS.iloadN X700.here hx rfl (hb hby at_141) rfl ?_
    exact k
  by_cases hc142 : (0 : Int32) < v3
  · rw [if_pos hc142] at hF
    refine own_Goes.via (B := T700.setTop (mkF m 150 #[.val (.long v0), .second, d2, .val (.int v3), .val (.ref b1), .val (.ref c699), d6, d7] [(.int (0 : Int32)), (.ref b1), (.ref c699)])) (fun t k => ?_) ?_
    · show Steps p.tables e below (T700.setTop (mkF m 142 #[.val (.long v0), .second, d2, .val (.int v3), .val (.ref b1), .val (.ref c699), d6, d7] [(.int v3)])) t
      refine XS.ifNo X700.here hx rfl (hb hby at_142) rfl ((if0 _ _).trans (tlt hc142).2.2.2) ?_
      show Steps p.tables e below (T700.setTop (mkF m 145 #[.val (.long v0), .second, d2, .val (.int v3), .val (.ref b1), .val (.ref c699), d6, d7] [])) t
      refine XS.aload X700.here hx rfl (hb hby at_145) rfl rfl ?_
      show Steps p.tables e below (T700.setTop (mkF m 147 #[.val (.long v0), .second, d2, .val (.int v3), .val (.ref b1), .val (.ref c699), d6, d7] [(.ref c699)])) t
      refine XS.aload X700.here hx rfl (hb hby at_147) rfl rfl ?_
      show Steps p.tables e below (T700.setTop (mkF m 149 #[.val (.long v0), .second, d2, .val (.int v3), .val (.ref b1), .val (.ref c699), d6, d7] [(.ref b1), (.ref c699)])) t
      refine XS.iconst X700.here hx rfl (hb hby at_149) ?_
      exact k
    obtain ⟨hi150, hF⟩ := own_ck_e hF
    refine own_Goes.via (B := T700.setTop (mkF m 151 #[.val (.long v0), .second, d2, .val (.int v3), .val (.ref b1), .val (.ref c699), d6, d7] [(.int (own_rd bs_b1 (0 : Int32))), (.ref c699)])) (fun t k => ?_) ?_
    · show Steps p.tables e below (T700.setTop (mkF m 150 #[.val (.long v0), .second, d2, .val (.int v3), .val (.ref b1), .val (.ref c699), d6, d7] [(.int (0 : Int32)), (.ref b1), (.ref c699)])) t
      refine own_ldB X700 hx hZ e700 A700_b1 hi150 rfl (g := (mkF m 150 #[.val (.long v0), .second, d2, .val (.int v3), .val (.ref b1), .val (.ref c699), d6, d7] [(.int (0 : Int32)), (.ref b1), (.ref c699)])) rfl rfl (hb hby at_150) ?_
      exact k
    obtain ⟨x701, hx701, hF⟩ := own_lt_e hF
    rw [← hx701]
    obtain ⟨r702, hr702, hF⟩ := own_bd_e hF
    obtain ⟨_, _, ⟨T702, L702, k702, n702⟩, -, X702, ⟨Lc702, hQ702, l702, y702, z702⟩, st702⟩ := Jvm.LawKit.callS X700 hx (y := (⟨"com/example/oxpecker/oxpecker/sip/RawMessageIsPlainPinLaw", "step", "([IB)V"⟩ : MethodName)) hown (mvT hZ (w8 hw)) (mvT hZ (w9 hw)) (mvT hZ (w4 hw)) (mvT hZ (w10 hw)) (by decide) (backOf (W := 0) (rm_RawMessageIsPlainPinLaw_step l Z a0 hw [] h700 n0 z700 c699 x701 ([(0 : Int32), (0 : Int32), (1 : Int32), (0 : Int32), (0 : Int32), (0 : Int32), (0 : Int32), (0 : Int32), (0 : Int32), (0 : Int32)] : List Int32) A700_c699 g699_c699 r702 hr702) hZ (w10 hw) (w4 hw) (by decide) (by decide)) (g := (mkF m 151 #[.val (.long v0), .second, d2, .val (.int v3), .val (.ref b1), .val (.ref c699), d6, d7] [(.int x701), (.ref c699)])) rfl (by rw [hml]; rfl) (argsL := [(.ref c699), (.int x701)]) (rest := []) (lenOf pd_1 rfl) rfl (by show 2 * 0 + _ ≤ _; exact Nat.le_of_eq rfl) (hb hby at_151) (fun _ _ => ⟨rfl, e700, (by decide : 2 + 0 ≤ _), (by decide : 18 + 0 ≤ _)⟩)
    dsimp only [Pt.U, Pt.locs, Pt.cells, Pt.slots] at X702 l702 y702 z702 st702 hQ702
    subst l702 y702 z702
    obtain ⟨rfl, N702q, K702, A702_c699⟩ := hQ702
    have N702 := Fr.app N700 N702q
    have A702_b1 := A700_b1.keep K702 (ninS ne_b1_c699 nin0)
    have K702_ := K700_.trans K702 (allS (Or.inr nE699_c699) all0)
    have z702_ := Nat.le_trans z700 K702.1
    refine own_Goes.via st702 ?_
    show own_Goes _ _ _ _ _ _ _ (T702.setTop (mkF m 154 #[.val (.long v0), .second, d2, .val (.int v3), .val (.ref b1), .val (.ref c699), d6, d7] []))
    refine own_Goes.via (B := T702.setTop (mkF m 156 #[.val (.long v0), .second, d2, .val (.int v3), .val (.ref b1), .val (.ref c699), d6, d7] [(.int (1 : Int32)), (.int v3)])) (fun t k => ?_) ?_
    · show Steps p.tables e below (T702.setTop (mkF m 154 #[.val (.long v0), .second, d2, .val (.int v3), .val (.ref b1), .val (.ref c699), d6, d7] [])) t
      refine XS.iloadN X702.here hx rfl (hb hby at_154) rfl ?_
      show Steps p.tables e below (T702.setTop (mkF m 155 #[.val (.long v0), .second, d2, .val (.int v3), .val (.ref b1), .val (.ref c699), d6, d7] [(.int v3)])) t
      refine XS.iconst X702.here hx rfl (hb hby at_155) ?_
      exact k
    by_cases hc156 : (1 : Int32) < v3
    · rw [if_pos hc156] at hF
      refine own_Goes.via (B := T702.setTop (mkF m 164 #[.val (.long v0), .second, d2, .val (.int v3), .val (.ref b1), .val (.ref c699), d6, d7] [(.int (1 : Int32)), (.ref b1), (.ref c699)])) (fun t k => ?_) ?_
      · show Steps p.tables e below (T702.setTop (mkF m 156 #[.val (.long v0), .second, d2, .val (.int v3), .val (.ref b1), .val (.ref c699), d6, d7] [(.int (1 : Int32)), (.int v3)])) t
        refine XS.icmpNo X702.here hx rfl (hb hby at_156) rfl (tlt hc156).2.2.2 ?_
        show Steps p.tables e below (T702.setTop (mkF m 159 #[.val (.long v0), .second, d2, .val (.int v3), .val (.ref b1), .val (.ref c699), d6, d7] [])) t
        refine XS.aload X702.here hx rfl (hb hby at_159) rfl rfl ?_
        show Steps p.tables e below (T702.setTop (mkF m 161 #[.val (.long v0), .second, d2, .val (.int v3), .val (.ref b1), .val (.ref c699), d6, d7] [(.ref c699)])) t
        refine XS.aload X702.here hx rfl (hb hby at_161) rfl rfl ?_
        show Steps p.tables e below (T702.setTop (mkF m 163 #[.val (.long v0), .second, d2, .val (.int v3), .val (.ref b1), .val (.ref c699), d6, d7] [(.ref b1), (.ref c699)])) t
        refine XS.iconst X702.here hx rfl (hb hby at_163) ?_
        exact k
      obtain ⟨hi164, hF⟩ := own_ck_e hF
      refine own_Goes.via (B := T702.setTop (mkF m 165 #[.val (.long v0), .second, d2, .val (.int v3), .val (.ref b1), .val (.ref c699), d6, d7] [(.int (own_rd bs_b1 (1 : Int32))), (.ref c699)])) (fun t k => ?_) ?_
      · show Steps p.tables e below (T702.setTop (mkF m 164 #[.val (.long v0), .second, d2, .val (.int v3), .val (.ref b1), .val (.ref c699), d6, d7] [(.int (1 : Int32)), (.ref b1), (.ref c699)])) t
        refine own_ldB X702 hx hZ rfl A702_b1 hi164 rfl (g := (mkF m 164 #[.val (.long v0), .second, d2, .val (.int v3), .val (.ref b1), .val (.ref c699), d6, d7] [(.int (1 : Int32)), (.ref b1), (.ref c699)])) rfl rfl (hb hby at_164) ?_
        exact k
      obtain ⟨x703, hx703, hF⟩ := own_lt_e hF
      rw [← hx703]
      obtain ⟨r704, hr704, hF⟩ := own_bd_e hF
      obtain ⟨_, _, ⟨T704, L704, k704, n704⟩, -, X704, ⟨Lc704, hQ704, l704, y704, z704⟩, st704⟩ := Jvm.LawKit.callS X702 hx (y := (⟨"com/example/oxpecker/oxpecker/sip/RawMessageIsPlainPinLaw", "step", "([IB)V"⟩ : MethodName)) hown (mvT hZ (w8 hw)) (mvT hZ (w9 hw)) (mvT hZ (w4 hw)) (mvT hZ (w10 hw)) (by decide) (backOf (W := 0) (rm_RawMessageIsPlainPinLaw_step l Z a0 hw [] T702.heap n0 z702_ c699 x703 r702 A702_c699 g699_c699 r704 hr704) hZ (w10 hw) (w4 hw) (by decide) (by decide)) (g := (mkF m 165 #[.val (.long v0), .second, d2, .val (.int v3), .val (.ref b1), .val (.ref c699), d6, d7] [(.int x703), (.ref c699)])) rfl (by rw [hml]; rfl) (argsL := [(.ref c699), (.int x703)]) (rest := []) (lenOf pd_1 rfl) rfl (by show 2 * 0 + _ ≤ _; exact Nat.le_of_eq rfl) (hb hby at_165) (fun _ _ => ⟨rfl, rfl, (by decide : 2 + 0 ≤ _), (by decide : 18 + 0 ≤ _)⟩)
      dsimp only [Pt.U, Pt.locs, Pt.cells, Pt.slots] at X704 l704 y704 z704 st704 hQ704
      subst l704 y704 z704
      obtain ⟨rfl, N704q, K704, A704_c699⟩ := hQ704
      have N704 := Fr.app N702 N704q
      have A704_b1 := A702_b1.keep K704 (ninS ne_b1_c699 nin0)
      have K704_ := K702_.trans K704 (allS (Or.inr nE699_c699) all0)
      have z704_ := Nat.le_trans z702_ K704.1
      refine own_Goes.via st704 ?_
      show own_Goes _ _ _ _ _ _ _ (T704.setTop (mkF m 168 #[.val (.long v0), .second, d2, .val (.int v3), .val (.ref b1), .val (.ref c699), d6, d7] []))
      exact b_law_168 cx X704 rfl N704 K704_ z704_ b1 c699 v3 bs_b1 r704 v0 d2 d6 d7 o_d2 o_d6 o_d7 A704_b1 g_b1 nE_b1 A704_c699 g699_c699 nE699_c699 ne_b1_c699 _ hF
    · rw [if_neg hc156] at hF
      refine own_Goes.via (B := T702.setTop (mkF m 168 #[.val (.long v0), .second, d2, .val (.int v3), .val (.ref b1), .val (.ref c699), d6, d7] [])) (fun t k => ?_) ?_
      · show Steps p.tables e below (T702.setTop (mkF m 156 #[.val (.long v0), .second, d2, .val (.int v3), .val (.ref b1), .val (.ref c699), d6, d7] [(.int (1 : Int32)), (.int v3)])) t
        refine XS.icmpYes X702.here hx rfl (pc0 := 156) (pc' := 168) rfl (hb hby at_156) rfl (flt hc156).2.2.2 (by decide) (by decide) ?_
        exact k
      exact b_law_168 cx X702 rfl N702 K702_ z702_ b1 c699 v3 bs_b1 r702 v0 d2 d6 d7 o_d2 o_d6 o_d7 A702_b1 g_b1 nE_b1 A702_c699 g699_c699 nE699_c699 ne_b1_c699 _ hF
  · rw [if_neg hc142] at hF
    refine own_Goes.via (B := T700.setTop (mkF m 156 #[.val (.long v0), .second, d2, .val (.int v3), .val (.ref b1), .val (.ref c699), d6, d7] [(.int (1 : Int32)), (.int v3)])) (fun t k => ?_) ?_
    · show Steps p.tables e below (T700.setTop (mkF m 142 #[.val (.long v0), .second, d2, .val (.int v3), .val (.ref b1), .val (.ref c699), d6, d7] [(.int v3)])) t
      refine XS.ifYes X700.here hx rfl (pc0 := 142) (pc' := 154) rfl (hb hby at_142) rfl ((if0 _ _).trans (flt hc142).2.2.2) (by decide) (by decide) ?_
      show Steps p.tables e below (T700.setTop (mkF m 154 #[.val (.long v0), .second, d2, .val (.int v3), .val (.ref b1), .val (.ref c699), d6, d7] [])) t
      refine XS.iloadN X700.here hx rfl (hb hby at_154) rfl ?_
      show Steps p.tables e below (T700.setTop (mkF m 155 #[.val (.long v0), .second, d2, .val (.int v3), .val (.ref b1), .val (.ref c699), d6, d7] [(.int v3)])) t
      refine XS.iconst X700.here hx rfl (hb hby at_155) ?_
      exact k
    by_cases hc156 : (1 : Int32) < v3
    · rw [if_pos hc156] at hF
      refine own_Goes.via (B := T700.setTop (mkF m 164 #[.val (.long v0), .second, d2, .val (.int v3), .val (.ref b1), .val (.ref c699), d6, d7] [(.int (1 : Int32)), (.ref b1), (.ref c699)])) (fun t k => ?_) ?_
      · show Steps p.tables e below (T700.setTop (mkF m 156 #[.val (.long v0), .second, d2, .val (.int v3), .val (.ref b1), .val (.ref c699), d6, d7] [(.int (1 : Int32)), (.int v3)])) t
        refine XS.icmpNo X700.here hx rfl (hb hby at_156) rfl (tlt hc156).2.2.2 ?_
        show Steps p.tables e below (T700.setTop (mkF m 159 #[.val (.long v0), .second, d2, .val (.int v3), .val (.ref b1), .val (.ref c699), d6, d7] [])) t
        refine XS.aload X700.here hx rfl (hb hby at_159) rfl rfl ?_
        show Steps p.tables e below (T700.setTop (mkF m 161 #[.val (.long v0), .second, d2, .val (.int v3), .val (.ref b1), .val (.ref c699), d6, d7] [(.ref c699)])) t
        refine XS.aload X700.here hx rfl (hb hby at_161) rfl rfl ?_
        show Steps p.tables e below (T700.setTop (mkF m 163 #[.val (.long v0), .second, d2, .val (.int v3), .val (.ref b1), .val (.ref c699), d6, d7] [(.ref b1), (.ref c699)])) t
        refine XS.iconst X700.here hx rfl (hb hby at_163) ?_
        exact k
      obtain ⟨hi164, hF⟩ := own_ck_e hF
      refine own_Goes.via (B := T700.setTop (mkF m 165 #[.val (.long v0), .second, d2, .val (.int v3), .val (.ref b1), .val (.ref c699), d6, d7] [(.int (own_rd bs_b1 (1 : Int32))), (.ref c699)])) (fun t k => ?_) ?_
      · show Steps p.tables e below (T700.setTop (mkF m 164 #[.val (.long v0), .second, d2, .val (.int v3), .val (.ref b1), .val (.ref c699), d6, d7] [(.int (1 : Int32)), (.ref b1), (.ref c699)])) t
        refine own_ldB X700 hx hZ e700 A700_b1 hi164 rfl (g := (mkF m 164 #[.val (.long v0), .second, d2, .val (.int v3), .val (.ref b1), .val (.ref c699), d6, d7] [(.int (1 : Int32)), (.ref b1), (.ref c699)])) rfl rfl (hb hby at_164) ?_
        exact k
      obtain ⟨x705, hx705, hF⟩ := own_lt_e hF
      rw [← hx705]
      obtain ⟨r706, hr706, hF⟩ := own_bd_e hF
      obtain ⟨_, _, ⟨T706, L706, k706, n706⟩, -, X706, ⟨Lc706, hQ706, l706, y706, z706⟩, st706⟩ := Jvm.LawKit.callS X700 hx (y := (⟨"com/example/oxpecker/oxpecker/sip/RawMessageIsPlainPinLaw", "step", "([IB)V"⟩ : MethodName)) hown (mvT hZ (w8 hw)) (mvT hZ (w9 hw)) (mvT hZ (w4 hw)) (mvT hZ (w10 hw)) (by decide) (backOf (W := 0) (rm_RawMessageIsPlainPinLaw_step l Z a0 hw [] h700 n0 z700 c699 x705 ([(0 : Int32), (0 : Int32), (1 : Int32), (0 : Int32), (0 : Int32), (0 : Int32), (0 : Int32), (0 : Int32), (0 : Int32), (0 : Int32)] : List Int32) A700_c699 g699_c699 r706 hr706) hZ (w10 hw) (w4 hw) (by decide) (by decide)) (g := (mkF m 165 #[.val (.long v0), .second, d2, .val (.int v3), .val (.ref b1), .val (.ref c699), d6, d7] [(.int x705), (.ref c699)])) rfl (by rw [hml]; rfl) (argsL := [(.ref c699), (.int x705)]) (rest := []) (lenOf pd_1 rfl) rfl (by show 2 * 0 + _ ≤ _; exact Nat.le_of_eq rfl) (hb hby at_165) (fun _ _ => ⟨rfl, e700, (by decide : 2 + 0 ≤ _), (by decide : 18 + 0 ≤ _)⟩)
      dsimp only [Pt.U, Pt.locs, Pt.cells, Pt.slots] at X706 l706 y706 z706 st706 hQ706
      subst l706 y706 z706
      obtain ⟨rfl, N706q, K706, A706_c699⟩ := hQ706
      have N706 := Fr.app N700 N706q
      have A706_b1 := A700_b1.keep K706 (ninS ne_b1_c699 nin0)
      have K706_ := K700_.trans K706 (allS (Or.inr nE699_c699) all0)
      have z706_ := Nat.le_trans z700 K706.1
      refine own_Goes.via st706 ?_
      show own_Goes _ _ _ _ _ _ _ (T706.setTop (mkF m 168 #[.val (.long v0), .second, d2, .val (.int v3), .val (.ref b1), .val (.ref c699), d6, d7] []))
      exact b_law_168 cx X706 rfl N706 K706_ z706_ b1 c699 v3 bs_b1 r706 v0 d2 d6 d7 o_d2 o_d6 o_d7 A706_b1 g_b1 nE_b1 A706_c699 g699_c699 nE699_c699 ne_b1_c699 _ hF
    · rw [if_neg hc156] at hF
      refine own_Goes.via (B := T700.setTop (mkF m 168 #[.val (.long v0), .second, d2, .val (.int v3), .val (.ref b1), .val (.ref c699), d6, d7] [])) (fun t k => ?_) ?_
      · show Steps p.tables e below (T700.setTop (mkF m 156 #[.val (.long v0), .second, d2, .val (.int v3), .val (.ref b1), .val (.ref c699), d6, d7] [(.int (1 : Int32)), (.int v3)])) t
        refine XS.icmpYes X700.here hx rfl (pc0 := 156) (pc' := 168) rfl (hb hby at_156) rfl (flt hc156).2.2.2 (by decide) (by decide) ?_
        exact k
      exact b_law_168 cx X700 e700 N700 K700_ z700 b1 c699 v3 bs_b1 ([(0 : Int32), (0 : Int32), (1 : Int32), (0 : Int32), (0 : Int32), (0 : Int32), (0 : Int32), (0 : Int32), (0 : Int32), (0 : Int32)] : List Int32) v0 d2 d6 d7 o_d2 o_d6 o_d7 A700_b1 g_b1 nE_b1 A700_c699 g699_c699 nE699_c699 ne_b1_c699 _ hF
set_option maxRecDepth 65536 in
set_option maxHeartbeats 4000000 in
theorem b_law_96 {p : Program} {l : Launch} {e : Env} {s : State} {m : MethodId} {args : Array Value} {below : List Frame} {meth : Method} {c : Code} {Z : State} {a0 : Array Value} {n0 : Nat} {hE : Heap} (cx : Cx_law p s m meth c Z a0) :
    ∀ {T : State} {locs : List Loc} {h : Heap} (X : Stand p l e room_1 s m args below meth c T locs 1 8) (eT : T.heap = h) (N : Fr n0 locs) (K : Keep hE h []) (z : n0 ≤ h.size) (b1 : Addr) (v0 : Int64) (v3 : Int32) (bs_b1 : List Int32) (d2 : Slot) (d5 : Slot) (d6 : Slot) (d7 : Slot) (o_d2 : One d2) (o_d5 : One d5) (o_d6 : One d6) (o_d7 : One d7) (A_b1 : own_Ar Z h b1 .byte (bs_b1.map Value.int)) (g_b1 : n0 ≤ b1) (nE_b1 : hE.size ≤ b1) (r : Int32), f_law_96 v0 v3 bs_b1 = some r → own_Goes p e below s (Q_law Z hE n0 r) 6 72 (T.setTop (mkF m 96 #[.val (.long v0), .second, d2, .val (.int v3), .val (.ref b1), d5, d6, d7] [])) := by
  have cx' := cx
  obtain ⟨hx, hZ, hw, hby, hml, hown, hret, hlk, hnm⟩ := cx'
  intro T locs h X eT N K z b1 v0 v3 bs_b1 d2 d5 d6 d7 o_d2 o_d5 o_d6 o_d7 A_b1 g_b1 nE_b1 r hF
  unfold f_law_96 at hF
  refine own_Goes.via (B := T.setTop (mkF m 99 #[.val (.long v0), .second, d2, .val (.int v3), .val (.ref b1), d5, d6, d7] [(.int (6 : Int32)), (.int v3)])) (fun t k => ?_) ?_
  · show Steps p.tables e below (T.setTop (mkF m 96 #[.val (.long v0), .second, d2, .val (.int v3), .val (.ref b1), d5, d6, d7] [])) t
    refine XS.iloadN X.here hx rfl (hb hby at_96) rfl ?_
    show Steps p.tables e below (T.setTop (mkF m 97 #[.val (.long v0), .second, d2, .val (.int v3), .val (.ref b1), d5, d6, d7] [(.int v3)])) t
    refine XS.bipush X.here hx rfl (hb hby at_97) ?_
    exact k
  by_cases hc99 : (6 : Int32) < v3
  · rw [if_pos hc99] at hF
    refine own_Goes.via (B := T.setTop (mkF m 109 #[.val (.long v0), .second, d2, .val (.int v3), .val (.ref b1), d5, d6, d7] [(.int (6 : Int32)), (.long v0), (.int (6 : Int32)), (.ref b1)])) (fun t k => ?_) ?_
    · show Steps p.tables e below (T.setTop (mkF m 99 #[.val (.long v0), .second, d2, .val (.int v3), .val (.ref b1), d5, d6, d7] [(.int (6 : Int32)), (.int v3)])) t
      refine XS.icmpNo X.here hx rfl (hb hby at_99) rfl (tlt hc99).2.2.2 ?_
      show Steps p.tables e below (T.setTop (mkF m 102 #[.val (.long v0), .second, d2, .val (.int v3), .val (.ref b1), d5, d6, d7] [])) t
      refine XS.aload X.here hx rfl (hb hby at_102) rfl rfl ?_
      show Steps p.tables e below (T.setTop (mkF m 104 #[.val (.long v0), .second, d2, .val (.int v3), .val (.ref b1), d5, d6, d7] [(.ref b1)])) t
      refine XS.bipush X.here hx rfl (hb hby at_104) ?_
      show Steps p.tables e below (T.setTop (mkF m 106 #[.val (.long v0), .second, d2, .val (.int v3), .val (.ref b1), d5, d6, d7] [(.int (6 : Int32)), (.ref b1)])) t
      refine XS.lloadN X.here hx rfl (hb hby at_106) rfl ?_
      show Steps p.tables e below (T.setTop (mkF m 107 #[.val (.long v0), .second, d2, .val (.int v3), .val (.ref b1), d5, d6, d7] [(.long v0), (.int (6 : Int32)), (.ref b1)])) t
      refine XS.bipush X.here hx rfl (hb hby at_107) ?_
      exact k
    obtain ⟨r710, hr710, hF⟩ := own_bd_e hF
    obtain ⟨_, _, ⟨T710, L710, k710, n710⟩, -, X710, ⟨Lc710, hQ710, l710, y710, z710⟩, st710⟩ := Jvm.LawKit.callS X hx (y := (⟨"com/example/oxpecker/oxpecker/sip/RawMessageIsPlainPinLaw", "pick", "(JI)B"⟩ : MethodName)) hown (mvT hZ (w2 hw)) (mvT hZ (w3 hw)) (mvT hZ (w4 hw)) (mvT hZ (w5 hw)) (by decide) (backOf (W := 2) (rm_RawMessageIsPlainPinLaw_pick l Z a0 hw [] h n0 z v0 (6 : Int32) r710 hr710) hZ (w5 hw) (w4 hw) (by decide) (by decide)) (g := (mkF m 109 #[.val (.long v0), .second, d2, .val (.int v3), .val (.ref b1), d5, d6, d7] [(.int (6 : Int32)), (.long v0), (.int (6 : Int32)), (.ref b1)])) rfl (by rw [hml]; rfl) (argsL := [(.long v0), (.int (6 : Int32))]) (rest := [(.int (6 : Int32)), (.ref b1)]) (lenOf pd_0 rfl) rfl (by show 2 * 0 + _ ≤ _; exact Nat.le_of_eq rfl) (hb hby at_109) (fun _ _ => ⟨rfl, eT, (by decide : 1 + 0 ≤ _), (by decide : 8 + 0 ≤ _)⟩)
    dsimp only [Pt.U, Pt.locs, Pt.cells, Pt.slots] at X710 l710 y710 z710 st710 hQ710
    subst l710 y710 z710
    obtain ⟨rfl, N710q, e710⟩ := hQ710
    have N710 := Fr.app N N710q
    refine own_Goes.via st710 ?_
    show own_Goes _ _ _ _ _ _ _ (T710.setTop (mkF m 112 #[.val (.long v0), .second, d2, .val (.int v3), .val (.ref b1), d5, d6, d7] [(.int r710), (.int (6 : Int32)), (.ref b1)]))
    obtain ⟨hi112, hF⟩ := own_ck_e hF
    obtain ⟨T711, h711, X711, e711, W711, A711_b1, st711⟩ := own_stB X710 hx hZ e710 A_b1 hi112 (g := (mkF m 112 #[.val (.long v0), .second, d2, .val (.int v3), .val (.ref b1), d5, d6, d7] [(.int r710), (.int (6 : Int32)), (.ref b1)])) rfl rfl (hb hby at_112)
    refine own_Goes.via st711 ?_
    have z711 := Nat.le_trans z (Keep.of_wr W711).1
    have K711_ := K.wr W711 (Or.inr nE_b1)
    have N711 := Fr.snoc X711 N710 g_b1
    have A711_b1 : own_Ar Z h711 b1 .byte ((own_wr bs_b1 (6 : Int32) (r710.toInt8.toInt32)).map Value.int) := A711_b1
    show own_Goes _ _ _ _ _ _ _ (T711.setTop (mkF m 113 #[.val (.long v0), .second, d2, .val (.int v3), .val (.ref b1), d5, d6, d7] []))
    obtain ⟨bs712, hbs712, hF⟩ := own_lt_e hF
    rw [← hbs712] at A711_b1
    refine own_Goes.via (B := T711.setTop (mkF m 116 #[.val (.long v0), .second, d2, .val (.int v3), .val (.ref b1), d5, d6, d7] [(.int (7 : Int32)), (.int v3)])) (fun t k => ?_) ?_
    · show Steps p.tables e below (T711.setTop (mkF m 113 #[.val (.long v0), .second, d2, .val (.int v3), .val (.ref b1), d5, d6, d7] [])) t
      refine XS.iloadN X711.here hx rfl (hb hby at_113) rfl ?_
      show Steps p.tables e below (T711.setTop (mkF m 114 #[.val (.long v0), .second, d2, .val (.int v3), .val (.ref b1), d5, d6, d7] [(.int v3)])) t
      refine XS.bipush X711.here hx rfl (hb hby at_114) ?_
      exact k
    by_cases hc116 : (7 : Int32) < v3
    · rw [if_pos hc116] at hF
      refine own_Goes.via (B := T711.setTop (mkF m 126 #[.val (.long v0), .second, d2, .val (.int v3), .val (.ref b1), d5, d6, d7] [(.int (7 : Int32)), (.long v0), (.int (7 : Int32)), (.ref b1)])) (fun t k => ?_) ?_
      · show Steps p.tables e below (T711.setTop (mkF m 116 #[.val (.long v0), .second, d2, .val (.int v3), .val (.ref b1), d5, d6, d7] [(.int (7 : Int32)), (.int v3)])) t
        refine XS.icmpNo X711.here hx rfl (hb hby at_116) rfl (tlt hc116).2.2.2 ?_
        show Steps p.tables e below (T711.setTop (mkF m 119 #[.val (.long v0), .second, d2, .val (.int v3), .val (.ref b1), d5, d6, d7] [])) t
        refine XS.aload X711.here hx rfl (hb hby at_119) rfl rfl ?_
        show Steps p.tables e below (T711.setTop (mkF m 121 #[.val (.long v0), .second, d2, .val (.int v3), .val (.ref b1), d5, d6, d7] [(.ref b1)])) t
        refine XS.bipush X711.here hx rfl (hb hby at_121) ?_
        show Steps p.tables e below (T711.setTop (mkF m 123 #[.val (.long v0), .second, d2, .val (.int v3), .val (.ref b1), d5, d6, d7] [(.int (7 : Int32)), (.ref b1)])) t
        refine XS.lloadN X711.here hx rfl (hb hby at_123) rfl ?_
        show Steps p.tables e below (T711.setTop (mkF m 124 #[.val (.long v0), .second, d2, .val (.int v3), .val (.ref b1), d5, d6, d7] [(.long v0), (.int (7 : Int32)), (.ref b1)])) t
        refine XS.bipush X711.here hx rfl (hb hby at_124) ?_
        exact k
      obtain ⟨r713, hr713, hF⟩ := own_bd_e hF
      obtain ⟨_, _, ⟨T713, L713, k713, n713⟩, -, X713, ⟨Lc713, hQ713, l713, y713, z713⟩, st713⟩ := Jvm.LawKit.callS X711 hx (y := (⟨"com/example/oxpecker/oxpecker/sip/RawMessageIsPlainPinLaw", "pick", "(JI)B"⟩ : MethodName)) hown (mvT hZ (w2 hw)) (mvT hZ (w3 hw)) (mvT hZ (w4 hw)) (mvT hZ (w5 hw)) (by decide) (backOf (W := 2) (rm_RawMessageIsPlainPinLaw_pick l Z a0 hw [] h711 n0 z711 v0 (7 : Int32) r713 hr713) hZ (w5 hw) (w4 hw) (by decide) (by decide)) (g := (mkF m 126 #[.val (.long v0), .second, d2, .val (.int v3), .val (.ref b1), d5, d6, d7] [(.int (7 : Int32)), (.long v0), (.int (7 : Int32)), (.ref b1)])) rfl (by rw [hml]; rfl) (argsL := [(.long v0), (.int (7 : Int32))]) (rest := [(.int (7 : Int32)), (.ref b1)]) (lenOf pd_0 rfl) rfl (by show 2 * 0 + _ ≤ _; exact Nat.le_of_eq rfl) (hb hby at_126) (fun _ _ => ⟨rfl, e711, (by decide : 1 + 0 ≤ _), (by decide : 8 + 0 ≤ _)⟩)
      dsimp only [Pt.U, Pt.locs, Pt.cells, Pt.slots] at X713 l713 y713 z713 st713 hQ713
      subst l713 y713 z713
      obtain ⟨rfl, N713q, e713⟩ := hQ713
      have N713 := Fr.app N711 N713q
      refine own_Goes.via st713 ?_
      show own_Goes _ _ _ _ _ _ _ (T713.setTop (mkF m 129 #[.val (.long v0), .second, d2, .val (.int v3), .val (.ref b1), d5, d6, d7] [(.int r713), (.int (7 : Int32)), (.ref b1)]))
      obtain ⟨hi129, hF⟩ := own_ck_e hF
      obtain ⟨T714, h714, X714, e714, W714, A714_b1, st714⟩ := own_stB X713 hx hZ e713 A711_b1 hi129 (g := (mkF m 129 #[.val (.long v0), .second, d2, .val (.int v3), .val (.ref b1), d5, d6, d7] [(.int r713), (.int (7 : Int32)), (.ref b1)])) rfl rfl (hb hby at_129)
      refine own_Goes.via st714 ?_
      have z714 := Nat.le_trans z711 (Keep.of_wr W714).1
      have K714_ := K711_.wr W714 (Or.inr nE_b1)
      have N714 := Fr.snoc X714 N713 g_b1
      have A714_b1 : own_Ar Z h714 b1 .byte ((own_wr bs712 (7 : Int32) (r713.toInt8.toInt32)).map Value.int) := A714_b1
      show own_Goes _ _ _ _ _ _ _ (T714.setTop (mkF m 130 #[.val (.long v0), .second, d2, .val (.int v3), .val (.ref b1), d5, d6, d7] []))
      obtain ⟨bs715, hbs715, hF⟩ := own_lt_e hF
      rw [← hbs715] at A714_b1
      exact b_law_130 cx X714 e714 N714 K714_ z714 b1 v3 bs715 v0 d2 d5 d6 d7 o_d2 o_d5 o_d6 o_d7 A714_b1 g_b1 nE_b1 _ hF
    · rw [if_neg hc116] at hF
      refine own_Goes.via (B := T711.setTop (mkF m 130 #[.val (.long v0), .second, d2, .val (.int v3), .val (.ref b1), d5, d6, d7] [])) (fun t k => ?_) ?_
      · show Steps p.tables e below (T711.setTop (mkF m 116 #[.val (.long v0), .second, d2, .val (.int v3), .val (.ref b1), d5, d6, d7] [(.int (7 : Int32)), (.int v3)])) t
        refine XS.icmpYes X711.here hx rfl (pc0 := 116) (pc' := 130) rfl (hb hby at_116) rfl (flt hc116).2.2.2 (by decide) (by decide) ?_
        exact k
      exact b_law_130 cx X711 e711 N711 K711_ z711 b1 v3 bs712 v0 d2 d5 d6 d7 o_d2 o_d5 o_d6 o_d7 A711_b1 g_b1 nE_b1 _ hF
  · rw [if_neg hc99] at hF
    refine own_Goes.via (B := T.setTop (mkF m 116 #[.val (.long v0), .second, d2, .val (.int v3), .val (.ref b1), d5, d6, d7] [(.int (7 : Int32)), (.int v3)])) (fun t k => ?_) ?_
    · show Steps p.tables e below (T.setTop (mkF m 99 #[.val (.long v0), .second, d2, .val (.int v3), .val (.ref b1), d5, d6, d7] [(.int (6 : Int32)), (.int v3)])) t
      refine XS.icmpYes X.here hx rfl (pc0 := 99) (pc' := 113) rfl (hb hby at_99) rfl (flt hc99).2.2.2 (by decide) (by decide) ?_
      show Steps p.tables e below (T.setTop (mkF m 113 #[.val (.long v0), .second, d2, .val (.int v3), .val (.ref b1), d5, d6, d7] [])) t
      refine XS.iloadN X.here hx rfl (hb hby at_113) rfl ?_
      show Steps p.tables e below (T.setTop (mkF m 114 #[.val (.long v0), .second, d2, .val (.int v3), .val (.ref b1), d5, d6, d7] [(.int v3)])) t
      refine XS.bipush X.here hx rfl (hb hby at_114) ?_
      exact k
    by_cases hc116 : (7 : Int32) < v3
    · rw [if_pos hc116] at hF
      refine own_Goes.via (B := T.setTop (mkF m 126 #[.val (.long v0), .second, d2, .val (.int v3), .val (.ref b1), d5, d6, d7] [(.int (7 : Int32)), (.long v0), (.int (7 : Int32)), (.ref b1)])) (fun t k => ?_) ?_
      · show Steps p.tables e below (T.setTop (mkF m 116 #[.val (.long v0), .second, d2, .val (.int v3), .val (.ref b1), d5, d6, d7] [(.int (7 : Int32)), (.int v3)])) t
        refine XS.icmpNo X.here hx rfl (hb hby at_116) rfl (tlt hc116).2.2.2 ?_
        show Steps p.tables e below (T.setTop (mkF m 119 #[.val (.long v0), .second, d2, .val (.int v3), .val (.ref b1), d5, d6, d7] [])) t
        refine XS.aload X.here hx rfl (hb hby at_119) rfl rfl ?_
        show Steps p.tables e below (T.setTop (mkF m 121 #[.val (.long v0), .second, d2, .val (.int v3), .val (.ref b1), d5, d6, d7] [(.ref b1)])) t
        refine XS.bipush X.here hx rfl (hb hby at_121) ?_
        show Steps p.tables e below (T.setTop (mkF m 123 #[.val (.long v0), .second, d2, .val (.int v3), .val (.ref b1), d5, d6, d7] [(.int (7 : Int32)), (.ref b1)])) t
        refine XS.lloadN X.here hx rfl (hb hby at_123) rfl ?_
        show Steps p.tables e below (T.setTop (mkF m 124 #[.val (.long v0), .second, d2, .val (.int v3), .val (.ref b1), d5, d6, d7] [(.long v0), (.int (7 : Int32)), (.ref b1)])) t
        refine XS.bipush X.here hx rfl (hb hby at_124) ?_
        exact k
      obtain ⟨r716, hr716, hF⟩ := own_bd_e hF
      obtain ⟨_, _, ⟨T716, L716, k716, n716⟩, -, X716, ⟨Lc716, hQ716, l716, y716, z716⟩, st716⟩ := Jvm.LawKit.callS X hx (y := (⟨"com/example/oxpecker/oxpecker/sip/RawMessageIsPlainPinLaw", "pick", "(JI)B"⟩ : MethodName)) hown (mvT hZ (w2 hw)) (mvT hZ (w3 hw)) (mvT hZ (w4 hw)) (mvT hZ (w5 hw)) (by decide) (backOf (W := 2) (rm_RawMessageIsPlainPinLaw_pick l Z a0 hw [] h n0 z v0 (7 : Int32) r716 hr716) hZ (w5 hw) (w4 hw) (by decide) (by decide)) (g := (mkF m 126 #[.val (.long v0), .second, d2, .val (.int v3), .val (.ref b1), d5, d6, d7] [(.int (7 : Int32)), (.long v0), (.int (7 : Int32)), (.ref b1)])) rfl (by rw [hml]; rfl) (argsL := [(.long v0), (.int (7 : Int32))]) (rest := [(.int (7 : Int32)), (.ref b1)]) (lenOf pd_0 rfl) rfl (by show 2 * 0 + _ ≤ _; exact Nat.le_of_eq rfl) (hb hby at_126) (fun _ _ => ⟨rfl, eT, (by decide : 1 + 0 ≤ _), (by decide : 8 + 0 ≤ _)⟩)
      dsimp only [Pt.U, Pt.locs, Pt.cells, Pt.slots] at X716 l716 y716 z716 st716 hQ716
      subst l716 y716 z716
      obtain ⟨rfl, N716q, e716⟩ := hQ716
      have N716 := Fr.app N N716q
      refine own_Goes.via st716 ?_
      show own_Goes _ _ _ _ _ _ _ (T716.setTop (mkF m 129 #[.val (.long v0), .second, d2, .val (.int v3), .val (.ref b1), d5, d6, d7] [(.int r716), (.int (7 : Int32)), (.ref b1)]))
      obtain ⟨hi129, hF⟩ := own_ck_e hF
      obtain ⟨T717, h717, X717, e717, W717, A717_b1, st717⟩ := own_stB X716 hx hZ e716 A_b1 hi129 (g := (mkF m 129 #[.val (.long v0), .second, d2, .val (.int v3), .val (.ref b1), d5, d6, d7] [(.int r716), (.int (7 : Int32)), (.ref b1)])) rfl rfl (hb hby at_129)
      refine own_Goes.via st717 ?_
      have z717 := Nat.le_trans z (Keep.of_wr W717).1
      have K717_ := K.wr W717 (Or.inr nE_b1)
      have N717 := Fr.snoc X717 N716 g_b1
      have A717_b1 : own_Ar Z h717 b1 .byte ((own_wr bs_b1 (7 : Int32) (r716.toInt8.toInt32)).map Value.int) := A717_b1
      show own_Goes _ _ _ _ _ _ _ (T717.setTop (mkF m 130 #[.val (.long v0), .second, d2, .val (.int v3), .val (.ref b1), d5, d6, d7] []))
      obtain ⟨bs718, hbs718, hF⟩ := own_lt_e hF
      rw [← hbs718] at A717_b1
      exact b_law_130 cx X717 e717 N717 K717_ z717 b1 v3 bs718 v0 d2 d5 d6 d7 o_d2 o_d5 o_d6 o_d7 A717_b1 g_b1 nE_b1 _ hF
    · rw [if_neg hc116] at hF
      refine own_Goes.via (B := T.setTop (mkF m 130 #[.val (.long v0), .second, d2, .val (.int v3), .val (.ref b1), d5, d6, d7] [])) (fun t k => ?_) ?_
      · show Steps p.tables e below (T.setTop (mkF m 116 #[.val (.long v0), .second, d2, .val (.int v3), .val (.ref b1), d5, d6, d7] [(.int (7 : Int32)), (.int v3)])) t
        refine XS.icmpYes X.here hx rfl (pc0 := 116) (pc' := 130) rfl (hb hby at_116) rfl (flt hc116).2.2.2 (by decide) (by decide) ?_
        exact k
      exact b_law_130 cx X eT N K z b1 v3 bs_b1 v0 d2 d5 d6 d7 o_d2 o_d5 o_d6 o_d7 A_b1 g_b1 nE_b1 _ hF
set_option maxRecDepth 65536 in
set_option maxHeartbeats 4000000 in
theorem b_law_68 {p : Program} {l : Launch} {e : Env} {s : State} {m : MethodId} {args : Array Value} {below : List Frame} {meth : Method} {c : Code} {Z : State} {a0 : Array Value} {n0 : Nat} {hE : Heap} (cx : Cx_law p s m meth c Z a0) :
    ∀ {T : State} {locs : List Loc} {h : Heap} (X : Stand p l e room_1 s m args below meth c T locs 1 8) (eT : T.heap = h) (N : Fr n0 locs) (K : Keep hE h []) (z : n0 ≤ h.size) (b1 : Addr) (v0 : Int64) (v3 : Int32) (bs_b1 : List Int32) (d2 : Slot) (d5 : Slot) (d6 : Slot) (d7 : Slot) (o_d2 : One d2) (o_d5 : One d5) (o_d6 : One d6) (o_d7 : One d7) (A_b1 : own_Ar Z h b1 .byte (bs_b1.map Value.int)) (g_b1 : n0 ≤ b1) (nE_b1 : hE.size ≤ b1) (r : Int32), f_law_68 v0 v3 bs_b1 = some r → own_Goes p e below s (Q_law Z hE n0 r) 6 72 (T.setTop (mkF m 68 #[.val (.long v0), .second, d2, .val (.int v3), .val (.ref b1), d5, d6, d7] [])) := by
  have cx' := cx
  obtain ⟨hx, hZ, hw, hby, hml, hown, hret, hlk, hnm⟩ := cx'
  intro T locs h X eT N K z b1 v0 v3 bs_b1 d2 d5 d6 d7 o_d2 o_d5 o_d6 o_d7 A_b1 g_b1 nE_b1 r hF
  unfold f_law_68 at hF
  refine own_Goes.via (B := T.setTop (mkF m 70 #[.val (.long v0), .second, d2, .val (.int v3), .val (.ref b1), d5, d6, d7] [(.int (4 : Int32)), (.int v3)])) (fun t k => ?_) ?_
  · show Steps p.tables e below (T.setTop (mkF m 68 #[.val (.long v0), .second, d2, .val (.int v3), .val (.ref b1), d5, d6, d7] [])) t
    refine XS.iloadN X.here hx rfl (hb hby at_68) rfl ?_
    show Steps p.tables e below (T.setTop (mkF m 69 #[.val (.long v0), .second, d2, .val (.int v3), .val (.ref b1), d5, d6, d7] [(.int v3)])) t
    refine XS.iconst X.here hx rfl (hb hby at_69) ?_
    exact k
  by_cases hc70 : (4 : Int32) < v3
  · rw [if_pos hc70] at hF
    refine own_Goes.via (B := T.setTop (mkF m 78 #[.val (.long v0), .second, d2, .val (.int v3), .val (.ref b1), d5, d6, d7] [(.int (4 : Int32)), (.long v0), (.int (4 : Int32)), (.ref b1)])) (fun t k => ?_) ?_
    · show Steps p.tables e below (T.setTop (mkF m 70 #[.val (.long v0), .second, d2, .val (.int v3), .val (.ref b1), d5, d6, d7] [(.int (4 : Int32)), (.int v3)])) t
      refine XS.icmpNo X.here hx rfl (hb hby at_70) rfl (tlt hc70).2.2.2 ?_
      show Steps p.tables e below (T.setTop (mkF m 73 #[.val (.long v0), .second, d2, .val (.int v3), .val (.ref b1), d5, d6, d7] [])) t
      refine XS.aload X.here hx rfl (hb hby at_73) rfl rfl ?_
      show Steps p.tables e below (T.setTop (mkF m 75 #[.val (.long v0), .second, d2, .val (.int v3), .val (.ref b1), d5, d6, d7] [(.ref b1)])) t
      refine XS.iconst X.here hx rfl (hb hby at_75) ?_
      show Steps p.tables e below (T.setTop (mkF m 76 #[.val (.long v0), .second, d2, .val (.int v3), .val (.ref b1), d5, d6, d7] [(.int (4 : Int32)), (.ref b1)])) t
      refine XS.lloadN X.here hx rfl (hb hby at_76) rfl ?_
      show Steps p.tables e below (T.setTop (mkF m 77 #[.val (.long v0), .second, d2, .val (.int v3), .val (.ref b1), d5, d6, d7] [(.long v0), (.int (4 : Int32)), (.ref b1)])) t
      refine XS.iconst X.here hx rfl (hb hby at_77) ?_
      exact k
    obtain ⟨r722, hr722, hF⟩ := own_bd_e hF
    obtain ⟨_, _, ⟨T722, L722, k722, n722⟩, -, X722, ⟨Lc722, hQ722, l722, y722, z722⟩, st722⟩ := Jvm.LawKit.callS X hx (y := (⟨"com/example/oxpecker/oxpecker/sip/RawMessageIsPlainPinLaw", "pick", "(JI)B"⟩ : MethodName)) hown (mvT hZ (w2 hw)) (mvT hZ (w3 hw)) (mvT hZ (w4 hw)) (mvT hZ (w5 hw)) (by decide) (backOf (W := 2) (rm_RawMessageIsPlainPinLaw_pick l Z a0 hw [] h n0 z v0 (4 : Int32) r722 hr722) hZ (w5 hw) (w4 hw) (by decide) (by decide)) (g := (mkF m 78 #[.val (.long v0), .second, d2, .val (.int v3), .val (.ref b1), d5, d6, d7] [(.int (4 : Int32)), (.long v0), (.int (4 : Int32)), (.ref b1)])) rfl (by rw [hml]; rfl) (argsL := [(.long v0), (.int (4 : Int32))]) (rest := [(.int (4 : Int32)), (.ref b1)]) (lenOf pd_0 rfl) rfl (by show 2 * 0 + _ ≤ _; exact Nat.le_of_eq rfl) (hb hby at_78) (fun _ _ => ⟨rfl, eT, (by decide : 1 + 0 ≤ _), (by decide : 8 + 0 ≤ _)⟩)
    dsimp only [Pt.U, Pt.locs, Pt.cells, Pt.slots] at X722 l722 y722 z722 st722 hQ722
    subst l722 y722 z722
    obtain ⟨rfl, N722q, e722⟩ := hQ722
    have N722 := Fr.app N N722q
    refine own_Goes.via st722 ?_
    show own_Goes _ _ _ _ _ _ _ (T722.setTop (mkF m 81 #[.val (.long v0), .second, d2, .val (.int v3), .val (.ref b1), d5, d6, d7] [(.int r722), (.int (4 : Int32)), (.ref b1)]))
    obtain ⟨hi81, hF⟩ := own_ck_e hF
    obtain ⟨T723, h723, X723, e723, W723, A723_b1, st723⟩ := own_stB X722 hx hZ e722 A_b1 hi81 (g := (mkF m 81 #[.val (.long v0), .second, d2, .val (.int v3), .val (.ref b1), d5, d6, d7] [(.int r722), (.int (4 : Int32)), (.ref b1)])) rfl rfl (hb hby at_81)
    refine own_Goes.via st723 ?_
    have z723 := Nat.le_trans z (Keep.of_wr W723).1
    have K723_ := K.wr W723 (Or.inr nE_b1)
    have N723 := Fr.snoc X723 N722 g_b1
    have A723_b1 : own_Ar Z h723 b1 .byte ((own_wr bs_b1 (4 : Int32) (r722.toInt8.toInt32)).map Value.int) := A723_b1
    show own_Goes _ _ _ _ _ _ _ (T723.setTop (mkF m 82 #[.val (.long v0), .second, d2, .val (.int v3), .val (.ref b1), d5, d6, d7] []))
    obtain ⟨bs724, hbs724, hF⟩ := own_lt_e hF
    rw [← hbs724] at A723_b1
    refine own_Goes.via (B := T723.setTop (mkF m 84 #[.val (.long v0), .second, d2, .val (.int v3), .val (.ref b1), d5, d6, d7] [(.int (5 : Int32)), (.int v3)])) (fun t k => ?_) ?_
    · show Steps p.tables e below (T723.setTop (mkF m 82 #[.val (.long v0), .second, d2, .val (.int v3), .val (.ref b1), d5, d6, d7] [])) t
      refine XS.iloadN X723.here hx rfl (hb hby at_82) rfl ?_
      show Steps p.tables e below (T723.setTop (mkF m 83 #[.val (.long v0), .second, d2, .val (.int v3), .val (.ref b1), d5, d6, d7] [(.int v3)])) t
      refine XS.iconst X723.here hx rfl (hb hby at_83) ?_
      exact k
    by_cases hc84 : (5 : Int32) < v3
    · rw [if_pos hc84] at hF
      refine own_Goes.via (B := T723.setTop (mkF m 92 #[.val (.long v0), .second, d2, .val (.int v3), .val (.ref b1), d5, d6, d7] [(.int (5 : Int32)), (.long v0), (.int (5 : Int32)), (.ref b1)])) (fun t k => ?_) ?_
      · show Steps p.tables e below (T723.setTop (mkF m 84 #[.val (.long v0), .second, d2, .val (.int v3), .val (.ref b1), d5, d6, d7] [(.int (5 : Int32)), (.int v3)])) t
        refine XS.icmpNo X723.here hx rfl (hb hby at_84) rfl (tlt hc84).2.2.2 ?_
        show Steps p.tables e below (T723.setTop (mkF m 87 #[.val (.long v0), .second, d2, .val (.int v3), .val (.ref b1), d5, d6, d7] [])) t
        refine XS.aload X723.here hx rfl (hb hby at_87) rfl rfl ?_
        show Steps p.tables e below (T723.setTop (mkF m 89 #[.val (.long v0), .second, d2, .val (.int v3), .val (.ref b1), d5, d6, d7] [(.ref b1)])) t
        refine XS.iconst X723.here hx rfl (hb hby at_89) ?_
        show Steps p.tables e below (T723.setTop (mkF m 90 #[.val (.long v0), .second, d2, .val (.int v3), .val (.ref b1), d5, d6, d7] [(.int (5 : Int32)), (.ref b1)])) t
        refine XS.lloadN X723.here hx rfl (hb hby at_90) rfl ?_
        show Steps p.tables e below (T723.setTop (mkF m 91 #[.val (.long v0), .second, d2, .val (.int v3), .val (.ref b1), d5, d6, d7] [(.long v0), (.int (5 : Int32)), (.ref b1)])) t
        refine XS.iconst X723.here hx rfl (hb hby at_91) ?_
        exact k
      obtain ⟨r725, hr725, hF⟩ := own_bd_e hF
      obtain ⟨_, _, ⟨T725, L725, k725, n725⟩, -, X725, ⟨Lc725, hQ725, l725, y725, z725⟩, st725⟩ := Jvm.LawKit.callS X723 hx (y := (⟨"com/example/oxpecker/oxpecker/sip/RawMessageIsPlainPinLaw", "pick", "(JI)B"⟩ : MethodName)) hown (mvT hZ (w2 hw)) (mvT hZ (w3 hw)) (mvT hZ (w4 hw)) (mvT hZ (w5 hw)) (by decide) (backOf (W := 2) (rm_RawMessageIsPlainPinLaw_pick l Z a0 hw [] h723 n0 z723 v0 (5 : Int32) r725 hr725) hZ (w5 hw) (w4 hw) (by decide) (by decide)) (g := (mkF m 92 #[.val (.long v0), .second, d2, .val (.int v3), .val (.ref b1), d5, d6, d7] [(.int (5 : Int32)), (.long v0), (.int (5 : Int32)), (.ref b1)])) rfl (by rw [hml]; rfl) (argsL := [(.long v0), (.int (5 : Int32))]) (rest := [(.int (5 : Int32)), (.ref b1)]) (lenOf pd_0 rfl) rfl (by show 2 * 0 + _ ≤ _; exact Nat.le_of_eq rfl) (hb hby at_92) (fun _ _ => ⟨rfl, e723, (by decide : 1 + 0 ≤ _), (by decide : 8 + 0 ≤ _)⟩)
      dsimp only [Pt.U, Pt.locs, Pt.cells, Pt.slots] at X725 l725 y725 z725 st725 hQ725
      subst l725 y725 z725
      obtain ⟨rfl, N725q, e725⟩ := hQ725
      have N725 := Fr.app N723 N725q
      refine own_Goes.via st725 ?_
      show own_Goes _ _ _ _ _ _ _ (T725.setTop (mkF m 95 #[.val (.long v0), .second, d2, .val (.int v3), .val (.ref b1), d5, d6, d7] [(.int r725), (.int (5 : Int32)), (.ref b1)]))
      obtain ⟨hi95, hF⟩ := own_ck_e hF
      obtain ⟨T726, h726, X726, e726, W726, A726_b1, st726⟩ := own_stB X725 hx hZ e725 A723_b1 hi95 (g := (mkF m 95 #[.val (.long v0), .second, d2, .val (.int v3), .val (.ref b1), d5, d6, d7] [(.int r725), (.int (5 : Int32)), (.ref b1)])) rfl rfl (hb hby at_95)
      refine own_Goes.via st726 ?_
      have z726 := Nat.le_trans z723 (Keep.of_wr W726).1
      have K726_ := K723_.wr W726 (Or.inr nE_b1)
      have N726 := Fr.snoc X726 N725 g_b1
      have A726_b1 : own_Ar Z h726 b1 .byte ((own_wr bs724 (5 : Int32) (r725.toInt8.toInt32)).map Value.int) := A726_b1
      show own_Goes _ _ _ _ _ _ _ (T726.setTop (mkF m 96 #[.val (.long v0), .second, d2, .val (.int v3), .val (.ref b1), d5, d6, d7] []))
      obtain ⟨bs727, hbs727, hF⟩ := own_lt_e hF
      rw [← hbs727] at A726_b1
      exact b_law_96 cx X726 e726 N726 K726_ z726 b1 v0 v3 bs727 d2 d5 d6 d7 o_d2 o_d5 o_d6 o_d7 A726_b1 g_b1 nE_b1 _ hF
    · rw [if_neg hc84] at hF
      refine own_Goes.via (B := T723.setTop (mkF m 96 #[.val (.long v0), .second, d2, .val (.int v3), .val (.ref b1), d5, d6, d7] [])) (fun t k => ?_) ?_
      · show Steps p.tables e below (T723.setTop (mkF m 84 #[.val (.long v0), .second, d2, .val (.int v3), .val (.ref b1), d5, d6, d7] [(.int (5 : Int32)), (.int v3)])) t
        refine XS.icmpYes X723.here hx rfl (pc0 := 84) (pc' := 96) rfl (hb hby at_84) rfl (flt hc84).2.2.2 (by decide) (by decide) ?_
        exact k
      exact b_law_96 cx X723 e723 N723 K723_ z723 b1 v0 v3 bs724 d2 d5 d6 d7 o_d2 o_d5 o_d6 o_d7 A723_b1 g_b1 nE_b1 _ hF
  · rw [if_neg hc70] at hF
    refine own_Goes.via (B := T.setTop (mkF m 84 #[.val (.long v0), .second, d2, .val (.int v3), .val (.ref b1), d5, d6, d7] [(.int (5 : Int32)), (.int v3)])) (fun t k => ?_) ?_
    · show Steps p.tables e below (T.setTop (mkF m 70 #[.val (.long v0), .second, d2, .val (.int v3), .val (.ref b1), d5, d6, d7] [(.int (4 : Int32)), (.int v3)])) t
      refine XS.icmpYes X.here hx rfl (pc0 := 70) (pc' := 82) rfl (hb hby at_70) rfl (flt hc70).2.2.2 (by decide) (by decide) ?_
      show Steps p.tables e below (T.setTop (mkF m 82 #[.val (.long v0), .second, d2, .val (.int v3), .val (.ref b1), d5, d6, d7] [])) t
      refine XS.iloadN X.here hx rfl (hb hby at_82) rfl ?_
      show Steps p.tables e below (T.setTop (mkF m 83 #[.val (.long v0), .second, d2, .val (.int v3), .val (.ref b1), d5, d6, d7] [(.int v3)])) t
      refine XS.iconst X.here hx rfl (hb hby at_83) ?_
      exact k
    by_cases hc84 : (5 : Int32) < v3
    · rw [if_pos hc84] at hF
      refine own_Goes.via (B := T.setTop (mkF m 92 #[.val (.long v0), .second, d2, .val (.int v3), .val (.ref b1), d5, d6, d7] [(.int (5 : Int32)), (.long v0), (.int (5 : Int32)), (.ref b1)])) (fun t k => ?_) ?_
      · show Steps p.tables e below (T.setTop (mkF m 84 #[.val (.long v0), .second, d2, .val (.int v3), .val (.ref b1), d5, d6, d7] [(.int (5 : Int32)), (.int v3)])) t
        refine XS.icmpNo X.here hx rfl (hb hby at_84) rfl (tlt hc84).2.2.2 ?_
        show Steps p.tables e below (T.setTop (mkF m 87 #[.val (.long v0), .second, d2, .val (.int v3), .val (.ref b1), d5, d6, d7] [])) t
        refine XS.aload X.here hx rfl (hb hby at_87) rfl rfl ?_
        show Steps p.tables e below (T.setTop (mkF m 89 #[.val (.long v0), .second, d2, .val (.int v3), .val (.ref b1), d5, d6, d7] [(.ref b1)])) t
        refine XS.iconst X.here hx rfl (hb hby at_89) ?_
        show Steps p.tables e below (T.setTop (mkF m 90 #[.val (.long v0), .second, d2, .val (.int v3), .val (.ref b1), d5, d6, d7] [(.int (5 : Int32)), (.ref b1)])) t
        refine XS.lloadN X.here hx rfl (hb hby at_90) rfl ?_
        show Steps p.tables e below (T.setTop (mkF m 91 #[.val (.long v0), .second, d2, .val (.int v3), .val (.ref b1), d5, d6, d7] [(.long v0), (.int (5 : Int32)), (.ref b1)])) t
        refine XS.iconst X.here hx rfl (hb hby at_91) ?_
        exact k
      obtain ⟨r728, hr728, hF⟩ := own_bd_e hF
      obtain ⟨_, _, ⟨T728, L728, k728, n728⟩, -, X728, ⟨Lc728, hQ728, l728, y728, z728⟩, st728⟩ := Jvm.LawKit.callS X hx (y := (⟨"com/example/oxpecker/oxpecker/sip/RawMessageIsPlainPinLaw", "pick", "(JI)B"⟩ : MethodName)) hown (mvT hZ (w2 hw)) (mvT hZ (w3 hw)) (mvT hZ (w4 hw)) (mvT hZ (w5 hw)) (by decide) (backOf (W := 2) (rm_RawMessageIsPlainPinLaw_pick l Z a0 hw [] h n0 z v0 (5 : Int32) r728 hr728) hZ (w5 hw) (w4 hw) (by decide) (by decide)) (g := (mkF m 92 #[.val (.long v0), .second, d2, .val (.int v3), .val (.ref b1), d5, d6, d7] [(.int (5 : Int32)), (.long v0), (.int (5 : Int32)), (.ref b1)])) rfl (by rw [hml]; rfl) (argsL := [(.long v0), (.int (5 : Int32))]) (rest := [(.int (5 : Int32)), (.ref b1)]) (lenOf pd_0 rfl) rfl (by show 2 * 0 + _ ≤ _; exact Nat.le_of_eq rfl) (hb hby at_92) (fun _ _ => ⟨rfl, eT, (by decide : 1 + 0 ≤ _), (by decide : 8 + 0 ≤ _)⟩)
      dsimp only [Pt.U, Pt.locs, Pt.cells, Pt.slots] at X728 l728 y728 z728 st728 hQ728
      subst l728 y728 z728
      obtain ⟨rfl, N728q, e728⟩ := hQ728
      have N728 := Fr.app N N728q
      refine own_Goes.via st728 ?_
      show own_Goes _ _ _ _ _ _ _ (T728.setTop (mkF m 95 #[.val (.long v0), .second, d2, .val (.int v3), .val (.ref b1), d5, d6, d7] [(.int r728), (.int (5 : Int32)), (.ref b1)]))
      obtain ⟨hi95, hF⟩ := own_ck_e hF
      obtain ⟨T729, h729, X729, e729, W729, A729_b1, st729⟩ := own_stB X728 hx hZ e728 A_b1 hi95 (g := (mkF m 95 #[.val (.long v0), .second, d2, .val (.int v3), .val (.ref b1), d5, d6, d7] [(.int r728), (.int (5 : Int32)), (.ref b1)])) rfl rfl (hb hby at_95)
      refine own_Goes.via st729 ?_
      have z729 := Nat.le_trans z (Keep.of_wr W729).1
      have K729_ := K.wr W729 (Or.inr nE_b1)
      have N729 := Fr.snoc X729 N728 g_b1
      have A729_b1 : own_Ar Z h729 b1 .byte ((own_wr bs_b1 (5 : Int32) (r728.toInt8.toInt32)).map Value.int) := A729_b1
      show own_Goes _ _ _ _ _ _ _ (T729.setTop (mkF m 96 #[.val (.long v0), .second, d2, .val (.int v3), .val (.ref b1), d5, d6, d7] []))
      obtain ⟨bs730, hbs730, hF⟩ := own_lt_e hF
      rw [← hbs730] at A729_b1
      exact b_law_96 cx X729 e729 N729 K729_ z729 b1 v0 v3 bs730 d2 d5 d6 d7 o_d2 o_d5 o_d6 o_d7 A729_b1 g_b1 nE_b1 _ hF
    · rw [if_neg hc84] at hF
      refine own_Goes.via (B := T.setTop (mkF m 96 #[.val (.long v0), .second, d2, .val (.int v3), .val (.ref b1), d5, d6, d7] [])) (fun t k => ?_) ?_
      · show Steps p.tables e below (T.setTop (mkF m 84 #[.val (.long v0), .second, d2, .val (.int v3), .val (.ref b1), d5, d6, d7] [(.int (5 : Int32)), (.int v3)])) t
        refine XS.icmpYes X.here hx rfl (pc0 := 84) (pc' := 96) rfl (hb hby at_84) rfl (flt hc84).2.2.2 (by decide) (by decide) ?_
        exact k
      exact b_law_96 cx X eT N K z b1 v0 v3 bs_b1 d2 d5 d6 d7 o_d2 o_d5 o_d6 o_d7 A_b1 g_b1 nE_b1 _ hF
set_option maxRecDepth 65536 in
set_option maxHeartbeats 4000000 in
theorem b_law_40 {p : Program} {l : Launch} {e : Env} {s : State} {m : MethodId} {args : Array Value} {below : List Frame} {meth : Method} {c : Code} {Z : State} {a0 : Array Value} {n0 : Nat} {hE : Heap} (cx : Cx_law p s m meth c Z a0) :
    ∀ {T : State} {locs : List Loc} {h : Heap} (X : Stand p l e room_1 s m args below meth c T locs 1 8) (eT : T.heap = h) (N : Fr n0 locs) (K : Keep hE h []) (z : n0 ≤ h.size) (b1 : Addr) (v0 : Int64) (v3 : Int32) (bs_b1 : List Int32) (d2 : Slot) (d5 : Slot) (d6 : Slot) (d7 : Slot) (o_d2 : One d2) (o_d5 : One d5) (o_d6 : One d6) (o_d7 : One d7) (A_b1 : own_Ar Z h b1 .byte (bs_b1.map Value.int)) (g_b1 : n0 ≤ b1) (nE_b1 : hE.size ≤ b1) (r : Int32), f_law_40 v0 v3 bs_b1 = some r → own_Goes p e below s (Q_law Z hE n0 r) 6 72 (T.setTop (mkF m 40 #[.val (.long v0), .second, d2, .val (.int v3), .val (.ref b1), d5, d6, d7] [])) := by
  have cx' := cx
  obtain ⟨hx, hZ, hw, hby, hml, hown, hret, hlk, hnm⟩ := cx'
  intro T locs h X eT N K z b1 v0 v3 bs_b1 d2 d5 d6 d7 o_d2 o_d5 o_d6 o_d7 A_b1 g_b1 nE_b1 r hF
  unfold f_law_40 at hF
  refine own_Goes.via (B := T.setTop (mkF m 42 #[.val (.long v0), .second, d2, .val (.int v3), .val (.ref b1), d5, d6, d7] [(.int (2 : Int32)), (.int v3)])) (fun t k => ?_) ?_
  · show Steps p.tables e below (T.setTop (mkF m 40 #[.val (.long v0), .second, d2, .val (.int v3), .val (.ref b1), d5, d6, d7] [])) t
    refine XS.iloadN X.here hx rfl (hb hby at_40) rfl ?_
    show Steps p.tables e below (T.setTop (mkF m 41 #[.val (.long v0), .second, d2, .val (.int v3), .val (.ref b1), d5, d6, d7] [(.int v3)])) t
    refine XS.iconst X.here hx rfl (hb hby at_41) ?_
    exact k
  by_cases hc42 : (2 : Int32) < v3
  · rw [if_pos hc42] at hF
    refine own_Goes.via (B := T.setTop (mkF m 50 #[.val (.long v0), .second, d2, .val (.int v3), .val (.ref b1), d5, d6, d7] [(.int (2 : Int32)), (.long v0), (.int (2 : Int32)), (.ref b1)])) (fun t k => ?_) ?_
    · show Steps p.tables e below (T.setTop (mkF m 42 #[.val (.long v0), .second, d2, .val (.int v3), .val (.ref b1), d5, d6, d7] [(.int (2 : Int32)), (.int v3)])) t
      refine XS.icmpNo X.here hx rfl (hb hby at_42) rfl (tlt hc42).2.2.2 ?_
      show Steps p.tables e below (T.setTop (mkF m 45 #[.val (.long v0), .second, d2, .val (.int v3), .val (.ref b1), d5, d6, d7] [])) t
      refine XS.aload X.here hx rfl (hb hby at_45) rfl rfl ?_
      show Steps p.tables e below (T.setTop (mkF m 47 #[.val (.long v0), .second, d2, .val (.int v3), .val (.ref b1), d5, d6, d7] [(.ref b1)])) t
      refine XS.iconst X.here hx rfl (hb hby at_47) ?_
      show Steps p.tables e below (T.setTop (mkF m 48 #[.val (.long v0), .second, d2, .val (.int v3), .val (.ref b1), d5, d6, d7] [(.int (2 : Int32)), (.ref b1)])) t
      refine XS.lloadN X.here hx rfl (hb hby at_48) rfl ?_
      show Steps p.tables e below (T.setTop (mkF m 49 #[.val (.long v0), .second, d2, .val (.int v3), .val (.ref b1), d5, d6, d7] [(.long v0), (.int (2 : Int32)), (.ref b1)])) t
      refine XS.iconst X.here hx rfl (hb hby at_49) ?_
      exact k
    obtain ⟨r734, hr734, hF⟩ := own_bd_e hF
    obtain ⟨_, _, ⟨T734, L734, k734, n734⟩, -, X734, ⟨Lc734, hQ734, l734, y734, z734⟩, st734⟩ := Jvm.LawKit.callS X hx (y := (⟨"com/example/oxpecker/oxpecker/sip/RawMessageIsPlainPinLaw", "pick", "(JI)B"⟩ : MethodName)) hown (mvT hZ (w2 hw)) (mvT hZ (w3 hw)) (mvT hZ (w4 hw)) (mvT hZ (w5 hw)) (by decide) (backOf (W := 2) (rm_RawMessageIsPlainPinLaw_pick l Z a0 hw [] h n0 z v0 (2 : Int32) r734 hr734) hZ (w5 hw) (w4 hw) (by decide) (by decide)) (g := (mkF m 50 #[.val (.long v0), .second, d2, .val (.int v3), .val (.ref b1), d5, d6, d7] [(.int (2 : Int32)), (.long v0), (.int (2 : Int32)), (.ref b1)])) rfl (by rw [hml]; rfl) (argsL := [(.long v0), (.int (2 : Int32))]) (rest := [(.int (2 : Int32)), (.ref b1)]) (lenOf pd_0 rfl) rfl (by show 2 * 0 + _ ≤ _; exact Nat.le_of_eq rfl) (hb hby at_50) (fun _ _ => ⟨rfl, eT, (by decide : 1 + 0 ≤ _), (by decide : 8 + 0 ≤ _)⟩)
    dsimp only [Pt.U, Pt.locs, Pt.cells, Pt.slots] at X734 l734 y734 z734 st734 hQ734
    subst l734 y734 z734
    obtain ⟨rfl, N734q, e734⟩ := hQ734
    have N734 := Fr.app N N734q
    refine own_Goes.via st734 ?_
    show own_Goes _ _ _ _ _ _ _ (T734.setTop (mkF m 53 #[.val (.long v0), .second, d2, .val (.int v3), .val (.ref b1), d5, d6, d7] [(.int r734), (.int (2 : Int32)), (.ref b1)]))
    obtain ⟨hi53, hF⟩ := own_ck_e hF
    obtain ⟨T735, h735, X735, e735, W735, A735_b1, st735⟩ := own_stB X734 hx hZ e734 A_b1 hi53 (g := (mkF m 53 #[.val (.long v0), .second, d2, .val (.int v3), .val (.ref b1), d5, d6, d7] [(.int r734), (.int (2 : Int32)), (.ref b1)])) rfl rfl (hb hby at_53)
    refine own_Goes.via st735 ?_
    have z735 := Nat.le_trans z (Keep.of_wr W735).1
    have K735_ := K.wr W735 (Or.inr nE_b1)
    have N735 := Fr.snoc X735 N734 g_b1
    have A735_b1 : own_Ar Z h735 b1 .byte ((own_wr bs_b1 (2 : Int32) (r734.toInt8.toInt32)).map Value.int) := A735_b1
    show own_Goes _ _ _ _ _ _ _ (T735.setTop (mkF m 54 #[.val (.long v0), .second, d2, .val (.int v3), .val (.ref b1), d5, d6, d7] []))
    obtain ⟨bs736, hbs736, hF⟩ := own_lt_e hF
    rw [← hbs736] at A735_b1
    refine own_Goes.via (B := T735.setTop (mkF m 56 #[.val (.long v0), .second, d2, .val (.int v3), .val (.ref b1), d5, d6, d7] [(.int (3 : Int32)), (.int v3)])) (fun t k => ?_) ?_
    · show Steps p.tables e below (T735.setTop (mkF m 54 #[.val (.long v0), .second, d2, .val (.int v3), .val (.ref b1), d5, d6, d7] [])) t
      refine XS.iloadN X735.here hx rfl (hb hby at_54) rfl ?_
      show Steps p.tables e below (T735.setTop (mkF m 55 #[.val (.long v0), .second, d2, .val (.int v3), .val (.ref b1), d5, d6, d7] [(.int v3)])) t
      refine XS.iconst X735.here hx rfl (hb hby at_55) ?_
      exact k
    by_cases hc56 : (3 : Int32) < v3
    · rw [if_pos hc56] at hF
      refine own_Goes.via (B := T735.setTop (mkF m 64 #[.val (.long v0), .second, d2, .val (.int v3), .val (.ref b1), d5, d6, d7] [(.int (3 : Int32)), (.long v0), (.int (3 : Int32)), (.ref b1)])) (fun t k => ?_) ?_
      · show Steps p.tables e below (T735.setTop (mkF m 56 #[.val (.long v0), .second, d2, .val (.int v3), .val (.ref b1), d5, d6, d7] [(.int (3 : Int32)), (.int v3)])) t
        refine XS.icmpNo X735.here hx rfl (hb hby at_56) rfl (tlt hc56).2.2.2 ?_
        show Steps p.tables e below (T735.setTop (mkF m 59 #[.val (.long v0), .second, d2, .val (.int v3), .val (.ref b1), d5, d6, d7] [])) t
        refine XS.aload X735.here hx rfl (hb hby at_59) rfl rfl ?_
        show Steps p.tables e below (T735.setTop (mkF m 61 #[.val (.long v0), .second, d2, .val (.int v3), .val (.ref b1), d5, d6, d7] [(.ref b1)])) t
        refine XS.iconst X735.here hx rfl (hb hby at_61) ?_
        show Steps p.tables e below (T735.setTop (mkF m 62 #[.val (.long v0), .second, d2, .val (.int v3), .val (.ref b1), d5, d6, d7] [(.int (3 : Int32)), (.ref b1)])) t
        refine XS.lloadN X735.here hx rfl (hb hby at_62) rfl ?_
        show Steps p.tables e below (T735.setTop (mkF m 63 #[.val (.long v0), .second, d2, .val (.int v3), .val (.ref b1), d5, d6, d7] [(.long v0), (.int (3 : Int32)), (.ref b1)])) t
        refine XS.iconst X735.here hx rfl (hb hby at_63) ?_
        exact k
      obtain ⟨r737, hr737, hF⟩ := own_bd_e hF
      obtain ⟨_, _, ⟨T737, L737, k737, n737⟩, -, X737, ⟨Lc737, hQ737, l737, y737, z737⟩, st737⟩ := Jvm.LawKit.callS X735 hx (y := (⟨"com/example/oxpecker/oxpecker/sip/RawMessageIsPlainPinLaw", "pick", "(JI)B"⟩ : MethodName)) hown (mvT hZ (w2 hw)) (mvT hZ (w3 hw)) (mvT hZ (w4 hw)) (mvT hZ (w5 hw)) (by decide) (backOf (W := 2) (rm_RawMessageIsPlainPinLaw_pick l Z a0 hw [] h735 n0 z735 v0 (3 : Int32) r737 hr737) hZ (w5 hw) (w4 hw) (by decide) (by decide)) (g := (mkF m 64 #[.val (.long v0), .second, d2, .val (.int v3), .val (.ref b1), d5, d6, d7] [(.int (3 : Int32)), (.long v0), (.int (3 : Int32)), (.ref b1)])) rfl (by rw [hml]; rfl) (argsL := [(.long v0), (.int (3 : Int32))]) (rest := [(.int (3 : Int32)), (.ref b1)]) (lenOf pd_0 rfl) rfl (by show 2 * 0 + _ ≤ _; exact Nat.le_of_eq rfl) (hb hby at_64) (fun _ _ => ⟨rfl, e735, (by decide : 1 + 0 ≤ _), (by decide : 8 + 0 ≤ _)⟩)
      dsimp only [Pt.U, Pt.locs, Pt.cells, Pt.slots] at X737 l737 y737 z737 st737 hQ737
      subst l737 y737 z737
      obtain ⟨rfl, N737q, e737⟩ := hQ737
      have N737 := Fr.app N735 N737q
      refine own_Goes.via st737 ?_
      show own_Goes _ _ _ _ _ _ _ (T737.setTop (mkF m 67 #[.val (.long v0), .second, d2, .val (.int v3), .val (.ref b1), d5, d6, d7] [(.int r737), (.int (3 : Int32)), (.ref b1)]))
      obtain ⟨hi67, hF⟩ := own_ck_e hF
      obtain ⟨T738, h738, X738, e738, W738, A738_b1, st738⟩ := own_stB X737 hx hZ e737 A735_b1 hi67 (g := (mkF m 67 #[.val (.long v0), .second, d2, .val (.int v3), .val (.ref b1), d5, d6, d7] [(.int r737), (.int (3 : Int32)), (.ref b1)])) rfl rfl (hb hby at_67)
      refine own_Goes.via st738 ?_
      have z738 := Nat.le_trans z735 (Keep.of_wr W738).1
      have K738_ := K735_.wr W738 (Or.inr nE_b1)
      have N738 := Fr.snoc X738 N737 g_b1
      have A738_b1 : own_Ar Z h738 b1 .byte ((own_wr bs736 (3 : Int32) (r737.toInt8.toInt32)).map Value.int) := A738_b1
      show own_Goes _ _ _ _ _ _ _ (T738.setTop (mkF m 68 #[.val (.long v0), .second, d2, .val (.int v3), .val (.ref b1), d5, d6, d7] []))
      obtain ⟨bs739, hbs739, hF⟩ := own_lt_e hF
      rw [← hbs739] at A738_b1
      exact b_law_68 cx X738 e738 N738 K738_ z738 b1 v0 v3 bs739 d2 d5 d6 d7 o_d2 o_d5 o_d6 o_d7 A738_b1 g_b1 nE_b1 _ hF
    · rw [if_neg hc56] at hF
      refine own_Goes.via (B := T735.setTop (mkF m 68 #[.val (.long v0), .second, d2, .val (.int v3), .val (.ref b1), d5, d6, d7] [])) (fun t k => ?_) ?_
      · show Steps p.tables e below (T735.setTop (mkF m 56 #[.val (.long v0), .second, d2, .val (.int v3), .val (.ref b1), d5, d6, d7] [(.int (3 : Int32)), (.int v3)])) t
        refine XS.icmpYes X735.here hx rfl (pc0 := 56) (pc' := 68) rfl (hb hby at_56) rfl (flt hc56).2.2.2 (by decide) (by decide) ?_
        exact k
      exact b_law_68 cx X735 e735 N735 K735_ z735 b1 v0 v3 bs736 d2 d5 d6 d7 o_d2 o_d5 o_d6 o_d7 A735_b1 g_b1 nE_b1 _ hF
  · rw [if_neg hc42] at hF
    refine own_Goes.via (B := T.setTop (mkF m 56 #[.val (.long v0), .second, d2, .val (.int v3), .val (.ref b1), d5, d6, d7] [(.int (3 : Int32)), (.int v3)])) (fun t k => ?_) ?_
    · show Steps p.tables e below (T.setTop (mkF m 42 #[.val (.long v0), .second, d2, .val (.int v3), .val (.ref b1), d5, d6, d7] [(.int (2 : Int32)), (.int v3)])) t
      refine XS.icmpYes X.here hx rfl (pc0 := 42) (pc' := 54) rfl (hb hby at_42) rfl (flt hc42).2.2.2 (by decide) (by decide) ?_
      show Steps p.tables e below (T.setTop (mkF m 54 #[.val (.long v0), .second, d2, .val (.int v3), .val (.ref b1), d5, d6, d7] [])) t
      refine XS.iloadN X.here hx rfl (hb hby at_54) rfl ?_
      show Steps p.tables e below (T.setTop (mkF m 55 #[.val (.long v0), .second, d2, .val (.int v3), .val (.ref b1), d5, d6, d7] [(.int v3)])) t
      refine XS.iconst X.here hx rfl (hb hby at_55) ?_
      exact k
    by_cases hc56 : (3 : Int32) < v3
    · rw [if_pos hc56] at hF
      refine own_Goes.via (B := T.setTop (mkF m 64 #[.val (.long v0), .second, d2, .val (.int v3), .val (.ref b1), d5, d6, d7] [(.int (3 : Int32)), (.long v0), (.int (3 : Int32)), (.ref b1)])) (fun t k => ?_) ?_
      · show Steps p.tables e below (T.setTop (mkF m 56 #[.val (.long v0), .second, d2, .val (.int v3), .val (.ref b1), d5, d6, d7] [(.int (3 : Int32)), (.int v3)])) t
        refine XS.icmpNo X.here hx rfl (hb hby at_56) rfl (tlt hc56).2.2.2 ?_
        show Steps p.tables e below (T.setTop (mkF m 59 #[.val (.long v0), .second, d2, .val (.int v3), .val (.ref b1), d5, d6, d7] [])) t
        refine XS.aload X.here hx rfl (hb hby at_59) rfl rfl ?_
        show Steps p.tables e below (T.setTop (mkF m 61 #[.val (.long v0), .second, d2, .val (.int v3), .val (.ref b1), d5, d6, d7] [(.ref b1)])) t
        refine XS.iconst X.here hx rfl (hb hby at_61) ?_
        show Steps p.tables e below (T.setTop (mkF m 62 #[.val (.long v0), .second, d2, .val (.int v3), .val (.ref b1), d5, d6, d7] [(.int (3 : Int32)), (.ref b1)])) t
        refine XS.lloadN X.here hx rfl (hb hby at_62) rfl ?_
        show Steps p.tables e below (T.setTop (mkF m 63 #[.val (.long v0), .second, d2, .val (.int v3), .val (.ref b1), d5, d6, d7] [(.long v0), (.int (3 : Int32)), (.ref b1)])) t
        refine XS.iconst X.here hx rfl (hb hby at_63) ?_
        exact k
      obtain ⟨r740, hr740, hF⟩ := own_bd_e hF
      obtain ⟨_, _, ⟨T740, L740, k740, n740⟩, -, X740, ⟨Lc740, hQ740, l740, y740, z740⟩, st740⟩ := Jvm.LawKit.callS X hx (y := (⟨"com/example/oxpecker/oxpecker/sip/RawMessageIsPlainPinLaw", "pick", "(JI)B"⟩ : MethodName)) hown (mvT hZ (w2 hw)) (mvT hZ (w3 hw)) (mvT hZ (w4 hw)) (mvT hZ (w5 hw)) (by decide) (backOf (W := 2) (rm_RawMessageIsPlainPinLaw_pick l Z a0 hw [] h n0 z v0 (3 : Int32) r740 hr740) hZ (w5 hw) (w4 hw) (by decide) (by decide)) (g := (mkF m 64 #[.val (.long v0), .second, d2, .val (.int v3), .val (.ref b1), d5, d6, d7] [(.int (3 : Int32)), (.long v0), (.int (3 : Int32)), (.ref b1)])) rfl (by rw [hml]; rfl) (argsL := [(.long v0), (.int (3 : Int32))]) (rest := [(.int (3 : Int32)), (.ref b1)]) (lenOf pd_0 rfl) rfl (by show 2 * 0 + _ ≤ _; exact Nat.le_of_eq rfl) (hb hby at_64) (fun _ _ => ⟨rfl, eT, (by decide : 1 + 0 ≤ _), (by decide : 8 + 0 ≤ _)⟩)
      dsimp only [Pt.U, Pt.locs, Pt.cells, Pt.slots] at X740 l740 y740 z740 st740 hQ740
      subst l740 y740 z740
      obtain ⟨rfl, N740q, e740⟩ := hQ740
      have N740 := Fr.app N N740q
      refine own_Goes.via st740 ?_
      show own_Goes _ _ _ _ _ _ _ (T740.setTop (mkF m 67 #[.val (.long v0), .second, d2, .val (.int v3), .val (.ref b1), d5, d6, d7] [(.int r740), (.int (3 : Int32)), (.ref b1)]))
      obtain ⟨hi67, hF⟩ := own_ck_e hF
      obtain ⟨T741, h741, X741, e741, W741, A741_b1, st741⟩ := own_stB X740 hx hZ e740 A_b1 hi67 (g := (mkF m 67 #[.val (.long v0), .second, d2, .val (.int v3), .val (.ref b1), d5, d6, d7] [(.int r740), (.int (3 : Int32)), (.ref b1)])) rfl rfl (hb hby at_67)
      refine own_Goes.via st741 ?_
      have z741 := Nat.le_trans z (Keep.of_wr W741).1
      have K741_ := K.wr W741 (Or.inr nE_b1)
      have N741 := Fr.snoc X741 N740 g_b1
      have A741_b1 : own_Ar Z h741 b1 .byte ((own_wr bs_b1 (3 : Int32) (r740.toInt8.toInt32)).map Value.int) := A741_b1
      show own_Goes _ _ _ _ _ _ _ (T741.setTop (mkF m 68 #[.val (.long v0), .second, d2, .val (.int v3), .val (.ref b1), d5, d6, d7] []))
      obtain ⟨bs742, hbs742, hF⟩ := own_lt_e hF
      rw [← hbs742] at A741_b1
      exact b_law_68 cx X741 e741 N741 K741_ z741 b1 v0 v3 bs742 d2 d5 d6 d7 o_d2 o_d5 o_d6 o_d7 A741_b1 g_b1 nE_b1 _ hF
    · rw [if_neg hc56] at hF
      refine own_Goes.via (B := T.setTop (mkF m 68 #[.val (.long v0), .second, d2, .val (.int v3), .val (.ref b1), d5, d6, d7] [])) (fun t k => ?_) ?_
      · show Steps p.tables e below (T.setTop (mkF m 56 #[.val (.long v0), .second, d2, .val (.int v3), .val (.ref b1), d5, d6, d7] [(.int (3 : Int32)), (.int v3)])) t
        refine XS.icmpYes X.here hx rfl (pc0 := 56) (pc' := 68) rfl (hb hby at_56) rfl (flt hc56).2.2.2 (by decide) (by decide) ?_
        exact k
      exact b_law_68 cx X eT N K z b1 v0 v3 bs_b1 d2 d5 d6 d7 o_d2 o_d5 o_d6 o_d7 A_b1 g_b1 nE_b1 _ hF
set_option maxRecDepth 65536 in
set_option maxHeartbeats 4000000 in
theorem b_law {p : Program} {l : Launch} {e : Env} {s : State} {m : MethodId} {args : Array Value} {below : List Frame} {meth : Method} {c : Code} {Z : State} {a0 : Array Value} {n0 : Nat} {hE : Heap} (cx : Cx_law p s m meth c Z a0) :
    ∀ {T : State} {locs : List Loc} {h : Heap} (X : Stand p l e room_1 s m args below meth c T locs 0 0) (eT : T.heap = h) (N : Fr n0 locs) (K : Keep hE h []) (z : n0 ≤ h.size) (v0 : Int64) (v2 : Int32) (r : Int32), f_law v0 v2 = some r → own_Goes p e below s (Q_law Z hE n0 r) 6 72 (T.setTop (mkF m 0 #[.val (.long v0), .second, .val (.int v2), .unset, .unset, .unset, .unset, .unset] [])) := by
  have cx' := cx
  obtain ⟨hx, hZ, hw, hby, hml, hown, hret, hlk, hnm⟩ := cx'
  intro T locs h X eT N K z v0 v2 r hF
  unfold f_law at hF
  refine own_Goes.via (B := T.setTop (mkF m 7 #[.val (.long v0), .second, .val (.int v2), .unset, .unset, .unset, .unset, .unset] [(.int ((v2 &&& (2147483647 : Int32)) % (9 : Int32)))])) (fun t k => ?_) ?_
  · show Steps p.tables e below (T.setTop (mkF m 0 #[.val (.long v0), .second, .val (.int v2), .unset, .unset, .unset, .unset, .unset] [])) t
    refine XS.iloadN X.here hx rfl (hb hby at_0) rfl ?_
    show Steps p.tables e below (T.setTop (mkF m 1 #[.val (.long v0), .second, .val (.int v2), .unset, .unset, .unset, .unset, .unset] [(.int v2)])) t
    refine X.ldcInt hx hown (mvT hZ (w0 hw)) (g := (mkF m 1 #[.val (.long v0), .second, .val (.int v2), .unset, .unset, .unset, .unset, .unset] [(.int v2)])) rfl (hb hby at_1) _ ?_
    show Steps p.tables e below (T.setTop (mkF m 3 #[.val (.long v0), .second, .val (.int v2), .unset, .unset, .unset, .unset, .unset] [(.int (2147483647 : Int32)), (.int v2)])) t
    refine XS.iand X.here hx rfl (hb hby at_3) rfl ?_
    show Steps p.tables e below (T.setTop (mkF m 4 #[.val (.long v0), .second, .val (.int v2), .unset, .unset, .unset, .unset, .unset] [(.int (v2 &&& (2147483647 : Int32)))])) t
    refine XS.bipush X.here hx rfl (hb hby at_4) ?_
    show Steps p.tables e below (T.setTop (mkF m 6 #[.val (.long v0), .second, .val (.int v2), .unset, .unset, .unset, .unset, .unset] [(.int (9 : Int32)), (.int (v2 &&& (2147483647 : Int32)))])) t
    refine own_irem X hx rfl (hb hby at_6) rfl (by decide) ?_
    exact k
  obtain ⟨x746, hx746, hF⟩ := own_lt_e hF
  rw [← hx746]
  refine own_Goes.via (B := T.setTop (mkF m 9 #[.val (.long v0), .second, .val (.int v2), .val (.int x746), .unset, .unset, .unset, .unset] [(.int x746)])) (fun t k => ?_) ?_
  · show Steps p.tables e below (T.setTop (mkF m 7 #[.val (.long v0), .second, .val (.int v2), .unset, .unset, .unset, .unset, .unset] [(.int x746)])) t
    refine XS.istoreN X.here hx rfl (hb hby at_7) rfl (l' := #[.val (.long v0), .second, .val (.int v2), .val (.int x746), .unset, .unset, .unset, .unset]) rfl ?_
    show Steps p.tables e below (T.setTop (mkF m 8 #[.val (.long v0), .second, .val (.int v2), .val (.int x746), .unset, .unset, .unset, .unset] [])) t
    refine XS.iloadN X.here hx rfl (hb hby at_8) rfl ?_
    exact k
  obtain ⟨hn9, hF⟩ := own_ck_e hF
  obtain ⟨T747, h747, k747, X747, e747, E747, A747, st747⟩ := newP X hx hZ (aty := .byte) (w1 hw) eT (g := (mkF m 9 #[.val (.long v0), .second, .val (.int v2), .val (.int x746), .unset, .unset, .unset, .unset] [(.int x746)])) rfl (hb hby at_9) rfl hn9.1 (cap := 8) hn9.2 (by decide) (by decide) (by decide)
  obtain ⟨c747, q747⟩ : ∃ z, z = h.size := ⟨_, rfl⟩
  rw [← q747] at A747 st747
  have A747_c747 : own_Ar Z h747 c747 .byte ((List.replicate x746.toNatClampNeg (0 : Int32)).map Value.int) := own_newI A747 hn9.1 rfl rfl
  have g747_c747 : n0 ≤ c747 := Nat.le_trans z (Nat.le_of_eq q747.symm)
  have nE747_c747 : hE.size ≤ c747 := Nat.le_trans K.1 (Nat.le_of_eq q747.symm)
  have z747 := Nat.le_trans z E747.1
  have K747_ := K.ext E747
  refine own_Goes.via st747 ?_
  show own_Goes _ _ _ _ _ _ _ (T747.setTop (mkF m 11 #[.val (.long v0), .second, .val (.int v2), .val (.int x746), .unset, .unset, .unset, .unset] [(.ref c747)]))
  refine own_Goes.via (B := T747.setTop (mkF m 14 #[.val (.long v0), .second, .val (.int v2), .val (.int x746), .val (.ref c747), .unset, .unset, .unset] [(.int x746)])) (fun t k => ?_) ?_
  · show Steps p.tables e below (T747.setTop (mkF m 11 #[.val (.long v0), .second, .val (.int v2), .val (.int x746), .unset, .unset, .unset, .unset] [(.ref c747)])) t
    refine XS.astore X747.here hx rfl (hb hby at_11) rfl rfl (l' := #[.val (.long v0), .second, .val (.int v2), .val (.int x746), .val (.ref c747), .unset, .unset, .unset]) rfl ?_
    show Steps p.tables e below (T747.setTop (mkF m 13 #[.val (.long v0), .second, .val (.int v2), .val (.int x746), .val (.ref c747), .unset, .unset, .unset] [])) t
    refine XS.iloadN X747.here hx rfl (hb hby at_13) rfl ?_
    exact k
  by_cases hc14 : (0 : Int32) < x746
  · rw [if_pos hc14] at hF
    refine own_Goes.via (B := T747.setTop (mkF m 22 #[.val (.long v0), .second, .val (.int v2), .val (.int x746), .val (.ref c747), .unset, .unset, .unset] [(.int (0 : Int32)), (.long v0), (.int (0 : Int32)), (.ref c747)])) (fun t k => ?_) ?_
    · show Steps p.tables e below (T747.setTop (mkF m 14 #[.val (.long v0), .second, .val (.int v2), .val (.int x746), .val (.ref c747), .unset, .unset, .unset] [(.int x746)])) t
      refine XS.ifNo X747.here hx rfl (hb hby at_14) rfl ((if0 _ _).trans (tlt hc14).2.2.2) ?_
      show Steps p.tables e below (T747.setTop (mkF m 17 #[.val (.long v0), .second, .val (.int v2), .val (.int x746), .val (.ref c747), .unset, .unset, .unset] [])) t
      refine XS.aload X747.here hx rfl (hb hby at_17) rfl rfl ?_
      show Steps p.tables e below (T747.setTop (mkF m 19 #[.val (.long v0), .second, .val (.int v2), .val (.int x746), .val (.ref c747), .unset, .unset, .unset] [(.ref c747)])) t
      refine XS.iconst X747.here hx rfl (hb hby at_19) ?_
      show Steps p.tables e below (T747.setTop (mkF m 20 #[.val (.long v0), .second, .val (.int v2), .val (.int x746), .val (.ref c747), .unset, .unset, .unset] [(.int (0 : Int32)), (.ref c747)])) t
      refine XS.lloadN X747.here hx rfl (hb hby at_20) rfl ?_
      show Steps p.tables e below (T747.setTop (mkF m 21 #[.val (.long v0), .second, .val (.int v2), .val (.int x746), .val (.ref c747), .unset, .unset, .unset] [(.long v0), (.int (0 : Int32)), (.ref c747)])) t
      refine XS.iconst X747.here hx rfl (hb hby at_21) ?_
      exact k
    obtain ⟨r748, hr748, hF⟩ := own_bd_e hF
    obtain ⟨_, _, ⟨T748, L748, k748, n748⟩, -, X748, ⟨Lc748, hQ748, l748, y748, z748⟩, st748⟩ := Jvm.LawKit.callS X747 hx (y := (⟨"com/example/oxpecker/oxpecker/sip/RawMessageIsPlainPinLaw", "pick", "(JI)B"⟩ : MethodName)) hown (mvT hZ (w2 hw)) (mvT hZ (w3 hw)) (mvT hZ (w4 hw)) (mvT hZ (w5 hw)) (by decide) (backOf (W := 2) (rm_RawMessageIsPlainPinLaw_pick l Z a0 hw [] h747 n0 z747 v0 (0 : Int32) r748 hr748) hZ (w5 hw) (w4 hw) (by decide) (by decide)) (g := (mkF m 22 #[.val (.long v0), .second, .val (.int v2), .val (.int x746), .val (.ref c747), .unset, .unset, .unset] [(.int (0 : Int32)), (.long v0), (.int (0 : Int32)), (.ref c747)])) rfl (by rw [hml]; rfl) (argsL := [(.long v0), (.int (0 : Int32))]) (rest := [(.int (0 : Int32)), (.ref c747)]) (lenOf pd_0 rfl) rfl (by show 2 * 0 + _ ≤ _; exact Nat.le_of_eq rfl) (hb hby at_22) (fun _ _ => ⟨rfl, e747, (by decide : 1 + 0 ≤ _), (by decide : 8 + 0 ≤ _)⟩)
    dsimp only [Pt.U, Pt.locs, Pt.cells, Pt.slots] at X748 l748 y748 z748 st748 hQ748
    subst l748 y748 z748
    obtain ⟨rfl, N748q, e748⟩ := hQ748
    have N748 := Fr.app N N748q
    refine own_Goes.via st748 ?_
    show own_Goes _ _ _ _ _ _ _ (T748.setTop (mkF m 25 #[.val (.long v0), .second, .val (.int v2), .val (.int x746), .val (.ref c747), .unset, .unset, .unset] [(.int r748), (.int (0 : Int32)), (.ref c747)]))
    obtain ⟨hi25, hF⟩ := own_ck_e hF
    obtain ⟨T749, h749, X749, e749, W749, A749_c747, st749⟩ := own_stB X748 hx hZ e748 A747_c747 hi25 (g := (mkF m 25 #[.val (.long v0), .second, .val (.int v2), .val (.int x746), .val (.ref c747), .unset, .unset, .unset] [(.int r748), (.int (0 : Int32)), (.ref c747)])) rfl rfl (hb hby at_25)
    refine own_Goes.via st749 ?_
    have z749 := Nat.le_trans z747 (Keep.of_wr W749).1
    have K749_ := K747_.wr W749 (Or.inr nE747_c747)
    have N749 := Fr.snoc X749 N748 g747_c747
    have A749_c747 : own_Ar Z h749 c747 .byte ((own_wr (List.replicate x746.toNatClampNeg (0 : Int32)) (0 : Int32) (r748.toInt8.toInt32)).map Value.int) := A749_c747
    show own_Goes _ _ _ _ _ _ _ (T749.setTop (mkF m 26 #[.val (.long v0), .second, .val (.int v2), .val (.int x746), .val (.ref c747), .unset, .unset, .unset] []))
    obtain ⟨bs750, hbs750, hF⟩ := own_lt_e hF
    rw [← hbs750] at A749_c747
    refine own_Goes.via (B := T749.setTop (mkF m 28 #[.val (.long v0), .second, .val (.int v2), .val (.int x746), .val (.ref c747), .unset, .unset, .unset] [(.int (1 : Int32)), (.int x746)])) (fun t k => ?_) ?_
    · show Steps p.tables e below (T749.setTop (mkF m 26 #[.val (.long v0), .second, .val (.int v2), .val (.int x746), .val (.ref c747), .unset, .unset, .unset] [])) t
      refine XS.iloadN X749.here hx rfl (hb hby at_26) rfl ?_
      show Steps p.tables e below (T749.setTop (mkF m 27 #[.val (.long v0), .second, .val (.int v2), .val (.int x746), .val (.ref c747), .unset, .unset, .unset] [(.int x746)])) t
      refine XS.iconst X749.here hx rfl (hb hby at_27) ?_
      exact k
    by_cases hc28 : (1 : Int32) < x746
    · rw [if_pos hc28] at hF
      refine own_Goes.via (B := T749.setTop (mkF m 36 #[.val (.long v0), .second, .val (.int v2), .val (.int x746), .val (.ref c747), .unset, .unset, .unset] [(.int (1 : Int32)), (.long v0), (.int (1 : Int32)), (.ref c747)])) (fun t k => ?_) ?_
      · show Steps p.tables e below (T749.setTop (mkF m 28 #[.val (.long v0), .second, .val (.int v2), .val (.int x746), .val (.ref c747), .unset, .unset, .unset] [(.int (1 : Int32)), (.int x746)])) t
        refine XS.icmpNo X749.here hx rfl (hb hby at_28) rfl (tlt hc28).2.2.2 ?_
        show Steps p.tables e below (T749.setTop (mkF m 31 #[.val (.long v0), .second, .val (.int v2), .val (.int x746), .val (.ref c747), .unset, .unset, .unset] [])) t
        refine XS.aload X749.here hx rfl (hb hby at_31) rfl rfl ?_
        show Steps p.tables e below (T749.setTop (mkF m 33 #[.val (.long v0), .second, .val (.int v2), .val (.int x746), .val (.ref c747), .unset, .unset, .unset] [(.ref c747)])) t
        refine XS.iconst X749.here hx rfl (hb hby at_33) ?_
        show Steps p.tables e below (T749.setTop (mkF m 34 #[.val (.long v0), .second, .val (.int v2), .val (.int x746), .val (.ref c747), .unset, .unset, .unset] [(.int (1 : Int32)), (.ref c747)])) t
        refine XS.lloadN X749.here hx rfl (hb hby at_34) rfl ?_
        show Steps p.tables e below (T749.setTop (mkF m 35 #[.val (.long v0), .second, .val (.int v2), .val (.int x746), .val (.ref c747), .unset, .unset, .unset] [(.long v0), (.int (1 : Int32)), (.ref c747)])) t
        refine XS.iconst X749.here hx rfl (hb hby at_35) ?_
        exact k
      obtain ⟨r751, hr751, hF⟩ := own_bd_e hF
      obtain ⟨_, _, ⟨T751, L751, k751, n751⟩, -, X751, ⟨Lc751, hQ751, l751, y751, z751⟩, st751⟩ := Jvm.LawKit.callS X749 hx (y := (⟨"com/example/oxpecker/oxpecker/sip/RawMessageIsPlainPinLaw", "pick", "(JI)B"⟩ : MethodName)) hown (mvT hZ (w2 hw)) (mvT hZ (w3 hw)) (mvT hZ (w4 hw)) (mvT hZ (w5 hw)) (by decide) (backOf (W := 2) (rm_RawMessageIsPlainPinLaw_pick l Z a0 hw [] h749 n0 z749 v0 (1 : Int32) r751 hr751) hZ (w5 hw) (w4 hw) (by decide) (by decide)) (g := (mkF m 36 #[.val (.long v0), .second, .val (.int v2), .val (.int x746), .val (.ref c747), .unset, .unset, .unset] [(.int (1 : Int32)), (.long v0), (.int (1 : Int32)), (.ref c747)])) rfl (by rw [hml]; rfl) (argsL := [(.long v0), (.int (1 : Int32))]) (rest := [(.int (1 : Int32)), (.ref c747)]) (lenOf pd_0 rfl) rfl (by show 2 * 0 + _ ≤ _; exact Nat.le_of_eq rfl) (hb hby at_36) (fun _ _ => ⟨rfl, e749, (by decide : 1 + 0 ≤ _), (by decide : 8 + 0 ≤ _)⟩)
      dsimp only [Pt.U, Pt.locs, Pt.cells, Pt.slots] at X751 l751 y751 z751 st751 hQ751
      subst l751 y751 z751
      obtain ⟨rfl, N751q, e751⟩ := hQ751
      have N751 := Fr.app N749 N751q
      refine own_Goes.via st751 ?_
      show own_Goes _ _ _ _ _ _ _ (T751.setTop (mkF m 39 #[.val (.long v0), .second, .val (.int v2), .val (.int x746), .val (.ref c747), .unset, .unset, .unset] [(.int r751), (.int (1 : Int32)), (.ref c747)]))
      obtain ⟨hi39, hF⟩ := own_ck_e hF
      obtain ⟨T752, h752, X752, e752, W752, A752_c747, st752⟩ := own_stB X751 hx hZ e751 A749_c747 hi39 (g := (mkF m 39 #[.val (.long v0), .second, .val (.int v2), .val (.int x746), .val (.ref c747), .unset, .unset, .unset] [(.int r751), (.int (1 : Int32)), (.ref c747)])) rfl rfl (hb hby at_39)
      refine own_Goes.via st752 ?_
      have z752 := Nat.le_trans z749 (Keep.of_wr W752).1
      have K752_ := K749_.wr W752 (Or.inr nE747_c747)
      have N752 := Fr.snoc X752 N751 g747_c747
      have A752_c747 : own_Ar Z h752 c747 .byte ((own_wr bs750 (1 : Int32) (r751.toInt8.toInt32)).map Value.int) := A752_c747
      show own_Goes _ _ _ _ _ _ _ (T752.setTop (mkF m 40 #[.val (.long v0), .second, .val (.int v2), .val (.int x746), .val (.ref c747), .unset, .unset, .unset] []))
      obtain ⟨bs753, hbs753, hF⟩ := own_lt_e hF
      rw [← hbs753] at A752_c747
      exact b_law_40 cx X752 e752 N752 K752_ z752 c747 v0 x746 bs753 (.val (.int v2)) (.unset) (.unset) (.unset) (One.val rfl) One.u One.u One.u A752_c747 g747_c747 nE747_c747 _ hF
    · rw [if_neg hc28] at hF
      refine own_Goes.via (B := T749.setTop (mkF m 40 #[.val (.long v0), .second, .val (.int v2), .val (.int x746), .val (.ref c747), .unset, .unset, .unset] [])) (fun t k => ?_) ?_
      · show Steps p.tables e below (T749.setTop (mkF m 28 #[.val (.long v0), .second, .val (.int v2), .val (.int x746), .val (.ref c747), .unset, .unset, .unset] [(.int (1 : Int32)), (.int x746)])) t
        refine XS.icmpYes X749.here hx rfl (pc0 := 28) (pc' := 40) rfl (hb hby at_28) rfl (flt hc28).2.2.2 (by decide) (by decide) ?_
        exact k
      exact b_law_40 cx X749 e749 N749 K749_ z749 c747 v0 x746 bs750 (.val (.int v2)) (.unset) (.unset) (.unset) (One.val rfl) One.u One.u One.u A749_c747 g747_c747 nE747_c747 _ hF
  · rw [if_neg hc14] at hF
    refine own_Goes.via (B := T747.setTop (mkF m 28 #[.val (.long v0), .second, .val (.int v2), .val (.int x746), .val (.ref c747), .unset, .unset, .unset] [(.int (1 : Int32)), (.int x746)])) (fun t k => ?_) ?_
    · show Steps p.tables e below (T747.setTop (mkF m 14 #[.val (.long v0), .second, .val (.int v2), .val (.int x746), .val (.ref c747), .unset, .unset, .unset] [(.int x746)])) t
      refine XS.ifYes X747.here hx rfl (pc0 := 14) (pc' := 26) rfl (hb hby at_14) rfl ((if0 _ _).trans (flt hc14).2.2.2) (by decide) (by decide) ?_
      show Steps p.tables e below (T747.setTop (mkF m 26 #[.val (.long v0), .second, .val (.int v2), .val (.int x746), .val (.ref c747), .unset, .unset, .unset] [])) t
      refine XS.iloadN X747.here hx rfl (hb hby at_26) rfl ?_
      show Steps p.tables e below (T747.setTop (mkF m 27 #[.val (.long v0), .second, .val (.int v2), .val (.int x746), .val (.ref c747), .unset, .unset, .unset] [(.int x746)])) t
      refine XS.iconst X747.here hx rfl (hb hby at_27) ?_
      exact k
    by_cases hc28 : (1 : Int32) < x746
    · rw [if_pos hc28] at hF
      refine own_Goes.via (B := T747.setTop (mkF m 36 #[.val (.long v0), .second, .val (.int v2), .val (.int x746), .val (.ref c747), .unset, .unset, .unset] [(.int (1 : Int32)), (.long v0), (.int (1 : Int32)), (.ref c747)])) (fun t k => ?_) ?_
      · show Steps p.tables e below (T747.setTop (mkF m 28 #[.val (.long v0), .second, .val (.int v2), .val (.int x746), .val (.ref c747), .unset, .unset, .unset] [(.int (1 : Int32)), (.int x746)])) t
        refine XS.icmpNo X747.here hx rfl (hb hby at_28) rfl (tlt hc28).2.2.2 ?_
        show Steps p.tables e below (T747.setTop (mkF m 31 #[.val (.long v0), .second, .val (.int v2), .val (.int x746), .val (.ref c747), .unset, .unset, .unset] [])) t
        refine XS.aload X747.here hx rfl (hb hby at_31) rfl rfl ?_
        show Steps p.tables e below (T747.setTop (mkF m 33 #[.val (.long v0), .second, .val (.int v2), .val (.int x746), .val (.ref c747), .unset, .unset, .unset] [(.ref c747)])) t
        refine XS.iconst X747.here hx rfl (hb hby at_33) ?_
        show Steps p.tables e below (T747.setTop (mkF m 34 #[.val (.long v0), .second, .val (.int v2), .val (.int x746), .val (.ref c747), .unset, .unset, .unset] [(.int (1 : Int32)), (.ref c747)])) t
        refine XS.lloadN X747.here hx rfl (hb hby at_34) rfl ?_
        show Steps p.tables e below (T747.setTop (mkF m 35 #[.val (.long v0), .second, .val (.int v2), .val (.int x746), .val (.ref c747), .unset, .unset, .unset] [(.long v0), (.int (1 : Int32)), (.ref c747)])) t
        refine XS.iconst X747.here hx rfl (hb hby at_35) ?_
        exact k
      obtain ⟨r754, hr754, hF⟩ := own_bd_e hF
      obtain ⟨_, _, ⟨T754, L754, k754, n754⟩, -, X754, ⟨Lc754, hQ754, l754, y754, z754⟩, st754⟩ := Jvm.LawKit.callS X747 hx (y := (⟨"com/example/oxpecker/oxpecker/sip/RawMessageIsPlainPinLaw", "pick", "(JI)B"⟩ : MethodName)) hown (mvT hZ (w2 hw)) (mvT hZ (w3 hw)) (mvT hZ (w4 hw)) (mvT hZ (w5 hw)) (by decide) (backOf (W := 2) (rm_RawMessageIsPlainPinLaw_pick l Z a0 hw [] h747 n0 z747 v0 (1 : Int32) r754 hr754) hZ (w5 hw) (w4 hw) (by decide) (by decide)) (g := (mkF m 36 #[.val (.long v0), .second, .val (.int v2), .val (.int x746), .val (.ref c747), .unset, .unset, .unset] [(.int (1 : Int32)), (.long v0), (.int (1 : Int32)), (.ref c747)])) rfl (by rw [hml]; rfl) (argsL := [(.long v0), (.int (1 : Int32))]) (rest := [(.int (1 : Int32)), (.ref c747)]) (lenOf pd_0 rfl) rfl (by show 2 * 0 + _ ≤ _; exact Nat.le_of_eq rfl) (hb hby at_36) (fun _ _ => ⟨rfl, e747, (by decide : 1 + 0 ≤ _), (by decide : 8 + 0 ≤ _)⟩)
      dsimp only [Pt.U, Pt.locs, Pt.cells, Pt.slots] at X754 l754 y754 z754 st754 hQ754
      subst l754 y754 z754
      obtain ⟨rfl, N754q, e754⟩ := hQ754
      have N754 := Fr.app N N754q
      refine own_Goes.via st754 ?_
      show own_Goes _ _ _ _ _ _ _ (T754.setTop (mkF m 39 #[.val (.long v0), .second, .val (.int v2), .val (.int x746), .val (.ref c747), .unset, .unset, .unset] [(.int r754), (.int (1 : Int32)), (.ref c747)]))
      obtain ⟨hi39, hF⟩ := own_ck_e hF
      obtain ⟨T755, h755, X755, e755, W755, A755_c747, st755⟩ := own_stB X754 hx hZ e754 A747_c747 hi39 (g := (mkF m 39 #[.val (.long v0), .second, .val (.int v2), .val (.int x746), .val (.ref c747), .unset, .unset, .unset] [(.int r754), (.int (1 : Int32)), (.ref c747)])) rfl rfl (hb hby at_39)
      refine own_Goes.via st755 ?_
      have z755 := Nat.le_trans z747 (Keep.of_wr W755).1
      have K755_ := K747_.wr W755 (Or.inr nE747_c747)
      have N755 := Fr.snoc X755 N754 g747_c747
      have A755_c747 : own_Ar Z h755 c747 .byte ((own_wr (List.replicate x746.toNatClampNeg (0 : Int32)) (1 : Int32) (r754.toInt8.toInt32)).map Value.int) := A755_c747
      show own_Goes _ _ _ _ _ _ _ (T755.setTop (mkF m 40 #[.val (.long v0), .second, .val (.int v2), .val (.int x746), .val (.ref c747), .unset, .unset, .unset] []))
      obtain ⟨bs756, hbs756, hF⟩ := own_lt_e hF
      rw [← hbs756] at A755_c747
      exact b_law_40 cx X755 e755 N755 K755_ z755 c747 v0 x746 bs756 (.val (.int v2)) (.unset) (.unset) (.unset) (One.val rfl) One.u One.u One.u A755_c747 g747_c747 nE747_c747 _ hF
    · rw [if_neg hc28] at hF
      refine own_Goes.via (B := T747.setTop (mkF m 40 #[.val (.long v0), .second, .val (.int v2), .val (.int x746), .val (.ref c747), .unset, .unset, .unset] [])) (fun t k => ?_) ?_
      · show Steps p.tables e below (T747.setTop (mkF m 28 #[.val (.long v0), .second, .val (.int v2), .val (.int x746), .val (.ref c747), .unset, .unset, .unset] [(.int (1 : Int32)), (.int x746)])) t
        refine XS.icmpYes X747.here hx rfl (pc0 := 28) (pc' := 40) rfl (hb hby at_28) rfl (flt hc28).2.2.2 (by decide) (by decide) ?_
        exact k
      exact b_law_40 cx X747 e747 N K747_ z747 c747 v0 x746 (List.replicate x746.toNatClampNeg (0 : Int32)) (.val (.int v2)) (.unset) (.unset) (.unset) (One.val rfl) One.u One.u One.u A747_c747 g747_c747 nE747_c747 _ hF
theorem ef_law (m : MethodId) (x0 : Int64) (x1 : Int32) : entryFrame m #[(.long x0), (.int x1)] maxLocals = mkF m 0 #[.val (.long x0), .second, .val (.int x1), .unset, .unset, .unset, .unset, .unset] [] := by first | (simp [entryFrame, mkF, argsToLocals, Value.category, maxLocals]; done) | rfl
set_option maxRecDepth 65536 in
set_option maxHeartbeats 4000000 in
theorem rm_law (l : Launch) (Z : State) (a0 : Array Value) (hw : ∀ d ∈ tables_1, d.before a0 Z = true) (ws : List Jvm.Cond) (hE : Heap) (n0 : Nat) (z : n0 ≤ hE.size)  (v0 : Int64) (v2 : Int32) (r : Int32) (hF : (f_law v0 v2) = some r) :
    MetFree l x (head1 (Jvm.Cond.code x code maxLocals ret :: ws) room_1) (fun a U => a = #[(.long v0), (.int v2)] ∧ Z.Warmed39 U.vm ∧ U.heap = hE) (fun _ _ _ _ _ => True) (fun _ U o U' => ∃ v L, o = .returned v ∧ (Q_law Z hE n0 r) v U'.heap L ∧ FrameEnd U o U' L 6 72) := by
  refine MetFree.of_bodySF (plainFor_of_name pn_com_example_oxpecker_oxpecker_sip_RawMessageIsPlainPinLaw) hisR ?_
  intro p e s m args below meth c s₁ Bd hml0 hP hK
  obtain ⟨rfl, hZ, hh⟩ := hP
  have X0 : Stand p l e room_1 s m #[(.long v0), (.int v2)] below meth c s₁ [] 0 0 := Stand.of_body Bd
  have e0 : s₁.heap = hE := by rw [← hh, Bd.state]; rfl
  have cx : Cx_law p s m meth c Z a0 := ⟨Bd.exec, hZ, hw, Bd.bytes, hml0, findClass_of_methodNamed Bd.named, Bd.returns, Bd.notSynchronized, (name_of_methodNamed Bd.named Bd.method).1⟩
  show own_Goes p e below s (Q_law Z hE n0 r) 6 72 (s₁.setTop (entryFrame m #[(.long v0), (.int v2)] maxLocals))
  rw [ef_law]
  exact b_law cx X0 e0 (Fr.nil n0) (Keep.refl _ _) z v0 v2 _ hF
/-! the words of the mirrors -/
theorem own_bs {α β : Type} (x : α) (f : α → Option β) : own_bd (some x) f = f x := by unfold own_bd; exact rfl
theorem own_ls {α β : Type} (x : α) (f : α → Option β) : own_lt x f = f x := by unfold own_lt; exact rfl
theorem own_bn {α : Type} (x : Option α) : own_bd x (fun y => some y) = x := by cases x <;> exact rfl
theorem own_ct {β : Type} {P : Prop} [Decidable P] (x : Option β) (h : P) : own_ck P x = x := by unfold own_ck; exact if_pos h
/-! numbers: ints and longs as integers -/
theorem own_i1 (x : Int32) : -2147483648 ≤ x.toInt := Int32.le_toInt x
theorem own_i2 (x : Int32) : x.toInt < 2147483648 := Int32.toInt_lt x
theorem own_j1 (x : Int64) : -9223372036854775808 ≤ x.toInt := Int64.le_toInt x
theorem own_j2 (x : Int64) : x.toInt < 9223372036854775808 := Int64.toInt_lt x
theorem own_iadd {a b : Int32} (h1 : -2147483648 ≤ a.toInt + b.toInt) (h2 : a.toInt + b.toInt < 2147483648) : (a + b).toInt = a.toInt + b.toInt := by
  rw [Int32.toInt_add]; exact Int.bmod_eq_of_le (by omega) (by omega)
theorem own_isub {a b : Int32} (h1 : -2147483648 ≤ a.toInt - b.toInt) (h2 : a.toInt - b.toInt < 2147483648) : (a - b).toInt = a.toInt - b.toInt := by
  rw [Int32.toInt_sub]; exact Int.bmod_eq_of_le (by omega) (by omega)
theorem own_imul {a b : Int32} (h1 : -2147483648 ≤ a.toInt * b.toInt) (h2 : a.toInt * b.toInt < 2147483648) : (a * b).toInt = a.toInt * b.toInt := by
  rw [Int32.toInt_mul]; exact Int.bmod_eq_of_le (by omega) (by omega)
theorem own_ladd {a b : Int64} (h1 : -9223372036854775808 ≤ a.toInt + b.toInt) (h2 : a.toInt + b.toInt < 9223372036854775808) : (a + b).toInt = a.toInt + b.toInt := by
  rw [Int64.toInt_add]; exact Int.bmod_eq_of_le (by omega) (by omega)
theorem own_lsub {a b : Int64} (h1 : -9223372036854775808 ≤ a.toInt - b.toInt) (h2 : a.toInt - b.toInt < 9223372036854775808) : (a - b).toInt = a.toInt - b.toInt := by
  rw [Int64.toInt_sub]; exact Int.bmod_eq_of_le (by omega) (by omega)
theorem own_lmul {a b : Int64} (h1 : -9223372036854775808 ≤ a.toInt * b.toInt) (h2 : a.toInt * b.toInt < 9223372036854775808) : (a * b).toInt = a.toInt * b.toInt := by
  rw [Int64.toInt_mul]; exact Int.bmod_eq_of_le (by omega) (by omega)
theorem own_imask {x m : Int32} (k : Nat) (hk : k ≤ 31) (hm : m.toBitVec.toNat = 2 ^ k - 1) : (x &&& m).toInt = x.toInt % 2 ^ k := by
  have h1 : (x &&& m).toBitVec.toNat = x.toBitVec.toNat % 2 ^ k := by rw [Int32.toBitVec_and, BitVec.toNat_and, hm, Nat.and_two_pow_sub_one_eq_mod]
  have h3 : x.toBitVec.toNat % 2 ^ k < 2 ^ k := Nat.mod_lt _ (Nat.pow_pos (by decide))
  have h4 : (2 : Nat) ^ k ≤ 2 ^ 31 := Nat.pow_le_pow_right (by decide) hk
  have h2 : (x &&& m).toInt = ((x.toBitVec.toNat % 2 ^ k : Nat) : Int) := by
    show (x &&& m).toBitVec.toInt = _
    rw [BitVec.toInt_eq_toNat_of_lt (by rw [h1]; omega), h1]
  rw [h2]
  have h5 : x.toInt = x.toBitVec.toInt := rfl
  have h6 : ((2 : Int) ^ k) ∣ 4294967296 := by
    have : (4294967296 : Int) = 2 ^ k * 2 ^ (32 - k) := by rw [← Int.pow_add, show k + (32 - k) = 32 by omega]; rfl
    exact ⟨_, this⟩
  rw [h5, BitVec.toInt_eq_toNat_cond]
  split
  · exact Int.natCast_emod _ _
  · rw [Int.natCast_emod, show (((2 ^ 32 : Nat) : Int)) = 4294967296 from rfl, Int.sub_emod, Int.emod_eq_zero_of_dvd h6]; simp
theorem own_lmask {x m : Int64} (k : Nat) (hk : k ≤ 63) (hm : m.toBitVec.toNat = 2 ^ k - 1) : (x &&& m).toInt = x.toInt % 2 ^ k := by
  have h1 : (x &&& m).toBitVec.toNat = x.toBitVec.toNat % 2 ^ k := by rw [Int64.toBitVec_and, BitVec.toNat_and, hm, Nat.and_two_pow_sub_one_eq_mod]
  have h3 : x.toBitVec.toNat % 2 ^ k < 2 ^ k := Nat.mod_lt _ (Nat.pow_pos (by decide))
  have h4 : (2 : Nat) ^ k ≤ 2 ^ 63 := Nat.pow_le_pow_right (by decide) hk
  have h2 : (x &&& m).toInt = ((x.toBitVec.toNat % 2 ^ k : Nat) : Int) := by
    show (x &&& m).toBitVec.toInt = _
    rw [BitVec.toInt_eq_toNat_of_lt (by rw [h1]; omega), h1]
  rw [h2]
  have h5 : x.toInt = x.toBitVec.toInt := rfl
  have h6 : ((2 : Int) ^ k) ∣ 18446744073709551616 := by
    have : (18446744073709551616 : Int) = 2 ^ k * 2 ^ (64 - k) := by rw [← Int.pow_add, show k + (64 - k) = 64 by omega]; rfl
    exact ⟨_, this⟩
  rw [h5, BitVec.toInt_eq_toNat_cond]
  split
  · exact Int.natCast_emod _ _
  · rw [Int.natCast_emod, show (((2 ^ 64 : Nat) : Int)) = 18446744073709551616 from rfl, Int.sub_emod, Int.emod_eq_zero_of_dvd h6]; simp
theorem own_bm32 (x : Int) : x.bmod 4294967296 = (x + 2147483648) % 4294967296 - 2147483648 := by
  unfold Int.bmod; dsimp only; split <;> omega
theorem own_bm64 (x : Int) : x.bmod 18446744073709551616 = (x + 9223372036854775808) % 18446744073709551616 - 9223372036854775808 := by
  unfold Int.bmod; dsimp only; split <;> omega
theorem own_bm8 (x : Int) : x.bmod 256 = (x + 128) % 256 - 128 := by
  unfold Int.bmod; dsimp only; split <;> omega
theorem own_bm16 (x : Int) : x.bmod 65536 = (x + 32768) % 65536 - 32768 := by
  unfold Int.bmod; dsimp only; split <;> omega
theorem own_b8 (x : Int32) : x.toInt8.toInt32.toInt = (x.toInt + 128) % 256 - 128 := by rw [Int8.toInt_toInt32, Int32.toInt_toInt8]; exact own_bm8 _
theorem own_s16 (x : Int32) : x.toInt16.toInt32.toInt = (x.toInt + 32768) % 65536 - 32768 := by rw [Int16.toInt_toInt32, Int32.toInt_toInt16]; exact own_bm16 _
theorem own_l2i (x : Int64) : x.toInt32.toInt = (x.toInt + 2147483648) % 4294967296 - 2147483648 := by rw [Int64.toInt_toInt32]; exact own_bm32 _
theorem own_i2l (x : Int32) : x.toInt64.toInt = x.toInt := Int32.toInt_toInt64 x
theorem own_idiv {a b : Int32} (h1 : 0 ≤ a.toInt) (h2 : 0 < b.toInt) : (a / b).toInt = a.toInt / b.toInt := by
  rw [Int32.toInt_div_of_ne_right a b (fun q => by rw [q] at h2; exact absurd h2 (by decide)), Int.tdiv_eq_ediv_of_nonneg h1]
theorem own_ldiv {a b : Int64} (h1 : 0 ≤ a.toInt) (h2 : 0 < b.toInt) : (a / b).toInt = a.toInt / b.toInt := by
  rw [Int64.toInt_div_of_ne_right a b (fun q => by rw [q] at h2; exact absurd h2 (by decide)), Int.tdiv_eq_ediv_of_nonneg h1]
theorem own_imod {a b : Int32} (h1 : 0 ≤ a.toInt) : (a % b).toInt = a.toInt % b.toInt := by rw [Int32.toInt_mod, Int.tmod_eq_emod_of_nonneg h1]
theorem own_lmod {a b : Int64} (h1 : 0 ≤ a.toInt) : (a % b).toInt = a.toInt % b.toInt := by rw [Int64.toInt_mod, Int.tmod_eq_emod_of_nonneg h1]
theorem own_uI (x : Int32) : (x.toUInt32.toNat : Int) = x.toInt % 4294967296 := by
  have h : x.toInt = x.toBitVec.toInt := rfl
  have q : x.toUInt32.toNat = x.toBitVec.toNat := rfl
  have b := x.toBitVec.isLt
  rw [h, q, BitVec.toInt_eq_toNat_cond]
  split <;> omega
theorem own_uJ (x : Int64) : (x.toUInt64.toNat : Int) = x.toInt % 18446744073709551616 := by
  have h : x.toInt = x.toBitVec.toInt := rfl
  have q : x.toUInt64.toNat = x.toBitVec.toNat := rfl
  have b := x.toBitVec.isLt
  rw [h, q, BitVec.toInt_eq_toNat_cond]
  split <;> omega
theorem own_ofU (u : UInt32) (h : u.toNat < 2147483648) : u.toInt32.toInt = u.toNat := by
  show u.toBitVec.toInt = _
  exact BitVec.toInt_eq_toNat_of_lt (by show 2 * u.toNat < 2 ^ 32; omega)
theorem own_ofUJ (u : UInt64) (h : u.toNat < 9223372036854775808) : u.toInt64.toInt = u.toNat := by
  show u.toBitVec.toInt = _
  exact BitVec.toInt_eq_toNat_of_lt (by show 2 * u.toNat < 2 ^ 64; omega)
/-- Java's >>> on ints by a constant from 1 to 31 -/
theorem own_iushr (x s : Int32) (n : Nat) (h0 : 1 ≤ n) (hn : n < 32) (hs : (s &&& 31).toUInt32.toNat = n) : ((x.toUInt32 >>> (s &&& 31).toUInt32).toInt32).toInt = (x.toInt % 4294967296) / (2 ^ n : Nat) := by
  have e : (x.toUInt32 >>> (s &&& 31).toUInt32).toNat = x.toUInt32.toNat / 2 ^ n := by rw [UInt32.toNat_shiftRight, hs, Nat.mod_eq_of_lt hn, Nat.shiftRight_eq_div_pow]
  have b : x.toUInt32.toNat < 4294967296 := x.toUInt32.toNat_lt
  have c : x.toUInt32.toNat / 2 ^ n ≤ x.toUInt32.toNat / 2 ^ 1 := Nat.div_le_div_left (Nat.pow_le_pow_right (by decide) h0) (by decide)
  rw [own_ofU _ (by rw [e]; omega), e, Int.natCast_ediv, own_uI]
theorem own_lushr (x : Int64) (s : Int32) (n : Nat) (h0 : 1 ≤ n) (hn : n < 64) (hs : (s &&& 0x3f).toInt64.toUInt64.toNat = n) : ((x.toUInt64 >>> (s &&& 0x3f).toInt64.toUInt64).toInt64).toInt = (x.toInt % 18446744073709551616) / (2 ^ n : Nat) := by
  have e : (x.toUInt64 >>> (s &&& 0x3f).toInt64.toUInt64).toNat = x.toUInt64.toNat / 2 ^ n := by rw [UInt64.toNat_shiftRight, hs, Nat.mod_eq_of_lt hn, Nat.shiftRight_eq_div_pow]
  have b : x.toUInt64.toNat < 18446744073709551616 := x.toUInt64.toNat_lt
  have c : x.toUInt64.toNat / 2 ^ n ≤ x.toUInt64.toNat / 2 ^ 1 := Nat.div_le_div_left (Nat.pow_le_pow_right (by decide) h0) (by decide)
  rw [own_ofUJ _ (by rw [e]; omega), e, Int.natCast_ediv, own_uJ]
theorem own_ishl {x s : Int32} (n : Nat) (hs : (s.toBitVec.smod 32).toNat = n) (h0 : 0 ≤ x.toInt) (h1 : x.toInt * (2 ^ n : Nat) < 2147483648) : (x <<< s).toInt = x.toInt * (2 ^ n : Nat) := by
  have h : x.toInt = x.toBitVec.toInt := rfl
  have hx : x.toInt = x.toBitVec.toNat := by
    have b := x.toBitVec.isLt
    rw [h, BitVec.toInt_eq_toNat_cond]; rw [h, BitVec.toInt_eq_toNat_cond] at h0
    split at h0 <;> rename_i q
    · rw [if_pos q]
    · omega
  have e : (x <<< s).toBitVec.toNat = x.toBitVec.toNat * 2 ^ n := by
    rw [Int32.toBitVec_shiftLeft, BitVec.shiftLeft_eq', hs, BitVec.toNat_shiftLeft, Nat.shiftLeft_eq]
    apply Nat.mod_eq_of_lt
    rw [hx] at h1
    omega
  show (x <<< s).toBitVec.toInt = _
  rw [BitVec.toInt_eq_toNat_of_lt (by rw [e]; rw [hx] at h1; omega), e, hx]
  simp
theorem own_lshl {x s : Int64} (n : Nat) (hs : (s.toBitVec.smod 64).toNat = n) (h0 : 0 ≤ x.toInt) (h1 : x.toInt * (2 ^ n : Nat) < 9223372036854775808) : (x <<< s).toInt = x.toInt * (2 ^ n : Nat) := by
  have h : x.toInt = x.toBitVec.toInt := rfl
  have hx : x.toInt = x.toBitVec.toNat := by
    have b := x.toBitVec.isLt
    rw [h, BitVec.toInt_eq_toNat_cond]; rw [h, BitVec.toInt_eq_toNat_cond] at h0
    split at h0 <;> rename_i q
    · rw [if_pos q]
    · omega
  have e : (x <<< s).toBitVec.toNat = x.toBitVec.toNat * 2 ^ n := by
    rw [Int64.toBitVec_shiftLeft, BitVec.shiftLeft_eq', hs, BitVec.toNat_shiftLeft, Nat.shiftLeft_eq]
    apply Nat.mod_eq_of_lt
    rw [hx] at h1
    omega
  show (x <<< s).toBitVec.toInt = _
  rw [BitVec.toInt_eq_toNat_of_lt (by rw [e]; rw [hx] at h1; omega), e, hx]
  simp
theorem own_ishr (x s : Int32) (n : Nat) (hs : (s.toBitVec.smod 32).toNat = n) : (x >>> s).toInt = x.toInt / (2 ^ n : Nat) := by
  show (x >>> s).toBitVec.toInt = _
  rw [Int32.toBitVec_shiftRight, BitVec.sshiftRight', hs, BitVec.toInt_sshiftRight, Int.shiftRight_eq_div_pow]
  rfl
theorem own_lshr (x s : Int64) (n : Nat) (hs : (s.toBitVec.smod 64).toNat = n) : (x >>> s).toInt = x.toInt / (2 ^ n : Nat) := by
  show (x >>> s).toBitVec.toInt = _
  rw [Int64.toBitVec_shiftRight, BitVec.sshiftRight', hs, BitVec.toInt_sshiftRight, Int.shiftRight_eq_div_pow]
  rfl
theorem own_natbit (x k : Nat) : x &&& 2 ^ k = 0 ↔ x / 2 ^ k % 2 = 0 := by
  constructor
  · intro h
    have q : (x &&& 2 ^ k).testBit k = false := by rw [h]; exact Nat.zero_testBit k
    rw [Nat.testBit_and, Nat.testBit_two_pow_self, Bool.and_true, Nat.testBit_eq_decide_div_mod_eq] at q
    have q := of_decide_eq_false q
    omega
  · intro h
    apply Nat.eq_of_testBit_eq
    intro i
    rw [Nat.testBit_and, Nat.zero_testBit, Nat.testBit_two_pow]
    by_cases e : k = i
    · subst e
      rw [Nat.testBit_eq_decide_div_mod_eq, h]; rfl
    · simp [e]
/-- one bit of an int -/
theorem own_ibit (x m : Int32) (k : Nat) (hm : m.toBitVec.toNat = 2 ^ k) : (x &&& m = 0) ↔ x.toInt % 4294967296 / (2 ^ k : Nat) % 2 = 0 := by
  have u : (x.toBitVec.toNat : Int) = x.toInt % 4294967296 := own_uI x
  have z : (0 : Int32).toBitVec.toNat = 0 := rfl
  rw [← u, ← Int.natCast_ediv, ← Int32.toBitVec_inj, ← BitVec.toNat_inj, Int32.toBitVec_and, BitVec.toNat_and, hm, z, own_natbit]
  omega
theorem own_k0 : (0 : Int32).toNatClampNeg = 0 := by decide
theorem own_k1 : (1 : Int32).toNatClampNeg = 1 := by decide
theorem own_k2 : (2 : Int32).toNatClampNeg = 2 := by decide
theorem own_k3 : (3 : Int32).toNatClampNeg = 3 := by decide
theorem own_k4 : (4 : Int32).toNatClampNeg = 4 := by decide
theorem own_k5 : (5 : Int32).toNatClampNeg = 5 := by decide
theorem own_k6 : (6 : Int32).toNatClampNeg = 6 := by decide
theorem own_k7 : (7 : Int32).toNatClampNeg = 7 := by decide
/-- a byte, and what a property of the 256 of them says -/
theorem own_byte {P : Int32 → Prop} (h : ∀ n : Nat, n < 256 → P (Int32.ofNat n)) (x : Int32) (h1 : 0 ≤ x.toInt) (h2 : x.toInt < 256) : P x := by
  have e : x = Int32.ofNat x.toInt.toNat := by
    apply Int32.toInt_inj.mp
    rw [Int32.toInt_ofNat_of_lt (by omega)]; omega
  rw [e]; exact h _ (by omega)
theorem own_192 (x : Int32) (h1 : 0 ≤ x.toInt) (h2 : x.toInt < 256) : (x &&& 192).toInt = x.toInt / 64 * 64 :=
  own_byte (P := fun x => (x &&& 192).toInt = x.toInt / 64 * 64) (by decide +kernel) x h1 h2
/-- the or of two numbers that share no bit -/
theorem own_ior {x y : Int32} (k : Nat) (q : Int) (hq : 0 ≤ q) (hx : x.toInt = (2 ^ k : Nat) * q) (hy : 0 ≤ y.toInt) (hy2 : y.toInt < (2 ^ k : Nat)) : (x ||| y).toInt = x.toInt + y.toInt := by
  have x0 : 0 ≤ x.toInt := by rw [hx]; exact Int.mul_nonneg (Int.natCast_nonneg _) hq
  have ux := own_uI x
  have uy := own_uI y
  have x2 := own_i2 x
  have y2 := own_i2 y
  have nx : x.toUInt32.toNat = 2 ^ k * q.toNat := by
    have : ((2 ^ k * q.toNat : Nat) : Int) = (2 ^ k : Nat) * q := by rw [Int.natCast_mul, Int.toNat_of_nonneg hq]
    omega
  have e : (x ||| y).toBitVec.toNat = x.toUInt32.toNat + y.toUInt32.toNat := by
    rw [Int32.toBitVec_or, BitVec.toNat_or]
    show x.toUInt32.toNat ||| y.toUInt32.toNat = _
    rw [nx]
    exact (Nat.two_pow_add_eq_or_of_lt (by omega) _).symm
  have lt : x.toInt + y.toInt < 2147483648 := by
    by_cases k31 : k ≤ 31
    · have d : (2 ^ 31 : Nat) = 2 ^ k * 2 ^ (31 - k) := by rw [← Nat.pow_add]; congr 1; omega
      have z1 : q.toNat < 2 ^ (31 - k) := by
        apply Nat.lt_of_mul_lt_mul_left (a := 2 ^ k)
        rw [← d, ← nx]; omega
      have z2 : 2 ^ k * (q.toNat + 1) ≤ 2 ^ k * 2 ^ (31 - k) := Nat.mul_le_mul_left _ z1
      rw [← d, Nat.mul_add, ← nx] at z2
      omega
    · have z0 : q = 0 := by
        have z1 : (2 ^ 32 : Nat) ≤ 2 ^ k := Nat.pow_le_pow_right (by decide) (by omega)
        by_cases q0 : q = 0
        · exact q0
        · have z3 : (2 ^ k : Nat) * 1 ≤ ((2 ^ k : Nat) : Int) * q := Int.mul_le_mul_of_nonneg_left (by omega) (Int.natCast_nonneg _)
          omega
      rw [hx, z0]; omega
  show (x ||| y).toBitVec.toInt = _
  rw [BitVec.toInt_eq_toNat_of_lt (by rw [e]; omega), e]
  omega
/-! arrays as lists: a place read behind a write -/
theorem own_nn {i : Int32} (h : 0 ≤ i.toInt) : (i.toNatClampNeg : Int) = i.toInt := by rw [Int32.toNatClampNeg]; omega
theorem own_ib {α : Type} {bs : List α} {i : Int32} (h1 : 0 ≤ i.toInt) (h2 : i.toInt < bs.length) : own_inb bs i := by
  refine ⟨?_, ?_⟩
  · rw [Int32.lt_iff_toInt_lt]; simp only [Int32.reduceToInt]; omega
  · have := own_nn h1; omega
theorem own_ibe {α : Type} {bs : List α} {i : Int32} (h : own_inb bs i) : 0 ≤ i.toInt ∧ i.toInt < bs.length := by
  have h1 := h.1
  rw [Int32.lt_iff_toInt_lt] at h1
  simp only [Int32.reduceToInt] at h1
  have := own_nn (i := i) (by omega)
  have := h.2
  omega
theorem own_wrl {α : Type} (bs : List α) (j : Int32) (v : α) : (own_wr bs j v).length = bs.length := by rw [own_wr, List.length_set]
theorem own_rw {α : Type} [OfNat α 0] {bs : List α} {i j : Int32} (v : α) (hi : 0 ≤ i.toInt) (hj : own_inb bs j) : own_rd (own_wr bs j v) i = if i = j then v else own_rd bs i := by
  have h := own_ibe hj
  rw [own_rd, own_rd, own_wr]
  have ni := own_nn hi
  have nj := own_nn h.1
  by_cases e : i = j
  · subst e
    rw [if_pos rfl, List.getD_eq_getElem?_getD, List.getElem?_set_self (by omega)]; rfl
  · have e' : i.toInt ≠ j.toInt := fun z => e (Int32.toInt_inj.mp z)
    rw [if_neg e, List.getD_eq_getElem?_getD, List.getElem?_set_ne (by omega), List.getD_eq_getElem?_getD]
theorem own_rw1 {α : Type} [OfNat α 0] {bs : List α} {j : Int32} (v : α) (hj : own_inb bs j) : own_rd (own_wr bs j v) j = v := by rw [own_rw v (own_ibe hj).1 hj, if_pos rfl]
theorem own_rw2 {α : Type} [OfNat α 0] {bs : List α} {i j : Int32} (v : α) (hi : 0 ≤ i.toInt) (hj : own_inb bs j) (h : i.toInt ≠ j.toInt) : own_rd (own_wr bs j v) i = own_rd bs i := by
  rw [own_rw v hi hj, if_neg fun z => h (by rw [z])]
theorem own_rrep {α : Type} [OfNat α 0] (n : Nat) (v : α) {i : Int32} (h : i.toNatClampNeg < n) : own_rd (List.replicate n v) i = v := by
  rw [own_rd, List.getD_eq_getElem?_getD, List.getElem?_replicate, if_pos h]; rfl
theorem own_n8i (x : Int32) : x.toInt8.toInt32.toInt8.toInt32 = x.toInt8.toInt32 := by
  rw [← Int32.toInt_inj, own_b8, own_b8]; omega
theorem own_iadd1 (a : Int32) (k : Int32) (h1 : -2147483648 ≤ a.toInt + k.toInt) (h2 : a.toInt + k.toInt < 2147483648) : (a + k).toInt = a.toInt + k.toInt := own_iadd h1 h2
/-! small naturals as ints -/
theorem own_sn (i : Nat) (h : i < 1000) : (Int32.ofNat i).toInt = i := Int32.toInt_ofNat_of_lt (by omega)
theorem own_sc (i : Nat) (h : i < 1000) : (Int32.ofNat i).toNatClampNeg = i := by
  have := own_sn i h
  rw [Int32.toNatClampNeg, this]; omega
theorem own_slt {i n : Nat} (hi : i < 1000) (hn : n < 1000) : (Int32.ofNat i < Int32.ofNat n) ↔ i < n := by
  rw [Int32.lt_iff_toInt_lt, own_sn i hi, own_sn n hn]; omega
theorem own_seq {i n : Nat} (hi : i < 1000) (hn : n < 1000) : (Int32.ofNat i = Int32.ofNat n) ↔ i = n := by
  rw [← Int32.toInt_inj, own_sn i hi, own_sn n hn]; omega
theorem own_inc (i : Nat) : Int32.ofNat i + 1 = Int32.ofNat (i + 1) := (Int32.ofNat_add i 1).symm
theorem own_szn {α : Type} (bs : List α) : own_sz bs = Int32.ofNat bs.length := rfl
theorem own_sin {α : Type} {bs : List α} {i : Nat} (hi : i < 1000) (h : i < bs.length) : own_inb bs (Int32.ofNat i) := by
  refine ⟨?_, by rw [own_sc i hi]; exact h⟩
  rw [Int32.lt_iff_toInt_lt, own_sn i hi]; simp only [Int32.reduceToInt]; omega
theorem own_srd (bs : List Int32) {i : Nat} (hi : i < 1000) : own_rd bs (Int32.ofNat i) = bs.getD i 0 := by rw [own_rd, own_sc i hi]
theorem own_swr (bs : List Int32) {i : Nat} (hi : i < 1000) (v : Int32) : own_wr bs (Int32.ofNat i) v = bs.set i v := by rw [own_wr, own_sc i hi]
/-! indexOf -/
theorem own_idx (c : Int32) (bs : List Int32) (p q : Int32) (hb : bs.length < 900) : ∀ (d i fuel : Nat), i + d = bs.length → d < fuel →
    (f_RawMessage_indexOf_2 fuel c (Int32.ofNat i) p q bs = some (-1) ∧ ∀ j, i ≤ j → j < bs.length → bs.getD j 0 ≠ c) ∨
    (∃ k, i ≤ k ∧ k < bs.length ∧ f_RawMessage_indexOf_2 fuel c (Int32.ofNat i) p q bs = some (Int32.ofNat k) ∧ bs.getD k 0 = c ∧ ∀ j, i ≤ j → j < k → bs.getD j 0 ≠ c) := by
  intro d
  induction d with
  | zero =>
    intro i fuel h1 h2
    obtain ⟨f, rfl⟩ : ∃ f, fuel = f + 1 := ⟨fuel - 1, by omega⟩
    left
    rw [f_RawMessage_indexOf_2, own_szn, if_neg (by rw [own_slt (by omega) (by omega)]; omega)]
    exact ⟨rfl, fun j q1 q2 => by omega⟩
  | succ d ih =>
    intro i fuel h1 h2
    obtain ⟨f, rfl⟩ : ∃ f, fuel = f + 1 := ⟨fuel - 1, by omega⟩
    rw [f_RawMessage_indexOf_2, own_szn, if_pos (by rw [own_slt (by omega) (by omega)]; omega), own_ct _ (own_sin (by omega) (by omega)), own_srd _ (by omega), own_ls, own_inc]
    by_cases e : bs.getD i 0 = c
    · right
      rw [if_pos e]
      exact ⟨i, by omega, by omega, rfl, e, fun j q1 q2 => by omega⟩
    · rw [if_neg e]
      rcases ih (i + 1) f (by omega) (by omega) with ⟨a, b⟩ | ⟨k, k1, k2, a, b, g⟩
      · left
        refine ⟨a, fun j q1 q2 => ?_⟩
        by_cases z : j = i
        · rw [z]; exact e
        · exact b j (by omega) q2
      · right
        refine ⟨k, by omega, k2, a, b, fun j q1 q2 => ?_⟩
        by_cases z : j = i
        · rw [z]; exact e
        · exact g j (by omega) q2
theorem own_idx0 (c : Int32) (bs : List Int32) (p q : Int32) (i : Nat) (hb : bs.length < 90) (hi : i ≤ bs.length) :
    (f_RawMessage_indexOf c (Int32.ofNat i) p q bs = some (-1) ∧ ∀ j, i ≤ j → j < bs.length → bs.getD j 0 ≠ c) ∨
    (∃ k, i ≤ k ∧ k < bs.length ∧ f_RawMessage_indexOf c (Int32.ofNat i) p q bs = some (Int32.ofNat k) ∧ bs.getD k 0 = c ∧ ∀ j, i ≤ j → j < k → bs.getD j 0 ≠ c) :=
  own_idx c bs p q (by omega) (bs.length - i) i 100 (by omega) (by omega)
theorem own_ix2 (c : Int32) (bs x y z : List Int32) (p q : Int32) : ∀ (n : Nat) (i : Int32), f_RawMessage_indexOf_i2_2 n c i p q bs x y z = f_RawMessage_indexOf_2 n c i p q bs := by
  intro n
  induction n with
  | zero => intro i; rfl
  | succ n ih => intro i; rw [f_RawMessage_indexOf_i2_2, f_RawMessage_indexOf_2]; simp only [ih]
theorem own_ix20 (c i : Int32) (bs x y z : List Int32) (p q : Int32) : f_RawMessage_indexOf_i2 c i p q bs x y z = f_RawMessage_indexOf c i p q bs := by
  unfold f_RawMessage_indexOf_i2 f_RawMessage_indexOf
  exact own_ix2 c bs x y z p q 100 i
/-! the constructor's inner loop: the line's first word -/
theorem own_word (k34 : Int32 → Int32 → Int32 → Int32 → Int32 → List Int32 → List Int32 → List Int32 → List Int32 → Option (Int32 × Int32 × List Int32 × List Int32 × List Int32))
    (cnt body line u v : Int32) (e : Nat) (bs b1 b2 b3 : List Int32) (he : e ≤ bs.length) (hb : bs.length < 90) : ∀ (d w fuel : Nat), w + d = e → d < fuel →
    ∃ w', w ≤ w' ∧ w' ≤ e ∧ f_RawMessage_mk_148 k34 fuel cnt body line (Int32.ofNat e) (Int32.ofNat w) u v bs b1 b2 b3 = f_RawMessage_mk_188 k34 cnt body line (Int32.ofNat e) (Int32.ofNat w') u v bs b1 b2 b3 := by
  intro d
  induction d with
  | zero =>
    intro w fuel h1 h2
    obtain ⟨f, rfl⟩ : ∃ f, fuel = f + 1 := ⟨fuel - 1, by omega⟩
    refine ⟨w, Nat.le_refl _, by omega, ?_⟩
    rw [f_RawMessage_mk_148, if_neg (by rw [own_slt (by omega) (by omega)]; omega)]
  | succ d ih =>
    intro w fuel h1 h2
    obtain ⟨f, rfl⟩ : ∃ f, fuel = f + 1 := ⟨fuel - 1, by omega⟩
    have ib : own_inb bs (Int32.ofNat w) := own_sin (by omega) (by omega)
    rw [f_RawMessage_mk_148, if_pos (by rw [own_slt (by omega) (by omega)]; omega), own_ct _ ib, own_ct _ ib, own_ct _ ib, own_ls, own_inc]
    obtain ⟨w', q1, q2, q3⟩ := ih (w + 1) f (by omega) (by omega)
    split
    · exact ⟨w, Nat.le_refl _, by omega, rfl⟩
    · split
      · exact ⟨w, Nat.le_refl _, by omega, rfl⟩
      · split
        · exact ⟨w, Nat.le_refl _, by omega, rfl⟩
        · exact ⟨w', by omega, q2, q3⟩
/-! the message's lines -/
def own_bl (x : Int32) : Prop := x = 32 ∨ x = 9
def own_ctl (x : Int32) : Prop := (¬ x < 0 ∧ x < 32 ∧ x ≠ 9) ∨ x = 127
instance (x : Int32) : Decidable (own_bl x) := by unfold own_bl; exact inferInstance
instance (x : Int32) : Decidable (own_ctl x) := by unfold own_ctl; exact inferInstance
def own_L (bs : List Int32) (fd : Prop) : Nat → List (Nat × Nat) → Prop
  | line, [] => (fd ∧ ∃ e, line ≤ e ∧ e < bs.length ∧ bs.getD e 0 = 10 ∧ (e = line ∨ (e = line + 1 ∧ bs.getD line 0 = 13))) ∨ (¬ fd ∧ ∀ j, line ≤ j → j < bs.length → bs.getD j 0 ≠ 10)
  | line, p :: t => p.1 = line ∧ p.1 < p.2 ∧ p.2 ≤ bs.length ∧ (∀ j, p.1 ≤ j → j < p.2 → bs.getD j 0 ≠ 10) ∧ ¬ (p.2 = p.1 + 1 ∧ bs.getD p.1 0 = 13) ∧ (p.2 < bs.length → bs.getD p.2 0 = 10) ∧ own_L bs fd (p.2 + 1) t
def own_ok (bs : List Int32) (nf : Prop) (s e : Nat) : Prop :=
  (∀ j, s ≤ j → j < e → own_ctl (bs.getD j 0) → bs.getD j 0 = 13 ∧ j + 1 = e) ∧ (nf → ¬ own_bl (bs.getD s 0) ∧ ∃ j, s ≤ j ∧ j < e ∧ bs.getD j 0 = 58)
def own_okL (bs : List Int32) : Nat → List (Nat × Nat) → Prop
  | _, [] => True
  | k, p :: t => own_ok bs (0 < k) p.1 p.2 ∧ own_okL bs (k + 1) t
theorem own_szl (bs : List Int32) (n : Nat) (h : bs.length = n) : own_sz bs = Int32.ofNat n := by rw [own_szn, h]
theorem own_gset {bs : List Int32} {i j : Nat} {v : Int32} (hj : j < bs.length) : (bs.set j v).getD i 0 = if i = j then v else bs.getD i 0 := by
  simp only [List.getD_eq_getElem?_getD]
  by_cases e : i = j
  · subst e; rw [if_pos rfl, List.getElem?_set_self hj]; rfl
  · rw [if_neg e, List.getElem?_set_ne (fun z => e z.symm)]
/-- the arrays hold the lines from a place on -/
def own_arr (b1 b2 : List Int32) : Nat → List (Nat × Nat) → Prop
  | _, [] => True
  | k, p :: t => b1.getD k 0 = Int32.ofNat p.1 ∧ b2.getD k 0 = Int32.ofNat p.2 ∧ own_arr b1 b2 (k + 1) t
def own_res (bs : List Int32) (cnt line : Nat) (b1 b2 : List Int32) (x : Option (Int32 × Int32 × List Int32 × List Int32 × List Int32)) : Prop :=
  ∃ (ls : List (Nat × Nat)) (fd : Prop) (r : Int32 × Int32 × List Int32 × List Int32 × List Int32), x = some r ∧ own_L bs fd line ls ∧ ((fd ∧ ¬ r.1 < 0) ∨ (¬ fd ∧ r.1 = -1)) ∧ r.2.1 = Int32.ofNat (cnt + ls.length) ∧ cnt + ls.length ≤ bs.length + 1 ∧ r.2.2.1.length = 16 ∧ r.2.2.2.1.length = 16 ∧
      (∀ i, i < cnt → r.2.2.2.1.getD i 0 = b1.getD i 0 ∧ r.2.2.1.getD i 0 = b2.getD i 0) ∧ own_arr r.2.2.2.1 r.2.2.1 cnt ls
theorem own_fin (bs : List Int32) (cnt line : Nat) (u v x : Int32) (b1 b2 b3 : List Int32) (fd : Prop) (hc : cnt ≤ bs.length + 1) (l1 : b1.length = 16) (l2 : b2.length = 16) (a : own_L bs fd line []) (b : (fd ∧ ¬ x < 0) ∨ (¬ fd ∧ x = -1)) : own_res bs cnt line b1 b2 (f_RawMessage_mk_222 (Int32.ofNat cnt) x u v bs b1 b2 b3) := by
  refine ⟨[], fd, (x, Int32.ofNat cnt, b2, b1, b3), ?_, a, b, ?_, ?_, l2, l1, ?_, ?_⟩
  · unfold f_RawMessage_mk_222; exact rfl
  · exact rfl
  · exact hc
  · exact fun i _ => ⟨rfl, rfl⟩
  · exact trivial
theorem own_make (bs : List Int32) (hb : bs.length < 14) (u v : Int32) : ∀ (fuel cnt line : Nat) (b1 b2 b3 : List Int32), cnt ≤ line → line ≤ bs.length + 1 → bs.length + 2 ≤ fuel + line → b1.length = 16 → b2.length = 16 → b3.length = 16 →
    own_res bs cnt line b1 b2 (f_RawMessage_mk_34 fuel (Int32.ofNat cnt) (-1) (Int32.ofNat line) u v bs b1 b2 b3) := by
  intro fuel
  induction fuel with
  | zero => intro cnt line b1 b2 b3 h1 h2 h3; omega
  | succ f ih =>
    intro cnt line b1 b2 b3 h1 h2 h3 l1 l2 l3
    rw [f_RawMessage_mk_34, own_szn]
    by_cases c : line < bs.length
    · rw [if_pos (by rw [own_slt (by omega) (by omega)]; exact c)]
      have more : ∀ e : Nat, line < e → e ≤ bs.length → (∀ j, line ≤ j → j < e → bs.getD j 0 ≠ 10) → ¬ (e = line + 1 ∧ bs.getD line 0 = 13) → (e < bs.length → bs.getD e 0 = 10) →
          own_res bs cnt line b1 b2 (f_RawMessage_mk_108 (f_RawMessage_mk_34 f) (Int32.ofNat cnt) (-1) (Int32.ofNat line) (Int32.ofNat e) u v bs b1 b2 b3) := by
        intro e q1 q2 q3 q4 q5
        unfold f_RawMessage_mk_108
        rw [own_szl b1 16 l1, if_neg (by rw [own_seq (by omega) (by omega)]; omega)]
        obtain ⟨w', g1, g2, g3⟩ := own_word (f_RawMessage_mk_34 f) (Int32.ofNat cnt) (-1) (Int32.ofNat line) u v e bs b1 b2 b3 q2 (by omega) (e - line) line 100 (by omega) (by omega)
        rw [g3]
        unfold f_RawMessage_mk_188
        rw [own_ct _ (own_sin (by omega) (by omega)), own_ls, own_ct _ (own_sin (by omega) (by omega)), own_ls, own_ls, own_ct _ (own_sin (by omega) (by omega)), own_ls, own_ls, own_ls, own_inc, own_inc, own_swr _ (by omega), own_swr _ (by omega), own_swr _ (by omega)]
        obtain ⟨ls, fd, r, r1, r2, r3, r4, r4', r5, r6, r7, r8⟩ := ih (cnt + 1) (e + 1) (b1.set cnt (Int32.ofNat line)) (b2.set cnt (Int32.ofNat e)) (b3.set cnt (Int32.ofNat w' - Int32.ofNat line)) (by omega) (by omega) (by omega) (by rw [List.length_set, l1]) (by rw [List.length_set, l2]) (by rw [List.length_set, l3])
        refine ⟨(line, e) :: ls, fd, r, r1, ⟨rfl, q1, q2, q3, q4, q5, r2⟩, r3, ?_, ?_, r5, r6, ?_, ?_⟩
        · rw [r4, List.length_cons, show cnt + 1 + ls.length = cnt + (ls.length + 1) by omega]
        · simp only [List.length_cons]; omega
        · intro i hi
          have z := r7 i (by omega)
          rw [z.1, z.2, own_gset (by omega), if_neg (by omega), own_gset (by omega), if_neg (by omega)]
          exact ⟨rfl, rfl⟩
        · have z := r7 cnt (by omega)
          rw [own_gset (by omega), if_pos rfl, own_gset (by omega), if_pos rfl] at z
          exact ⟨z.1, z.2, r8⟩
      have fin : ∀ (x : Int32) (fd : Prop), own_L bs fd line [] → ((fd ∧ ¬ x < 0) ∨ (¬ fd ∧ x = -1)) → own_res bs cnt line b1 b2 (f_RawMessage_mk_222 (Int32.ofNat cnt) x u v bs b1 b2 b3) :=
        fun x fd a b => own_fin bs cnt line u v x b1 b2 b3 fd (by omega) l1 l2 a b
      have inc : ∀ k : Nat, k < 900 → ¬ Int32.ofNat (k + 1) < 0 := fun k hk => by rw [Int32.lt_iff_toInt_lt, own_sn _ (by omega)]; simp only [Int32.reduceToInt]; omega
      rcases own_idx0 10 bs u v line (by omega) (by omega) with ⟨a, no⟩ | ⟨k, k1, k2, a, at_, no⟩
      · rw [a, own_bs, if_pos (by decide)]
        unfold f_RawMessage_mk_63
        rw [if_neg (by rw [own_seq (by omega) (by omega)]; omega), own_inc]
        have em : own_L bs False line [] := Or.inr ⟨fun z => z, no⟩
        by_cases e1 : bs.length = line + 1
        · rw [if_pos (by rw [own_seq (by omega) (by omega)]; exact e1), own_ct _ (own_sin (by omega) c), own_srd _ (by omega)]
          by_cases e2 : bs.getD line 0 = 13
          · rw [if_pos e2, if_pos (by decide)]; exact fin _ False em (Or.inr ⟨fun z => z, rfl⟩)
          · rw [if_neg e2]; exact more bs.length c (by omega) no (fun z => e2 z.2) (fun z => by omega)
        · rw [if_neg (by rw [own_seq (by omega) (by omega)]; exact e1)]
          exact more bs.length c (by omega) no (fun z => e1 z.1) (fun z => by omega)
      · have nk : ¬ Int32.ofNat k < 0 := by rw [Int32.lt_iff_toInt_lt, own_sn k (by omega)]; simp only [Int32.reduceToInt]; omega
        rw [a, own_bs, if_neg nk]
        unfold f_RawMessage_mk_63
        rw [if_neg nk, own_ls, own_inc, own_inc]
        by_cases e0 : k = line
        · rw [if_pos (by rw [own_seq (by omega) (by omega)]; exact e0)]
          exact fin _ True (Or.inl ⟨trivial, k, k1, k2, at_, Or.inl e0⟩) (Or.inl ⟨trivial, inc k (by omega)⟩)
        · rw [if_neg (by rw [own_seq (by omega) (by omega)]; exact e0)]
          by_cases e1 : k = line + 1
          · rw [if_pos (by rw [own_seq (by omega) (by omega)]; exact e1), own_ct _ (own_sin (by omega) c), own_srd _ (by omega)]
            by_cases e2 : bs.getD line 0 = 13
            · rw [if_pos e2]; exact fin _ True (Or.inl ⟨trivial, k, k1, k2, at_, Or.inr ⟨e1, e2⟩⟩) (Or.inl ⟨trivial, inc k (by omega)⟩)
            · rw [if_neg e2]; exact more k (by omega) (by omega) no (fun z => e2 z.2) (fun _ => at_)
          · rw [if_neg (by rw [own_seq (by omega) (by omega)]; exact e1)]
            exact more k (by omega) (by omega) no (fun z => e1 z.1) (fun _ => at_)
    · rw [if_neg (by rw [own_slt (by omega) (by omega)]; exact c)]
      exact own_fin bs cnt line u v (-1) b1 b2 b3 False (by omega) l1 l2 (Or.inr ⟨fun z => z, fun j q1 q2 => by omega⟩) (Or.inr ⟨fun z => z, rfl⟩)
/-! isPlain -/
theorem own_scan (k11 : Int32 → Int32 → Int32 → List Int32 → List Int32 → List Int32 → List Int32 → Option Int32) (bs x y z : List Int32) (p q v1 : Int32) (e : Nat) (he : e ≤ bs.length) (hb : bs.length < 90) : ∀ (d j fuel : Nat), j + d = e → d < fuel →
    ((∀ i, j ≤ i → i < e → ¬ own_ctl (bs.getD i 0)) ∧ f_RawMessage_isPlain_113 k11 fuel v1 (Int32.ofNat e) (Int32.ofNat j) p q bs x y z = k11 (v1 + 1) p q bs x y z) ∨
    ((∃ i, j ≤ i ∧ i < e ∧ own_ctl (bs.getD i 0)) ∧ f_RawMessage_isPlain_113 k11 fuel v1 (Int32.ofNat e) (Int32.ofNat j) p q bs x y z = some 0) := by
  intro d
  induction d with
  | zero =>
    intro j fuel h1 h2
    obtain ⟨f, rfl⟩ : ∃ f, fuel = f + 1 := ⟨fuel - 1, by omega⟩
    left
    refine ⟨fun i q1 q2 => by omega, ?_⟩
    rw [f_RawMessage_isPlain_113, if_neg (by rw [own_slt (by omega) (by omega)]; omega), own_ls]
  | succ d ih =>
    intro j fuel h1 h2
    obtain ⟨f, rfl⟩ : ∃ f, fuel = f + 1 := ⟨fuel - 1, by omega⟩
    have ib : own_inb bs (Int32.ofNat j) := own_sin (by omega) (by omega)
    rw [f_RawMessage_isPlain_113, if_pos (by rw [own_slt (by omega) (by omega)]; omega)]
    simp only [own_ct _ ib, own_ls, own_inc, own_srd bs (show j < 1000 by omega)]
    have r := ih (j + 1) f (by omega) (by omega)
    have pass : ¬ own_ctl (bs.getD j 0) → ((∀ i, j ≤ i → i < e → ¬ own_ctl (bs.getD i 0)) ∧ f_RawMessage_isPlain_113 k11 f v1 (Int32.ofNat e) (Int32.ofNat (j + 1)) p q bs x y z = k11 (v1 + 1) p q bs x y z) ∨
    ((∃ i, j ≤ i ∧ i < e ∧ own_ctl (bs.getD i 0)) ∧ f_RawMessage_isPlain_113 k11 f v1 (Int32.ofNat e) (Int32.ofNat (j + 1)) p q bs x y z = some 0) := by
      intro n
      rcases r with ⟨a, b⟩ | ⟨⟨i, i1, i2, i3⟩, b⟩
      · left
        refine ⟨fun i q1 q2 => ?_, b⟩
        by_cases z : i = j
        · rw [z]; exact n
        · exact a i (by omega) q2
      · right
        exact ⟨⟨i, by omega, i2, i3⟩, b⟩
    have stop : own_ctl (bs.getD j 0) → ∃ i, j ≤ i ∧ i < e ∧ own_ctl (bs.getD i 0) := fun n => ⟨j, Nat.le_refl _, by omega, n⟩
    clear r ih
    generalize bs.getD j 0 = b at *
    by_cases c1 : b < 32
    · rw [if_pos c1]
      by_cases c2 : b = 9
      · rw [if_pos c2, if_neg (by rw [c2]; decide)]
        exact pass (by rw [c2]; decide)
      · rw [if_neg c2]
        by_cases c3 : b < 0
        · have n127 : ¬ b = 127 := fun z => by rw [z] at c3; exact absurd c3 (by decide)
          rw [if_pos c3, if_neg n127]
          exact pass (fun z => z.elim (fun w => w.1 c3) n127)
        · rw [if_neg c3]
          exact Or.inr ⟨stop (Or.inl ⟨c3, c1, c2⟩), rfl⟩
    · rw [if_neg c1]
      by_cases c4 : b = 127
      · rw [if_pos c4]; exact Or.inr ⟨stop (Or.inr c4), rfl⟩
      · rw [if_neg c4]; exact pass (fun z => z.elim (fun w => c1 w.2.1) c4)
/-- one line -/
theorem own_line (k11 : Int32 → Int32 → Int32 → List Int32 → List Int32 → List Int32 → List Int32 → Option Int32) (bs x y z : List Int32) (p q : Int32) (k s e e' : Nat) (hk : k < 900) (hs : s < e) (he : e ≤ bs.length) (hb : bs.length < 90) (h1 : bs.getD (e - 1) 0 = 13 → e' = e - 1) (h2 : bs.getD (e - 1) 0 ≠ 13 → e' = e) (hm : ¬ (e = s + 1 ∧ bs.getD s 0 = 13)) :
    (own_ok bs (0 < k) s e ∧ f_RawMessage_isPlain_61 k11 (Int32.ofNat k) (Int32.ofNat s) (Int32.ofNat e') p q bs x y z = k11 (Int32.ofNat (k + 1)) p q bs x y z) ∨
    (¬ own_ok bs (0 < k) s e ∧ f_RawMessage_isPlain_61 k11 (Int32.ofNat k) (Int32.ofNat s) (Int32.ofNat e') p q bs x y z = some 0) := by
  have eq : e' = e ∨ e' = e - 1 := by
    by_cases c : bs.getD (e - 1) 0 = 13
    · exact Or.inr (h1 c)
    · exact Or.inl (h2 c)
  have ctl : (∀ i, s ≤ i → i < e' → ¬ own_ctl (bs.getD i 0)) ↔ (∀ j, s ≤ j → j < e → own_ctl (bs.getD j 0) → bs.getD j 0 = 13 ∧ j + 1 = e) := by
    by_cases c : bs.getD (e - 1) 0 = 13
    · have := h1 c
      constructor
      · intro g j q1 q2 q3
        by_cases z : j = e - 1
        · rw [z]; exact ⟨c, by omega⟩
        · exact absurd q3 (g j q1 (by omega))
      · intro g j q1 q2 q3
        have := (g j q1 (by omega) q3).2
        omega
    · have := h2 c
      constructor
      · intro g j q1 q2 q3; exact absurd q3 (g j q1 (by omega))
      · intro g j q1 q2 q3
        have w := g j q1 (by omega) q3
        have : j = e - 1 := by omega
        rw [this] at w
        exact c w.1
  have fin : ((∀ i, s ≤ i → i < e' → ¬ own_ctl (bs.getD i 0)) ∧ f_RawMessage_isPlain_113 k11 100 (Int32.ofNat k) (Int32.ofNat e') (Int32.ofNat s) p q bs x y z = k11 (Int32.ofNat (k + 1)) p q bs x y z) ∨
    (¬ (∀ i, s ≤ i → i < e' → ¬ own_ctl (bs.getD i 0)) ∧ f_RawMessage_isPlain_113 k11 100 (Int32.ofNat k) (Int32.ofNat e') (Int32.ofNat s) p q bs x y z = some 0) := by
    rcases own_scan k11 bs x y z p q (Int32.ofNat k) e' (by omega) hb (e' - s) s 100 (by omega) (by omega) with ⟨a, b⟩ | ⟨⟨i, i1, i2, i3⟩, b⟩
    · left; rw [own_inc] at b; exact ⟨a, b⟩
    · right; exact ⟨fun g => g i i1 i2 i3, b⟩
  have ib : own_inb bs (Int32.ofNat s) := own_sin (by omega) (by omega)
  unfold f_RawMessage_isPlain_61
  rw [own_ix20]
  have ix : ∃ r : Int32, f_RawMessage_indexOf 58 (Int32.ofNat s) p q bs = some r ∧ ((¬ r < 0 ∧ r < Int32.ofNat e') ↔ ∃ j, s ≤ j ∧ j < e ∧ bs.getD j 0 = 58) := by
    rcases own_idx0 58 bs p q s hb (by omega) with ⟨a, no⟩ | ⟨w, w1, w2, a, w3, no⟩
    · refine ⟨_, a, ⟨fun g => absurd (show (-1 : Int32) < 0 by decide) g.1, fun ⟨j, j1, j2, j3⟩ => absurd j3 (no j j1 (by omega))⟩⟩
    · refine ⟨_, a, ?_⟩
      have nk : ¬ Int32.ofNat w < 0 := by rw [Int32.lt_iff_toInt_lt, own_sn w (by omega)]; simp only [Int32.reduceToInt]; omega
      rw [own_slt (by omega) (by omega)]
      constructor
      · intro g; exact ⟨w, w1, by omega, w3⟩
      · intro ⟨j, j1, j2, j3⟩
        refine ⟨nk, ?_⟩
        have wj : w ≤ j := by
          apply Classical.byContradiction
          intro g
          exact no j j1 (by omega) j3
        by_cases c : bs.getD (e - 1) 0 = 13
        · have := h1 c
          have : w ≠ e - 1 := fun g => by rw [g, c] at w3; exact absurd w3 (by decide)
          omega
        · have := h2 c
          omega
  obtain ⟨r, r1, r2⟩ := ix
  rw [r1, own_bs]
  by_cases kp : 0 < k
  · rw [if_pos (show (0 : Int32) < Int32.ofNat k by rw [show (0 : Int32) = Int32.ofNat 0 from rfl, own_slt (by omega) (by omega)]; exact kp), own_ct _ ib, own_ct _ ib, own_srd _ (by omega)]
    by_cases c1 : bs.getD s 0 = 32
    · rw [if_pos c1]; exact Or.inr ⟨fun g => (g.2 kp).1 (Or.inl c1), rfl⟩
    · rw [if_neg c1]
      by_cases c2 : bs.getD s 0 = 9
      · rw [if_pos c2]; exact Or.inr ⟨fun g => (g.2 kp).1 (Or.inr c2), rfl⟩
      · rw [if_neg c2]
        by_cases c3 : r < 0
        · rw [if_pos c3]; exact Or.inr ⟨fun g => (r2.mpr (g.2 kp).2).1 c3, rfl⟩
        · rw [if_neg c3]
          by_cases c4 : r < Int32.ofNat e'
          · rw [if_pos c4]
            rcases fin with ⟨a, b⟩ | ⟨a, b⟩
            · exact Or.inl ⟨⟨ctl.mp a, fun _ => ⟨fun g => g.elim c1 c2, r2.mp ⟨c3, c4⟩⟩⟩, b⟩
            · exact Or.inr ⟨fun g => a (ctl.mpr g.1), b⟩
          · rw [if_neg c4]; exact Or.inr ⟨fun g => c4 (r2.mpr (g.2 kp).2).2, rfl⟩
  · rw [if_neg (show ¬ (0 : Int32) < Int32.ofNat k by rw [show (0 : Int32) = Int32.ofNat 0 from rfl, own_slt (by omega) (by omega)]; exact kp)]
    rcases fin with ⟨a, b⟩ | ⟨a, b⟩
    · exact Or.inl ⟨⟨ctl.mp a, fun g => absurd g kp⟩, b⟩
    · exact Or.inr ⟨fun g => a (ctl.mpr g.1), b⟩
theorem own_sdec (i : Nat) (h : 0 < i) (h2 : i < 1000) : Int32.ofNat i - 1 = Int32.ofNat (i - 1) := by
  rw [← Int32.toInt_inj, own_isub, own_sn i h2, own_sn (i - 1) (by omega)]
  all_goals (try rw [own_sn i h2])
  all_goals (try simp only [Int32.reduceToInt])
  all_goals omega
theorem own_lines (bs x y z : List Int32) (p : Int32) (n : Nat) (hn : n < 17) (hb : bs.length < 14) (fd : Prop) (lx : x.length = 16) (ly : y.length = 16) : ∀ (ls : List (Nat × Nat)) (k line fuel : Nat), own_L bs fd line ls → own_arr y x k ls → k + ls.length = n → n ≤ 16 → ls.length < fuel →
    (own_okL bs k ls ∧ f_RawMessage_isPlain_11 fuel (Int32.ofNat k) p (Int32.ofNat n) bs x y z = some 1) ∨ (¬ own_okL bs k ls ∧ f_RawMessage_isPlain_11 fuel (Int32.ofNat k) p (Int32.ofNat n) bs x y z = some 0) := by
  intro ls
  induction ls with
  | nil =>
    intro k line fuel h1 h2 h3 h4 h5
    obtain ⟨f, rfl⟩ : ∃ f, fuel = f + 1 := ⟨fuel - 1, by omega⟩
    left
    refine ⟨trivial, ?_⟩
    simp only [List.length_nil] at h3
    rw [f_RawMessage_isPlain_11, if_neg (by rw [own_slt (by omega) (by omega)]; omega)]
  | cons a t ih =>
    intro k line fuel h1 h2 h3 h4 h5
    obtain ⟨f, rfl⟩ : ∃ f, fuel = f + 1 := ⟨fuel - 1, by omega⟩
    simp only [List.length_cons] at h3 h5
    obtain ⟨g1, g2, g3, g4, g5, g6, g7⟩ := h1
    obtain ⟨q1, q2, q3⟩ := h2
    have rest := ih (k + 1) (a.2 + 1) f g7 q3 (by omega) h4 (by omega)
    have fin : ∀ e', (bs.getD (a.2 - 1) 0 = 13 → e' = a.2 - 1) → (bs.getD (a.2 - 1) 0 ≠ 13 → e' = a.2) → (own_okL bs k (a :: t) ∧ f_RawMessage_isPlain_61 (f_RawMessage_isPlain_11 f) (Int32.ofNat k) (Int32.ofNat a.1) (Int32.ofNat e') p (Int32.ofNat n) bs x y z = some 1) ∨ (¬ own_okL bs k (a :: t) ∧ f_RawMessage_isPlain_61 (f_RawMessage_isPlain_11 f) (Int32.ofNat k) (Int32.ofNat a.1) (Int32.ofNat e') p (Int32.ofNat n) bs x y z = some 0) := by
      intro e' z1 z2
      rcases own_line (f_RawMessage_isPlain_11 f) bs x y z p (Int32.ofNat n) k a.1 a.2 e' (by omega) g2 g3 (by omega) z1 z2 g5 with ⟨w1, w2⟩ | ⟨w1, w2⟩
      · rw [w2]
        rcases rest with ⟨w3, w4⟩ | ⟨w3, w4⟩
        · exact Or.inl ⟨⟨w1, w3⟩, w4⟩
        · exact Or.inr ⟨fun g => w3 g.2, w4⟩
      · exact Or.inr ⟨fun g => w1 g.1, w2⟩
    have ix : own_inb x (Int32.ofNat k) := own_sin (by omega) (by omega)
    have iy : own_inb y (Int32.ofNat k) := own_sin (by omega) (by omega)
    rw [f_RawMessage_isPlain_11, if_pos (by rw [own_slt (by omega) (by omega)]; omega), own_ct _ iy, own_ls, own_ct _ ix, own_ls, own_srd _ (by omega), own_srd _ (by omega), q1, q2, own_sdec a.2 (by omega) (by omega), own_ct _ (own_sin (by omega) (by omega)), own_ct _ ix, own_ct _ ix, own_srd _ (by omega)]
    by_cases c : bs.getD (a.2 - 1) 0 = 13
    · rw [if_pos c]; exact fin _ (fun _ => rfl) (fun g => absurd c g)
    · rw [if_neg c]; exact fin _ (fun g => absurd g c) (fun _ => rfl)
/-! a list of ten -/
theorem own_ck0 {a0 a1 a2 a3 a4 a5 a6 a7 a8 a9 : Int32} {β : Type} {q : Decidable (own_inb [a0, a1, a2, a3, a4, a5, a6, a7, a8, a9] (0 : Int32))} (x : Option β) : @own_ck β _ q x = x := @own_ct β _ q x ⟨by decide, (by decide : (0 : Int32).toNatClampNeg < 10)⟩
theorem own_rd0 {a0 a1 a2 a3 a4 a5 a6 a7 a8 a9 : Int32} : own_rd [a0, a1, a2, a3, a4, a5, a6, a7, a8, a9] (0 : Int32) = a0 := rfl
theorem own_wr0 {a0 a1 a2 a3 a4 a5 a6 a7 a8 a9 : Int32} (x : Int32) : own_wr [a0, a1, a2, a3, a4, a5, a6, a7, a8, a9] (0 : Int32) x = [x, a1, a2, a3, a4, a5, a6, a7, a8, a9] := rfl
theorem own_ck1 {a0 a1 a2 a3 a4 a5 a6 a7 a8 a9 : Int32} {β : Type} {q : Decidable (own_inb [a0, a1, a2, a3, a4, a5, a6, a7, a8, a9] (1 : Int32))} (x : Option β) : @own_ck β _ q x = x := @own_ct β _ q x ⟨by decide, (by decide : (1 : Int32).toNatClampNeg < 10)⟩
theorem own_rd1 {a0 a1 a2 a3 a4 a5 a6 a7 a8 a9 : Int32} : own_rd [a0, a1, a2, a3, a4, a5, a6, a7, a8, a9] (1 : Int32) = a1 := rfl
theorem own_wr1 {a0 a1 a2 a3 a4 a5 a6 a7 a8 a9 : Int32} (x : Int32) : own_wr [a0, a1, a2, a3, a4, a5, a6, a7, a8, a9] (1 : Int32) x = [a0, x, a2, a3, a4, a5, a6, a7, a8, a9] := rfl
theorem own_ck2 {a0 a1 a2 a3 a4 a5 a6 a7 a8 a9 : Int32} {β : Type} {q : Decidable (own_inb [a0, a1, a2, a3, a4, a5, a6, a7, a8, a9] (2 : Int32))} (x : Option β) : @own_ck β _ q x = x := @own_ct β _ q x ⟨by decide, (by decide : (2 : Int32).toNatClampNeg < 10)⟩
theorem own_rd2 {a0 a1 a2 a3 a4 a5 a6 a7 a8 a9 : Int32} : own_rd [a0, a1, a2, a3, a4, a5, a6, a7, a8, a9] (2 : Int32) = a2 := rfl
theorem own_wr2 {a0 a1 a2 a3 a4 a5 a6 a7 a8 a9 : Int32} (x : Int32) : own_wr [a0, a1, a2, a3, a4, a5, a6, a7, a8, a9] (2 : Int32) x = [a0, a1, x, a3, a4, a5, a6, a7, a8, a9] := rfl
theorem own_ck3 {a0 a1 a2 a3 a4 a5 a6 a7 a8 a9 : Int32} {β : Type} {q : Decidable (own_inb [a0, a1, a2, a3, a4, a5, a6, a7, a8, a9] (3 : Int32))} (x : Option β) : @own_ck β _ q x = x := @own_ct β _ q x ⟨by decide, (by decide : (3 : Int32).toNatClampNeg < 10)⟩
theorem own_rd3 {a0 a1 a2 a3 a4 a5 a6 a7 a8 a9 : Int32} : own_rd [a0, a1, a2, a3, a4, a5, a6, a7, a8, a9] (3 : Int32) = a3 := rfl
theorem own_wr3 {a0 a1 a2 a3 a4 a5 a6 a7 a8 a9 : Int32} (x : Int32) : own_wr [a0, a1, a2, a3, a4, a5, a6, a7, a8, a9] (3 : Int32) x = [a0, a1, a2, x, a4, a5, a6, a7, a8, a9] := rfl
theorem own_ck4 {a0 a1 a2 a3 a4 a5 a6 a7 a8 a9 : Int32} {β : Type} {q : Decidable (own_inb [a0, a1, a2, a3, a4, a5, a6, a7, a8, a9] (4 : Int32))} (x : Option β) : @own_ck β _ q x = x := @own_ct β _ q x ⟨by decide, (by decide : (4 : Int32).toNatClampNeg < 10)⟩
theorem own_rd4 {a0 a1 a2 a3 a4 a5 a6 a7 a8 a9 : Int32} : own_rd [a0, a1, a2, a3, a4, a5, a6, a7, a8, a9] (4 : Int32) = a4 := rfl
theorem own_wr4 {a0 a1 a2 a3 a4 a5 a6 a7 a8 a9 : Int32} (x : Int32) : own_wr [a0, a1, a2, a3, a4, a5, a6, a7, a8, a9] (4 : Int32) x = [a0, a1, a2, a3, x, a5, a6, a7, a8, a9] := rfl
theorem own_ck5 {a0 a1 a2 a3 a4 a5 a6 a7 a8 a9 : Int32} {β : Type} {q : Decidable (own_inb [a0, a1, a2, a3, a4, a5, a6, a7, a8, a9] (5 : Int32))} (x : Option β) : @own_ck β _ q x = x := @own_ct β _ q x ⟨by decide, (by decide : (5 : Int32).toNatClampNeg < 10)⟩
theorem own_rd5 {a0 a1 a2 a3 a4 a5 a6 a7 a8 a9 : Int32} : own_rd [a0, a1, a2, a3, a4, a5, a6, a7, a8, a9] (5 : Int32) = a5 := rfl
theorem own_wr5 {a0 a1 a2 a3 a4 a5 a6 a7 a8 a9 : Int32} (x : Int32) : own_wr [a0, a1, a2, a3, a4, a5, a6, a7, a8, a9] (5 : Int32) x = [a0, a1, a2, a3, a4, x, a6, a7, a8, a9] := rfl
theorem own_ck6 {a0 a1 a2 a3 a4 a5 a6 a7 a8 a9 : Int32} {β : Type} {q : Decidable (own_inb [a0, a1, a2, a3, a4, a5, a6, a7, a8, a9] (6 : Int32))} (x : Option β) : @own_ck β _ q x = x := @own_ct β _ q x ⟨by decide, (by decide : (6 : Int32).toNatClampNeg < 10)⟩
theorem own_rd6 {a0 a1 a2 a3 a4 a5 a6 a7 a8 a9 : Int32} : own_rd [a0, a1, a2, a3, a4, a5, a6, a7, a8, a9] (6 : Int32) = a6 := rfl
theorem own_wr6 {a0 a1 a2 a3 a4 a5 a6 a7 a8 a9 : Int32} (x : Int32) : own_wr [a0, a1, a2, a3, a4, a5, a6, a7, a8, a9] (6 : Int32) x = [a0, a1, a2, a3, a4, a5, x, a7, a8, a9] := rfl
theorem own_ck7 {a0 a1 a2 a3 a4 a5 a6 a7 a8 a9 : Int32} {β : Type} {q : Decidable (own_inb [a0, a1, a2, a3, a4, a5, a6, a7, a8, a9] (7 : Int32))} (x : Option β) : @own_ck β _ q x = x := @own_ct β _ q x ⟨by decide, (by decide : (7 : Int32).toNatClampNeg < 10)⟩
theorem own_rd7 {a0 a1 a2 a3 a4 a5 a6 a7 a8 a9 : Int32} : own_rd [a0, a1, a2, a3, a4, a5, a6, a7, a8, a9] (7 : Int32) = a7 := rfl
theorem own_wr7 {a0 a1 a2 a3 a4 a5 a6 a7 a8 a9 : Int32} (x : Int32) : own_wr [a0, a1, a2, a3, a4, a5, a6, a7, a8, a9] (7 : Int32) x = [a0, a1, a2, a3, a4, a5, a6, x, a8, a9] := rfl
theorem own_ck8 {a0 a1 a2 a3 a4 a5 a6 a7 a8 a9 : Int32} {β : Type} {q : Decidable (own_inb [a0, a1, a2, a3, a4, a5, a6, a7, a8, a9] (8 : Int32))} (x : Option β) : @own_ck β _ q x = x := @own_ct β _ q x ⟨by decide, (by decide : (8 : Int32).toNatClampNeg < 10)⟩
theorem own_rd8 {a0 a1 a2 a3 a4 a5 a6 a7 a8 a9 : Int32} : own_rd [a0, a1, a2, a3, a4, a5, a6, a7, a8, a9] (8 : Int32) = a8 := rfl
theorem own_wr8 {a0 a1 a2 a3 a4 a5 a6 a7 a8 a9 : Int32} (x : Int32) : own_wr [a0, a1, a2, a3, a4, a5, a6, a7, a8, a9] (8 : Int32) x = [a0, a1, a2, a3, a4, a5, a6, a7, x, a9] := rfl
theorem own_ck9 {a0 a1 a2 a3 a4 a5 a6 a7 a8 a9 : Int32} {β : Type} {q : Decidable (own_inb [a0, a1, a2, a3, a4, a5, a6, a7, a8, a9] (9 : Int32))} (x : Option β) : @own_ck β _ q x = x := @own_ct β _ q x ⟨by decide, (by decide : (9 : Int32).toNatClampNeg < 10)⟩
theorem own_rd9 {a0 a1 a2 a3 a4 a5 a6 a7 a8 a9 : Int32} : own_rd [a0, a1, a2, a3, a4, a5, a6, a7, a8, a9] (9 : Int32) = a9 := rfl
theorem own_wr9 {a0 a1 a2 a3 a4 a5 a6 a7 a8 a9 : Int32} (x : Int32) : own_wr [a0, a1, a2, a3, a4, a5, a6, a7, a8, a9] (9 : Int32) x = [a0, a1, a2, a3, a4, a5, a6, a7, a8, x] := rfl
/-! the automaton's steps -/
theorem own_stD (v : Int32) (p ok nf c fc fb co lc bd : Int32) : f_RawMessageIsPlainPinLaw_step v [1, p, ok, nf, c, fc, fb, co, lc, bd] = some [1, p, ok, nf, c, fc, fb, co, lc, bd] := by
  unfold f_RawMessageIsPlainPinLaw_step
  simp only [own_ck0, own_rd0, own_wr0, own_ck1, own_rd1, own_wr1, own_ck2, own_rd2, own_wr2, own_ck3, own_rd3, own_wr3, own_ck4, own_rd4, own_wr4, own_ck5, own_rd5, own_wr5, own_ck6, own_rd6, own_wr6, own_ck7, own_rd7, own_wr7, own_ck8, own_rd8, own_wr8, own_ck9, own_rd9, own_wr9, own_ls, if_true]
theorem own_stE (p ok nf c fc fb co lc bd : Int32) (h : c = 0 ∨ (c = 1 ∧ fc = 1)) : f_RawMessageIsPlainPinLaw_step 10 [0, p, ok, nf, c, fc, fb, co, lc, bd] = some [1, ok, ok, nf, c, fc, fb, co, lc, bd] := by
  unfold f_RawMessageIsPlainPinLaw_step
  simp only [own_ck0, own_rd0, own_wr0, own_ck1, own_rd1, own_wr1, own_ck2, own_rd2, own_wr2, own_ck3, own_rd3, own_wr3, own_ck4, own_rd4, own_wr4, own_ck5, own_rd5, own_wr5, own_ck6, own_rd6, own_wr6, own_ck7, own_rd7, own_wr7, own_ck8, own_rd8, own_wr8, own_ck9, own_rd9, own_wr9, own_ls]
  rw [if_neg (by decide), if_pos trivial]
  rcases h with h | ⟨h1, h2⟩
  · rw [if_pos h]; try exact rfl
  · rw [if_neg (by rw [h1]; decide), if_pos h1, if_pos h2]; try exact rfl
theorem own_stL (p ok nf c fc fb co lc bd : Int32) (h : ¬ c = 0) (h' : ¬ (c = 1 ∧ fc = 1)) : f_RawMessageIsPlainPinLaw_step 10 [0, p, ok, nf, c, fc, fb, co, lc, bd] = some [0, p, (if bd = 1 ∨ (nf = 1 ∧ (fb = 1 ∨ co = 0)) then 0 else ok), 1, 0, 0, 0, 0, 0, 0] := by
  have z : f_RawMessageIsPlainPinLaw_step_45 [0, p, ok, nf, c, fc, fb, co, lc, bd] = some [0, p, (if bd = 1 ∨ (nf = 1 ∧ (fb = 1 ∨ co = 0)) then 0 else ok), 1, 0, 0, 0, 0, 0, 0] := by
    unfold f_RawMessageIsPlainPinLaw_step_45 f_RawMessageIsPlainPinLaw_step_89
    simp only [own_ck0, own_rd0, own_wr0, own_ck1, own_rd1, own_wr1, own_ck2, own_rd2, own_wr2, own_ck3, own_rd3, own_wr3, own_ck4, own_rd4, own_wr4, own_ck5, own_rd5, own_wr5, own_ck6, own_rd6, own_wr6, own_ck7, own_rd7, own_wr7, own_ck8, own_rd8, own_wr8, own_ck9, own_rd9, own_wr9, own_ls]
    by_cases c1 : bd = 1
    · rw [if_pos c1, if_pos (Or.inl c1)]; try exact rfl
    · rw [if_neg c1]
      by_cases c2 : nf = 1
      · rw [if_pos c2]
        by_cases c3 : fb = 1
        · rw [if_pos c3, if_pos (Or.inr ⟨c2, Or.inl c3⟩)]; try exact rfl
        · rw [if_neg c3]
          by_cases c4 : co = 0
          · rw [if_pos c4, if_pos (Or.inr ⟨c2, Or.inr c4⟩)]; try exact rfl
          · rw [if_neg c4, if_neg (fun g => g.elim c1 (fun g => g.2.elim c3 c4))]; try exact rfl
      · rw [if_neg c2, if_neg (fun g => g.elim c1 (fun g => c2 g.1))]; try exact rfl
  unfold f_RawMessageIsPlainPinLaw_step
  simp only [own_ck0, own_rd0, own_wr0, own_ck1, own_rd1, own_wr1, own_ck2, own_rd2, own_wr2, own_ck3, own_rd3, own_wr3, own_ck4, own_rd4, own_wr4, own_ck5, own_rd5, own_wr5, own_ck6, own_rd6, own_wr6, own_ck7, own_rd7, own_wr7, own_ck8, own_rd8, own_wr8, own_ck9, own_rd9, own_wr9, own_ls]
  rw [if_neg (by decide), if_pos trivial, if_neg h]
  by_cases c1 : c = 1
  · rw [if_pos c1, if_neg (fun g => h' ⟨c1, g⟩), z]; try exact rfl
  · rw [if_neg c1, z]; try exact rfl
theorem own_st192 (v : Int32) (p ok nf c fc fb co lc bd : Int32) : f_RawMessageIsPlainPinLaw_step_192 v [0, p, ok, nf, c, fc, fb, co, lc, bd] = some [0, p, ok, nf, c + 1, (if c = 0 then (if v = 13 then 1 else 0) else fc), (if c = 0 then (if own_bl v then 1 else 0) else fb), co, lc, bd] := by
  unfold f_RawMessageIsPlainPinLaw_step_192 f_RawMessageIsPlainPinLaw_step_211
  simp only [own_ck0, own_rd0, own_wr0, own_ck1, own_rd1, own_wr1, own_ck2, own_rd2, own_wr2, own_ck3, own_rd3, own_wr3, own_ck4, own_rd4, own_wr4, own_ck5, own_rd5, own_wr5, own_ck6, own_rd6, own_wr6, own_ck7, own_rd7, own_wr7, own_ck8, own_rd8, own_wr8, own_ck9, own_rd9, own_wr9, own_ls]
  by_cases c0 : c = 0
  · rw [if_pos c0, if_pos c0, if_pos c0]
    by_cases c1 : v = 32
    · rw [if_pos c1, if_pos c1, if_pos (show own_bl v from Or.inl c1)]
      by_cases c3 : v = 13
      · rw [if_pos c3, if_pos c3]; try exact rfl
      · rw [if_neg c3, if_neg c3]; try exact rfl
    · rw [if_neg c1, if_neg c1]
      by_cases c2 : v = 9
      · rw [if_pos c2, if_pos c2, if_pos (show own_bl v from Or.inr c2)]
        by_cases c3 : v = 13
        · rw [if_pos c3, if_pos c3]; try exact rfl
        · rw [if_neg c3, if_neg c3]; try exact rfl
      · rw [if_neg c2, if_neg c2, if_neg (show ¬ own_bl v from fun g => g.elim c1 c2)]
        by_cases c3 : v = 13
        · rw [if_pos c3, if_pos c3]; try exact rfl
        · rw [if_neg c3, if_neg c3]; try exact rfl
  · rw [if_neg c0, if_neg c0, if_neg c0]; try exact rfl
theorem own_st135 (v : Int32) (p ok nf c fc fb co lc bd : Int32) : f_RawMessageIsPlainPinLaw_step_135 v [0, p, ok, nf, c, fc, fb, co, lc, bd] = some [0, p, ok, nf, c + 1, (if c = 0 then (if v = 13 then 1 else 0) else fc), (if c = 0 then (if own_bl v then 1 else 0) else fb), (if v = 58 then 1 else co), (if v = 13 then 1 else 0), (if own_ctl v ∧ v ≠ 13 then 1 else bd)] := by
  unfold f_RawMessageIsPlainPinLaw_step_135 f_RawMessageIsPlainPinLaw_step_170
  simp only [own_ck0, own_rd0, own_wr0, own_ck1, own_rd1, own_wr1, own_ck2, own_rd2, own_wr2, own_ck3, own_rd3, own_wr3, own_ck4, own_rd4, own_wr4, own_ck5, own_rd5, own_wr5, own_ck6, own_rd6, own_wr6, own_ck7, own_rd7, own_wr7, own_ck8, own_rd8, own_wr8, own_ck9, own_rd9, own_wr9, own_ls, own_st192]
  by_cases c1 : v = 13
  · subst c1
    rw [if_pos rfl, if_neg (by decide)]
    rw [if_neg (show ¬ (own_ctl 13 ∧ (13 : Int32) ≠ 13) from fun g => g.2 rfl), if_neg (show ¬ (13 : Int32) = 58 by decide)]
    rfl
  · simp only [if_neg c1]
    by_cases c2 : v = 58
    · subst c2
      rw [if_neg (show ¬ (own_ctl 58 ∧ (58 : Int32) ≠ 13) by decide)]
      exact rfl
    · simp only [if_neg c2]
      by_cases c3 : v = 127
      · subst c3
        rw [if_pos (show (own_ctl 127 ∧ (127 : Int32) ≠ 13) by decide)]
        exact rfl
      · simp only [if_neg c3]
        by_cases c4 : v < 0
        · rw [if_pos c4, if_neg (show ¬ (own_ctl v ∧ v ≠ 13) from fun g => g.1.elim (fun w => w.1 c4) c3)]; try exact rfl
        · rw [if_neg c4]
          by_cases c5 : v < 32
          · rw [if_pos c5]
            by_cases c6 : v = 9
            · rw [if_pos c6, if_neg (show ¬ (own_ctl v ∧ v ≠ 13) from fun g => g.1.elim (fun w => w.2.2 c6) c3)]; try exact rfl
            · rw [if_neg c6, if_pos (show (own_ctl v ∧ v ≠ 13) from ⟨Or.inl ⟨c4, c5, c6⟩, c1⟩)]; try exact rfl
          · rw [if_neg c5, if_neg (show ¬ (own_ctl v ∧ v ≠ 13) from fun g => g.1.elim (fun w => c5 w.2.1) c3)]; try exact rfl
theorem own_stN (v : Int32) (p ok nf c fc fb co lc bd : Int32) (h : v ≠ 10) : f_RawMessageIsPlainPinLaw_step v [0, p, ok, nf, c, fc, fb, co, lc, bd] = some [0, p, ok, nf, c + 1, (if c = 0 then (if v = 13 then 1 else 0) else fc), (if c = 0 then (if own_bl v then 1 else 0) else fb), (if v = 58 then 1 else co), (if v = 13 then 1 else 0), (if lc = 1 ∨ (own_ctl v ∧ v ≠ 13) then 1 else bd)] := by
  unfold f_RawMessageIsPlainPinLaw_step
  simp only [own_ck0, own_rd0, own_wr0, own_ck1, own_rd1, own_wr1, own_ck2, own_rd2, own_wr2, own_ck3, own_rd3, own_wr3, own_ck4, own_rd4, own_wr4, own_ck5, own_rd5, own_wr5, own_ck6, own_rd6, own_wr6, own_ck7, own_rd7, own_wr7, own_ck8, own_rd8, own_wr8, own_ck9, own_rd9, own_wr9, own_ls, own_st135]
  rw [if_neg (by decide), if_neg h]
  by_cases c1 : lc = 1
  · rw [if_pos c1, if_pos (Or.inl c1)]
    by_cases c2 : own_ctl v ∧ v ≠ 13
    · rw [if_pos c2]; try exact rfl
    · rw [if_neg c2]; try exact rfl
  · rw [if_neg c1]
    by_cases c2 : own_ctl v ∧ v ≠ 13
    · rw [if_pos c2, if_pos (Or.inr c2)]; try exact rfl
    · rw [if_neg c2, if_neg (show ¬ (lc = 1 ∨ (own_ctl v ∧ v ≠ 13)) from fun g => g.elim c1 c2)]; try exact rfl
/-! a run of the automaton -/
def own_go (bs : List Int32) : Nat → Nat → List Int32 → Option (List Int32)
  | 0, _, S => some S
  | d + 1, i, S => own_bd (f_RawMessageIsPlainPinLaw_step (bs.getD i 0) S) (own_go bs d (i + 1))
theorem own_bda {α β γ : Type} (x : Option α) (f : α → Option β) (g : β → Option γ) : own_bd (own_bd x f) g = own_bd x (fun y => own_bd (f y) g) := by cases x <;> rfl
theorem own_goA (bs : List Int32) : ∀ (a b i : Nat) (S : List Int32), own_go bs (a + b) i S = own_bd (own_go bs a i S) (own_go bs b (i + a)) := by
  intro a
  induction a with
  | zero => intro b i S; rw [Nat.zero_add, own_go, own_bs, Nat.add_zero]
  | succ a ih =>
    intro b i S
    rw [show a + 1 + b = (a + b) + 1 by omega, own_go, own_go, own_bda]
    congr 1
    funext y
    rw [ih b (i + 1) y, show i + 1 + a = i + (a + 1) by omega]
theorem own_go1 (bs : List Int32) (i : Nat) (S : List Int32) : own_go bs 1 i S = f_RawMessageIsPlainPinLaw_step (bs.getD i 0) S := by
  rw [own_go]
  cases f_RawMessageIsPlainPinLaw_step (bs.getD i 0) S <;> rfl
theorem own_goD (bs : List Int32) (p ok nf c fc fb co lc bd : Int32) : ∀ d i, own_go bs d i [1, p, ok, nf, c, fc, fb, co, lc, bd] = some [1, p, ok, nf, c, fc, fb, co, lc, bd] := by
  intro d
  induction d with
  | zero => intro i; rfl
  | succ d ih => intro i; rw [own_go, own_stD, own_bs, ih]
/-- inside one line -/
theorem own_run (bs : List Int32) (hb : bs.length < 90) (s : Nat) (ok nf : Int32) : ∀ d, s + d ≤ bs.length → (∀ j, s ≤ j → j < s + d → bs.getD j 0 ≠ 10) →
    ∃ fc fb co lc bd : Int32, own_go bs d s [0, 0, ok, nf, 0, 0, 0, 0, 0, 0] = some [0, 0, ok, nf, Int32.ofNat d, fc, fb, co, lc, bd] ∧ (0 < d → (fc = 1 ↔ bs.getD s 0 = 13) ∧ (fb = 1 ↔ own_bl (bs.getD s 0))) ∧ (co = 0 ∨ co = 1) ∧ (co = 1 ↔ ∃ j, s ≤ j ∧ j < s + d ∧ bs.getD j 0 = 58) ∧ (lc = 1 ↔ 0 < d ∧ bs.getD (s + d - 1) 0 = 13) ∧
      (bd = 1 ↔ ∃ j, s ≤ j ∧ j < s + d ∧ ((own_ctl (bs.getD j 0) ∧ bs.getD j 0 ≠ 13) ∨ (bs.getD j 0 = 13 ∧ j + 1 < s + d))) := by
  intro d
  have n01 : ¬ (0 : Int32) = 1 := by decide
  induction d with
  | zero =>
    intro _ _
    refine ⟨0, 0, 0, 0, 0, rfl, fun g => by omega, Or.inl rfl, ⟨fun g => absurd g n01, fun ⟨j, j1, j2, _⟩ => by omega⟩, ⟨fun g => absurd g n01, fun g => by omega⟩, ⟨fun g => absurd g n01, fun ⟨j, j1, j2, _⟩ => by omega⟩⟩
  | succ d ih =>
    intro h1 h2
    obtain ⟨fc, fb, co, lc, bd, r1, r2, r3, r4, r5, r6⟩ := ih (by omega) (fun j q1 q2 => h2 j q1 (by omega))
    have st := own_stN (bs.getD (s + d) 0) 0 ok nf (Int32.ofNat d) fc fb co lc bd (h2 (s + d) (by omega) (by omega))
    have dz : (Int32.ofNat d = 0) ↔ d = 0 := by rw [show (0 : Int32) = Int32.ofNat 0 from rfl, own_seq (by omega) (by omega)]
    rw [own_inc] at st
    refine ⟨_, _, _, _, _, by rw [own_goA bs d 1 s, r1, own_bs, own_go1]; exact st, ?_, ?_, ?_, ?_, ?_⟩
    · intro _
      by_cases c : d = 0
      · subst c
        rw [if_pos (show Int32.ofNat 0 = 0 from rfl), if_pos (show Int32.ofNat 0 = 0 from rfl), Nat.add_zero]
        constructor
        · by_cases g : bs.getD s 0 = 13
          · rw [if_pos g]; exact ⟨fun _ => g, fun _ => rfl⟩
          · rw [if_neg g]; exact ⟨fun w => absurd w n01, fun w => absurd w g⟩
        · by_cases g : own_bl (bs.getD s 0)
          · rw [if_pos g]; exact ⟨fun _ => g, fun _ => rfl⟩
          · rw [if_neg g]; exact ⟨fun w => absurd w n01, fun w => absurd w g⟩
      · rw [if_neg (fun w => c (dz.mp w)), if_neg (fun w => c (dz.mp w))]
        exact r2 (by omega)
    · split
      · exact Or.inr rfl
      · exact r3
    · by_cases g : bs.getD (s + d) 0 = 58
      · rw [if_pos g]; exact ⟨fun _ => ⟨s + d, by omega, by omega, g⟩, fun _ => rfl⟩
      · rw [if_neg g, r4]
        exact ⟨fun ⟨j, j1, j2, j3⟩ => ⟨j, j1, by omega, j3⟩, fun ⟨j, j1, j2, j3⟩ => ⟨j, j1, by
          have : j ≠ s + d := fun w => g (by rw [← w]; exact j3)
          omega, j3⟩⟩
    · rw [show s + (d + 1) - 1 = s + d by omega]
      by_cases g : bs.getD (s + d) 0 = 13
      · rw [if_pos g]; exact ⟨fun _ => ⟨by omega, g⟩, fun _ => rfl⟩
      · rw [if_neg g]; exact ⟨fun w => absurd w n01, fun w => absurd w.2 g⟩
    · by_cases g : lc = 1 ∨ (own_ctl (bs.getD (s + d) 0) ∧ bs.getD (s + d) 0 ≠ 13)
      · rw [if_pos g]
        refine ⟨fun _ => ?_, fun _ => rfl⟩
        rcases g with g | g
        · have w := r5.mp g
          exact ⟨s + d - 1, by omega, by omega, Or.inr ⟨w.2, by omega⟩⟩
        · exact ⟨s + d, by omega, by omega, Or.inl g⟩
      · rw [if_neg g, r6]
        constructor
        · intro ⟨j, j1, j2, j3⟩
          exact ⟨j, j1, by omega, j3.elim Or.inl (fun w => Or.inr ⟨w.1, by omega⟩)⟩
        · intro ⟨j, j1, j2, j3⟩
          have nj : j ≠ s + d := fun w => by
            rcases j3 with j3 | j3
            · rw [w] at j3; exact g (Or.inr j3)
            · omega
          refine ⟨j, j1, by omega, j3.elim Or.inl (fun w => Or.inr ⟨w.1, ?_⟩)⟩
          have : j + 1 ≠ s + d := fun x => g (Or.inl (r5.mpr ⟨by omega, by rw [← x, Nat.add_sub_cancel]; exact w.1⟩))
          omega

/-- all lines -/
theorem own_auto (bs : List Int32) (hb : bs.length < 90) (fd : Prop) : ∀ (ls : List (Nat × Nat)) (line k : Nat) (ok nf : Int32), own_L bs fd line ls → (nf = 1 ↔ 0 < k) → (ok = 0 ∨ ok = 1) →
    ∃ a b a2 a3 a4 a5 a6 a7 a8 a9 : Int32, own_go bs (bs.length - line) line [0, 0, ok, nf, 0, 0, 0, 0, 0, 0] = some [a, b, a2, a3, a4, a5, a6, a7, a8, a9] ∧ ((a = 1 ∧ b = 1) ↔ (fd ∧ ok = 1 ∧ own_okL bs k ls)) := by
  have n01 : ¬ (0 : Int32) = 1 := by decide
  intro ls
  induction ls with
  | nil =>
    intro line k ok nf h hn ho
    rcases h with ⟨f, e, e1, e2, e3, e4⟩ | ⟨f, no⟩
    · have nl : ∀ j, line ≤ j → j < line + (e - line) → bs.getD j 0 ≠ 10 := by
        intro j j1 j2
        rcases e4 with g | g
        · omega
        · rw [show j = line by omega, g.2]; decide
      obtain ⟨fc, fb, co, lc, bd, r1, r2, r3, r4, r5, r6⟩ := own_run bs hb line ok nf (e - line) (by omega) nl
      have st := own_stE 0 ok nf (Int32.ofNat (e - line)) fc fb co lc bd (by
        rcases e4 with g | g
        · left; rw [show e - line = 0 by omega]; rfl
        · right; exact ⟨by rw [show e - line = 1 by omega]; rfl, (r2 (by omega)).1.mpr g.2⟩)
      refine ⟨1, ok, ok, nf, Int32.ofNat (e - line), fc, fb, co, lc, bd, ?_, ⟨fun g => ⟨f, g.2, trivial⟩, fun g => ⟨rfl, g.2.1⟩⟩⟩
      rw [show bs.length - line = (e - line) + (1 + (bs.length - e - 1)) by omega, own_goA, r1, own_bs, own_goA, own_go1, show line + (e - line) = e by omega, e3, st, own_bs, own_goD]
    · by_cases c : line ≤ bs.length
      · obtain ⟨fc, fb, co, lc, bd, r1, -⟩ := own_run bs hb line ok nf (bs.length - line) (by omega) (fun j j1 j2 => no j j1 (by omega))
        exact ⟨_, _, _, _, _, _, _, _, _, _, r1, ⟨fun g => absurd g.1 n01, fun g => absurd g.1 f⟩⟩
      · rw [show bs.length - line = 0 by omega]
        exact ⟨_, _, _, _, _, _, _, _, _, _, rfl, ⟨fun g => absurd g.1 n01, fun g => absurd g.1 f⟩⟩
  | cons p t ih =>
    intro line k ok nf h hn ho
    obtain ⟨g1, g2, g3, g4, g5, g6, g7⟩ := h
    obtain ⟨s, e⟩ := p
    dsimp only at g1 g2 g3 g4 g5 g6 g7
    subst g1
    obtain ⟨fc, fb, co, lc, bd, r1, r2, r3, r4, r5, r6⟩ := own_run bs hb s ok nf (e - s) (by omega) (fun j j1 j2 => g4 j j1 (by omega))
    rw [show s + (e - s) = e by omega] at r4 r5 r6
    by_cases c : e < bs.length
    · have st := own_stL 0 ok nf (Int32.ofNat (e - s)) fc fb co lc bd (by rw [show (0 : Int32) = Int32.ofNat 0 from rfl, own_seq (by omega) (by omega)]; omega) (by
        intro g
        have g0 := g.1
        rw [show (1 : Int32) = Int32.ofNat 1 from rfl, own_seq (by omega) (by omega)] at g0
        exact g5 ⟨by omega, (r2 (by omega)).1.mp g.2⟩)
      have lineok : ¬ (bd = 1 ∨ (nf = 1 ∧ (fb = 1 ∨ co = 0))) ↔ own_ok bs (0 < k) s e := by
        constructor
        · intro g
          refine ⟨fun j j1 j2 j3 => ?_, fun kp => ⟨fun w => g (Or.inr ⟨hn.mpr kp, Or.inl ((r2 (by omega)).2.mpr w)⟩), ?_⟩⟩
          · apply Classical.byContradiction
            intro w
            apply g
            left
            apply r6.mpr
            refine ⟨j, j1, j2, ?_⟩
            by_cases q : bs.getD j 0 = 13
            · exact Or.inr ⟨q, by
                have : ¬ j + 1 = e := fun x => w ⟨q, x⟩
                omega⟩
            · exact Or.inl ⟨j3, q⟩
          · rcases r3 with r3 | r3
            · exact absurd (Or.inr ⟨hn.mpr kp, Or.inr r3⟩) g
            · exact r4.mp r3
        · intro g w
          rcases w with w | w
          · obtain ⟨j, j1, j2, j3⟩ := r6.mp w
            rcases j3 with j3 | j3
            · exact j3.2 (g.1 j j1 j2 j3.1).1
            · have := (g.1 j j1 j2 (by rw [j3.1]; decide)).2
              omega
          · have q := g.2 (hn.mp w.1)
            rcases w.2 with x | x
            · exact q.1 ((r2 (by omega)).2.mp x)
            · have := r4.mpr q.2
              rw [x] at this
              exact n01 this
      generalize hok : (if bd = 1 ∨ (nf = 1 ∧ (fb = 1 ∨ co = 0)) then 0 else ok) = ok' at st
      have ok1 : (ok' = 0 ∨ ok' = 1) ∧ (ok' = 1 ↔ ok = 1 ∧ own_ok bs (0 < k) s e) := by
        by_cases w : bd = 1 ∨ (nf = 1 ∧ (fb = 1 ∨ co = 0))
        · rw [if_pos w] at hok
          rw [← hok]
          exact ⟨Or.inl rfl, ⟨fun x => absurd x n01, fun x => absurd w (lineok.mpr x.2)⟩⟩
        · rw [if_neg w] at hok
          rw [← hok]
          exact ⟨ho, ⟨fun x => ⟨x, lineok.mp w⟩, fun x => x.1⟩⟩
      obtain ⟨a, b, a2, a3, a4, a5, a6, a7, a8, a9, z1, z2⟩ := ih (e + 1) (k + 1) ok' 1 g7 ⟨fun _ => by omega, fun _ => rfl⟩ ok1.1
      refine ⟨a, b, a2, a3, a4, a5, a6, a7, a8, a9, ?_, ?_⟩
      · rw [show bs.length - s = (e - s) + (1 + (bs.length - (e + 1))) by omega, own_goA, r1, own_bs, own_goA, own_go1, show s + (e - s) = e by omega, g6 c, st, own_bs]
        exact z1
      · rw [z2, ok1.2]
        exact ⟨fun x => ⟨x.1, x.2.1.1, x.2.1.2, x.2.2⟩, fun x => ⟨x.1, ⟨x.2.1, x.2.2.1⟩, x.2.2.2⟩⟩
    · have ee : e = bs.length := by omega
      have nf' : ¬ fd := by
        intro f
        cases t with
        | nil =>
          rcases g7 with ⟨_, e', x1, x2, _⟩ | ⟨x, _⟩
          · omega
          · exact x f
        | cons p' t' =>
          obtain ⟨x1, x2, x3, _⟩ := g7
          omega
      rw [ee] at r1
      exact ⟨_, _, _, _, _, _, _, _, _, _, r1, ⟨fun g => absurd g.1 n01, fun g => absurd g.1 nf'⟩⟩
/-! the law -/
theorem own_224 (bs S : List Int32) (n : Nat) (h8 : n ≤ 8) (hl : bs.length = n) : f_law_224 (Int32.ofNat n) bs S = own_bd (own_go bs (n - 6) 6 S) (f_law_256 bs) := by
  unfold f_law_224
  rw [show (6 : Int32) = Int32.ofNat 6 from rfl, show (7 : Int32) = Int32.ofNat 7 from rfl]
  simp only [own_slt (show 6 < 1000 by decide) (show n < 1000 by omega), own_slt (show 7 < 1000 by decide) (show n < 1000 by omega)]
  by_cases c1 : 7 < n
  · have i6 : own_inb bs (Int32.ofNat 6) := own_sin (by omega) (by omega)
    have i7 : own_inb bs (Int32.ofNat 7) := own_sin (by omega) (by omega)
    rw [if_pos (show 6 < n by omega), own_ct _ i6, own_ls, show n - 6 = 2 by omega, own_go, own_bda, own_srd _ (by omega)]
    simp only [if_pos c1, own_ct _ i7, own_ls, own_srd bs (show 7 < 1000 by decide), own_go1]
  · by_cases c0 : 6 < n
    · have i6 : own_inb bs (Int32.ofNat 6) := own_sin (by omega) (by omega)
      rw [if_pos c0, own_ct _ i6, own_ls, show n - 6 = 1 by omega, own_go1, own_srd _ (by omega)]
      simp only [if_neg c1]
    · rw [if_neg c0, if_neg c1, show n - 6 = 0 by omega, own_go, own_bs]
theorem own_196 (bs S : List Int32) (n : Nat) (h8 : n ≤ 8) (hl : bs.length = n) : f_law_196 (Int32.ofNat n) bs S = own_bd (own_go bs (n - 4) 4 S) (f_law_256 bs) := by
  unfold f_law_196
  rw [show (4 : Int32) = Int32.ofNat 4 from rfl, show (5 : Int32) = Int32.ofNat 5 from rfl]
  simp only [own_slt (show 4 < 1000 by decide) (show n < 1000 by omega), own_slt (show 5 < 1000 by decide) (show n < 1000 by omega), own_224 bs _ n h8 hl]
  by_cases c1 : 5 < n
  · have i6 : own_inb bs (Int32.ofNat 4) := own_sin (by omega) (by omega)
    have i7 : own_inb bs (Int32.ofNat 5) := own_sin (by omega) (by omega)
    rw [if_pos (show 4 < n by omega), own_ct _ i6, own_ls, show n - 4 = (n - 6) + 1 + 1 by omega, own_go, own_bda, own_srd _ (by omega)]
    simp only [if_pos c1, own_ct _ i7, own_ls, own_srd bs (show 5 < 1000 by decide), own_go, own_bda]
  · by_cases c0 : 4 < n
    · have i6 : own_inb bs (Int32.ofNat 4) := own_sin (by omega) (by omega)
      rw [if_pos c0, own_ct _ i6, own_ls, show n - 4 = 1 by omega, own_go1, own_srd _ (by omega)]
      simp only [if_neg c1, show n - 6 = 0 by omega, own_go, own_bs]
    · rw [if_neg c0, if_neg c1, show n - 4 = 0 by omega, show n - 6 = 0 by omega, own_go, own_go]
theorem own_168 (bs S : List Int32) (n : Nat) (h8 : n ≤ 8) (hl : bs.length = n) : f_law_168 (Int32.ofNat n) bs S = own_bd (own_go bs (n - 2) 2 S) (f_law_256 bs) := by
  unfold f_law_168
  rw [show (2 : Int32) = Int32.ofNat 2 from rfl, show (3 : Int32) = Int32.ofNat 3 from rfl]
  simp only [own_slt (show 2 < 1000 by decide) (show n < 1000 by omega), own_slt (show 3 < 1000 by decide) (show n < 1000 by omega), own_196 bs _ n h8 hl]
  by_cases c1 : 3 < n
  · have i6 : own_inb bs (Int32.ofNat 2) := own_sin (by omega) (by omega)
    have i7 : own_inb bs (Int32.ofNat 3) := own_sin (by omega) (by omega)
    rw [if_pos (show 2 < n by omega), own_ct _ i6, own_ls, show n - 2 = (n - 4) + 1 + 1 by omega, own_go, own_bda, own_srd _ (by omega)]
    simp only [if_pos c1, own_ct _ i7, own_ls, own_srd bs (show 3 < 1000 by decide), own_go, own_bda]
  · by_cases c0 : 2 < n
    · have i6 : own_inb bs (Int32.ofNat 2) := own_sin (by omega) (by omega)
      rw [if_pos c0, own_ct _ i6, own_ls, show n - 2 = 1 by omega, own_go1, own_srd _ (by omega)]
      simp only [if_neg c1, show n - 4 = 0 by omega, own_go, own_bs]
    · rw [if_neg c0, if_neg c1, show n - 2 = 0 by omega, show n - 4 = 0 by omega, own_go, own_go]
theorem own_130 (bs : List Int32) (n : Nat) (h8 : n ≤ 8) (hl : bs.length = n) : f_law_130 (Int32.ofNat n) bs = own_bd (own_go bs n 0 [0, 0, 1, 0, 0, 0, 0, 0, 0, 0]) (f_law_256 bs) := by
  unfold f_law_130
  have e0 : ((0 : Int32) < Int32.ofNat n) ↔ 0 < n := own_slt (i := 0) (by omega) (by omega)
  have e1 : ((1 : Int32) < Int32.ofNat n) ↔ 1 < n := own_slt (i := 1) (by omega) (by omega)
  simp only [e0, e1, own_168 bs _ n h8 hl]
  have d0 : own_rd bs (0 : Int32) = bs.getD 0 0 := rfl
  have d1 : own_rd bs (1 : Int32) = bs.getD 1 0 := rfl
  by_cases c1 : 1 < n
  · have i6 : own_inb bs (0 : Int32) := own_sin (i := 0) (by omega) (by omega)
    have i7 : own_inb bs (1 : Int32) := own_sin (i := 1) (by omega) (by omega)
    obtain ⟨m, rfl⟩ : ∃ m, n = m + 2 := ⟨n - 2, by omega⟩
    rw [if_pos (show 0 < m + 2 by omega), own_ct _ i6, own_ls, show m + 2 = m + 1 + 1 by omega, own_go, own_bda, d0]
    simp only [if_pos (show 1 < m + 1 + 1 by omega), own_ct _ i7, own_ls, d1, own_go, own_bda, show m + 1 + 1 - 2 = m by omega]
  · by_cases c0 : 0 < n
    · have i6 : own_inb bs (0 : Int32) := own_sin (i := 0) (by omega) (by omega)
      rw [if_pos c0, own_ct _ i6, own_ls, show own_go bs n 0 [0, 0, 1, 0, 0, 0, 0, 0, 0, 0] = own_go bs 1 0 [0, 0, 1, 0, 0, 0, 0, 0, 0, 0] by rw [show n = 1 by omega], own_go1, d0]
      simp only [if_neg c1, show n - 2 = 0 by omega, own_go, own_bs]
    · have n0 : n = 0 := by omega
      subst n0
      rw [if_neg c0, if_neg c1]
      exact rfl
theorem own_277 (bs : List Int32) (h8 : bs.length ≤ 8) : f_law_130 (Int32.ofNat bs.length) bs = some 1 := by
  rw [own_130 bs bs.length h8 rfl]
  obtain ⟨ls, fd, r, r1, r2, r3, r4, r5, r6, r7, r8, r9⟩ := own_make bs (by omega) 0 0 100 0 0 [0, 0, 0, 0, 0, 0, 0, 0, 0, 0, 0, 0, 0, 0, 0, 0] [0, 0, 0, 0, 0, 0, 0, 0, 0, 0, 0, 0, 0, 0, 0, 0] [0, 0, 0, 0, 0, 0, 0, 0, 0, 0, 0, 0, 0, 0, 0, 0] (by omega) (by omega) (by omega) rfl rfl rfl
  obtain ⟨a, b, a2, a3, a4, a5, a6, a7, a8, a9, z1, z2⟩ := own_auto bs (by omega) fd ls 0 0 1 0 r2 (by decide) (Or.inr rfl)
  rw [Nat.zero_add] at r4 r5
  have mk : f_RawMessage_mk 0 0 bs = some r := r1
  have n10 : ¬ (1 : Int32) = 0 := by decide
  have n01 : ¬ (0 : Int32) = 1 := by decide
  have pl : ∃ x, f_RawMessage_isPlain r.1 r.2.1 bs r.2.2.1 r.2.2.2.1 r.2.2.2.2 = some x ∧ ((x = 1 ∧ (a = 1 ∧ b = 1)) ∨ (x = 0 ∧ ¬ (a = 1 ∧ b = 1))) := by
    unfold f_RawMessage_isPlain
    rcases r3 with ⟨f, g⟩ | ⟨f, g⟩
    · rw [if_neg g, r4]
      rcases own_lines bs r.2.2.1 r.2.2.2.1 r.2.2.2.2 r.1 ls.length (by omega) (by omega) fd r6 r7 ls 0 0 100 r2 r9 (by omega) (by omega) (by omega) with ⟨w1, w2⟩ | ⟨w1, w2⟩
      · exact ⟨1, w2, Or.inl ⟨rfl, z2.mpr ⟨f, rfl, w1⟩⟩⟩
      · exact ⟨0, w2, Or.inr ⟨rfl, fun q => w1 (z2.mp q).2.2⟩⟩
    · rw [if_pos (by rw [g]; decide)]
      exact ⟨0, rfl, Or.inr ⟨rfl, fun q => f (z2.mp q).1⟩⟩
  obtain ⟨x, x1, x2⟩ := pl
  have go : ∀ y : Int32, x = y → f_law_277 y bs = some 1 := by
    intro y hy
    unfold f_law_277
    rw [mk, own_bs, x1, own_bs, if_pos hy]
  rw [Nat.sub_zero] at z1
  rw [z1, own_bs]
  unfold f_law_256
  rw [own_ck0, own_rd0, own_ck1, own_rd1]
  by_cases c1 : a = 1
  · rw [if_pos c1]
    by_cases c2 : b = 1
    · rw [if_pos c2]
      rcases x2 with ⟨h, _⟩ | ⟨_, h⟩
      · exact go 1 h
      · exact absurd ⟨c1, c2⟩ h
    · rw [if_neg c2]
      rcases x2 with ⟨_, h⟩ | ⟨h, _⟩
      · exact absurd h.2 c2
      · exact go 0 h
  · rw [if_neg c1]
    rcases x2 with ⟨_, h⟩ | ⟨h, _⟩
    · exact absurd h.1 c1
    · exact go 0 h
theorem own_pk (v0 : Int64) (i : Int32) : ∃ r, f_RawMessageIsPlainPinLaw_pick v0 i = some r := by
  unfold f_RawMessageIsPlainPinLaw_pick
  rw [own_ls, own_ls, own_ls]
  repeat' split
  all_goals exact ⟨_, rfl⟩
theorem own_96 (v0 : Int64) (n : Nat) (h8 : n ≤ 8) (bs : List Int32) (hl : bs.length = n) : f_law_96 v0 (Int32.ofNat n) bs = some 1 := by
  unfold f_law_96
  obtain ⟨x, hx⟩ := own_pk v0 6
  obtain ⟨y, hy⟩ := own_pk v0 7
  have e0 : ((6 : Int32) < Int32.ofNat n) ↔ 6 < n := own_slt (i := 6) (by omega) (by omega)
  have e1 : ((7 : Int32) < Int32.ofNat n) ↔ 7 < n := own_slt (i := 7) (by omega) (by omega)
  have fin : ∀ B : List Int32, B.length = n → f_law_130 (Int32.ofNat n) B = some 1 := fun B hB => by have q := own_277 B (by omega); rw [hB] at q; exact q
  simp only [hx, hy, own_bs, own_ls, e0, e1]
  by_cases c0 : 6 < n
  · rw [if_pos c0, own_ct _ (show own_inb bs (6 : Int32) from own_sin (i := 6) (by omega) (by omega))]
    by_cases c1 : 7 < n
    · rw [if_pos c1, own_ct _ (show own_inb (own_wr bs (6 : Int32) _) (7 : Int32) from own_sin (i := 7) (by omega) (by rw [own_wrl]; omega))]
      exact fin _ (by rw [own_wrl, own_wrl]; exact hl)
    · rw [if_neg c1]
      exact fin _ (by rw [own_wrl]; exact hl)
  · rw [if_neg c0, if_neg (show ¬ 7 < n by omega)]
    exact fin _ hl
theorem own_68 (v0 : Int64) (n : Nat) (h8 : n ≤ 8) (bs : List Int32) (hl : bs.length = n) : f_law_68 v0 (Int32.ofNat n) bs = some 1 := by
  unfold f_law_68
  obtain ⟨x, hx⟩ := own_pk v0 4
  obtain ⟨y, hy⟩ := own_pk v0 5
  have e0 : ((4 : Int32) < Int32.ofNat n) ↔ 4 < n := own_slt (i := 4) (by omega) (by omega)
  have e1 : ((5 : Int32) < Int32.ofNat n) ↔ 5 < n := own_slt (i := 5) (by omega) (by omega)
  have fin : ∀ B : List Int32, B.length = n → f_law_96 v0 (Int32.ofNat n) B = some 1 := fun B hB => own_96 v0 n h8 B hB
  simp only [hx, hy, own_bs, own_ls, e0, e1]
  by_cases c0 : 4 < n
  · rw [if_pos c0, own_ct _ (show own_inb bs (4 : Int32) from own_sin (i := 4) (by omega) (by omega))]
    by_cases c1 : 5 < n
    · rw [if_pos c1, own_ct _ (show own_inb (own_wr bs (4 : Int32) _) (5 : Int32) from own_sin (i := 5) (by omega) (by rw [own_wrl]; omega))]
      exact fin _ (by rw [own_wrl, own_wrl]; exact hl)
    · rw [if_neg c1]
      exact fin _ (by rw [own_wrl]; exact hl)
  · rw [if_neg c0, if_neg (show ¬ 5 < n by omega)]
    exact fin _ hl
theorem own_40 (v0 : Int64) (n : Nat) (h8 : n ≤ 8) (bs : List Int32) (hl : bs.length = n) : f_law_40 v0 (Int32.ofNat n) bs = some 1 := by
  unfold f_law_40
  obtain ⟨x, hx⟩ := own_pk v0 2
  obtain ⟨y, hy⟩ := own_pk v0 3
  have e0 : ((2 : Int32) < Int32.ofNat n) ↔ 2 < n := own_slt (i := 2) (by omega) (by omega)
  have e1 : ((3 : Int32) < Int32.ofNat n) ↔ 3 < n := own_slt (i := 3) (by omega) (by omega)
  have fin : ∀ B : List Int32, B.length = n → f_law_68 v0 (Int32.ofNat n) B = some 1 := fun B hB => own_68 v0 n h8 B hB
  simp only [hx, hy, own_bs, own_ls, e0, e1]
  by_cases c0 : 2 < n
  · rw [if_pos c0, own_ct _ (show own_inb bs (2 : Int32) from own_sin (i := 2) (by omega) (by omega))]
    by_cases c1 : 3 < n
    · rw [if_pos c1, own_ct _ (show own_inb (own_wr bs (2 : Int32) _) (3 : Int32) from own_sin (i := 3) (by omega) (by rw [own_wrl]; omega))]
      exact fin _ (by rw [own_wrl, own_wrl]; exact hl)
    · rw [if_neg c1]
      exact fin _ (by rw [own_wrl]; exact hl)
  · rw [if_neg c0, if_neg (show ¬ 3 < n by omega)]
    exact fin _ hl
theorem own_law (v0 : Int64) (v2 : Int32) : f_law v0 v2 = some 1 := by
  unfold f_law
  have m1 := own_imask (x := v2) (m := 2147483647) 31 (by decide) (by decide)
  have p0 : 0 ≤ (v2 &&& 2147483647).toInt := by rw [m1]; exact Int.emod_nonneg _ (by decide)
  have m2 : ((v2 &&& 2147483647) % 9).toInt = (v2 &&& 2147483647).toInt % 9 := by rw [own_imod p0]; rfl
  obtain ⟨n, hn, h8⟩ : ∃ n : Nat, (v2 &&& 2147483647) % 9 = Int32.ofNat n ∧ n ≤ 8 := by
    refine ⟨((v2 &&& 2147483647) % 9).toInt.toNat, ?_, by omega⟩
    rw [← Int32.toInt_inj, own_sn _ (by omega)]; omega
  rw [hn, own_ls, own_sc n (by omega)]
  obtain ⟨x, hx⟩ := own_pk v0 0
  obtain ⟨y, hy⟩ := own_pk v0 1
  have e0 : ((0 : Int32) < Int32.ofNat n) ↔ 0 < n := own_slt (i := 0) (by omega) (by omega)
  have e1 : ((1 : Int32) < Int32.ofNat n) ↔ 1 < n := own_slt (i := 1) (by omega) (by omega)
  have hl : (List.replicate n (0 : Int32)).length = n := List.length_replicate
  rw [own_ct _ ⟨by rw [Int32.lt_iff_toInt_lt, own_sn n (by omega)]; simp only [Int32.reduceToInt]; omega, h8⟩]
  generalize List.replicate n (0 : Int32) = bs at *
  simp only [hx, hy, own_bs, own_ls, e0, e1]
  by_cases c0 : 0 < n
  · rw [if_pos c0, own_ct _ (show own_inb bs (0 : Int32) from own_sin (i := 0) (by omega) (by omega))]
    by_cases c1 : 1 < n
    · rw [if_pos c1, own_ct _ (show own_inb (own_wr bs (0 : Int32) _) (1 : Int32) from own_sin (i := 1) (by omega) (by rw [own_wrl]; omega))]
      exact own_40 v0 n h8 _ (by rw [own_wrl, own_wrl]; exact hl)
    · rw [if_neg c1]
      exact own_40 v0 n h8 _ (by rw [own_wrl]; exact hl)
  · rw [if_neg c0, if_neg (show ¬ 1 < n by omega)]
    exact own_40 v0 n h8 _ hl


set_option maxRecDepth 65536 in
set_option maxHeartbeats 4000000 in
theorem comes_1 {Post : Tables → Env → Array Value → State → Outcome → State → Prop} (hpost : ∀ tb e args s v u, (limb_1_1.after args s (.returned v) u = true ∧ limb_1_2.after args s (.returned v) u = true ∧ True) → FrameEnd s (.returned v) u (Jvm.fieldLocs frame_1_writes args s ++ Jvm.arrayLocs frame_1_arrays args s ++ Jvm.staticLocs frame_1_statics s) 24 256 → Post tb e args s (.returned v) u) :
    ArmFor flags0 classFile x code maxLocals ret World_1 tables_1 room_1 Calls_1 rest_1 Pre_1 Post := by
  intro l hfl _ _ p e ha hc hk s m args below hf hA hF happ hP
  obtain ⟨hcalls, hrest, hpre⟩ := hP
  obtain ⟨-, -, -, hnamed, -, -, -, hat⟩ := (Spec.applies_iff hf).mp happ
  obtain ⟨hg, hn⟩ := and_e (Cond.before_iff.mp (show (Jvm.Cond.and given_1 narrow_1).before args s = true from hpre))
  obtain ⟨gc, g0⟩ := and_e hg
  obtain ⟨ga0, g1⟩ := and_e g0
  have ga1 := g1
  obtain ⟨w0, w1, rfl⟩ : ∃ w0 w1 : Value, args = #[w0, w1] := by
    have hs : args.size = 2 := by simpa [Cond.value, given_1] using gc
    obtain ⟨L⟩ := args
    match L, hs with
    | [w0, w1], _ => exact ⟨w0, w1, rfl⟩
  have hw := fun d (hd : d ∈ tables_1) => atoms_spec (ws := Jvm.Cond.code x code maxLocals ret :: tables_1) hat d (List.mem_cons_of_mem _ hd)
  obtain ⟨i0, ei0⟩ := isL_v ga0
  obtain rfl : w0 = (.long i0) := Option.some.inj ei0
  obtain ⟨i1, ei1⟩ := is_v ga1
  obtain rfl : w1 = (.int i1) := Option.some.inj ei1
  obtain ⟨n, o, h1, h2, h3, _, L, rfl, hQ, hq⟩ := rm_law l s _ hw tables_1 s.heap s.heap.size (Nat.le_refl _) i0 i1 1 (own_law i0 i1) p e ha hc hk s m _ below hf ((Spec.applies_iff_loose hf).mp happ).1 ⟨rfl, State.Warmed39.refl s, rfl⟩ trivial
  obtain ⟨rfl, N, -⟩ := hQ
  refine ⟨n, _, h1, h2, h3, hpost _ _ _ _ _ _ ⟨Cond.after_iff.mpr rfl, Cond.after_iff.mpr (eq_i res_at (Term.int_eval (1)) rfl), trivial⟩ ⟨hq.1, hq.2.1, (hq.2.2.sift fun y hy => Or.inr (N y hy)).mono (by decide) (by decide)⟩⟩
theorem main_1_1 : Claimed_1_1 := comes_1 fun _ _ _ _ _ _ h hF => ⟨h.1, hF⟩
theorem main_1_2 : Claimed_1_2 := comes_1 fun _ _ _ _ _ _ h hF => ⟨h.2.1, hF⟩
end Jvm.Pilot.@@N@@
namespace Jvm.Pilot.@@N@@
open Jvm Jvm.ClassFile Sem Op Lib Jvm.Free Jvm.Stand Jvm.Pilot.@@N@@.Jvm.D
/-! MADE BY PROGRAM (witnessworld.py) out of the Statement's table words and the real class files: 9 classes; the members and pool entries that the words name. The judged class is class 1, her method 1. -/
namespace start1
open Jvm.ClassFile
def u (s : String) : CpInfo := .utf8 (stringToUtf16 s)
/-- a pool by its gaps: so many unusable entries, then the entry; so many at the end -/
def gap : Nat → List CpInfo → List CpInfo
  | 0, r => r
  | n + 1, r => .unusable :: gap n r
def poolList (es : List (Nat × CpInfo)) (last : Nat) : List CpInfo := es.foldr (fun e r => gap e.1 (e.2 :: r)) (gap last [])
def pool (es : List (Nat × CpInfo)) (last : Nat) : Array CpInfo := ⟨poolList es last⟩
def fileOf (pool : Array CpInfo) (this : Nat) (attrs : Array Attribute := #[]) (ms : Array MethodInfo := #[]) (fl : Nat := 33) (sup : Nat := 0) (ifs : Array Nat := #[]) (fds : Array FieldInfo := #[]) : ClassFile where
  minorVersion := 0
  majorVersion := 65
  constantPool := pool
  accessFlags := fl
  thisClass := this
  superClass := sup
  interfaces := ifs
  fields := fds
  methods := ms
  attributes := attrs
def plain (name : String) (sup : Option ClassId) : Class where
  name := name
  kind := .ordinary
  loader := none
  accessFlags := 33
  super := sup
  interfaces := #[]
  cf := none
  fields := #[]
  methods := #[]
  instanceTypes := #[]
  staticTypes := #[]
  resolved := #[]
  callSites := []
  init := .initialized
  statics := none
  mirror := none

def pool0 : Array CpInfo := pool [(5, u "<init>"), (0, u "()V"), (1, .class_ 10), (1, u "java/lang/Object")] 113

def k0c0 : Code := { maxStack := 0, maxLocals := 1, code := object_method_1_code, exceptionTable := #[], attributes := #[] }
def k0m0 : Method := { name := "<init>", desc := "()V", sig := { parameters := [], returnType := none }, accessFlags := 1, code := some k0c0 }
/-- java/lang/Object -/
def k0 : Class := { plain "java/lang/Object" none with
  accessFlags := 33
  interfaces := #[]
  cf := some (fileOf pool0 8 #[] #[{ accessFlags := 1, nameIndex := 5, descriptorIndex := 6, attributes := #[] }] 33 0 #[] #[])
  fields := #[]
  methods := #[k0m0]
  instanceTypes := #[]
  staticTypes := #[]
  resolved := Array.replicate 124 none
  statics := none }

def pool1 : Array CpInfo := pool [(2, .class_ 4), (1, u "java/lang/Object"), (0, u "<init>"), (0, u "()V"), (0, .integer 2147483647), (0, .methodref 9 10), (0, .class_ 11), (0, .nameAndType 12 13), (0, u "com/example/oxpecker/oxpecker/sip/RawMessageIsPlainPinLaw"), (0, u "pick"), (0, u "(JI)B"), (0, .methodref 9 15), (0, .nameAndType 16 17), (0, u "step"), (0, u "([IB)V"), (0, .class_ 19), (0, u "com/example/oxpecker/oxpecker/sip/RawMessage"), (0, .methodref 18 21), (0, .nameAndType 5 22), (0, u "([B)V"), (0, .methodref 18 24), (0, .nameAndType 25 26), (0, u "isPlain"), (0, u "()Z"), (0, .long 255), (3, u "law"), (0, u "(JI)Z")] 7

def k1m0 : Method := { name := "<init>", desc := "()V", sig := { parameters := [], returnType := none }, accessFlags := 2, code := none }
def k1c1 : Code := { maxStack := 5, maxLocals := 8, code := code, exceptionTable := #[], attributes := #[] }
def k1m1 : Method := { name := "law", desc := "(JI)Z", sig := { parameters := [.long, .int], returnType := some .boolean }, accessFlags := 9, code := some k1c1 }
def k1c2 : Code := { maxStack := 4, maxLocals := 6, code := method_3_code, exceptionTable := #[], attributes := #[] }
def k1m2 : Method := { name := "pick", desc := "(JI)B", sig := { parameters := [.long, .int], returnType := some .byte }, accessFlags := 10, code := some k1c2 }
def k1c3 : Code := { maxStack := 4, maxLocals := 3, code := method_4_code, exceptionTable := #[], attributes := #[] }
def k1m3 : Method := { name := "step", desc := "([IB)V", sig := { parameters := [(.array .int), .byte], returnType := none }, accessFlags := 10, code := some k1c3 }
/-- com/example/oxpecker/oxpecker/sip/RawMessageIsPlainPinLaw -/
def k1 : Class := { plain "com/example/oxpecker/oxpecker/sip/RawMessageIsPlainPinLaw" (some 0) with
  accessFlags := 49
  interfaces := #[]
  cf := some (fileOf pool1 9 #[] #[{ accessFlags := 2, nameIndex := 5, descriptorIndex := 6, attributes := #[] }, { accessFlags := 9, nameIndex := 31, descriptorIndex := 32, attributes := #[] }, { accessFlags := 10, nameIndex := 12, descriptorIndex := 13, attributes := #[] }, { accessFlags := 10, nameIndex := 16, descriptorIndex := 17, attributes := #[] }] 49 2 #[] #[])
  fields := #[]
  methods := #[k1m0, k1m1, k1m2, k1m3]
  instanceTypes := #[]
  staticTypes := #[]
  resolved := Array.replicate 40 none
  statics := none }

def pool2 : Array CpInfo := pool [(1, .methodref 2 3), (0, .class_ 4), (0, .nameAndType 5 6), (0, u "java/lang/Object"), (0, u "<init>"), (0, u "()V"), (0, .fieldref 8 9), (0, .class_ 10), (0, .nameAndType 11 12), (0, u "com/example/oxpecker/oxpecker/sip/RawMessage"), (0, u "bytes"), (0, u "[B"), (0, .methodref 8 14), (0, .nameAndType 15 16), (0, u "indexOf"), (0, u "(BI)I"), (6, .fieldref 8 24), (0, .nameAndType 25 26), (0, u "lineStarts"), (0, u "[I"), (0, .fieldref 8 28), (0, .nameAndType 29 26), (0, u "lineEnds"), (0, .fieldref 8 31), (0, .nameAndType 32 26), (0, u "wordLengths"), (0, .fieldref 8 34), (0, .nameAndType 35 36), (0, u "lines"), (0, u "I"), (0, .fieldref 8 38), (0, .nameAndType 39 36), (0, u "bodyStart"), (33, .class_ 74), (0, u "com/example/oxpecker/oxpecker/sip/RawMessage$Header"), (38, u "([B)V"), (8, u "isPlain"), (0, u "()Z")] 13

def k2c0 : Code := { maxStack := 4, maxLocals := 11, code := prog_12_method_1_code, exceptionTable := #[], attributes := #[] }
def k2m0 : Method := { name := "<init>", desc := "([B)V", sig := { parameters := [(.array .byte)], returnType := none }, accessFlags := 0, code := some k2c0 }
def k2c1 : Code := { maxStack := 3, maxLocals := 6, code := prog_12_method_4_code, exceptionTable := #[], attributes := #[] }
def k2m1 : Method := { name := "isPlain", desc := "()Z", sig := { parameters := [], returnType := some .boolean }, accessFlags := 0, code := some k2c1 }
def k2c2 : Code := { maxStack := 2, maxLocals := 4, code := prog_12_method_17_code, exceptionTable := #[], attributes := #[] }
def k2m2 : Method := { name := "indexOf", desc := "(BI)I", sig := { parameters := [.byte, .int], returnType := some .int }, accessFlags := 2, code := some k2c2 }
/-- com/example/oxpecker/oxpecker/sip/RawMessage -/
def k2 : Class := { plain "com/example/oxpecker/oxpecker/sip/RawMessage" (some 0) with
  accessFlags := 48
  interfaces := #[]
  cf := some (fileOf pool2 8 #[.nestMembers #[73]] #[{ accessFlags := 0, nameIndex := 5, descriptorIndex := 113, attributes := #[] }, { accessFlags := 0, nameIndex := 122, descriptorIndex := 123, attributes := #[] }, { accessFlags := 2, nameIndex := 15, descriptorIndex := 16, attributes := #[] }] 48 2 #[] #[{ accessFlags := 18, nameIndex := 11, descriptorIndex := 12, attributes := #[] }, { accessFlags := 18, nameIndex := 25, descriptorIndex := 26, attributes := #[] }, { accessFlags := 18, nameIndex := 29, descriptorIndex := 26, attributes := #[] }, { accessFlags := 18, nameIndex := 32, descriptorIndex := 26, attributes := #[] }, { accessFlags := 18, nameIndex := 35, descriptorIndex := 36, attributes := #[] }, { accessFlags := 18, nameIndex := 39, descriptorIndex := 36, attributes := #[] }])
  fields := #[{ name := "bytes", type := (.array .byte), accessFlags := 18, slot := 0, constantValue := 0 }, { name := "lineStarts", type := (.array .int), accessFlags := 18, slot := 1, constantValue := 0 }, { name := "lineEnds", type := (.array .int), accessFlags := 18, slot := 2, constantValue := 0 }, { name := "wordLengths", type := (.array .int), accessFlags := 18, slot := 3, constantValue := 0 }, { name := "lines", type := .int, accessFlags := 18, slot := 4, constantValue := 0 }, { name := "bodyStart", type := .int, accessFlags := 18, slot := 5, constantValue := 0 }]
  methods := #[k2m0, k2m1, k2m2]
  instanceTypes := #[(.array .byte), (.array .int), (.array .int), (.array .int), .int, .int]
  staticTypes := #[]
  resolved := Array.replicate 137 none
  statics := none }

def pool3 : Array CpInfo := pool [(1, u "java/lang/Cloneable"), (0, .class_ 1), (0, u "java/lang/Object"), (0, .class_ 3)] 3

/-- java/lang/Cloneable -/
def k3 : Class := { plain "java/lang/Cloneable" (some 0) with
  accessFlags := 1537
  interfaces := #[]
  cf := some (fileOf pool3 2 #[] #[] 1537 4 #[] #[])
  fields := #[]
  methods := #[]
  instanceTypes := #[]
  staticTypes := #[]
  resolved := Array.replicate 8 none
  statics := none }

def pool4 : Array CpInfo := pool [(1, u "java/io/Serializable"), (0, .class_ 1), (0, u "java/lang/Object"), (0, .class_ 3)] 3

/-- java/io/Serializable -/
def k4 : Class := { plain "java/io/Serializable" (some 0) with
  accessFlags := 1537
  interfaces := #[]
  cf := some (fileOf pool4 2 #[] #[] 1537 4 #[] #[])
  fields := #[]
  methods := #[]
  instanceTypes := #[]
  staticTypes := #[]
  resolved := Array.replicate 8 none
  statics := none }

/-- the primitive byte -/
def k5 : Class := { plain "byte" none with kind := .primitive 'B', accessFlags := 0x411 }
/-- [B -/
def k6 : Class := { plain "[B" (some 0) with kind := .array 5 .byte, interfaces := #[3, 4], accessFlags := 1041 }

/-- the primitive int -/
def k7 : Class := { plain "int" none with kind := .primitive 'I', accessFlags := 0x411 }
/-- [I -/
def k8 : Class := { plain "[I" (some 0) with kind := .array 7 .int, interfaces := #[3, 4], accessFlags := 1041 }

def heap : Heap := #[]
def classes : Array Class := #[k0, k1, k2, k3, k4, k5, k6, k7, k8]
def interned : List (Array UInt16 × Addr) := []
def slotsUsed : Nat := 0
def theMethod : MethodId := ⟨1, 1⟩
def args0 : Array Value := #[.long 5, .int 5]
def aboutOver (below : List Frame) : State where
  vm := { classes := classes, interned := interned.toArray }
  heap := heap
  slotsUsed := slotsUsed
  threads := #[{ frames := .invoking theMethod args0 :: below }]
def below0 : List Frame := [.native { method := ⟨0, 0⟩, args := #[] }]
def about1 : State := aboutOver below0
def p0 : Program := .bare "" "" ""
def e0 : Env := launch0.env 0 0 0
theorem w_frames : about1.frames = Frame.invoking theMethod args0 :: below0 := rfl
set_option maxRecDepth 65536 in
theorem w_args : argsFit about1.vm theMethod args0 = true := by decide +kernel
set_option maxRecDepth 65536 in
theorem w_heap : heapFits about1 = true := by decide +kernel
set_option maxRecDepth 65536 in
theorem w_runnable : about1.curStatus? = some .runnable := by decide +kernel
set_option maxRecDepth 65536 in
theorem w_alone : about1.alone = true := by decide +kernel
set_option maxRecDepth 65536 in
theorem w_named : about1.methodNamed? x = some theMethod := by decide +kernel
set_option maxRecDepth 65536 in
theorem w_hears : about1.hears theMethod below0 = true := by decide +kernel
set_option maxRecDepth 65536 in
theorem w_ripe : about1.ripe theMethod args0 below0 = true := by decide +kernel
theorem w_running : about1.status = .running := rfl
set_option maxRecDepth 65536 in
theorem w_room : about1.hasRoom e0.platform room_1 = true :=
  launch0.hasRoom_least _ room_1 (by decide +kernel) (by decide +kernel) (by decide +kernel) (by decide +kernel) (by decide +kernel) (by decide +kernel)
theorem allAtoms_all (ts : List Jvm.Cond) (a : Array Jvm.Value) (st : Jvm.State) : (allAtoms ts).before a st = ts.all (fun c => c.before a st) := by
  induction ts with
  | nil => rfl
  | cons c t ih =>
    show (Jvm.Cond.and c (allAtoms t)).before a st = _
    rw [Jvm.Cond.before_and, ih, List.all_cons]
def words1 : List Jvm.Cond := Jvm.Cond.code x code maxLocals ret :: tables_1
/-- a 'code' word, met by the world's own term for the bytes: nothing is compared byte by byte -/
theorem code_word {y : MethodName} {bytes : ByteArray} {mx : Nat} {rt : Option FieldType} {a : Array Value} {s : State} {m : MethodId} {meth : Method} {c : Code} (h1 : s.methodNamed? y = some m) (h2 : s.vm.method? m = some meth) (h3 : meth.code = some c) (h4 : c.code = bytes)
    (h5 : (c.maxLocals == mx && c.exceptionTable.isEmpty && decide (c.maxStack ≤ mostOperands) && decide (meth.sig.returnType = rt) && !meth.locks && decide (parseMethodDescriptor y.desc = some meth.sig)) = true) : (Jvm.Cond.code y bytes mx rt).before a s = true := by
  simp only [Bool.and_eq_true, beq_iff_eq, Bool.not_eq_true', decide_eq_true_eq] at h5
  obtain ⟨⟨⟨⟨⟨g1, g2⟩, g3⟩, g4⟩, g5⟩, g6⟩ := h5
  simp [Cond.before, Cond.holds, Cond.value, h1, h2, h3, h4, g1, g2, g3, g4, g5, g6]
def isCode : Jvm.Cond → Bool
  | .code _ _ _ _ => true
  | _ => false
theorem all_split {L : List Jvm.Cond} {P : Jvm.Cond → Bool} (h1 : L.all (fun c => isCode c || P c) = true) (h2 : ∀ c ∈ L.filter isCode, P c = true) : L.all P = true := by
  refine List.all_eq_true.mpr fun c hc => ?_
  have h := List.all_eq_true.mp h1 c hc
  rcases Bool.eq_false_or_eq_true (isCode c) with hi | hi
  · exact h2 c (List.mem_filter.mpr ⟨hc, hi⟩)
  · simpa [hi] using h
set_option maxRecDepth 65536 in
theorem w_c0 : (Jvm.Cond.code x code maxLocals ret).before args0 about1 = true := code_word (m := ⟨1, 1⟩) (meth := k1m1) (c := k1c1) (by decide +kernel) rfl rfl rfl (by decide +kernel)
set_option maxRecDepth 65536 in
theorem w_c1 : (Jvm.Cond.code ({ cls := "com/example/oxpecker/oxpecker/sip/RawMessageIsPlainPinLaw", name := "pick", desc := "(JI)B" } : Jvm.MethodName) method_3_code (6 : Nat) (Option.some Jvm.ClassFile.FieldType.byte)).before args0 about1 = true := code_word (m := ⟨1, 2⟩) (meth := k1m2) (c := k1c2) (by decide +kernel) rfl rfl rfl (by decide +kernel)
set_option maxRecDepth 65536 in
theorem w_c2 : (Jvm.Cond.code ({ cls := "com/example/oxpecker/oxpecker/sip/RawMessageIsPlainPinLaw", name := "step", desc := "([IB)V" } : Jvm.MethodName) method_4_code (3 : Nat) (Option.none : Option Jvm.ClassFile.FieldType)).before args0 about1 = true := code_word (m := ⟨1, 3⟩) (meth := k1m3) (c := k1c3) (by decide +kernel) rfl rfl rfl (by decide +kernel)
set_option maxRecDepth 65536 in
theorem w_c3 : (Jvm.Cond.code ({ cls := "com/example/oxpecker/oxpecker/sip/RawMessage", name := "<init>", desc := "([B)V" } : Jvm.MethodName) prog_12_method_1_code (11 : Nat) (Option.none : Option Jvm.ClassFile.FieldType)).before args0 about1 = true := code_word (m := ⟨2, 0⟩) (meth := k2m0) (c := k2c0) (by decide +kernel) rfl rfl rfl (by decide +kernel)
set_option maxRecDepth 65536 in
theorem w_c4 : (Jvm.Cond.code ({ cls := "java/lang/Object", name := "<init>", desc := "()V" } : Jvm.MethodName) object_method_1_code (1 : Nat) (Option.none : Option Jvm.ClassFile.FieldType)).before args0 about1 = true := code_word (m := ⟨0, 0⟩) (meth := k0m0) (c := k0c0) (by decide +kernel) rfl rfl rfl (by decide +kernel)
set_option maxRecDepth 65536 in
theorem w_c5 : (Jvm.Cond.code ({ cls := "com/example/oxpecker/oxpecker/sip/RawMessage", name := "indexOf", desc := "(BI)I" } : Jvm.MethodName) prog_12_method_17_code (4 : Nat) (Option.some Jvm.ClassFile.FieldType.int)).before args0 about1 = true := code_word (m := ⟨2, 2⟩) (meth := k2m2) (c := k2c2) (by decide +kernel) rfl rfl rfl (by decide +kernel)
set_option maxRecDepth 65536 in
theorem w_c6 : (Jvm.Cond.code ({ cls := "com/example/oxpecker/oxpecker/sip/RawMessage", name := "isPlain", desc := "()Z" } : Jvm.MethodName) prog_12_method_4_code (6 : Nat) (Option.some Jvm.ClassFile.FieldType.boolean)).before args0 about1 = true := code_word (m := ⟨2, 1⟩) (meth := k2m1) (c := k2c1) (by decide +kernel) rfl rfl rfl (by decide +kernel)
def codes1 : List Jvm.Cond := [Jvm.Cond.code x code maxLocals ret, Jvm.Cond.code ({ cls := "com/example/oxpecker/oxpecker/sip/RawMessageIsPlainPinLaw", name := "pick", desc := "(JI)B" } : Jvm.MethodName) method_3_code (6 : Nat) (Option.some Jvm.ClassFile.FieldType.byte), Jvm.Cond.code ({ cls := "com/example/oxpecker/oxpecker/sip/RawMessageIsPlainPinLaw", name := "step", desc := "([IB)V" } : Jvm.MethodName) method_4_code (3 : Nat) (Option.none : Option Jvm.ClassFile.FieldType), Jvm.Cond.code ({ cls := "com/example/oxpecker/oxpecker/sip/RawMessage", name := "<init>", desc := "([B)V" } : Jvm.MethodName) prog_12_method_1_code (11 : Nat) (Option.none : Option Jvm.ClassFile.FieldType), Jvm.Cond.code ({ cls := "java/lang/Object", name := "<init>", desc := "()V" } : Jvm.MethodName) object_method_1_code (1 : Nat) (Option.none : Option Jvm.ClassFile.FieldType), Jvm.Cond.code ({ cls := "com/example/oxpecker/oxpecker/sip/RawMessage", name := "indexOf", desc := "(BI)I" } : Jvm.MethodName) prog_12_method_17_code (4 : Nat) (Option.some Jvm.ClassFile.FieldType.int), Jvm.Cond.code ({ cls := "com/example/oxpecker/oxpecker/sip/RawMessage", name := "isPlain", desc := "()Z" } : Jvm.MethodName) prog_12_method_4_code (6 : Nat) (Option.some Jvm.ClassFile.FieldType.boolean)]
set_option maxRecDepth 65536 in
theorem codes_eq : words1.filter isCode = codes1 := rfl
theorem w_codes : ∀ c ∈ words1.filter isCode, c.before args0 about1 = true := by
  rw [codes_eq]
  intro c hc
  simp only [codes1, List.mem_cons, List.not_mem_nil, or_false] at hc
  rcases hc with rfl | rfl | rfl | rfl | rfl | rfl | rfl
  · exact w_c0
  · exact w_c1
  · exact w_c2
  · exact w_c3
  · exact w_c4
  · exact w_c5
  · exact w_c6
set_option maxRecDepth 65536 in
theorem w_t1 : (words1.take 24).all (fun c => isCode c || c.before args0 about1) = true := by decide +kernel
set_option maxRecDepth 65536 in
theorem w_t2 : (words1.drop 24).all (fun c => isCode c || c.before args0 about1) = true := by decide +kernel
theorem w_tables : (allAtoms (Jvm.Cond.code x code maxLocals ret :: tables_1)).before args0 about1 = true := by
  rw [allAtoms_all]
  show words1.all (fun c => c.before args0 about1) = true
  refine all_split ?_ w_codes
  rw [← List.take_append_drop 24 words1, List.all_append, w_t1, w_t2]
  rfl
set_option maxRecDepth 65536 in
theorem w_case : (Jvm.Cond.and given_1 narrow_1).before args0 about1 = true := by decide +kernel
theorem w_applies : (headSpec (Jvm.Cond.code x code maxLocals ret :: tables_1) room_1).applies x e0.platform about1 = true :=
  (Spec.applies_iff w_frames).mpr ⟨w_running, w_runnable, w_alone, w_named, w_hears, w_ripe, w_room, w_tables⟩
theorem atStart : AtStart classFile x code maxLocals ret World_1 tables_1 room_1 Calls_1 rest_1 Pre_1 launch0 p0 e0 about1 theMethod args0 below0 :=
  ⟨lists_1, trivial, launch0.admits_env _ _ _, launch0.least_env, fairChoices_fair.cas, fairChoices_fair.clock, w_frames, w_args, w_heap, w_applies, trivial, trivial, w_case⟩
end start1
theorem witness_1 : WitnessClaimed_1 := ⟨start1.p0, start1.e0, start1.about1, start1.theMethod, start1.args0, start1.below0, start1.atStart⟩
end Jvm.Pilot.@@N@@
